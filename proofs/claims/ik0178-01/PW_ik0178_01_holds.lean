import PyProof.Rows.All
import Wide.All
import OpenK.AllK
import Wide.FinOn
import PySem.Challenge.RW_ik0178_01
set_option Elab.async false
set_option rowWalk.seconds 0

/-! ## Hd -/
section
open PySem PySem.W PyProof.Rows
namespace Mine
def stAt (k : Nat) : Stmt := (PySem.Challenge.pw_ik0178_01.main.body[k]?).getD (.Pass default)
def st0 : Stmt := stAt 0
def st1 : Stmt := stAt 1
def st2 : Stmt := stAt 2
def st3 : Stmt := stAt 3
def st4 : Stmt := stAt 4
def st5 : Stmt := stAt 5
def st6 : Stmt := stAt 6
def st7 : Stmt := stAt 7
def st8 : Stmt := stAt 8
def st9 : Stmt := stAt 9
def st10 : Stmt := stAt 10
def st11 : Stmt := stAt 11
def st12 : Stmt := stAt 12
def st13 : Stmt := stAt 13
def st14 : Stmt := stAt 14
def st15 : Stmt := stAt 15
def st16 : Stmt := stAt 16
def st17 : Stmt := stAt 17
def st18 : Stmt := stAt 18
def st19 : Stmt := stAt 19
def st20 : Stmt := stAt 20
def st21 : Stmt := stAt 21
def st22 : Stmt := stAt 22
def st23 : Stmt := stAt 23
def st24 : Stmt := stAt 24
def st25 : Stmt := stAt 25
def st26 : Stmt := stAt 26
def st27 : Stmt := stAt 27
def st28 : Stmt := stAt 28
def st29 : Stmt := stAt 29
def st30 : Stmt := stAt 30
def pwC : Program := { PySem.Challenge.pw_ik0178_01 with main := { PySem.Challenge.pw_ik0178_01.main with body := [st0, st1, st2, st3, st4, st5, st6, st7, st8, st9, st10, st11, st12, st13, st14, st15, st16, st17, st18, st19, st20, st21, st22, st23, st24, st25, st26, st27, st28, st29, st30] } }
set_option maxRecDepth 100000 in
theorem pwC_eq : PySem.Challenge.pw_ik0178_01 = pwC := by kernel_rfl
def rowC : OpenRow := { PySem.Challenge.rw_ik0178_01.row with prog := pwC }
set_option maxRecDepth 100000 in
theorem rowC_eq : PySem.Challenge.rw_ik0178_01.row = rowC := by
  show { PySem.Challenge.rw_ik0178_01.row with prog := PySem.Challenge.pw_ik0178_01 } = rowC
  rw [pwC_eq]
  rfl
noncomputable def fnO (k : Stmt) (md : Str) (tok : Nat) (code : Addr) : Obj := match k with
  | .FunctionDef name args body _ _ _ scope _ _ _ => { cls := .type "function", data := .func { name := name, qualname := name, params := args, body := .stmts body, scope := scope, globals := 3, closure := [], defaults := .none, kwdefaults := .none, pyModule := .str md tok, code := .ref code } }
  | _ => default
noncomputable def o27 : Obj := { cls := Value.type "code", data := Data.fields #[Value.str (Str.ofString "heappush") 196, Value.str (Str.ofString "heappush") 197, Value.str (Str.ofString "/claim/cut.py") 198, Value.int 5 0, Value.int 2 0, Value.int 0 0, Value.int 0 0, Value.int 3 0, Value.ref 22, Value.bool true, Value.int 181 0, Value.ref 23, Value.none, Value.ref 24, Value.ref 25, Value.ref 26, Value.int 201 0, Value.int 5 0, Value.str (Str.ofString "/claim/cut.py") 202] }
noncomputable def o28 : Obj := fnO st2 (Str.ofString "cpy313.heapq") 194 27
noncomputable def o34 : Obj := { cls := Value.type "code", data := Data.fields #[Value.str (Str.ofString "heappop") 204, Value.str (Str.ofString "heappop") 205, Value.str (Str.ofString "/claim/cut.py") 206, Value.int 8 0, Value.int 1 0, Value.int 0 0, Value.int 0 0, Value.int 3 0, Value.ref 29, Value.bool true, Value.int 181 0, Value.ref 30, Value.none, Value.ref 31, Value.ref 32, Value.ref 33, Value.int 210 0, Value.int 8 0, Value.str (Str.ofString "/claim/cut.py") 211] }
noncomputable def o35 : Obj := fnO st3 (Str.ofString "cpy313.heapq") 194 34
noncomputable def o41 : Obj := { cls := Value.type "code", data := Data.fields #[Value.str (Str.ofString "_siftdown") 213, Value.str (Str.ofString "_siftdown") 214, Value.str (Str.ofString "/claim/cut.py") 215, Value.int 16 0, Value.int 3 0, Value.int 0 0, Value.int 0 0, Value.int 3 0, Value.ref 36, Value.bool true, Value.int 181 0, Value.ref 37, Value.none, Value.ref 38, Value.ref 39, Value.ref 40, Value.int 222 0, Value.int 16 0, Value.str (Str.ofString "/claim/cut.py") 223] }
noncomputable def o42 : Obj := fnO st4 (Str.ofString "cpy313.heapq") 194 41
noncomputable def o48 : Obj := { cls := Value.type "code", data := Data.fields #[Value.str (Str.ofString "_siftup") 225, Value.str (Str.ofString "_siftup") 226, Value.str (Str.ofString "/claim/cut.py") 227, Value.int 27 0, Value.int 2 0, Value.int 0 0, Value.int 0 0, Value.int 3 0, Value.ref 43, Value.bool true, Value.int 181 0, Value.ref 44, Value.none, Value.ref 45, Value.ref 46, Value.ref 47, Value.int 235 0, Value.int 27 0, Value.str (Str.ofString "/claim/cut.py") 236] }
noncomputable def o49 : Obj := fnO st5 (Str.ofString "cpy313.heapq") 194 48
noncomputable def o56 : Obj := { cls := Value.type "code", data := Data.fields #[Value.str (Str.ofString "pretty_flags") 271, Value.str (Str.ofString "pretty_flags") 272, Value.str (Str.ofString "/claim/cut.py") 273, Value.int 43 0, Value.int 1 0, Value.int 0 0, Value.int 0 0, Value.int 3 0, Value.ref 51, Value.bool true, Value.int 181 0, Value.ref 52, Value.none, Value.ref 53, Value.ref 54, Value.ref 55, Value.int 278 0, Value.int 43 0, Value.str (Str.ofString "/claim/cut.py") 279] }
noncomputable def o57 : Obj := fnO st8 (Str.ofString "cpy313.dis") 238 56
noncomputable def o129 : Obj := { cls := Value.type "code", data := Data.fields #[Value.str (Str.ofString "fspath") 370, Value.str (Str.ofString "fspath") 371, Value.str (Str.ofString "/claim/cut.py") 372, Value.int 86 0, Value.int 1 0, Value.int 0 0, Value.int 0 0, Value.int 3 0, Value.ref 124, Value.bool true, Value.int 181 0, Value.ref 125, Value.none, Value.ref 126, Value.ref 127, Value.ref 128, Value.int 377 0, Value.int 86 0, Value.str (Str.ofString "/claim/cut.py") 378] }
noncomputable def o130 : Obj := fnO st17 (Str.ofString "os") 368 129
noncomputable def o143 : Obj := { cls := Value.type "code", data := Data.fields #[Value.str (Str.ofString "_get_sep") 395, Value.str (Str.ofString "_get_sep") 396, Value.str (Str.ofString "/claim/cut.py") 397, Value.int 115 0, Value.int 1 0, Value.int 0 0, Value.int 0 0, Value.int 3 0, Value.ref 138, Value.bool true, Value.int 181 0, Value.ref 139, Value.none, Value.ref 140, Value.ref 141, Value.ref 142, Value.int 399 0, Value.int 115 0, Value.str (Str.ofString "/claim/cut.py") 400] }
noncomputable def o144 : Obj := fnO st21 (Str.ofString "cpy313.posixpath") 393 143
noncomputable def o150 : Obj := { cls := Value.type "code", data := Data.fields #[Value.str (Str.ofString "join") 402, Value.str (Str.ofString "join") 403, Value.str (Str.ofString "/claim/cut.py") 404, Value.int 120 0, Value.int 1 0, Value.int 0 0, Value.int 0 0, Value.int 7 0, Value.ref 145, Value.bool true, Value.int 181 0, Value.ref 146, Value.none, Value.ref 147, Value.ref 148, Value.ref 149, Value.int 410 0, Value.int 120 0, Value.str (Str.ofString "/claim/cut.py") 411] }
noncomputable def o151 : Obj := fnO st22 (Str.ofString "cpy313.posixpath") 393 150
noncomputable def o157 : Obj := { cls := Value.type "code", data := Data.fields #[Value.str (Str.ofString "split") 413, Value.str (Str.ofString "split") 414, Value.str (Str.ofString "/claim/cut.py") 415, Value.int 137 0, Value.int 1 0, Value.int 0 0, Value.int 0 0, Value.int 3 0, Value.ref 152, Value.bool true, Value.int 181 0, Value.ref 153, Value.none, Value.ref 154, Value.ref 155, Value.ref 156, Value.int 421 0, Value.int 137 0, Value.str (Str.ofString "/claim/cut.py") 422] }
noncomputable def o158 : Obj := fnO st23 (Str.ofString "cpy313.posixpath") 393 157
noncomputable def o162 : Obj := { cls := Value.type "code", data := Data.fields #[Value.str (Str.ofString "_law_asks") 426, Value.str (Str.ofString "_law_asks") 427, Value.str (Str.ofString "/claim/cut.py") 428, Value.int 146 0, Value.int 1 0, Value.int 0 0, Value.int 0 0, Value.int 3 0, Value.ref 159, Value.bool true, Value.int 181 0, Value.ref 160, Value.none, Value.none, Value.none, Value.ref 161, Value.int 429 0, Value.int 146 0, Value.str (Str.ofString "/claim/cut.py") 430] }
noncomputable def o163 : Obj := fnO st25 (Str.ofString "law_ik0178_01") 424 162
noncomputable def o167 : Obj := { cls := Value.type "code", data := Data.fields #[Value.str (Str.ofString "_law_words") 432, Value.str (Str.ofString "_law_words") 433, Value.str (Str.ofString "/claim/cut.py") 434, Value.int 153 0, Value.int 1 0, Value.int 0 0, Value.int 0 0, Value.int 3 0, Value.ref 164, Value.bool true, Value.int 181 0, Value.ref 165, Value.none, Value.none, Value.none, Value.ref 166, Value.int 435 0, Value.int 153 0, Value.str (Str.ofString "/claim/cut.py") 436] }
noncomputable def o168 : Obj := fnO st26 (Str.ofString "law_ik0178_01") 424 167
noncomputable def o174 : Obj := { cls := Value.type "code", data := Data.fields #[Value.str (Str.ofString "_law_given") 438, Value.str (Str.ofString "_law_given") 439, Value.str (Str.ofString "/claim/cut.py") 440, Value.int 158 0, Value.int 1 0, Value.int 0 0, Value.int 0 0, Value.int 3 0, Value.ref 169, Value.bool true, Value.int 181 0, Value.ref 170, Value.none, Value.ref 171, Value.ref 172, Value.ref 173, Value.int 451 0, Value.int 158 0, Value.str (Str.ofString "/claim/cut.py") 452] }
noncomputable def o175 : Obj := fnO st27 (Str.ofString "law_ik0178_01") 424 174
noncomputable def o179 : Obj := { cls := Value.type "code", data := Data.fields #[Value.str (Str.ofString "_law_begun") 454, Value.str (Str.ofString "_law_begun") 455, Value.str (Str.ofString "/claim/cut.py") 456, Value.int 176 0, Value.int 1 0, Value.int 0 0, Value.int 0 0, Value.int 3 0, Value.ref 176, Value.bool true, Value.int 181 0, Value.ref 177, Value.none, Value.none, Value.none, Value.ref 178, Value.int 457 0, Value.int 176 0, Value.str (Str.ofString "/claim/cut.py") 458] }
noncomputable def o180 : Obj := fnO st28 (Str.ofString "law_ik0178_01") 424 179
noncomputable def o184 : Obj := { cls := Value.type "code", data := Data.fields #[Value.str (Str.ofString "_law_fewest") 460, Value.str (Str.ofString "_law_fewest") 461, Value.str (Str.ofString "/claim/cut.py") 462, Value.int 184 0, Value.int 1 0, Value.int 0 0, Value.int 0 0, Value.int 3 0, Value.ref 181, Value.bool true, Value.int 181 0, Value.ref 182, Value.none, Value.none, Value.none, Value.ref 183, Value.int 463 0, Value.int 184 0, Value.str (Str.ofString "/claim/cut.py") 464] }
noncomputable def o185 : Obj := fnO st29 (Str.ofString "law_ik0178_01") 424 184
noncomputable def o189 : Obj := { cls := Value.type "code", data := Data.fields #[Value.str (Str.ofString "law") 466, Value.str (Str.ofString "law") 467, Value.str (Str.ofString "/claim/cut.py") 468, Value.int 190 0, Value.int 1 0, Value.int 0 0, Value.int 0 0, Value.int 3 0, Value.ref 186, Value.bool true, Value.int 181 0, Value.ref 187, Value.none, Value.none, Value.none, Value.ref 188, Value.int 469 0, Value.int 190 0, Value.str (Str.ofString "/claim/cut.py") 470] }
noncomputable def o190 : Obj := fnO st30 (Str.ofString "law_ik0178_01") 424 189
noncomputable def o50 : Obj := { cls := Value.type "dict", data := Data.dict #[{ hash := 1, key := Value.int 1 240, val := Value.str (Str.ofString "OPTIMIZED") 241 }, { hash := 2, key := Value.int 2 242, val := Value.str (Str.ofString "NEWLOCALS") 243 }, { hash := 4, key := Value.int 4 244, val := Value.str (Str.ofString "VARARGS") 245 }, { hash := 8, key := Value.int 8 246, val := Value.str (Str.ofString "VARKEYWORDS") 247 }, { hash := 16, key := Value.int 16 248, val := Value.str (Str.ofString "NESTED") 249 }, { hash := 32, key := Value.int 32 250, val := Value.str (Str.ofString "GENERATOR") 251 }, { hash := 64, key := Value.int 64 252, val := Value.str (Str.ofString "NOFREE") 253 }, { hash := 128, key := Value.int 128 254, val := Value.str (Str.ofString "COROUTINE") 255 }, { hash := 256, key := Value.int 256 256, val := Value.str (Str.ofString "ITERABLE_COROUTINE") 257 }, { hash := 512, key := Value.int 512 258, val := Value.str (Str.ofString "ASYNC_GENERATOR") 259 }] 10 }
noncomputable def o65 : Obj := { cls := Value.type "tuple", data := Data.seq #[Value.type "type"] }
noncomputable def o3 (P : Params) : Obj := { cls := Value.type "dict", data := Data.dict #[{ hash := PyData.keyHash P (Str.ofString "__name__"), key := Value.str (Str.ofString "__name__") 165, val := Value.str (Str.ofString "law_ik0178_01") 424 }, { hash := PyData.keyHash P (Str.ofString "__doc__"), key := Value.str (Str.ofString "__doc__") 166, val := Value.none }, { hash := PyData.keyHash P (Str.ofString "__package__"), key := Value.str (Str.ofString "__package__") 167, val := Value.none }, { hash := PyData.keyHash P (Str.ofString "__loader__"), key := Value.str (Str.ofString "__loader__") 168, val := Value.builtin "__main__.__loader__#opaque" }, { hash := PyData.keyHash P (Str.ofString "__spec__"), key := Value.str (Str.ofString "__spec__") 169, val := Value.none }, { hash := PyData.keyHash P (Str.ofString "__annotations__"), key := Value.str (Str.ofString "__annotations__") 170, val := Value.ref 6 }, { hash := PyData.keyHash P (Str.ofString "__builtins__"), key := Value.str (Str.ofString "__builtins__") 171, val := Value.ref 4 }, { hash := PyData.keyHash P (Str.ofString "__file__"), key := Value.str (Str.ofString "__file__") 173, val := Value.str (Str.ofString "/claim/cut.py") 172 }, { hash := PyData.keyHash P (Str.ofString "__cached__"), key := Value.str (Str.ofString "__cached__") 174, val := Value.none }, { hash := PyData.keyHash P (Str.ofString "_wall"), key := Value.str (Str.ofString "_wall") 193, val := Value.ref 21 }, { hash := PyData.keyHash P (Str.ofString "heappush"), key := Value.str (Str.ofString "heappush") 203, val := Value.ref 28 }, { hash := PyData.keyHash P (Str.ofString "heappop"), key := Value.str (Str.ofString "heappop") 212, val := Value.ref 35 }, { hash := PyData.keyHash P (Str.ofString "_siftdown"), key := Value.str (Str.ofString "_siftdown") 224, val := Value.ref 42 }, { hash := PyData.keyHash P (Str.ofString "_siftup"), key := Value.str (Str.ofString "_siftup") 237, val := Value.ref 49 }, { hash := PyData.keyHash P (Str.ofString "COMPILER_FLAG_NAMES"), key := Value.str (Str.ofString "COMPILER_FLAG_NAMES") 270, val := Value.ref 50 }, { hash := PyData.keyHash P (Str.ofString "pretty_flags"), key := Value.str (Str.ofString "pretty_flags") 280, val := Value.ref 57 }, { hash := PyData.keyHash P (Str.ofString "_plain_name"), key := Value.str (Str.ofString "_plain_name") 291, val := Value.ref 64 }, { hash := PyData.keyHash P (Str.ofString "ABCMeta"), key := Value.str (Str.ofString "ABCMeta") 317, val := Value.ref 81 }, { hash := PyData.keyHash P (Str.ofString "_ABCLike"), key := Value.str (Str.ofString "_ABCLike") 360, val := Value.ref 114 }, { hash := PyData.keyHash P (Str.ofString "_abc_plain_meta"), key := Value.str (Str.ofString "_abc_plain_meta") 367, val := Value.ref 123 }, { hash := PyData.keyHash P (Str.ofString "fspath"), key := Value.str (Str.ofString "fspath") 379, val := Value.ref 130 }, { hash := PyData.keyHash P (Str.ofString "_check_arg_types"), key := Value.str (Str.ofString "_check_arg_types") 392, val := Value.ref 137 }, { hash := PyData.keyHash P (Str.ofString "_get_sep"), key := Value.str (Str.ofString "_get_sep") 401, val := Value.ref 144 }, { hash := PyData.keyHash P (Str.ofString "join"), key := Value.str (Str.ofString "join") 412, val := Value.ref 151 }, { hash := PyData.keyHash P (Str.ofString "split"), key := Value.str (Str.ofString "split") 423, val := Value.ref 158 }, { hash := PyData.keyHash P (Str.ofString "_law_asks"), key := Value.str (Str.ofString "_law_asks") 431, val := Value.ref 163 }, { hash := PyData.keyHash P (Str.ofString "_law_words"), key := Value.str (Str.ofString "_law_words") 437, val := Value.ref 168 }, { hash := PyData.keyHash P (Str.ofString "_law_given"), key := Value.str (Str.ofString "_law_given") 453, val := Value.ref 175 }, { hash := PyData.keyHash P (Str.ofString "_law_begun"), key := Value.str (Str.ofString "_law_begun") 459, val := Value.ref 180 }, { hash := PyData.keyHash P (Str.ofString "_law_fewest"), key := Value.str (Str.ofString "_law_fewest") 465, val := Value.ref 185 }, { hash := PyData.keyHash P (Str.ofString "law"), key := Value.str (Str.ofString "law") 471, val := Value.ref 190 }] 31 }
noncomputable def heapK : Params → Frag := fun P => (nat_lit 3, o3 P) :: (nat_lit 27, o27) :: (nat_lit 28, o28) :: (nat_lit 34, o34) :: (nat_lit 35, o35) :: (nat_lit 41, o41) :: (nat_lit 42, o42) :: (nat_lit 48, o48) :: (nat_lit 49, o49) :: (nat_lit 50, o50) :: (nat_lit 56, o56) :: (nat_lit 57, o57) :: (nat_lit 65, o65) :: (nat_lit 129, o129) :: (nat_lit 130, o130) :: (nat_lit 143, o143) :: (nat_lit 144, o144) :: (nat_lit 150, o150) :: (nat_lit 151, o151) :: (nat_lit 157, o157) :: (nat_lit 158, o158) :: (nat_lit 162, o162) :: (nat_lit 163, o163) :: (nat_lit 167, o167) :: (nat_lit 168, o168) :: (nat_lit 174, o174) :: (nat_lit 175, o175) :: (nat_lit 179, o179) :: (nat_lit 180, o180) :: (nat_lit 184, o184) :: (nat_lit 185, o185) :: (nat_lit 189, o189) :: (nat_lit 190, o190) :: []

noncomputable def viewQ : Program := { rowC.toRowW.prog with main := { rowC.toRowW.prog.main with body := [st0, st2, st3, st4, st5, st7, st8, st10, st12, st14, st15, st17, st19, st21, st22, st23, st25, st26, st27, st28, st29, st30] } }
end Mine
end

/-! ## H1 -/
section
open PySem PySem.W PyProof.Rows
set_option maxRecDepth 100000
namespace Mine
/-- what the head tells of the heap behind the top: the objects of heapK -/
noncomputable abbrev HK : Hook := kHook heapK [3, 27, 28, 34, 35, 41, 42, 48, 49, 50, 56, 57, 65, 129, 130, 143, 144, 150, 151, 157, 158, 162, 163, 167, 168, 174, 175, 179, 180, 184, 185, 189, 190] (fun _ => by kernel_rfl)
/-! the heap behind the top, object by object -/
noncomputable def inC (k : Stmt) (j : Nat) : Stmt := match k with
  | .ClassDef _ _ _ body _ _ _ _ _ _ _ => (body[j]?).getD (.Pass default)
  | _ => .Pass default
noncomputable def fnQ (k : Stmt) (qn md : Str) (tok : Nat) (code : Addr) : Obj := match k with
  | .FunctionDef name args body _ _ _ scope _ _ _ => { cls := .type "function", data := .func { name := name, qualname := qn, params := args, body := .stmts body, scope := scope, globals := 3, closure := [], defaults := .none, kwdefaults := .none, pyModule := .str md tok, code := .ref code } }
  | _ => default
noncomputable def fnD (k : Stmt) (qn : Str) : Obj := match k with
  | .FunctionDef name args body _ _ _ scope _ _ _ => { cls := .none, data := .func { name := name, qualname := qn, params := args, body := .stmts body, scope := scope, globals := 0, closure := [], defaults := .none, kwdefaults := .none } }
  | _ => default
noncomputable def h11 : Obj := { cls := Value.type "tuple", data := Data.seq #[] }
noncomputable def h12 : Obj := { cls := Value.none, data := Data.fields #[Value.int 1 0, Value.int 0 0, Value.ref 20, Value.int 5 0, Value.int 0 0, Value.ref 27, Value.int 8 0, Value.int 0 0, Value.ref 34, Value.int 16 0, Value.int 0 0, Value.ref 41, Value.int 27 0, Value.int 0 0, Value.ref 48, Value.int 43 0, Value.int 0 0, Value.ref 56, Value.int 56 0, Value.int 0 0, Value.ref 63, Value.int 62 0, Value.int 0 0, Value.ref 70, Value.int 67 0, Value.int 0 0, Value.ref 89, Value.int 82 0, Value.int 0 0, Value.ref 122, Value.int 86 0, Value.int 0 0, Value.ref 129, Value.int 103 0, Value.int 0 0, Value.ref 136, Value.int 115 0, Value.int 0 0, Value.ref 143, Value.int 120 0, Value.int 0 0, Value.ref 150, Value.int 137 0, Value.int 0 0, Value.ref 157, Value.int 146 0, Value.int 0 0, Value.ref 162, Value.int 153 0, Value.int 0 0, Value.ref 167, Value.int 158 0, Value.int 0 0, Value.ref 174, Value.int 176 0, Value.int 0 0, Value.ref 179, Value.int 184 0, Value.int 0 0, Value.ref 184, Value.int 190 0, Value.int 0 0, Value.ref 189] }
noncomputable def h13 : Obj := { cls := Value.type "code", data := Data.fields #[Value.str (Str.ofString "<module>") 182, Value.str (Str.ofString "<module>") 183, Value.str (Str.ofString "/claim/cut.py") 184, Value.int 1 0, Value.int 0 0, Value.int 0 0, Value.int 0 0, Value.int 0 0, Value.ref 11, Value.bool false, Value.int 181 0, Value.ref 12, Value.none, Value.none, Value.none, Value.none, Value.int 185 0, Value.int 1 0, Value.str (Str.ofString "/claim/cut.py") 186] }
noncomputable def h14 : Obj := { cls := Value.type "frame", slots := #[some (Value.ref 13), some (Value.ref 3), some (Value.ref 3), none, some (Value.str (Str.ofString "__main__") 164), none, some (Value.ref 0)] }
noncomputable def h16 : Obj := { cls := Value.none, data := Data.fields #[] }
noncomputable def h17 : Obj := { cls := Value.type "tuple", data := Data.seq #[Value.str (Str.ofString "k") 190] }
noncomputable def h19 : Obj := fnD st0 (Str.ofString "_wall")
noncomputable def h20 : Obj := { cls := Value.type "code", data := Data.fields #[Value.str (Str.ofString "_wall") 187, Value.str (Str.ofString "_wall") 188, Value.str (Str.ofString "/claim/cut.py") 189, Value.int 1 0, Value.int 1 0, Value.int 0 0, Value.int 0 0, Value.int 3 0, Value.ref 15, Value.bool true, Value.int 181 0, Value.ref 16, Value.none, Value.ref 17, Value.ref 18, Value.ref 19, Value.int 191 0, Value.int 1 0, Value.str (Str.ofString "/claim/cut.py") 192] }
noncomputable def h21 : Obj := fnQ st0 (Str.ofString "_wall") (Str.ofString "__main__") 164 20
noncomputable def h24 : Obj := { cls := Value.type "tuple", data := Data.seq #[Value.str (Str.ofString "heap") 199, Value.str (Str.ofString "item") 200] }
noncomputable def h26 : Obj := fnD st2 (Str.ofString "heappush")
noncomputable def h31 : Obj := { cls := Value.type "tuple", data := Data.seq #[Value.str (Str.ofString "heap") 207, Value.str (Str.ofString "lastelt") 208, Value.str (Str.ofString "returnitem") 209] }
noncomputable def h33 : Obj := fnD st3 (Str.ofString "heappop")
noncomputable def h38 : Obj := { cls := Value.type "tuple", data := Data.seq #[Value.str (Str.ofString "heap") 216, Value.str (Str.ofString "startpos") 217, Value.str (Str.ofString "pos") 218, Value.str (Str.ofString "newitem") 219, Value.str (Str.ofString "parentpos") 220, Value.str (Str.ofString "parent") 221] }
noncomputable def h40 : Obj := fnD st4 (Str.ofString "_siftdown")
noncomputable def h45 : Obj := { cls := Value.type "tuple", data := Data.seq #[Value.str (Str.ofString "heap") 228, Value.str (Str.ofString "pos") 229, Value.str (Str.ofString "endpos") 230, Value.str (Str.ofString "startpos") 231, Value.str (Str.ofString "newitem") 232, Value.str (Str.ofString "childpos") 233, Value.str (Str.ofString "rightpos") 234] }
noncomputable def h47 : Obj := fnD st5 (Str.ofString "_siftup")
noncomputable def h53 : Obj := { cls := Value.type "tuple", data := Data.seq #[Value.str (Str.ofString "flags") 274, Value.str (Str.ofString "names") 275, Value.str (Str.ofString "i") 276, Value.str (Str.ofString "flag") 277] }
noncomputable def h55 : Obj := fnD st8 (Str.ofString "pretty_flags")
noncomputable def h60 : Obj := { cls := Value.type "tuple", data := Data.seq #[Value.str (Str.ofString "x") 286, Value.str (Str.ofString "what") 287, Value.str (Str.ofString "kind") 288] }
noncomputable def h62 : Obj := fnD st10 (Str.ofString "_plain_name")
noncomputable def h63 : Obj := { cls := Value.type "code", data := Data.fields #[Value.str (Str.ofString "_plain_name") 283, Value.str (Str.ofString "_plain_name") 284, Value.str (Str.ofString "/claim/cut.py") 285, Value.int 56 0, Value.int 2 0, Value.int 0 0, Value.int 0 0, Value.int 3 0, Value.ref 58, Value.bool true, Value.int 181 0, Value.ref 59, Value.none, Value.ref 60, Value.ref 61, Value.ref 62, Value.int 289 0, Value.int 56 0, Value.str (Str.ofString "/claim/cut.py") 290] }
noncomputable def h64 : Obj := fnQ st10 (Str.ofString "_plain_name") (Str.ofString "os") 281 63
noncomputable def h66 : Obj := { cls := Value.type "builtin_function_or_method", data := Data.fields #[Value.builtin "type.__prepare__", Value.type "type"] }
noncomputable def h67 (P : Params) : Obj := { cls := Value.type "dict", data := Data.dict #[{ hash := PyData.keyHash P (Str.ofString "__module__"), key := Value.str (Str.ofString "__module__") 301, val := Value.str (Str.ofString "abc") 292 }, { hash := PyData.keyHash P (Str.ofString "__qualname__"), key := Value.str (Str.ofString "__qualname__") 303, val := Value.str (Str.ofString "ABCMeta") 302 }, { hash := PyData.keyHash P (Str.ofString "__firstlineno__"), key := Value.str (Str.ofString "__firstlineno__") 305, val := Value.int 62 304 }, { hash := PyData.keyHash P (Str.ofString "register"), key := Value.str (Str.ofString "register") 313, val := Value.ref 78 }, { hash := PyData.keyHash P (Str.ofString "__static_attributes__"), key := Value.str (Str.ofString "__static_attributes__") 314, val := Value.ref 79 }] 5 }
noncomputable def h69 : Obj := { cls := Value.none, data := Data.fields #[Value.int 64 0, Value.int 4 0, Value.ref 77] }
noncomputable def h70 : Obj := { cls := Value.type "code", data := Data.fields #[Value.str (Str.ofString "ABCMeta") 296, Value.str (Str.ofString "ABCMeta") 297, Value.str (Str.ofString "/claim/cut.py") 298, Value.int 62 0, Value.int 0 0, Value.int 0 0, Value.int 0 0, Value.int 0 0, Value.ref 68, Value.bool false, Value.int 181 0, Value.ref 69, Value.none, Value.none, Value.none, Value.none, Value.int 299 0, Value.int 62 0, Value.str (Str.ofString "/claim/cut.py") 300] }
noncomputable def h71 : Obj := { cls := Value.type "frame", slots := #[some (Value.ref 70), some (Value.ref 3), some (Value.ref 67), none, some (Value.str (Str.ofString "abc") 292), none, some (Value.ref 0)] }
noncomputable def h74 : Obj := { cls := Value.type "tuple", data := Data.seq #[Value.str (Str.ofString "cls") 309, Value.str (Str.ofString "subclass") 310] }
noncomputable def h76 : Obj := fnD (inC st12 0) (Str.ofString "ABCMeta.register")
noncomputable def h77 : Obj := { cls := Value.type "code", data := Data.fields #[Value.str (Str.ofString "register") 306, Value.str (Str.ofString "ABCMeta.register") 307, Value.str (Str.ofString "/claim/cut.py") 308, Value.int 64 0, Value.int 2 0, Value.int 0 0, Value.int 0 0, Value.int 3 0, Value.ref 72, Value.bool true, Value.int 181 0, Value.ref 73, Value.none, Value.ref 74, Value.ref 75, Value.ref 76, Value.int 311 0, Value.int 64 0, Value.str (Str.ofString "/claim/cut.py") 312] }
noncomputable def h78 : Obj := fnQ (inC st12 0) (Str.ofString "ABCMeta.register") (Str.ofString "abc") 292 77
noncomputable def h80 (P : Params) : Obj := { cls := Value.type "dict", data := Data.dict #[{ hash := PyData.keyHash P (Str.ofString "__module__"), key := Value.str (Str.ofString "__module__") 301, val := Value.str (Str.ofString "abc") 292 }, { hash := PyData.keyHash P (Str.ofString "__firstlineno__"), key := Value.str (Str.ofString "__firstlineno__") 305, val := Value.int 62 304 }, { hash := PyData.keyHash P (Str.ofString "register"), key := Value.str (Str.ofString "register") 313, val := Value.ref 78 }, { hash := PyData.keyHash P (Str.ofString "__static_attributes__"), key := Value.str (Str.ofString "__static_attributes__") 314, val := Value.ref 79 }, { hash := PyData.keyHash P (Str.ofString "__doc__"), key := Value.str (Str.ofString "__doc__") 315, val := Value.none }] 2 }
noncomputable def h81 : Obj := { cls := Value.type "type", data := Data.cls { name := Str.ofString "ABCMeta", bases := [Value.type "type"], mro := [Value.ref 81, Value.type "type", Value.type "object"], ns := 80, qualname := Str.ofString "ABCMeta", subclasses := [Value.ref 114] }, slots := #[some (Value.ref 65), none, some (Value.str (Str.ofString "ABCMeta") 294), some (Value.str (Str.ofString "ABCMeta") 302), some (Value.builtin "type.__new__"), some (Value.bool true)] }
noncomputable def h82 : Obj := { cls := Value.type "super", data := Data.fields #[Value.ref 81, Value.ref 81, Value.ref 81] }
noncomputable def h83 : Obj := { cls := Value.type "builtin_function_or_method", data := Data.fields #[Value.builtin "object.__init_subclass__", Value.ref 81] }
noncomputable def h84 : Obj := { cls := Value.type "tuple", data := Data.seq #[Value.ref 81] }
noncomputable def h86 (P : Params) : Obj := { cls := Value.type "dict", data := Data.dict #[{ hash := PyData.keyHash P (Str.ofString "__module__"), key := Value.str (Str.ofString "__module__") 327, val := Value.str (Str.ofString "collections.abc") 318 }, { hash := PyData.keyHash P (Str.ofString "__qualname__"), key := Value.str (Str.ofString "__qualname__") 329, val := Value.str (Str.ofString "_ABCLike") 328 }, { hash := PyData.keyHash P (Str.ofString "__firstlineno__"), key := Value.str (Str.ofString "__firstlineno__") 331, val := Value.int 67 330 }, { hash := PyData.keyHash P (Str.ofString "__instancecheck__"), key := Value.str (Str.ofString "__instancecheck__") 340, val := Value.ref 97 }, { hash := PyData.keyHash P (Str.ofString "__subclasscheck__"), key := Value.str (Str.ofString "__subclasscheck__") 348, val := Value.ref 104 }, { hash := PyData.keyHash P (Str.ofString "register"), key := Value.str (Str.ofString "register") 356, val := Value.ref 111 }, { hash := PyData.keyHash P (Str.ofString "__static_attributes__"), key := Value.str (Str.ofString "__static_attributes__") 357, val := Value.ref 112 }] 7 }
noncomputable def h88 : Obj := { cls := Value.none, data := Data.fields #[Value.int 69 0, Value.int 4 0, Value.ref 96, Value.int 75 0, Value.int 4 0, Value.ref 103, Value.int 80 0, Value.int 4 0, Value.ref 110] }
noncomputable def h89 : Obj := { cls := Value.type "code", data := Data.fields #[Value.str (Str.ofString "_ABCLike") 322, Value.str (Str.ofString "_ABCLike") 323, Value.str (Str.ofString "/claim/cut.py") 324, Value.int 67 0, Value.int 0 0, Value.int 0 0, Value.int 0 0, Value.int 0 0, Value.ref 87, Value.bool false, Value.int 181 0, Value.ref 88, Value.none, Value.none, Value.none, Value.none, Value.int 325 0, Value.int 67 0, Value.str (Str.ofString "/claim/cut.py") 326] }
noncomputable def h90 : Obj := { cls := Value.type "frame", slots := #[some (Value.ref 89), some (Value.ref 3), some (Value.ref 86), none, some (Value.str (Str.ofString "collections.abc") 318), none, some (Value.ref 0)] }
noncomputable def h93 : Obj := { cls := Value.type "tuple", data := Data.seq #[Value.str (Str.ofString "cls") 335, Value.str (Str.mk #[105, 110, 115, 116, 97, 110, 99, 101]) 336, Value.str (Str.ofString "C") 337] }
noncomputable def h95 : Obj := fnD (inC st14 0) (Str.ofString "_ABCLike.__instancecheck__")
noncomputable def h96 : Obj := { cls := Value.type "code", data := Data.fields #[Value.str (Str.ofString "__instancecheck__") 332, Value.str (Str.ofString "_ABCLike.__instancecheck__") 333, Value.str (Str.ofString "/claim/cut.py") 334, Value.int 69 0, Value.int 2 0, Value.int 0 0, Value.int 0 0, Value.int 3 0, Value.ref 91, Value.bool true, Value.int 181 0, Value.ref 92, Value.none, Value.ref 93, Value.ref 94, Value.ref 95, Value.int 338 0, Value.int 69 0, Value.str (Str.ofString "/claim/cut.py") 339] }
noncomputable def h97 : Obj := fnQ (inC st14 0) (Str.ofString "_ABCLike.__instancecheck__") (Str.ofString "collections.abc") 318 96
noncomputable def h100 : Obj := { cls := Value.type "tuple", data := Data.seq #[Value.str (Str.ofString "cls") 344, Value.str (Str.ofString "C") 345] }
noncomputable def h102 : Obj := fnD (inC st14 1) (Str.ofString "_ABCLike.__subclasscheck__")
noncomputable def h103 : Obj := { cls := Value.type "code", data := Data.fields #[Value.str (Str.ofString "__subclasscheck__") 341, Value.str (Str.ofString "_ABCLike.__subclasscheck__") 342, Value.str (Str.ofString "/claim/cut.py") 343, Value.int 75 0, Value.int 2 0, Value.int 0 0, Value.int 0 0, Value.int 3 0, Value.ref 98, Value.bool true, Value.int 181 0, Value.ref 99, Value.none, Value.ref 100, Value.ref 101, Value.ref 102, Value.int 346 0, Value.int 75 0, Value.str (Str.ofString "/claim/cut.py") 347] }
noncomputable def h104 : Obj := fnQ (inC st14 1) (Str.ofString "_ABCLike.__subclasscheck__") (Str.ofString "collections.abc") 318 103
noncomputable def h107 : Obj := { cls := Value.type "tuple", data := Data.seq #[Value.str (Str.ofString "cls") 352, Value.str (Str.ofString "subclass") 353] }
noncomputable def h109 : Obj := fnD (inC st14 2) (Str.ofString "_ABCLike.register")
noncomputable def h110 : Obj := { cls := Value.type "code", data := Data.fields #[Value.str (Str.ofString "register") 349, Value.str (Str.ofString "_ABCLike.register") 350, Value.str (Str.ofString "/claim/cut.py") 351, Value.int 80 0, Value.int 2 0, Value.int 0 0, Value.int 0 0, Value.int 3 0, Value.ref 105, Value.bool true, Value.int 181 0, Value.ref 106, Value.none, Value.ref 107, Value.ref 108, Value.ref 109, Value.int 354 0, Value.int 80 0, Value.str (Str.ofString "/claim/cut.py") 355] }
noncomputable def h111 : Obj := fnQ (inC st14 2) (Str.ofString "_ABCLike.register") (Str.ofString "collections.abc") 318 110
noncomputable def h113 (P : Params) : Obj := { cls := Value.type "dict", data := Data.dict #[{ hash := PyData.keyHash P (Str.ofString "__module__"), key := Value.str (Str.ofString "__module__") 327, val := Value.str (Str.ofString "collections.abc") 318 }, { hash := PyData.keyHash P (Str.ofString "__firstlineno__"), key := Value.str (Str.ofString "__firstlineno__") 331, val := Value.int 67 330 }, { hash := PyData.keyHash P (Str.ofString "__instancecheck__"), key := Value.str (Str.ofString "__instancecheck__") 340, val := Value.ref 97 }, { hash := PyData.keyHash P (Str.ofString "__subclasscheck__"), key := Value.str (Str.ofString "__subclasscheck__") 348, val := Value.ref 104 }, { hash := PyData.keyHash P (Str.ofString "register"), key := Value.str (Str.ofString "register") 356, val := Value.ref 111 }, { hash := PyData.keyHash P (Str.ofString "__static_attributes__"), key := Value.str (Str.ofString "__static_attributes__") 357, val := Value.ref 112 }, { hash := PyData.keyHash P (Str.ofString "__doc__"), key := Value.str (Str.ofString "__doc__") 358, val := Value.none }] 2 }
noncomputable def h114 : Obj := { cls := Value.type "type", data := Data.cls { name := Str.ofString "_ABCLike", bases := [Value.ref 81], mro := [Value.ref 114, Value.ref 81, Value.type "type", Value.type "object"], ns := 113, qualname := Str.ofString "_ABCLike" }, slots := #[some (Value.ref 84), none, some (Value.str (Str.ofString "_ABCLike") 320), some (Value.str (Str.ofString "_ABCLike") 328), some (Value.builtin "type.__new__"), some (Value.bool true)] }
noncomputable def h115 : Obj := { cls := Value.type "super", data := Data.fields #[Value.ref 114, Value.ref 114, Value.ref 114] }
noncomputable def h116 : Obj := { cls := Value.type "builtin_function_or_method", data := Data.fields #[Value.builtin "object.__init_subclass__", Value.ref 114] }
noncomputable def h119 : Obj := { cls := Value.type "tuple", data := Data.seq #[Value.str (Str.ofString "C") 364] }
noncomputable def h121 : Obj := fnD st15 (Str.ofString "_abc_plain_meta")
noncomputable def h122 : Obj := { cls := Value.type "code", data := Data.fields #[Value.str (Str.ofString "_abc_plain_meta") 361, Value.str (Str.ofString "_abc_plain_meta") 362, Value.str (Str.ofString "/claim/cut.py") 363, Value.int 82 0, Value.int 1 0, Value.int 0 0, Value.int 0 0, Value.int 3 0, Value.ref 117, Value.bool true, Value.int 181 0, Value.ref 118, Value.none, Value.ref 119, Value.ref 120, Value.ref 121, Value.int 365 0, Value.int 82 0, Value.str (Str.ofString "/claim/cut.py") 366] }
noncomputable def h123 : Obj := fnQ st15 (Str.ofString "_abc_plain_meta") (Str.ofString "collections.abc") 318 122
noncomputable def h126 : Obj := { cls := Value.type "tuple", data := Data.seq #[Value.str (Str.ofString "path") 373, Value.str (Str.ofString "kind") 374, Value.str (Str.ofString "hook") 375, Value.str (Str.ofString "given") 376] }
noncomputable def h128 : Obj := fnD st17 (Str.ofString "fspath")
noncomputable def h133 : Obj := { cls := Value.type "tuple", data := Data.seq #[Value.str (Str.ofString "funcname") 385, Value.str (Str.ofString "args") 386, Value.str (Str.ofString "hasstr") 387, Value.str (Str.ofString "hasbytes") 388, Value.str (Str.ofString "s") 389] }
noncomputable def h135 : Obj := fnD st19 (Str.ofString "_check_arg_types")
noncomputable def h136 : Obj := { cls := Value.type "code", data := Data.fields #[Value.str (Str.ofString "_check_arg_types") 382, Value.str (Str.ofString "_check_arg_types") 383, Value.str (Str.ofString "/claim/cut.py") 384, Value.int 103 0, Value.int 1 0, Value.int 0 0, Value.int 0 0, Value.int 7 0, Value.ref 131, Value.bool true, Value.int 181 0, Value.ref 132, Value.none, Value.ref 133, Value.ref 134, Value.ref 135, Value.int 390 0, Value.int 103 0, Value.str (Str.ofString "/claim/cut.py") 391] }
noncomputable def h137 : Obj := fnQ st19 (Str.ofString "_check_arg_types") (Str.ofString "cpy313.genericpath") 380 136
noncomputable def h140 : Obj := { cls := Value.type "tuple", data := Data.seq #[Value.str (Str.ofString "path") 398] }
noncomputable def h142 : Obj := fnD st21 (Str.ofString "_get_sep")
noncomputable def h147 : Obj := { cls := Value.type "tuple", data := Data.seq #[Value.str (Str.ofString "a") 405, Value.str (Str.ofString "p") 406, Value.str (Str.ofString "sep") 407, Value.str (Str.ofString "path") 408, Value.str (Str.ofString "b") 409] }
noncomputable def h149 : Obj := fnD st22 (Str.ofString "join")
noncomputable def h154 : Obj := { cls := Value.type "tuple", data := Data.seq #[Value.str (Str.ofString "p") 416, Value.str (Str.ofString "sep") 417, Value.str (Str.ofString "i") 418, Value.str (Str.ofString "head") 419, Value.str (Str.ofString "tail") 420] }
noncomputable def h156 : Obj := fnD st23 (Str.ofString "split")
noncomputable def h161 : Obj := fnD st25 (Str.ofString "_law_asks")
noncomputable def h166 : Obj := fnD st26 (Str.ofString "_law_words")
noncomputable def h171 : Obj := { cls := Value.type "tuple", data := Data.seq #[Value.str (Str.ofString "asks") 441, Value.str (Str.ofString "heap") 442, Value.str (Str.ofString "given") 443, Value.str (Str.ofString "left") 444, Value.str (Str.ofString "room") 445, Value.str (Str.ofString "thing") 446, Value.str (Str.ofString "small") 447, Value.str (Str.ofString "size") 448, Value.str (Str.ofString "path") 449, Value.str (Str.ofString "block") 450] }
noncomputable def h173 : Obj := fnD st27 (Str.ofString "_law_given")
noncomputable def h178 : Obj := fnD st28 (Str.ofString "_law_begun")
noncomputable def h183 : Obj := fnD st29 (Str.ofString "_law_fewest")
noncomputable def h188 : Obj := fnD st30 (Str.ofString "law")
noncomputable def H1 (P : Params) : Heap := ⟨Array.mk (PySem.W.boot_o_0 P :: PySem.W.boot_o_1 P :: PySem.W.boot_o_2 P :: o3 P :: PySem.W.boot_o_4 P :: PySem.W.boot_o_5 P :: PySem.W.boot_o_6 P :: PySem.W.boot_o_7 P :: PySem.W.boot_o_8 P :: PySem.W.boot_o_9 P :: PySem.W.boot_o_10 P :: h11 :: h12 :: h13 :: h14 :: h11 :: h16 :: h17 :: h11 :: h19 :: h20 :: h21 :: h11 :: h16 :: h24 :: h11 :: h26 :: o27 :: o28 :: h11 :: h16 :: h31 :: h11 :: h33 :: o34 :: o35 :: h11 :: h16 :: h38 :: h11 :: h40 :: o41 :: o42 :: h11 :: h16 :: h45 :: h11 :: h47 :: o48 :: o49 :: o50 :: h11 :: h16 :: h53 :: h11 :: h55 :: o56 :: o57 :: h11 :: h16 :: h60 :: h11 :: h62 :: h63 :: h64 :: o65 :: h66 :: h67 P :: h11 :: h69 :: h70 :: h71 :: h11 :: h16 :: h74 :: h11 :: h76 :: h77 :: h78 :: h11 :: h80 P :: h81 :: h82 :: h83 :: h84 :: h66 :: h86 P :: h11 :: h88 :: h89 :: h90 :: h11 :: h16 :: h93 :: h11 :: h95 :: h96 :: h97 :: h11 :: h16 :: h100 :: h11 :: h102 :: h103 :: h104 :: h11 :: h16 :: h107 :: h11 :: h109 :: h110 :: h111 :: h11 :: h113 P :: h114 :: h115 :: h116 :: h11 :: h16 :: h119 :: h11 :: h121 :: h122 :: h123 :: h11 :: h16 :: h126 :: h11 :: h128 :: o129 :: o130 :: h11 :: h16 :: h133 :: h11 :: h135 :: h136 :: h137 :: h11 :: h16 :: h140 :: h11 :: h142 :: o143 :: o144 :: h11 :: h16 :: h147 :: h11 :: h149 :: o150 :: o151 :: h11 :: h16 :: h154 :: h11 :: h156 :: o157 :: o158 :: h11 :: h16 :: h161 :: o162 :: o163 :: h11 :: h16 :: h166 :: o167 :: o168 :: h11 :: h16 :: h171 :: h11 :: h173 :: o174 :: o175 :: h11 :: h16 :: h178 :: o179 :: o180 :: h11 :: h16 :: h183 :: o184 :: o185 :: h11 :: h16 :: h188 :: o189 :: o190 :: []), {}⟩
noncomputable def h3pre (P : Params) : Obj := { cls := Value.type "dict", data := Data.dict #[{ hash := PyData.keyHash P (Str.ofString "__name__"), key := Value.str (Str.ofString "__name__") 165, val := Value.str (Str.ofString "__main__") 164 }, { hash := PyData.keyHash P (Str.ofString "__doc__"), key := Value.str (Str.ofString "__doc__") 166, val := Value.none }, { hash := PyData.keyHash P (Str.ofString "__package__"), key := Value.str (Str.ofString "__package__") 167, val := Value.none }, { hash := PyData.keyHash P (Str.ofString "__loader__"), key := Value.str (Str.ofString "__loader__") 168, val := Value.builtin "__main__.__loader__#opaque" }, { hash := PyData.keyHash P (Str.ofString "__spec__"), key := Value.str (Str.ofString "__spec__") 169, val := Value.none }, { hash := PyData.keyHash P (Str.ofString "__annotations__"), key := Value.str (Str.ofString "__annotations__") 170, val := Value.ref 6 }, { hash := PyData.keyHash P (Str.ofString "__builtins__"), key := Value.str (Str.ofString "__builtins__") 171, val := Value.ref 4 }, { hash := PyData.keyHash P (Str.ofString "__file__"), key := Value.str (Str.ofString "__file__") 173, val := Value.str (Str.ofString "/claim/cut.py") 172 }, { hash := PyData.keyHash P (Str.ofString "__cached__"), key := Value.str (Str.ofString "__cached__") 174, val := Value.none }] 9 }
noncomputable def h12pre : Obj := { cls := Value.none, data := Data.fields #[] }
noncomputable def trpre (P : Params) : BT := .node (PySem.W.boot_o_0 P) (.node (PySem.W.boot_o_1 P) (.node (h3pre P) (.node (PySem.W.boot_o_7 P) .nil .nil) (.node h11 .nil .nil)) (.node (PySem.W.boot_o_5 P) (.node (PySem.W.boot_o_9 P) .nil .nil) (.node h13 .nil .nil))) (.node (PySem.W.boot_o_2 P) (.node (PySem.W.boot_o_4 P) (.node (PySem.W.boot_o_8 P) .nil .nil) (.node h12pre .nil .nil)) (.node (PySem.W.boot_o_6 P) (.node (PySem.W.boot_o_10 P) .nil .nil) (.node h14 .nil .nil)))
noncomputable def h3s6 (P : Params) : Obj := { cls := Value.type "dict", data := Data.dict #[{ hash := PyData.keyHash P (Str.ofString "__name__"), key := Value.str (Str.ofString "__name__") 165, val := Value.str (Str.ofString "cpy313.dis") 238 }, { hash := PyData.keyHash P (Str.ofString "__doc__"), key := Value.str (Str.ofString "__doc__") 166, val := Value.none }, { hash := PyData.keyHash P (Str.ofString "__package__"), key := Value.str (Str.ofString "__package__") 167, val := Value.none }, { hash := PyData.keyHash P (Str.ofString "__loader__"), key := Value.str (Str.ofString "__loader__") 168, val := Value.builtin "__main__.__loader__#opaque" }, { hash := PyData.keyHash P (Str.ofString "__spec__"), key := Value.str (Str.ofString "__spec__") 169, val := Value.none }, { hash := PyData.keyHash P (Str.ofString "__annotations__"), key := Value.str (Str.ofString "__annotations__") 170, val := Value.ref 6 }, { hash := PyData.keyHash P (Str.ofString "__builtins__"), key := Value.str (Str.ofString "__builtins__") 171, val := Value.ref 4 }, { hash := PyData.keyHash P (Str.ofString "__file__"), key := Value.str (Str.ofString "__file__") 173, val := Value.str (Str.ofString "/claim/cut.py") 172 }, { hash := PyData.keyHash P (Str.ofString "__cached__"), key := Value.str (Str.ofString "__cached__") 174, val := Value.none }, { hash := PyData.keyHash P (Str.ofString "_wall"), key := Value.str (Str.ofString "_wall") 193, val := Value.ref 21 }, { hash := PyData.keyHash P (Str.ofString "heappush"), key := Value.str (Str.ofString "heappush") 203, val := Value.ref 28 }, { hash := PyData.keyHash P (Str.ofString "heappop"), key := Value.str (Str.ofString "heappop") 212, val := Value.ref 35 }, { hash := PyData.keyHash P (Str.ofString "_siftdown"), key := Value.str (Str.ofString "_siftdown") 224, val := Value.ref 42 }, { hash := PyData.keyHash P (Str.ofString "_siftup"), key := Value.str (Str.ofString "_siftup") 237, val := Value.ref 49 }] 14 }
noncomputable def h12s6 : Obj := { cls := Value.none, data := Data.fields #[Value.int 1 0, Value.int 0 0, Value.ref 20, Value.int 5 0, Value.int 0 0, Value.ref 27, Value.int 8 0, Value.int 0 0, Value.ref 34, Value.int 16 0, Value.int 0 0, Value.ref 41, Value.int 27 0, Value.int 0 0, Value.ref 48] }
noncomputable def trs6 (P : Params) : BT := .node (PySem.W.boot_o_0 P) (.node (PySem.W.boot_o_1 P) (.node (h3s6 P) (.node (PySem.W.boot_o_7 P) (.node h11 (.node h31 .nil .nil) (.node h47 .nil .nil)) (.node h16 (.node h11 .nil .nil) .nil)) (.node h11 (.node h19 (.node o35 .nil .nil) .nil) (.node o27 (.node h11 .nil .nil) .nil))) (.node (PySem.W.boot_o_5 P) (.node (PySem.W.boot_o_9 P) (.node h17 (.node h33 .nil .nil) (.node o49 .nil .nil)) (.node h11 (.node o41 .nil .nil) .nil)) (.node h13 (.node h21 (.node h16 .nil .nil) .nil) (.node h11 (.node h45 .nil .nil) .nil)))) (.node (PySem.W.boot_o_2 P) (.node (PySem.W.boot_o_4 P) (.node (PySem.W.boot_o_8 P) (.node h16 (.node h11 .nil .nil) (.node o48 .nil .nil)) (.node h24 (.node h40 .nil .nil) .nil)) (.node h12s6 (.node h20 (.node h11 .nil .nil) .nil) (.node o28 (.node h16 .nil .nil) .nil))) (.node (PySem.W.boot_o_6 P) (.node (PySem.W.boot_o_10 P) (.node h11 (.node o34 .nil .nil) .nil) (.node h26 (.node o42 .nil .nil) .nil)) (.node h14 (.node h11 (.node h38 .nil .nil) .nil) (.node h16 (.node h11 .nil .nil) .nil))))
noncomputable def h3s7 (P : Params) : Obj := { cls := Value.type "dict", data := Data.dict #[{ hash := PyData.keyHash P (Str.ofString "__name__"), key := Value.str (Str.ofString "__name__") 165, val := Value.str (Str.ofString "cpy313.dis") 238 }, { hash := PyData.keyHash P (Str.ofString "__doc__"), key := Value.str (Str.ofString "__doc__") 166, val := Value.none }, { hash := PyData.keyHash P (Str.ofString "__package__"), key := Value.str (Str.ofString "__package__") 167, val := Value.none }, { hash := PyData.keyHash P (Str.ofString "__loader__"), key := Value.str (Str.ofString "__loader__") 168, val := Value.builtin "__main__.__loader__#opaque" }, { hash := PyData.keyHash P (Str.ofString "__spec__"), key := Value.str (Str.ofString "__spec__") 169, val := Value.none }, { hash := PyData.keyHash P (Str.ofString "__annotations__"), key := Value.str (Str.ofString "__annotations__") 170, val := Value.ref 6 }, { hash := PyData.keyHash P (Str.ofString "__builtins__"), key := Value.str (Str.ofString "__builtins__") 171, val := Value.ref 4 }, { hash := PyData.keyHash P (Str.ofString "__file__"), key := Value.str (Str.ofString "__file__") 173, val := Value.str (Str.ofString "/claim/cut.py") 172 }, { hash := PyData.keyHash P (Str.ofString "__cached__"), key := Value.str (Str.ofString "__cached__") 174, val := Value.none }, { hash := PyData.keyHash P (Str.ofString "_wall"), key := Value.str (Str.ofString "_wall") 193, val := Value.ref 21 }, { hash := PyData.keyHash P (Str.ofString "heappush"), key := Value.str (Str.ofString "heappush") 203, val := Value.ref 28 }, { hash := PyData.keyHash P (Str.ofString "heappop"), key := Value.str (Str.ofString "heappop") 212, val := Value.ref 35 }, { hash := PyData.keyHash P (Str.ofString "_siftdown"), key := Value.str (Str.ofString "_siftdown") 224, val := Value.ref 42 }, { hash := PyData.keyHash P (Str.ofString "_siftup"), key := Value.str (Str.ofString "_siftup") 237, val := Value.ref 49 }, { hash := PyData.keyHash P (Str.ofString "COMPILER_FLAG_NAMES"), key := Value.str (Str.ofString "COMPILER_FLAG_NAMES") 270, val := Value.ref 50 }] 15 }
noncomputable def h12s7 : Obj := { cls := Value.none, data := Data.fields #[Value.int 1 0, Value.int 0 0, Value.ref 20, Value.int 5 0, Value.int 0 0, Value.ref 27, Value.int 8 0, Value.int 0 0, Value.ref 34, Value.int 16 0, Value.int 0 0, Value.ref 41, Value.int 27 0, Value.int 0 0, Value.ref 48] }
noncomputable def trs7 (P : Params) : BT := .node (PySem.W.boot_o_0 P) (.node (PySem.W.boot_o_1 P) (.node (h3s7 P) (.node (PySem.W.boot_o_7 P) (.node h11 (.node h31 .nil .nil) (.node h47 .nil .nil)) (.node h16 (.node h11 .nil .nil) .nil)) (.node h11 (.node h19 (.node o35 .nil .nil) .nil) (.node o27 (.node h11 .nil .nil) .nil))) (.node (PySem.W.boot_o_5 P) (.node (PySem.W.boot_o_9 P) (.node h17 (.node h33 .nil .nil) (.node o49 .nil .nil)) (.node h11 (.node o41 .nil .nil) .nil)) (.node h13 (.node h21 (.node h16 .nil .nil) .nil) (.node h11 (.node h45 .nil .nil) .nil)))) (.node (PySem.W.boot_o_2 P) (.node (PySem.W.boot_o_4 P) (.node (PySem.W.boot_o_8 P) (.node h16 (.node h11 .nil .nil) (.node o48 .nil .nil)) (.node h24 (.node h40 .nil .nil) .nil)) (.node h12s7 (.node h20 (.node h11 .nil .nil) .nil) (.node o28 (.node h16 .nil .nil) .nil))) (.node (PySem.W.boot_o_6 P) (.node (PySem.W.boot_o_10 P) (.node h11 (.node o34 .nil .nil) (.node o50 .nil .nil)) (.node h26 (.node o42 .nil .nil) .nil)) (.node h14 (.node h11 (.node h38 .nil .nil) .nil) (.node h16 (.node h11 .nil .nil) .nil))))
noncomputable def h3s14 (P : Params) : Obj := { cls := Value.type "dict", data := Data.dict #[{ hash := PyData.keyHash P (Str.ofString "__name__"), key := Value.str (Str.ofString "__name__") 165, val := Value.str (Str.ofString "collections.abc") 318 }, { hash := PyData.keyHash P (Str.ofString "__doc__"), key := Value.str (Str.ofString "__doc__") 166, val := Value.none }, { hash := PyData.keyHash P (Str.ofString "__package__"), key := Value.str (Str.ofString "__package__") 167, val := Value.none }, { hash := PyData.keyHash P (Str.ofString "__loader__"), key := Value.str (Str.ofString "__loader__") 168, val := Value.builtin "__main__.__loader__#opaque" }, { hash := PyData.keyHash P (Str.ofString "__spec__"), key := Value.str (Str.ofString "__spec__") 169, val := Value.none }, { hash := PyData.keyHash P (Str.ofString "__annotations__"), key := Value.str (Str.ofString "__annotations__") 170, val := Value.ref 6 }, { hash := PyData.keyHash P (Str.ofString "__builtins__"), key := Value.str (Str.ofString "__builtins__") 171, val := Value.ref 4 }, { hash := PyData.keyHash P (Str.ofString "__file__"), key := Value.str (Str.ofString "__file__") 173, val := Value.str (Str.ofString "/claim/cut.py") 172 }, { hash := PyData.keyHash P (Str.ofString "__cached__"), key := Value.str (Str.ofString "__cached__") 174, val := Value.none }, { hash := PyData.keyHash P (Str.ofString "_wall"), key := Value.str (Str.ofString "_wall") 193, val := Value.ref 21 }, { hash := PyData.keyHash P (Str.ofString "heappush"), key := Value.str (Str.ofString "heappush") 203, val := Value.ref 28 }, { hash := PyData.keyHash P (Str.ofString "heappop"), key := Value.str (Str.ofString "heappop") 212, val := Value.ref 35 }, { hash := PyData.keyHash P (Str.ofString "_siftdown"), key := Value.str (Str.ofString "_siftdown") 224, val := Value.ref 42 }, { hash := PyData.keyHash P (Str.ofString "_siftup"), key := Value.str (Str.ofString "_siftup") 237, val := Value.ref 49 }, { hash := PyData.keyHash P (Str.ofString "COMPILER_FLAG_NAMES"), key := Value.str (Str.ofString "COMPILER_FLAG_NAMES") 270, val := Value.ref 50 }, { hash := PyData.keyHash P (Str.ofString "pretty_flags"), key := Value.str (Str.ofString "pretty_flags") 280, val := Value.ref 57 }, { hash := PyData.keyHash P (Str.ofString "_plain_name"), key := Value.str (Str.ofString "_plain_name") 291, val := Value.ref 64 }, { hash := PyData.keyHash P (Str.ofString "ABCMeta"), key := Value.str (Str.ofString "ABCMeta") 317, val := Value.ref 81 }, { hash := PyData.keyHash P (Str.ofString "_ABCLike"), key := Value.str (Str.ofString "_ABCLike") 360, val := Value.ref 114 }] 19 }
noncomputable def h12s14 : Obj := { cls := Value.none, data := Data.fields #[Value.int 1 0, Value.int 0 0, Value.ref 20, Value.int 5 0, Value.int 0 0, Value.ref 27, Value.int 8 0, Value.int 0 0, Value.ref 34, Value.int 16 0, Value.int 0 0, Value.ref 41, Value.int 27 0, Value.int 0 0, Value.ref 48, Value.int 43 0, Value.int 0 0, Value.ref 56, Value.int 56 0, Value.int 0 0, Value.ref 63, Value.int 62 0, Value.int 0 0, Value.ref 70, Value.int 67 0, Value.int 0 0, Value.ref 89] }
noncomputable def trs14 (P : Params) : BT := .node (PySem.W.boot_o_0 P) (.node (PySem.W.boot_o_1 P) (.node (h3s14 P) (.node (PySem.W.boot_o_7 P) (.node h11 (.node h31 (.node h63 .nil .nil) (.node h95 .nil .nil)) (.node h47 (.node h11 .nil .nil) (.node h111 .nil .nil))) (.node h16 (.node h11 (.node h71 .nil .nil) (.node h103 .nil .nil)) (.node h55 (.node h11 .nil .nil) .nil))) (.node h11 (.node h19 (.node o35 (.node (h67 P) .nil .nil) (.node h16 .nil .nil)) (.node h11 (.node h83 .nil .nil) (.node h115 .nil .nil))) (.node o27 (.node h11 (.node h11 .nil .nil) (.node h107 .nil .nil)) (.node h16 (.node h11 .nil .nil) .nil)))) (.node (PySem.W.boot_o_5 P) (.node (PySem.W.boot_o_9 P) (.node h17 (.node h33 (.node o65 .nil .nil) (.node h97 .nil .nil)) (.node o49 (.node h81 .nil .nil) (.node (h113 P) .nil .nil))) (.node h11 (.node o41 (.node h16 .nil .nil) (.node h11 .nil .nil)) (.node o57 (.node h89 .nil .nil) .nil))) (.node h13 (.node h21 (.node h16 (.node h69 .nil .nil) (.node h11 .nil .nil)) (.node h53 (.node h66 .nil .nil) .nil)) (.node h11 (.node h45 (.node h77 .nil .nil) (.node h109 .nil .nil)) (.node h11 (.node h93 .nil .nil) .nil))))) (.node (PySem.W.boot_o_2 P) (.node (PySem.W.boot_o_4 P) (.node (PySem.W.boot_o_8 P) (.node h16 (.node h11 (.node h64 .nil .nil) (.node h96 .nil .nil)) (.node o48 (.node (h80 P) .nil .nil) (.node h11 .nil .nil))) (.node h24 (.node h40 (.node h11 .nil .nil) (.node h104 .nil .nil)) (.node o56 (.node h88 .nil .nil) .nil))) (.node h12s14 (.node h20 (.node h11 (.node h11 .nil .nil) (.node h100 .nil .nil)) (.node h16 (.node h84 .nil .nil) (.node h116 .nil .nil))) (.node o28 (.node h16 (.node h76 .nil .nil) (.node h11 .nil .nil)) (.node h60 (.node h16 .nil .nil) .nil)))) (.node (PySem.W.boot_o_6 P) (.node (PySem.W.boot_o_10 P) (.node h11 (.node o34 (.node h66 .nil .nil) (.node h11 .nil .nil)) (.node o50 (.node h82 .nil .nil) (.node h114 .nil .nil))) (.node h26 (.node o42 (.node h74 .nil .nil) (.node h16 .nil .nil)) (.node h11 (.node h90 .nil .nil) .nil))) (.node h14 (.node h11 (.node h38 (.node h70 .nil .nil) (.node h102 .nil .nil)) (.node h11 (.node (h86 P) .nil .nil) .nil)) (.node h16 (.node h11 (.node h78 .nil .nil) (.node h110 .nil .nil)) (.node h62 (.node h11 .nil .nil) .nil)))))
noncomputable def trs30 (P : Params) : BT := .node (PySem.W.boot_o_0 P) (.node (PySem.W.boot_o_1 P) (.node (o3 P) (.node (PySem.W.boot_o_7 P) (.node h11 (.node h31 (.node h63 (.node h11 .nil .nil) .nil) (.node h95 (.node h11 .nil .nil) .nil)) (.node h47 (.node h11 (.node o143 .nil .nil) .nil) (.node h111 (.node o175 .nil .nil) .nil))) (.node h16 (.node h11 (.node h71 (.node h135 .nil .nil) .nil) (.node h103 (.node o167 .nil .nil) .nil)) (.node h55 (.node h11 (.node o151 .nil .nil) .nil) (.node h119 (.node h183 .nil .nil) .nil)))) (.node h11 (.node h19 (.node o35 (.node (h67 P) (.node h11 .nil .nil) .nil) (.node h16 (.node o163 .nil .nil) .nil)) (.node h11 (.node h83 (.node h147 .nil .nil) .nil) (.node h115 (.node o179 .nil .nil) .nil))) (.node o27 (.node h11 (.node h11 (.node h16 .nil .nil) .nil) (.node h107 (.node h171 .nil .nil) .nil)) (.node h16 (.node h11 (.node h11 .nil .nil) .nil) (.node h123 (.node h16 .nil .nil) .nil))))) (.node (PySem.W.boot_o_5 P) (.node (PySem.W.boot_o_9 P) (.node h17 (.node h33 (.node o65 (.node o129 .nil .nil) .nil) (.node h97 (.node h161 .nil .nil) .nil)) (.node o49 (.node h81 (.node h11 .nil .nil) .nil) (.node (h113 P) (.node h16 .nil .nil) .nil))) (.node h11 (.node o41 (.node h16 (.node h137 .nil .nil) .nil) (.node h11 (.node h11 .nil .nil) .nil)) (.node o57 (.node h89 (.node h16 .nil .nil) .nil) (.node h121 (.node o185 .nil .nil) .nil)))) (.node h13 (.node h21 (.node h16 (.node h69 (.node h133 .nil .nil) .nil) (.node h11 (.node h16 .nil .nil) .nil)) (.node h53 (.node h66 (.node h149 .nil .nil) .nil) (.node h11 (.node h11 .nil .nil) .nil))) (.node h11 (.node h45 (.node h77 (.node h11 .nil .nil) .nil) (.node h109 (.node h173 .nil .nil) .nil)) (.node h11 (.node h93 (.node o157 .nil .nil) .nil) (.node h16 (.node o189 .nil .nil) .nil)))))) (.node (PySem.W.boot_o_2 P) (.node (PySem.W.boot_o_4 P) (.node (PySem.W.boot_o_8 P) (.node h16 (.node h11 (.node h64 (.node h128 .nil .nil) .nil) (.node h96 (.node h16 .nil .nil) .nil)) (.node o48 (.node (h80 P) (.node o144 .nil .nil) .nil) (.node h11 (.node h11 .nil .nil) .nil))) (.node h24 (.node h40 (.node h11 (.node h136 .nil .nil) .nil) (.node h104 (.node o168 .nil .nil) .nil)) (.node o56 (.node h88 (.node h11 .nil .nil) .nil) (.node h11 (.node o184 .nil .nil) .nil)))) (.node h12 (.node h20 (.node h11 (.node h11 (.node h16 .nil .nil) .nil) (.node h100 (.node h11 .nil .nil) .nil)) (.node h16 (.node h84 (.node h11 .nil .nil) .nil) (.node h116 (.node o180 .nil .nil) .nil))) (.node o28 (.node h16 (.node h76 (.node h140 .nil .nil) .nil) (.node h11 (.node h11 .nil .nil) .nil)) (.node h60 (.node h16 (.node h156 .nil .nil) .nil) (.node h11 (.node h188 .nil .nil) .nil))))) (.node (PySem.W.boot_o_6 P) (.node (PySem.W.boot_o_10 P) (.node h11 (.node o34 (.node h66 (.node o130 .nil .nil) .nil) (.node h11 (.node o162 .nil .nil) .nil)) (.node o50 (.node h82 (.node h16 .nil .nil) .nil) (.node h114 (.node h178 .nil .nil) .nil))) (.node h26 (.node o42 (.node h74 (.node h11 .nil .nil) .nil) (.node h16 (.node h16 .nil .nil) .nil)) (.node h11 (.node h90 (.node h154 .nil .nil) .nil) (.node h122 (.node h11 .nil .nil) .nil)))) (.node h14 (.node h11 (.node h38 (.node h70 (.node h11 .nil .nil) .nil) (.node h102 (.node h166 .nil .nil) .nil)) (.node h11 (.node (h86 P) (.node o150 .nil .nil) .nil) (.node h16 (.node h16 .nil .nil) .nil))) (.node h16 (.node h11 (.node h78 (.node h142 .nil .nil) .nil) (.node h110 (.node o174 .nil .nil) .nil)) (.node h62 (.node h11 (.node o158 .nil .nil) .nil) (.node h126 (.node o190 .nil .nil) .nil))))))
abbrev pC : Program := rowC.toRowW.prog
abbrev lo1 : List Str := [Str.ofString "COMPILER_FLAG_NAMES"]
noncomputable abbrev xt1 : Shared → Bool := fun s => xlAt viewQ [] s && recOk (RowW.records rowC.toRowW) s
noncomputable abbrev envT : Env := { scope := pC.main.scope, locals := mainNs, globals := mainNs, cells := [], code := .ref 13, frame := some 14 }
noncomputable abbrev codeC : Code := .body (behindTheImports pC) envT
abbrev q0 : Pos := { line := 0, col := 0, endLine := 0, endCol := 0 }
noncomputable abbrev sh0 (H : Heap) (tk : Nat) (os : OsState) : Shared := ⟨H, Array.mk [], boot_drawn, tk, os⟩
noncomputable abbrev shT (t : BT) (n tk : Nat) (os : OsState) : SharedT := ⟨t, n, {}, Array.mk [], boot_drawn, tk, os⟩
noncomputable def Hpre (P : Params) : Heap := ⟨Array.mk (PySem.W.boot_o_0 P :: PySem.W.boot_o_1 P :: PySem.W.boot_o_2 P :: h3pre P :: PySem.W.boot_o_4 P :: PySem.W.boot_o_5 P :: PySem.W.boot_o_6 P :: PySem.W.boot_o_7 P :: PySem.W.boot_o_8 P :: PySem.W.boot_o_9 P :: PySem.W.boot_o_10 P :: h11 :: h12pre :: h13 :: h14 :: []), {}⟩
abbrev stss6 : List Stmt := [st0, st1, st2, st3, st4, st5, st6]
abbrev stss7 : List Stmt := [st7]
abbrev stss14 : List Stmt := [st8, st9, st10, st11, st12, st13, st14]
abbrev stss30 : List Stmt := [st15, st16, st17, st18, st19, st20, st21, st22, st23, st24, st25, st26, st27, st28, st29, st30]
abbrev pospre : Pos := { line := 0, col := 0, endLine := 0, endCol := 0 }
abbrev poss6 : Pos := { line := 41, col := 0, endLine := 41, endCol := 8 }
abbrev poss7 : Pos := { line := 42, col := 0, endLine := 42, endCol := 19 }
abbrev poss14 : Pos := { line := 67, col := 0, endLine := 81, endCol := 16 }
abbrev poss30 : Pos := { line := 190, col := 0, endLine := 205, endCol := 93 }
theorem size1 (w : World) : ((boot_heap w.params).isNs mainGlobals && (Array.mk [] : Array GenState).size == 0, (boot_heap w.params).objs.size, (boot_heap w.params).nsMap mainGlobals "__annotations__") = (true, 11, some (.ref 6)) := by kernel_rfl
theorem pre1 (w : World) (os : OsState) : topGo treeTable pC w 11 (some (.ref 6)) 12 (sh0 (boot_heap w.params) boot_toks os) (topStub pC) = some (sh0 (Hpre w.params) 187 os, ⟨denote treeTable codeC, codeC, q0, [topFrame q0]⟩) := by kernel_rfl
theorem block1 (w : World) (os : OsState) : segRun treeTable pC w 11 (some (.ref 6)) 1 1 (sh0 (Hpre w.params) 187 os) (blockOf (behindTheImports pC) envT codeC q0 [topFrame q0]) = some (.next, (shT (trpre w.params) 15 187 os).abs, codeC, q0) := by kernel_rfl
theorem segs6 (w : World) (os : OsState) : segRunT treeTable pC w 11 (some (.ref 6)) 1 300 (shT (trpre (w).params) 15 187 os) (piecesOf stss6 envT codeC pospre [topFrame q0]) = some (.next, shT (trs6 (w).params) 50 240 os, codeC, poss6) := by kernel_rfl
abbrev segPs7 (w : World) : Prop := ∀ os : OsState, segRunT treeTable pC w 11 (some (.ref 6)) 1 200 (shT (trs6 (w).params) 50 240 os) (piecesOf stss7 envT codeC poss6 [topFrame q0]) = some (.next, shT (trs7 (w).params) 51 271 os, codeC, poss7)
theorem segs7_f (w : World) : segPs7 (w.withFollow "special-get-raises" false) := fun os => by kernel_rfl
theorem segs7_t (w : World) : segPs7 (w.withFollow "special-get-raises" true) := fun os => by kernel_rfl
theorem segs7 (w : World) (os : OsState) : segRunT treeTable pC w 11 (some (.ref 6)) 1 200 (shT (trs6 (w).params) 50 240 os) (piecesOf stss7 envT codeC poss6 [topFrame q0]) = some (.next, shT (trs7 (w).params) 51 271 os, codeC, poss7) := byRow2 "special-get-raises" (P := segPs7) segs7_f segs7_t w os
theorem segs14 (w : World) (os : OsState) : segRunT treeTable pC w 11 (some (.ref 6)) 1 700 (shT (trs7 (w).params) 51 271 os) (piecesOf stss14 envT codeC poss7 [topFrame q0]) = some (.next, shT (trs14 (w).params) 117 361 os, codeC, poss14) := by kernel_rfl
theorem segs30 (w : World) (os : OsState) : segRunT treeTable pC w 11 (some (.ref 6)) 1 500 (shT (trs14 (w).params) 117 361 os) (piecesOf stss30 envT codeC poss14 [topFrame q0]) = some (.next, shT (trs30 (w).params) 191 472 os, codeC, poss30) := by kernel_rfl
theorem fin1 (w : World) (os : OsState) : topRun treeTable pC w 11 (some (.ref 6)) 10 ((shT (trs30 w.params) 191 472 os).abs) ⟨doneF .next, codeC, poss30, [topFrame q0]⟩ = some (sh0 (H1 w.params) 472 os) := by kernel_rfl
theorem body1 : behindTheImports pC = stss6 ++ (stss7 ++ (stss14 ++ (stss30 ++ []))) := by kernel_rfl
theorem run1 (w : World) (os : OsState) : topRun treeTable pC w 11 (some (.ref 6)) (12 + (1 + (300 + (200 + (700 + (500 + 10)))))) (sh0 (boot_heap w.params) boot_toks os) (topStub pC) = some (sh0 (H1 w.params) 472 os) := by
  refine go_top (pre1 w os) (piece_block (block1 w os) ?_)
  have h := piece_app (segRun_of (segs6 w os)) (piece_app (segRun_of (segs7 w os)) (piece_app (segRun_of (segs14 w os)) (piece_app (segRun_of (segs30 w os)) (piece_nil (fin1 w os)))))
  rw [← body1] at h
  exact h
theorem looks1 (w : World) : (fun os => ((staticsOk (importedModules pC.main.body) (boot_heap w.params) (H1 w.params) && namesBound pC (H1 w.params) && gensDone (sh0 (H1 w.params) 472 os) && laidKept (boot_heap w.params) (H1 w.params)),
        openSeen viewQ lo1 (importedModules pC.main.body) xt1 true (sh0 (H1 w.params) 472 os), HK.obs (sh0 (H1 w.params) 472 os))) = fun _ => (true, openGood viewQ lo1, HK.val w) := by kernel_rfl
theorem left1 : LeftO rowC.toRowW.prog viewQ [Str.ofString "COMPILER_FLAG_NAMES"] (fun s => xlAt viewQ [] s && recOk (RowW.records rowC.toRowW) s) HK.obs HK.val 2762 :=
  LeftO.of_pieces (boot_open (by kernel_rfl) rfl (fun s => by kernel_rfl)) size1 run1 rfl looks1
end Mine
end

/-! ## L1 -/
section
open PySem PySem.W PyProof.Rows PySem.Calls PySem.Spec PySem.SeqAt
set_option maxRecDepth 100000
namespace Mine

theorem tuple_ltAt (l b : Addr) (i j : Int) (t u : Tok) (x y : Value) (n n2 : Nat) (dd dd2 : Option Addr) (sl sl2 : Array (Option Value)) (hne : (i == j) = false) :
    Meets (Builtin.«tuple.__lt__» ⟨[.ref l, .ref b], []⟩)
      (fun A R s => s.heap.get? l = some { cls := .type "tuple", dict := dd, data := .seq #[.int i t, x] n, slots := sl } ∧ s.heap.get? b = some { cls := .type "tuple", dict := dd2, data := .seq #[.int j u, y] n2, slots := sl2 } ∧
        A.units < cLine ∧ R (.ok (.ret (.bool (decide (i < j))))) s) :=
  .of_wp fun prog w A R s h => by
    obtain ⟨hp, g, d, tk, os⟩ := s; obtain ⟨hl, hb, hu, h⟩ := h
    have f2 := AutoSeq1.sub_tuple_tuple
    wp_walk using wpAny_loadPart' hl, wpAny_loadPart' hb
    show wpAny (model prog w) A.in1 (eqBool (.int i t) (.int j u)) _ _ _
    refine EqAt.int_int i t j u prog w _ _ ?_
    rw [hne]
    simp only [Bool.not_false, if_true]
    refine wpAny_bind (wpAny_rule ?_)
    refine wpAny_bind (lt_int ?_)
    refine wpAny_bind (wpAny_pure ?_)
    refine wpAny_pure ?_
    refine wpAny_pure ?_
    refine wpAny_pure ?_
    exact ⟨_, rfl, h⟩

theorem lt_tuple {prog : Program} {w : World} {A : Around} {E : Value → Shared → Prop} {s : Shared} {l b : Addr} {i j : Int} {t u : Tok} {x y : Value} {Q : Value → Shared → Prop}
    (hl : s.heap.IsTuple l #[.int i t, x]) (hb : s.heap.IsTuple b #[.int j u, y]) (hne : i ≠ j) (hu : A.units < cLine) (h : Q (.bool (decide (i < j))) s) :
    wpAny (model prog w) A (compareOp .Lt (.ref l) (.ref b)) Q E s := by
  refine cmp_ofLt ?_
  obtain ⟨⟨cls, dd, data, sl⟩, ho, hc, n, hd⟩ := id hl
  obtain ⟨⟨cls2, dd2, data2, sl2⟩, ho2, hc2, n2, hd2⟩ := id hb
  simp only at hc hd hc2 hd2
  subst hc hd hc2 hd2
  exact richCompare_meets_room (op := .Lt) ⟨_, ho, rfl⟩ ⟨_, ho2, rfl⟩ F.slot_tuple_lt F.entry_tuple_lt (F.args_tuple_lt_2 _ _)
    (tuple_ltAt l b i j t u x y n n2 dd dd2 sl sl2 (by simpa using hne))
    ⟨ho, ho2, hu, show Value.bool _ ≠ Value.notImplemented ∧ Q _ s from ⟨(fun x => nomatch x), h⟩⟩ hu

/-! ### frames as chains -/
def chain : List (Str × Value) → (Str → Option Value) → (Str → Option Value)
  | [], m => m
  | (k, v) :: r, m => fun y => if y = k then some v else chain r m y
theorem chain_eq : ∀ (l : List (Str × Value)) (m : Str → Option Value), (∀ p ∈ l, m p.1 = some p.2) → chain l m = m
  | [], _, _ => rfl
  | (k, v) :: r, m, h => by
    funext y
    show (if y = k then some v else chain r m y) = m y
    rw [chain_eq r m fun p hp => h p (List.mem_cons_of_mem _ hp)]
    by_cases e : y = k
    · rw [if_pos e, e]; exact (h (k, v) (List.mem_cons_self ..)).symm
    · rw [if_neg e]
theorem fr_chain {h₀ h : Heap} {L : Addr} {m : Str → Option Value} (l : List (Str × Value)) (F : Fr h₀ L h m) (hl : ∀ p ∈ l, m p.1 = some p.2) : Fr h₀ L h (chain l m) := by
  rw [chain_eq l m hl]; exact F

/-! ### a while with break -/
def WStep (h₀ : Heap) (L : Addr) (s : Shared) (J : Nat → (Str → Option Value) → List (Addr × Obj) → Prop) (n : Nat) (Q : Flow → Shared → Prop) (f : Flow) (s₃ : Shared) : Prop :=
  match f with
  | .brk => Q .next s₃
  | .ret v => Q (.ret v) s₃
  | _ => ∃ h' tk m₂ news₂ n', s₃ = { s with heap := h', toks := tk } ∧ Fr h₀ L h' m₂ ∧ News h₀ L h' news₂ ∧ n' < n ∧ J n' m₂ news₂

section
variable {prog : Program} {w : World} {A : Around} {E : Value → Shared → Prop} {s : Shared} {env : Env} {h₀ : Heap} {L : Addr}
theorem While_brk {test : Expr} {body : List Stmt} {pos : Pos} {Q : Flow → Shared → Prop} {m : Str → Option Value} {news : List (Addr × Obj)} (J : Nat → (Str → Option Value) → List (Addr × Obj) → Prop) {n₀ : Nat}
    (F : Fr h₀ L s.heap m) (N : News h₀ L s.heap news) (hJ : J n₀ m news)
    (turn : ∀ n m₁ news₁ h₁ tk₁, Fr h₀ L h₁ m₁ → News h₀ L h₁ news₁ → J n m₁ news₁ →
      wpAny (model prog w) A (isTrue test env (eval test env)) (fun b s₂ =>
        if b = true then wpAny (model prog w) A (execs body env) (WStep h₀ L s J n Q) (fun _ _ => False) s₂ else Q .next s₂) (fun _ _ => False) { s with heap := h₁, toks := tk₁ }) :
    wpAny (model prog w) A (exec (.While test body [] pos) env) Q E s := by
  refine wpAny_While (codeAny_whileLoop (fun n s' => ∃ h₁ tk₁ m₁ news₁, s' = { s with heap := h₁, toks := tk₁ } ∧ Fr h₀ L h₁ m₁ ∧ News h₀ L h₁ news₁ ∧ J n m₁ news₁) ?_ n₀ ⟨s.heap, s.toks, m, news, rfl, F, N, hJ⟩)
  rintro n s' ⟨h₁, tk₁, m₁, news₁, rfl, F₁, N₁, J₁⟩
  refine wpAny_mono (turn n m₁ news₁ h₁ tk₁ F₁ N₁ J₁) (fun b s₂ h₂ => ?_) (fun _ _ x => x.elim)
  cases b with
  | false =>
    simp only [Bool.false_eq_true, if_false] at h₂ ⊢
    exact wpAny_execs_nil h₂
  | true =>
    simp only [if_true] at h₂ ⊢
    refine wpAny_mono h₂ (fun f s₃ h₃ => ?_) (fun _ _ x => x.elim)
    cases f with
    | brk => exact h₃
    | ret v => exact h₃
    | next => obtain ⟨h', tk, m₂, news₂, n', rfl, F₂, N₂, hn, J₂⟩ := h₃; exact ⟨n', hn, h', tk, m₂, news₂, rfl, F₂, N₂, J₂⟩
    | cont => obtain ⟨h', tk, m₂, news₂, n', rfl, F₂, N₂, hn, J₂⟩ := h₃; exact ⟨n', hn, h', tk, m₂, news₂, rfl, F₂, N₂, J₂⟩

/-! ### lists of anything -/
theorem set_val {l : Addr} {vs : List Value} {n : Nat} {news : List (Addr × Obj)} {m : Str → Option Value} {k : Int} {t : Tok} {v : Value} {Q : Unit → Shared → Prop}
    (F : Fr h₀ L s.heap m) (N : News h₀ L s.heap ((l, listOf vs.toArray n) :: news)) (off : ∀ p ∈ news, p.1 ≠ l) (h0 : 0 ≤ k) (h1 : k < vs.length) (hfit : k < 2 ^ 63)
    (h : ∀ h', Fr h₀ L h' m → News h₀ L h' ((l, listOf (vs.set k.toNat v).toArray n) :: news) → Q () { s with heap := h' }) :
    wpAny (model prog w) A (setItem (.ref l) (.int k t) v) Q E s := by
  have z := N (l, listOf vs.toArray n) (.head _)
  refine ki_setAt z.1 h0 hfit (by simpa using h1) (h _ (F.change (Heap.SameBut.update ..) z.2.1 z.2.2) (ki_turn (pre := []) _ N (fun _ h => nomatch h) off ?_ ?_))
  · show vs.toArray.setIfInBounds k.toNat v = (vs.set k.toNat v).toArray
    apply Array.toList_inj.mp
    simp
  · simp
end
end Mine
end

/-! ## L2 -/
section
open PySem PySem.W PyProof.Rows PySem.Calls PySem.Spec PySem.SeqAt
set_option maxRecDepth 100000
namespace Mine
def Hold (P : Prop) : Prop := P
theorem Hold.mk {P : Prop} (h : Hold P) : P := h
theorem allc {α : Type} {P : α → Prop} {a : α} {l : List α} (h1 : P a) (h2 : ∀ q ∈ l, P q) : ∀ q ∈ a :: l, P q := List.forall_mem_cons.mpr ⟨h1, h2⟩
theorem alln {α : Type} {P : α → Prop} : ∀ q ∈ ([] : List α), P q := List.forall_mem_nil _
theorem news_put {h₀ h : Heap} {L : Addr} {l0 l : List (Addr × Obj)} {p : Addr × Obj} (N : News h₀ L h l0) (hp : p ∈ l0) (M : News h₀ L h l) : News h₀ L h (p :: l) := List.forall_mem_cons.mpr ⟨N p hp, M⟩
theorem news_in {h₀ h : Heap} {L : Addr} {l0 l : List (Addr × Obj)} (N : News h₀ L h l0) (hs : ∀ x ∈ l, x ∈ l0) : News h₀ L h l := fun x hx => N x (hs x hx)
/-- the goal's ends behind letters: keeps the proof's term small -/
theorem hideB {prog : Program} {w : World} {A A2 : Around} {α β : Type} {t : Sem α} {t2 : Sem β} {Q : β → Shared → Prop} {E E2 : Value → Shared → Prop} {s : Shared}
    (h : ∀ Qx : β → Shared → Prop, (∀ v s', Q v s' → Qx v s') → wpAny (model prog w) A t (fun _ s₂ => wpAny (model prog w) A2 t2 Qx E2 s₂) E s) : wpAny (model prog w) A t (fun _ s₂ => wpAny (model prog w) A2 t2 Q E2 s₂) E s := h Q fun _ _ x => x
theorem hideW {prog : Program} {w : World} {A A2 : Around} {β : Type} {t : Sem Bool} {t2 : Sem β} {Q : β → Shared → Prop} {Q0 : Shared → Prop} {E E2 : Value → Shared → Prop} {s : Shared}
    (h : ∀ Qx : β → Shared → Prop, (∀ v s', Q v s' → Qx v s') → wpAny (model prog w) A t (fun b s₂ => if b = true then wpAny (model prog w) A2 t2 Qx E2 s₂ else Q0 s₂) E s) : wpAny (model prog w) A t (fun b s₂ => if b = true then wpAny (model prog w) A2 t2 Q E2 s₂ else Q0 s₂) E s := h Q fun _ _ x => x
theorem hideQ {prog : Program} {w : World} {A : Around} {α : Type} {t : Sem α} {Q : α → Shared → Prop} {E : Value → Shared → Prop} {s : Shared}
    (h : ∀ (Qx : α → Shared → Prop) (Ex : Value → Shared → Prop), (∀ v s', Q v s' → Qx v s') → wpAny (model prog w) A t Qx Ex s) : wpAny (model prog w) A t Q E s := h Q E fun _ _ x => x

structure Blk where
  a : Addr
  k : Int
  p : Str

def BlkIn (news : List (Addr × Obj)) (b : Blk) : Prop := ∃ (tk tk' : Tok) (n : Nat), (b.a, ({ cls := .type "tuple", data := .seq #[.int b.k tk, .str b.p tk'] n } : Obj)) ∈ news
abbrev hv (bs : List Blk) : List Value := bs.map fun b => Value.ref b.a

theorem lt_blk {prog : Program} {w : World} {A : Around} {E : Value → Shared → Prop} {s : Shared} {h₀ : Heap} {L : Addr} {news : List (Addr × Obj)} {Q : Value → Shared → Prop} {x y : Blk}
    {all : List (Addr × Obj)} (N : News h₀ L s.heap all) (hs : ∀ p ∈ news, p ∈ all) (hx : BlkIn news x) (hy : BlkIn news y) (hne : x.k ≠ y.k) (hu : A.units < cLine) (h : Q (.bool (decide (x.k < y.k))) s) :
    wpAny (model prog w) A (compareOp .Lt (.ref x.a) (.ref y.a)) Q E s := by
  obtain ⟨tk, tk', n, hm⟩ := hx
  obtain ⟨uk, uk', n', hm'⟩ := hy
  exact lt_tuple ⟨_, (N _ (hs _ hm)).1, rfl, n, rfl⟩ ⟨_, (N _ (hs _ hm')).1, rfl, n', rfl⟩ hne hu h

section
variable {prog : Program} {w : World} {A : Around} {E : Value → Shared → Prop} {s : Shared} {h₀ : Heap} {L l : Addr} {m : Str → Option Value} {all news : List (Addr × Obj)} {n : Nat} {lst : List Blk} {j : Nat} {k : Int} {u : Tok} {b : Blk}
theorem hv_get (h : lst[j]? = some b) : (hv lst)[j]? = some (.ref b.a) := by simp [hv, h]
theorem hv_set (lst : List Blk) (j : Nat) (b : Blk) : (hv lst).set j (.ref b.a) = hv (lst.set j b) := by simp [hv, List.map_set]
theorem get_blk {value slice : PySem.Expr} {Q : Value → Shared → Prop} (N : News h₀ L s.heap all) (hm : (l, listOf (hv lst).toArray n) ∈ all) (hk : k = (j : Int)) (hj : lst.length < 1000) (hx : lst[j]? = some b) (h : Q (.ref b.a) s)
    (hs : subscripted slice false (.ref l) (.int k u) = operate [.ref l, .int k u] (getItem (.ref l) (.int k u)) := by with_unfolding_all rfl) (hg : ∀ r, letTemporaryGo value (.ref l) r = pure () := by intro _; with_unfolding_all rfl) :
    wpAny (model prog w) A (subscriptTail value slice (.ref l) (.int k u)) Q E s := by
  have hlt : j < lst.length := by
    rcases Nat.lt_or_ge j lst.length with h' | h'
    · exact h'
    · rw [List.getElem?_eq_none h'] at hx; cases hx
  exact kim_list N hm rfl rfl (by omega) (by omega) (by rw [hk]; exact hv_get hx) h hs hg
theorem set_blk {t : Tok} {Q : Unit → Shared → Prop} (F : Fr h₀ L s.heap m) (N : News h₀ L s.heap ((l, listOf (hv lst).toArray n) :: news)) (off : ∀ p ∈ news, p.1 ≠ l) (hk : k = (j : Int)) (hj : j < lst.length) (hz : lst.length < 1000)
    (h : ∀ h', Fr h₀ L h' m → News h₀ L h' ((l, listOf (hv (lst.set j b)).toArray n) :: news) → Q () { s with heap := h' }) :
    wpAny (model prog w) A (setItem (.ref l) (.int k t) (.ref b.a)) Q E s := by
  subst hk
  refine set_val F N off (by omega) (by simpa using hj) (by omega) fun h' F' N' => h h' F' ?_
  have e : ((hv lst).set (j : Int).toNat (.ref b.a)) = hv (lst.set j b) := hv_set lst j b
  rw [e] at N'
  exact N'
end

/-- the pure sift down: x goes up from pos -/
def sd (x : Blk) (start : Nat) : Nat → Nat → List Blk → List Blk
  | 0, pos, l => l.set pos x
  | f + 1, pos, l => if start < pos then
      match l[(pos - 1) / 2]? with
      | some par => if x.k < par.k then sd x start f ((pos - 1) / 2) (l.set pos par) else l.set pos x
      | none => l.set pos x
    else l.set pos x
theorem sd_stop {x : Blk} {start f p : Nat} {l : List Blk} (h : ¬ start < p) : sd x start f p l = l.set p x := by
  cases f with
  | zero => rfl
  | succ f => rw [sd, if_neg h]
theorem sd_break {x par : Blk} {start f p : Nat} {l : List Blk} (h : l[(p - 1) / 2]? = some par) (hk : ¬ x.k < par.k) : sd x start f p l = l.set p x := by
  cases f with
  | zero => rfl
  | succ f =>
    rw [sd, h]
    simp only [if_neg hk]
    split <;> rfl
theorem sd_go {x par : Blk} {start f p : Nat} {l : List Blk} (hs : start < p) (hf : p ≤ f) (h : l[(p - 1) / 2]? = some par) (hk : x.k < par.k) : sd x start f p l = sd x start (f - 1) ((p - 1) / 2) (l.set p par) := by
  cases f with
  | zero => omega
  | succ f => rw [sd, if_pos hs, h]; simp only [if_pos hk]; rfl
theorem fdiv_half (p : Nat) (h : 0 < p) : ((p : Int) - 1).fdiv (2 ^ Int.toNat 1) = (((p - 1) / 2 : Nat) : Int) := by
  have e : ((p : Int) - 1) = ((p - 1 : Nat) : Int) := by omega
  rw [e, show (2 : Int) ^ Int.toNat 1 = 2 from rfl, Int.fdiv_eq_ediv_of_nonneg _ (by decide)]
  omega
end Mine
end

/-! ## P3 -/
section
open PySem PySem.W PyProof.Rows PySem.Calls PySem.Spec PySem.SeqAt
set_option maxRecDepth 100000
namespace Mine
theorem fill (w : World) : PySem.Challenge.rw_ik0178_01 = PySem.Challenge.rw_ik0178_01 ∧ heapK w.params = heapK w.params := by
  k_fill
  exact ⟨rfl, rfl⟩
section
variable {prog : Program} {w : World} {loose : List Str} {mean : ExcName → Option Value} {mg mb : Str → Option Value}
variable {dp un : Nat} {gd : Option (List Code)} {cn : Str} {cs : Scope} {a : Addr} {ccd : Value} {cl : List (Str × Addr)} {outer : List Env} {A₀ : Around} {base h₀ : Heap} {L : Addr} {m : Str → Option Value} {news : List (Addr × Obj)} {s : Shared} {Q E : Value → Shared → Prop}

set_option maxHeartbeats 4000000 in
theorem siftdown_spec (B : Below A₀ base outer h₀) (F : Fr h₀ L s.heap m) (X : (heapK w.params).In h₀) (T : Top viewQ loose mean mg mb h₀) (hk : cs.kind = .function)
  {l : Addr} {bs : List Blk} {x : Blk} {n : Nat} {start pos : Nat} {tS tP : Tok}
  (N : News h₀ L s.heap ((l, listOf (hv bs).toArray n) :: news)) (off : ∀ p ∈ news, p.1 ≠ l)
  (hpos : pos < bs.length) (hlen : bs.length < 1000)
  (hdp : dp + 1 < recursionLimit) (hun : un + 8 < cLine)
  (hin : ∀ b ∈ bs, BlkIn news b) (hdist : ∀ i b, bs[i]? = some b → i ≠ pos → b.k ≠ x.k)
  (hx : bs[pos]? = some x)
  (hret : ∀ h' tk', Fr h₀ L h' m → News h₀ L h' ((l, listOf (hv (sd x start pos pos bs)).toArray n) :: news) → Q .none { s with heap := h', toks := tk' }) :
  wpAny (model prog w) (ktrTop dp un gd cn cs L a ccd cl outer) (call (.ref 42) [.ref l, .int start tS, .int pos tP]) Q E s := by
  refine wpAny_call ?_
  k_dflt cell_enter
  (repeat' ((fail_if_success ((with_reducible show wpAny _ _ (exec (PySem.Stmt.While _ _ _ _) _) _ _ _))); (first | (with_reducible ((k_here; (with_reducible show wpAny _ _ (compareOp _ (Value.ref _) (Value.ref _)) _ _ _); k_dflt (refine lt_blk (by k_asm) (by (intro _ hq; exact List.Mem.tail _ hq)) (by assumption) (by assumption) (by assumption) (by ktr_units) ?_; k_whole)))) | (with_reducible ((k_here; (with_reducible show wpAny _ _ (setItem (Value.ref _) (Value.int _ _) (Value.ref _)) _ _ _); k_dflt (refine set_blk (by k_asm) (by k_asm) (by assumption) (by first | with_reducible assumption | exact rfl) (by assumption) (by assumption) ?_; k_whole); intro h' F' N'))) | (with_reducible ((k_here; (with_reducible show wpAny _ _ (subscriptTail _ _ (Value.ref _) (Value.int _ _)) _ _ _); k_dflt (refine get_blk (by k_asm) (by k_mem) (by first | with_reducible assumption | exact rfl) (by assumption) (by assumption) ?_ (by with_unfolding_all rfl) (by (intro _; with_unfolding_all rfl)); k_whole)))) | (k_unfold; (try dsimp only)) | (k_end; wrow_close) | walk1 | (dsimp only; walk1) | (leave1; walk_say "STEP leave1"; try dsimp only) | fail "no step")))
  skip
  (rename Fr _ _ _ _ => F')
  (rename News _ _ _ _ => N')
  refine While_brk (fun k m₁ news₁ => ∃ (p : Nat) (lst : List Blk) (tkp : Tok), p = k ∧ m₁ (Str.ofString "heap") = some (.ref l) ∧ m₁ (Str.ofString "startpos") = some (.int start tS) ∧ m₁ (Str.ofString "newitem") = some (.ref x.a) ∧
    m₁ (Str.ofString "pos") = some (.int p tkp) ∧ news₁ = (l, listOf (hv lst).toArray n) :: news ∧ p < lst.length ∧ lst.length = bs.length ∧ (∃ f, p ≤ f ∧ sd x start f p lst = sd x start pos pos bs) ∧ (∀ b ∈ lst, BlkIn news b) ∧ (∀ i b, lst[i]? = some b → i ≠ p → b.k ≠ x.k)) (n₀ := pos) F' N' ?_ ?_
  · exact ⟨pos, bs, tP, rfl, rfl, rfl, rfl, rfl, rfl, hpos, rfl, ⟨pos, Nat.le_refl _, rfl⟩, hin, hdist⟩
  · clear F' N'
    rintro k m₁ news₁ h₁ tk₁ F₁ N₁ ⟨p, lst, tkp, rfl, e1, e2, e3, e4, rfl, hp, hl, ⟨f, hf, hsd⟩, hin₁, hdist₁⟩
    have F₂ := fr_chain [(Str.ofString "heap", .ref l), (Str.ofString "startpos", .int start tS), (Str.ofString "newitem", .ref x.a), (Str.ofString "pos", .int p tkp)] F₁ (allc (by assumption) (allc (by assumption) (allc (by assumption) (allc (by assumption) alln))))
    clear F₁
    have hl₁ : lst.length < 1000 := by omega
    by_cases hgt : start < p
    · have hidx := fdiv_half p (by omega)
      obtain ⟨par, hpar⟩ : ∃ par, lst[(p - 1) / 2]? = some par := ⟨lst[(p - 1) / 2]'(by omega), List.getElem?_eq_getElem _⟩
      have hpk : x.k ≠ par.k := Ne.symm (hdist₁ _ _ hpar (by omega))
      have hpin : BlkIn news par := hin₁ _ (List.mem_of_getElem? hpar)
      have hxin : BlkIn news x := hin _ (List.mem_of_getElem? hx)
      (repeat' ((fail_if_success ((with_reducible show wpAny _ _ (exec (PySem.Stmt.While _ _ _ _) _) _ _ _))); (first | (with_reducible ((k_here; (with_reducible show wpAny _ _ (compareOp _ (Value.ref _) (Value.ref _)) _ _ _); k_dflt (refine lt_blk (by k_asm) (by (intro _ hq; exact List.Mem.tail _ hq)) (by assumption) (by assumption) (by assumption) (by ktr_units) ?_; k_whole)))) | (with_reducible ((k_here; (with_reducible show wpAny _ _ (setItem (Value.ref _) (Value.int _ _) (Value.ref _)) _ _ _); k_dflt (refine set_blk (by k_asm) (by k_asm) (by assumption) (by first | with_reducible assumption | exact rfl) (by assumption) (by assumption) ?_; k_whole); intro h' F' N'))) | (with_reducible ((k_here; (with_reducible show wpAny _ _ (subscriptTail _ _ (Value.ref _) (Value.int _ _)) _ _ _); k_dflt (refine get_blk (by k_asm) (by k_mem) (by first | with_reducible assumption | exact rfl) (by assumption) (by assumption) ?_ (by with_unfolding_all rfl) (by (intro _; with_unfolding_all rfl)); k_whole)))) | (k_unfold; (try dsimp only)) | (k_end; wrow_close) | walk1 | (dsimp only; walk1) | (leave1; walk_say "STEP leave1"; try dsimp only) | fail "no step")))
      · refine ⟨_, _, _, _, (p - 1) / 2, rfl, by k_asm, by k_asm, by omega, (p - 1) / 2, lst.set p par, _, rfl, rfl, rfl, rfl, by rw [hidx]; rfl, rfl, by rw [List.length_set]; omega, by rw [List.length_set]; omega, ⟨f - 1, by omega, ?_⟩, ?_, ?_⟩
        · rw [← hsd]
          exact (sd_go hgt hf hpar (by omega)).symm
        · intro b hb
          rcases List.mem_or_eq_of_mem_set hb with hb | rfl
          · exact hin₁ _ hb
          · exact hpin
        · intro i b hb hi
          by_cases hip : i = p
          · subst hip
            rw [List.getElem?_set_self (by omega)] at hb
            cases hb
            exact Ne.symm hpk
          · rw [List.getElem?_set_ne (Ne.symm hip)] at hb
            exact hdist₁ _ _ hb hip
      · show WStep _ _ _ _ _ _ Flow.brk _
        unfold WStep
        dsimp only
        (repeat' ((fail_if_success ((with_reducible show wpAny _ _ (exec (PySem.Stmt.While _ _ _ _) _) _ _ _))); (first | (with_reducible ((k_here; (with_reducible show wpAny _ _ (compareOp _ (Value.ref _) (Value.ref _)) _ _ _); k_dflt (refine lt_blk (by k_asm) (by (intro _ hq; exact List.Mem.tail _ hq)) (by assumption) (by assumption) (by assumption) (by ktr_units) ?_; k_whole)))) | (with_reducible ((k_here; (with_reducible show wpAny _ _ (setItem (Value.ref _) (Value.int _ _) (Value.ref _)) _ _ _); k_dflt (refine set_blk (by k_asm) (by k_asm) (by assumption) (by first | with_reducible assumption | exact rfl) (by assumption) (by assumption) ?_; k_whole); intro h' F' N'))) | (with_reducible ((k_here; (with_reducible show wpAny _ _ (subscriptTail _ _ (Value.ref _) (Value.int _ _)) _ _ _); k_dflt (refine get_blk (by k_asm) (by k_mem) (by first | with_reducible assumption | exact rfl) (by assumption) (by assumption) ?_ (by with_unfolding_all rfl) (by (intro _; with_unfolding_all rfl)); k_whole)))) | (k_unfold; (try dsimp only)) | (k_end; wrow_close) | walk1 | (dsimp only; walk1) | (leave1; walk_say "STEP leave1"; try dsimp only) | fail "no step")))
        refine hret _ _ (by k_asm) ?_
        rw [← hsd, sd_break hpar (by omega)]
        k_asm
    · (repeat' ((fail_if_success ((with_reducible show wpAny _ _ (exec (PySem.Stmt.While _ _ _ _) _) _ _ _))); (first | (with_reducible ((k_here; (with_reducible show wpAny _ _ (compareOp _ (Value.ref _) (Value.ref _)) _ _ _); k_dflt (refine lt_blk (by k_asm) (by (intro _ hq; exact List.Mem.tail _ hq)) (by assumption) (by assumption) (by assumption) (by ktr_units) ?_; k_whole)))) | (with_reducible ((k_here; (with_reducible show wpAny _ _ (setItem (Value.ref _) (Value.int _ _) (Value.ref _)) _ _ _); k_dflt (refine set_blk (by k_asm) (by k_asm) (by assumption) (by first | with_reducible assumption | exact rfl) (by assumption) (by assumption) ?_; k_whole); intro h' F' N'))) | (with_reducible ((k_here; (with_reducible show wpAny _ _ (subscriptTail _ _ (Value.ref _) (Value.int _ _)) _ _ _); k_dflt (refine get_blk (by k_asm) (by k_mem) (by first | with_reducible assumption | exact rfl) (by assumption) (by assumption) ?_ (by with_unfolding_all rfl) (by (intro _; with_unfolding_all rfl)); k_whole)))) | (k_unfold; (try dsimp only)) | (k_end; wrow_close) | walk1 | (dsimp only; walk1) | (leave1; walk_say "STEP leave1"; try dsimp only) | fail "no step")))
      refine hret _ _ (by k_asm) ?_
      rw [← hsd, sd_stop hgt]
      k_asm
end
end Mine
end

/-! ## L3 -/
section
open PySem PySem.W PyProof.Rows PySem.Calls PySem.Spec PySem.SeqAt
set_option maxRecDepth 100000
namespace Mine
/-- the child that goes up -/
def child (l : List Blk) (c : Nat) : Nat := match l[c]?, l[c + 1]? with
  | some a, some b => if a.k < b.k then c else c + 1
  | _, _ => c
def su : Nat → Nat → List Blk → List Blk × Nat
  | 0, pos, l => (l, pos)
  | f + 1, pos, l => match l[child l (2 * pos + 1)]? with
    | some y => su f (child l (2 * pos + 1)) (l.set pos y)
    | none => (l, pos)
def siftup (l : List Blk) (x : Blk) : List Blk :=
  let r := su l.length 0 l
  sd x 0 r.2 r.2 (r.1.set r.2 x)

theorem child_ge (l : List Blk) (c : Nat) : c ≤ child l c := by
  unfold child
  split
  · split <;> omega
  · omega
theorem child_lt (l : List Blk) (c : Nat) (h : c < l.length) : child l c < l.length := by
  unfold child
  split
  · rename_i a b h1 h2
    have : c + 1 < l.length := by
      rcases Nat.lt_or_ge (c + 1) l.length with h' | h'
      · exact h'
      · rw [List.getElem?_eq_none h'] at h2; cases h2
    split <;> omega
  · omega
theorem su_stop {f p : Nat} {l : List Blk} (h : ¬ 2 * p + 1 < l.length) : su f p l = (l, p) := by
  cases f with
  | zero => rfl
  | succ f =>
    have : l[child l (2 * p + 1)]? = none := List.getElem?_eq_none (by have := child_ge l (2 * p + 1); omega)
    rw [su, this]
theorem su_go {f p : Nat} {l : List Blk} {y : Blk} (hf : 0 < f) (h : l[child l (2 * p + 1)]? = some y) : su f p l = su (f - 1) (child l (2 * p + 1)) (l.set p y) := by
  cases f with
  | zero => omega
  | succ f => rw [su, h]; rfl
theorem su_step {f p c : Nat} {l : List Blk} {y : Blk} (e : child l (2 * p + 1) = c) (hf : 0 < f) (h : l[c]? = some y) : su (f - 1) c (l.set p y) = su f p l := by
  subst e
  exact (su_go hf h).symm
theorem child_two {l : List Blk} {c : Nat} {a b : Blk} (ha : l[c]? = some a) (hb : l[c + 1]? = some b) : child l c = if a.k < b.k then c else c + 1 := by
  unfold child; rw [ha, hb]
theorem child_one {l : List Blk} {c : Nat} (hb : ¬ c + 1 < l.length) : child l c = c := by
  unfold child
  rw [List.getElem?_eq_none (by omega : l.length ≤ c + 1)]
  split
  · rename_i h; cases h
  · rfl

/-- moving a hole: the list with x put into the hole stays a permutation -/
theorem hole_perm {α : Type} {l : List α} {p c : Nat} {x y : α} (hp : p < l.length) (hc : l[c]? = some y) (hne : p ≠ c) : ((l.set p y).set c x).Perm (l.set p x) := by
  have hcl : c < l.length := by
    rcases Nat.lt_or_ge c l.length with h' | h'
    · exact h'
    · rw [List.getElem?_eq_none h'] at hc; cases hc
  have hy : l[c] = y := by rw [List.getElem?_eq_getElem hcl] at hc; exact Option.some.inj hc
  have h1 : p < (l.set p x).length := by simpa using hp
  have h2 : c < (l.set p x).length := by simpa using hcl
  have key := List.set_set_perm h1 h2
  have e1 : (l.set p x)[c] = y := by rw [List.getElem_set_ne hne]; exact hy
  have e2 : (l.set p x)[p] = x := by rw [List.getElem_set_self]
  rw [e1, e2, List.set_set] at key
  exact key
theorem nodup_get {l : List Blk} {i j : Nat} {a b : Blk} (h : (l.map (·.k)).Nodup) (hi : l[i]? = some a) (hj : l[j]? = some b) (hne : i ≠ j) : a.k ≠ b.k := by
  have hil : i < l.length := by
    rcases Nat.lt_or_ge i l.length with h' | h'
    · exact h'
    · rw [List.getElem?_eq_none h'] at hi; cases hi
  have hjl : j < l.length := by
    rcases Nat.lt_or_ge j l.length with h' | h'
    · exact h'
    · rw [List.getElem?_eq_none h'] at hj; cases hj
  rw [List.getElem?_eq_getElem hil] at hi
  rw [List.getElem?_eq_getElem hjl] at hj
  cases hi; cases hj
  intro e
  have hp := List.pairwise_iff_getElem.mp h
  rcases Nat.lt_or_gt_of_ne hne with q | q
  · exact hp i j (by simpa using hil) (by simpa using hjl) q (by simpa using e)
  · exact hp j i (by simpa using hjl) (by simpa using hil) q (by simpa using e.symm)
theorem set_self_get {l : List Blk} {p : Nat} {x : Blk} (h : l[p]? = some x) : l.set p x = l := by
  apply List.ext_getElem?
  intro i
  by_cases e : i = p
  · subst e
    rw [h, List.getElem?_set_self]
    rcases Nat.lt_or_ge i l.length with h' | h'
    · exact h'
    · rw [List.getElem?_eq_none h'] at h; cases h
  · rw [List.getElem?_set_ne (Ne.symm e)]
section
variable {prog : Program} {w : World} {A : Around} {E : Value → Shared → Prop} {s : Shared} {h₀ : Heap} {L l : Addr} {all : List (Addr × Obj)} {n : Nat} {lst : List Blk}
theorem len_blk {Q : Value → Shared → Prop} (N : News h₀ L s.heap all) (hm : (l, listOf (hv lst).toArray n) ∈ all) (hz : lst.length < 1000) (h : Q (.int (lst.length : Int) (s.toks + 1)) { s with toks := s.toks + 1 + 1 }) :
    wpAny (model prog w) A (call (.builtin "len") [.ref l]) Q E s :=
  kun_lenL (News.isList N hm) (by simp [hv]) (by omega) h
end
theorem siftup_eq {bs lst : List Blk} {x : Blk} {f p : Nat} (h : su f p lst = su bs.length 0 bs) (hs : ¬ 2 * p + 1 < lst.length) : sd x 0 p p (lst.set p x) = siftup bs x := by
  rw [su_stop hs] at h
  unfold siftup
  rw [← h]
end Mine
end

/-! ## P4 -/
section
open PySem PySem.W PyProof.Rows PySem.Calls PySem.Spec PySem.SeqAt
set_option maxRecDepth 100000
namespace Mine
theorem fill_P4 (w : World) : PySem.Challenge.rw_ik0178_01 = PySem.Challenge.rw_ik0178_01 ∧ heapK w.params = heapK w.params := by
  k_fill
  exact ⟨rfl, rfl⟩
section
variable {prog : Program} {w : World} {loose : List Str} {mean : ExcName → Option Value} {mg mb : Str → Option Value}
variable {dp un : Nat} {gd : Option (List Code)} {cn : Str} {cs : Scope} {a : Addr} {ccd : Value} {cl : List (Str × Addr)} {outer : List Env} {A₀ : Around} {base h₀ : Heap} {L : Addr} {m : Str → Option Value} {news : List (Addr × Obj)} {s : Shared} {Q E : Value → Shared → Prop}


theorem siftdown_call (B : Below A₀ base outer h₀) (F : Fr h₀ L s.heap m) (X : (heapK w.params).In h₀) (T : Top viewQ loose mean mg mb h₀) (hk : cs.kind = .function)
  {l : Addr} {bs : List Blk} {x : Blk} {n : Nat} {start pos : Nat} {i j : Int} {tS tP : Tok}
  (N : News h₀ L s.heap ((l, listOf (hv bs).toArray n) :: news)) (off : ∀ p ∈ news, p.1 ≠ l) (hi : i = (start : Int)) (hj : j = (pos : Int))
  (hpos : pos < bs.length) (hlen : bs.length < 1000)
  (hdp : dp + 1 < recursionLimit) (hun : un + 8 < cLine)
  (hin : ∀ b ∈ bs, BlkIn news b) (hdist : ∀ i b, bs[i]? = some b → i ≠ pos → b.k ≠ x.k)
  (hx : bs[pos]? = some x)
  (hret : ∀ h' tk', Fr h₀ L h' m → News h₀ L h' ((l, listOf (hv (sd x start pos pos bs)).toArray n) :: news) → Q .none { s with heap := h', toks := tk' }) :
  wpAny (model prog w) (ktrTop dp un gd cn cs L a ccd cl outer) (call (.ref 42) [.ref l, .int i tS, .int j tP]) Q E s := by
  subst hi hj
  exact siftdown_spec B F X T hk N off hpos hlen hdp hun hin hdist hx hret

set_option maxHeartbeats 4000000 in
theorem siftup_spec (B : Below A₀ base outer h₀) (F : Fr h₀ L s.heap m) (X : (heapK w.params).In h₀) (T : Top viewQ loose mean mg mb h₀) (hk : cs.kind = .function)
  {l : Addr} {bs : List Blk} {x : Blk} {n : Nat} {tP : Tok}
  (N : News h₀ L s.heap ((l, listOf (hv bs).toArray n) :: news)) (off : ∀ p ∈ news, p.1 ≠ l)
  (hlen : bs.length < 1000)
  (hdp : dp + 2 < recursionLimit) (hun : un + 16 < cLine)
  (hin : ∀ b ∈ bs, BlkIn news b) (hnd : (bs.map (·.k)).Nodup)
  (hx : bs[0]? = some x)
  (hret : ∀ h' tk', Fr h₀ L h' m → News h₀ L h' ((l, listOf (hv (siftup bs x)).toArray n) :: news) → Q .none { s with heap := h', toks := tk' }) :
  wpAny (model prog w) (ktrTop dp un gd cn cs L a ccd cl outer) (call (.ref 49) [.ref l, .int 0 tP]) Q E s := by
  refine wpAny_call ?_
  k_dflt cell_enter
  have hc0 : (0 : Int) = ((0 : Nat) : Int) := rfl
  have hpos0 : 0 < bs.length := by
    rcases Nat.lt_or_ge 0 bs.length with h' | h'
    · exact h'
    · rw [List.getElem?_eq_none h'] at hx; cases hx
  have hxin : BlkIn news x := hin _ (List.mem_of_getElem? hx)
  (repeat' ((fail_if_success ((with_reducible show wpAny _ _ (exec (PySem.Stmt.While _ _ _ _) _) _ _ _))); (first | (with_reducible ((k_here; (with_reducible show wpAny _ _ (call (Value.ref 42) _) _ _ _); k_dflt (refine siftdown_call (by k_asm) (by k_asm) (by k_asm) (by k_asm) rfl (by k_asm) (by assumption) (by assumption) (by assumption) (by assumption) (by assumption) (by ktr_room) (by ktr_units) (by assumption) (by assumption) (by assumption) ?_); intro h' tk' F' N'))) | (with_reducible ((k_here; (with_reducible show wpAny _ _ (call (Value.builtin "len") [Value.ref _]) _ _ _); k_dflt (refine len_blk (by k_asm) (by k_mem) (by assumption) ?_; k_whole)))) | (with_reducible ((k_here; (with_reducible show wpAny _ _ (compareOp _ (Value.ref _) (Value.ref _)) _ _ _); k_dflt (refine lt_blk (by k_asm) (by (intro _ hq; exact List.Mem.tail _ hq)) (by assumption) (by assumption) (by assumption) (by ktr_units) ?_; k_whole)))) | (with_reducible ((k_here; (with_reducible show wpAny _ _ (setItem (Value.ref _) (Value.int _ _) (Value.ref _)) _ _ _); k_dflt (refine set_blk (by k_asm) (by k_asm) (by assumption) (by first | with_reducible assumption | exact rfl) (by assumption) (by assumption) ?_; k_whole); intro h' F' N'))) | (with_reducible ((k_here; (with_reducible show wpAny _ _ (subscriptTail _ _ (Value.ref _) (Value.int _ _)) _ _ _); k_dflt (refine get_blk (by k_asm) (by k_mem) (by first | with_reducible assumption | exact rfl) (by assumption) (by assumption) ?_ (by with_unfolding_all rfl) (by (intro _; with_unfolding_all rfl)); k_whole)))) | (k_unfold; (try dsimp only)) | (k_end; wrow_close) | walk1 | (dsimp only; walk1) | (leave1; walk_say "STEP leave1"; try dsimp only) | fail "no step")))
  skip
  (rename Fr _ _ _ _ => F')
  (rename News _ _ _ _ => N')
  refine While_brk (fun k m₁ news₁ => ∃ (p : Nat) (q c : Int) (lst : List Blk) (tp tc te : Tok), lst.length - p = k ∧ q = (p : Int) ∧ c = 2 * (p : Int) + 1 ∧ m₁ (Str.ofString "heap") = some (.ref l) ∧ m₁ (Str.ofString "startpos") = some (.int 0 tP) ∧ m₁ (Str.ofString "newitem") = some (.ref x.a) ∧
    m₁ (Str.ofString "pos") = some (.int q tp) ∧ m₁ (Str.ofString "childpos") = some (.int c tc) ∧ m₁ (Str.ofString "endpos") = some (.int (bs.length : Int) te) ∧ news₁ = (l, listOf (hv lst).toArray n) :: news ∧ p < lst.length ∧ lst.length = bs.length ∧
    (∃ f, lst.length - p ≤ f ∧ su f p lst = su bs.length 0 bs) ∧ (∀ b ∈ lst, BlkIn news b) ∧ (lst.set p x).Perm bs) (n₀ := bs.length) F' N' ?_ ?_
  · exact ⟨0, 0, _, bs, _, _, _, rfl, rfl, rfl, rfl, rfl, rfl, rfl, rfl, rfl, rfl, hpos0, rfl, ⟨bs.length, Nat.le_refl _, rfl⟩, hin, by rw [set_self_get hx]⟩
  · clear F' N'
    rintro k m₁ news₁ h₁ tk₁ F₁ N₁ ⟨p, q, c, lst, tp, tc, te, hmeas, hq, hc, e1, e2, e3, e4, e5, e6, rfl, hp, hl, ⟨f, hf, hsu⟩, hin₁, hperm⟩
    have F₂ := fr_chain [(Str.ofString "heap", .ref l), (Str.ofString "startpos", .int 0 tP), (Str.ofString "newitem", .ref x.a), (Str.ofString "pos", .int q tp), (Str.ofString "childpos", .int c tc), (Str.ofString "endpos", .int (bs.length : Int) te)] F₁ (allc (by assumption) (allc (by assumption) (allc (by assumption) (allc (by assumption) (allc (by assumption) (allc (by assumption) alln))))))
    clear F₁ e1 e2 e3 e4 e5 e6
    have hl₁ : lst.length < 1000 := by omega
    have hnd₁ : ((lst.set p x).map (·.k)).Nodup := (hperm.map _).nodup_iff.mpr hnd
    by_cases hgo : 2 * p + 1 < lst.length
    · have hidx : c = ((2 * p + 1 : Nat) : Int) := by omega
      have hidx2 : c + 1 = ((2 * p + 1 + 1 : Nat) : Int) := by omega
      obtain ⟨ca, hca⟩ : ∃ y, lst[2 * p + 1]? = some y := ⟨lst[2 * p + 1]'(by omega), List.getElem?_eq_getElem _⟩
      have hcain : BlkIn news ca := hin₁ _ (List.mem_of_getElem? hca)
      by_cases hr : 2 * p + 1 + 1 < lst.length
      · obtain ⟨cb, hcb⟩ : ∃ y, lst[2 * p + 1 + 1]? = some y := ⟨lst[2 * p + 1 + 1]'(by omega), List.getElem?_eq_getElem _⟩
        have hcbin : BlkIn news cb := hin₁ _ (List.mem_of_getElem? hcb)
        have hne : ca.k ≠ cb.k := nodup_get hnd₁ (i := 2 * p + 1) (j := 2 * p + 1 + 1) (by rw [List.getElem?_set_ne (by omega)]; exact hca) (by rw [List.getElem?_set_ne (by omega)]; exact hcb) (by omega)
        (repeat' ((fail_if_success ((with_reducible show wpAny _ _ (exec (PySem.Stmt.While _ _ _ _) _) _ _ _))); (first | (with_reducible ((k_here; (with_reducible show wpAny _ _ (call (Value.ref 42) _) _ _ _); k_dflt (refine siftdown_call (by k_asm) (by k_asm) (by k_asm) (by k_asm) rfl (by k_asm) (by assumption) (by assumption) (by assumption) (by assumption) (by assumption) (by ktr_room) (by ktr_units) (by assumption) (by assumption) (by assumption) ?_); intro h' tk' F' N'))) | (with_reducible ((k_here; (with_reducible show wpAny _ _ (call (Value.builtin "len") [Value.ref _]) _ _ _); k_dflt (refine len_blk (by k_asm) (by k_mem) (by assumption) ?_; k_whole)))) | (with_reducible ((k_here; (with_reducible show wpAny _ _ (compareOp _ (Value.ref _) (Value.ref _)) _ _ _); k_dflt (refine lt_blk (by k_asm) (by (intro _ hq; exact List.Mem.tail _ hq)) (by assumption) (by assumption) (by assumption) (by ktr_units) ?_; k_whole)))) | (with_reducible ((k_here; (with_reducible show wpAny _ _ (setItem (Value.ref _) (Value.int _ _) (Value.ref _)) _ _ _); k_dflt (refine set_blk (by k_asm) (by k_asm) (by assumption) (by first | with_reducible assumption | exact rfl) (by assumption) (by assumption) ?_; k_whole); intro h' F' N'))) | (with_reducible ((k_here; (with_reducible show wpAny _ _ (subscriptTail _ _ (Value.ref _) (Value.int _ _)) _ _ _); k_dflt (refine get_blk (by k_asm) (by k_mem) (by first | with_reducible assumption | exact rfl) (by assumption) (by assumption) ?_ (by with_unfolding_all rfl) (by (intro _; with_unfolding_all rfl)); k_whole)))) | (k_unfold; (try dsimp only)) | (k_end; wrow_close) | walk1 | (dsimp only; walk1) | (leave1; walk_say "STEP leave1"; try dsimp only) | fail "no step")))
        · refine ⟨_, _, _, _, lst.length - (2 * p + 1), rfl, by k_asm, by k_asm, by omega, 2 * p + 1, c, 2 * c + 1, lst.set p ca, _, _, _, by rw [List.length_set], by omega, by omega, rfl, rfl, rfl, rfl, rfl, rfl, rfl, by rw [List.length_set]; omega, by rw [List.length_set]; omega, ⟨f - 1, by rw [List.length_set]; omega, ?_⟩, ?_, (hole_perm hp hca (by omega)).trans hperm⟩
          · have e : child lst (2 * p + 1) = 2 * p + 1 := by rw [child_two hca hcb, if_pos (by omega)]
            rw [← hsu]; exact su_step e (by omega) hca
          · intro b hb
            rcases List.mem_or_eq_of_mem_set hb with hb | rfl
            · exact hin₁ _ hb
            · assumption
        · refine ⟨_, _, _, _, lst.length - (2 * p + 1 + 1), rfl, by k_asm, by k_asm, by omega, 2 * p + 1 + 1, (c + 1), 2 * (c + 1) + 1, lst.set p cb, _, _, _, by rw [List.length_set], by omega, by omega, rfl, rfl, rfl, rfl, rfl, rfl, rfl, by rw [List.length_set]; omega, by rw [List.length_set]; omega, ⟨f - 1, by rw [List.length_set]; omega, ?_⟩, ?_, (hole_perm hp hcb (by omega)).trans hperm⟩
          · have e : child lst (2 * p + 1) = 2 * p + 1 + 1 := by rw [child_two hca hcb, if_neg (by omega)]
            rw [← hsu]; exact su_step e (by omega) hcb
          · intro b hb
            rcases List.mem_or_eq_of_mem_set hb with hb | rfl
            · exact hin₁ _ hb
            · assumption
      · (repeat' ((fail_if_success ((with_reducible show wpAny _ _ (exec (PySem.Stmt.While _ _ _ _) _) _ _ _))); (first | (with_reducible ((k_here; (with_reducible show wpAny _ _ (call (Value.ref 42) _) _ _ _); k_dflt (refine siftdown_call (by k_asm) (by k_asm) (by k_asm) (by k_asm) rfl (by k_asm) (by assumption) (by assumption) (by assumption) (by assumption) (by assumption) (by ktr_room) (by ktr_units) (by assumption) (by assumption) (by assumption) ?_); intro h' tk' F' N'))) | (with_reducible ((k_here; (with_reducible show wpAny _ _ (call (Value.builtin "len") [Value.ref _]) _ _ _); k_dflt (refine len_blk (by k_asm) (by k_mem) (by assumption) ?_; k_whole)))) | (with_reducible ((k_here; (with_reducible show wpAny _ _ (compareOp _ (Value.ref _) (Value.ref _)) _ _ _); k_dflt (refine lt_blk (by k_asm) (by (intro _ hq; exact List.Mem.tail _ hq)) (by assumption) (by assumption) (by assumption) (by ktr_units) ?_; k_whole)))) | (with_reducible ((k_here; (with_reducible show wpAny _ _ (setItem (Value.ref _) (Value.int _ _) (Value.ref _)) _ _ _); k_dflt (refine set_blk (by k_asm) (by k_asm) (by assumption) (by first | with_reducible assumption | exact rfl) (by assumption) (by assumption) ?_; k_whole); intro h' F' N'))) | (with_reducible ((k_here; (with_reducible show wpAny _ _ (subscriptTail _ _ (Value.ref _) (Value.int _ _)) _ _ _); k_dflt (refine get_blk (by k_asm) (by k_mem) (by first | with_reducible assumption | exact rfl) (by assumption) (by assumption) ?_ (by with_unfolding_all rfl) (by (intro _; with_unfolding_all rfl)); k_whole)))) | (k_unfold; (try dsimp only)) | (k_end; wrow_close) | walk1 | (dsimp only; walk1) | (leave1; walk_say "STEP leave1"; try dsimp only) | fail "no step")))
        refine ⟨_, _, _, _, lst.length - (2 * p + 1), rfl, by k_asm, by k_asm, by omega, 2 * p + 1, c, 2 * c + 1, lst.set p ca, _, _, _, by rw [List.length_set], by omega, by omega, rfl, rfl, rfl, rfl, rfl, rfl, rfl, by rw [List.length_set]; omega, by rw [List.length_set]; omega, ⟨f - 1, by rw [List.length_set]; omega, ?_⟩, ?_, (hole_perm hp hca (by omega)).trans hperm⟩
        · have e : child lst (2 * p + 1) = 2 * p + 1 := child_one hr
          rw [← hsu]; exact su_step e (by omega) hca
        · intro b hb
          rcases List.mem_or_eq_of_mem_set hb with hb | rfl
          · exact hin₁ _ hb
          · assumption
    · have hS1 : p < (lst.set p x).length := by rw [List.length_set]; exact hp
      have hS2 : (lst.set p x).length < 1000 := by rw [List.length_set]; exact hl₁
      have hS3 : ∀ b ∈ lst.set p x, BlkIn news b := fun b hb => hin b (hperm.mem_iff.mp hb)
      have hS5 : (lst.set p x)[p]? = some x := List.getElem?_set_self hp
      have hS4 : ∀ i b, (lst.set p x)[i]? = some b → i ≠ p → b.k ≠ x.k := fun i b hb hi => nodup_get hnd₁ hb hS5 hi
      (repeat' ((fail_if_success ((with_reducible show wpAny _ _ (exec (PySem.Stmt.While _ _ _ _) _) _ _ _))); (first | (with_reducible ((k_here; (with_reducible show wpAny _ _ (call (Value.ref 42) _) _ _ _); k_dflt (refine siftdown_call (by k_asm) (by k_asm) (by k_asm) (by k_asm) rfl (by k_asm) (by assumption) (by assumption) (by assumption) (by assumption) (by assumption) (by ktr_room) (by ktr_units) (by assumption) (by assumption) (by assumption) ?_); intro h' tk' F' N'))) | (with_reducible ((k_here; (with_reducible show wpAny _ _ (call (Value.builtin "len") [Value.ref _]) _ _ _); k_dflt (refine len_blk (by k_asm) (by k_mem) (by assumption) ?_; k_whole)))) | (with_reducible ((k_here; (with_reducible show wpAny _ _ (compareOp _ (Value.ref _) (Value.ref _)) _ _ _); k_dflt (refine lt_blk (by k_asm) (by (intro _ hq; exact List.Mem.tail _ hq)) (by assumption) (by assumption) (by assumption) (by ktr_units) ?_; k_whole)))) | (with_reducible ((k_here; (with_reducible show wpAny _ _ (setItem (Value.ref _) (Value.int _ _) (Value.ref _)) _ _ _); k_dflt (refine set_blk (by k_asm) (by k_asm) (by assumption) (by first | with_reducible assumption | exact rfl) (by assumption) (by assumption) ?_; k_whole); intro h' F' N'))) | (with_reducible ((k_here; (with_reducible show wpAny _ _ (subscriptTail _ _ (Value.ref _) (Value.int _ _)) _ _ _); k_dflt (refine get_blk (by k_asm) (by k_mem) (by first | with_reducible assumption | exact rfl) (by assumption) (by assumption) ?_ (by with_unfolding_all rfl) (by (intro _; with_unfolding_all rfl)); k_whole)))) | (k_unfold; (try dsimp only)) | (k_end; wrow_close) | walk1 | (dsimp only; walk1) | (leave1; walk_say "STEP leave1"; try dsimp only) | fail "no step")))
      refine hret _ _ (by k_asm) ?_
      rw [← siftup_eq hsu hgo]
      k_asm
end
end Mine
end

/-! ## L4 -/
section
open PySem PySem.W PyProof.Rows PySem.Calls PySem.Spec PySem.SeqAt
set_option maxRecDepth 100000
namespace Mine
section
variable {prog : Program} {w : World} {A : Around} {E : Value → Shared → Prop} {s : Shared} {h₀ : Heap} {L l : Addr} {m : Str → Option Value} {news : List (Addr × Obj)} {n : Nat} {lst : List Blk} {b : Blk}
theorem append_val {vs : List Value} {v : Value} {Q : Value → Shared → Prop} (F : Fr h₀ L s.heap m) (N : News h₀ L s.heap ((l, listOf vs.toArray n) :: news)) (off : ∀ p ∈ news, p.1 ≠ l) (hz : vs.length < 1000)
    (h : ∀ h', Fr h₀ L h' m → News h₀ L h' ((l, listOf (vs ++ [v]).toArray (n + 1)) :: news) → Q .none { s with heap := h' }) :
    wpAny (model prog w) A (call (.builtin "list.append") [.ref l, v]) Q E s := by
  refine append_K F N (Upd.head off) (fun h' F' N' => h h' F' ?_) (by rw [List.size_toArray]; have := sizeLine_eq; omega)
  have e : vs.toArray.push v = (vs ++ [v]).toArray := by simp
  rw [e] at N'
  exact N'
theorem append_blk {Q : Value → Shared → Prop} (F : Fr h₀ L s.heap m) (N : News h₀ L s.heap ((l, listOf (hv lst).toArray n) :: news)) (off : ∀ p ∈ news, p.1 ≠ l) (hz : lst.length < 1000)
    (h : ∀ h', Fr h₀ L h' m → News h₀ L h' ((l, listOf (hv (lst ++ [b])).toArray (n + 1)) :: news) → Q .none { s with heap := h' }) :
    wpAny (model prog w) A (call (.builtin "list.append") [.ref l, .ref b.a]) Q E s := by
  refine append_val F N off (by simpa using hz) fun h' F' N' => h h' F' ?_
  have e : hv lst ++ [Value.ref b.a] = hv (lst ++ [b]) := by simp [hv]
  rw [e] at N'
  exact N'
theorem pop_blk {Q : Value → Shared → Prop} (F : Fr h₀ L s.heap m) (N : News h₀ L s.heap ((l, listOf (hv (lst ++ [b])).toArray n) :: news)) (off : ∀ p ∈ news, p.1 ≠ l) (hz : lst.length < 1000)
    (h : ∀ h', Fr h₀ L h' m → News h₀ L h' ((l, listOf (hv lst).toArray (n + 1)) :: news) → Q (.ref b.a) { s with heap := h' }) :
    wpAny (model prog w) A (call (.builtin "list.pop") [.ref l]) Q E s := by
  have e : hv (lst ++ [b]) = hv lst ++ [Value.ref b.a] := by simp [hv]
  rw [e] at N
  refine kl_pop F N (p := hv lst) (y := .ref b.a) ?_ (Upd.head off) (by simp; have := sizeLine_eq; omega) fun h' F' N' => h h' F' N'
  have e2 := kpa_last (.ref b.a) (hv lst)
  simpa using e2
theorem truthy_blk {all : List (Addr × Obj)} {Q : Bool → Shared → Prop} {bb : Bool} (N : News h₀ L s.heap all) (hm : (l, listOf (hv lst).toArray n) ∈ all) (hz : lst.length < 1000) (hb : (!lst.isEmpty) = bb) (h : Q bb { s with toks := s.toks + 1 + 1 }) :
    wpAny (model prog w) A (truthy (.ref l)) Q E s := by
  refine wpAny_truthy_list (News.isList N hm) (by simp; omega) ?_
  subst hb
  simpa using h
end
def push (bs : List Blk) (x : Blk) : List Blk := sd x 0 bs.length bs.length (bs ++ [x])
def popRest (bs : List Blk) (x : Blk) : List Blk := match bs with
  | [] => []
  | _ :: r => siftup (x :: r) x
def popHead (bs : List Blk) (x : Blk) : Blk := match bs with
  | [] => x
  | y :: _ => y
end Mine
end

/-! ## P5 -/
section
open PySem PySem.W PyProof.Rows PySem.Calls PySem.Spec PySem.SeqAt
set_option maxRecDepth 100000
namespace Mine
theorem fill_P5 (w : World) : PySem.Challenge.rw_ik0178_01 = PySem.Challenge.rw_ik0178_01 ∧ heapK w.params = heapK w.params := by
  k_fill
  exact ⟨rfl, rfl⟩
section
variable {prog : Program} {w : World} {loose : List Str} {mean : ExcName → Option Value} {mg mb : Str → Option Value}
variable {dp un : Nat} {gd : Option (List Code)} {cn : Str} {cs : Scope} {a : Addr} {ccd : Value} {cl : List (Str × Addr)} {outer : List Env} {A₀ : Around} {base h₀ : Heap} {L : Addr} {m : Str → Option Value} {news : List (Addr × Obj)} {s : Shared} {Q E : Value → Shared → Prop}




set_option maxHeartbeats 4000000 in
theorem push_spec (B : Below A₀ base outer h₀) (F : Fr h₀ L s.heap m) (X : (heapK w.params).In h₀) (T : Top viewQ loose mean mg mb h₀) (hk : cs.kind = .function)
  {l : Addr} {bs : List Blk} {x : Blk} {n : Nat}
  (N : News h₀ L s.heap ((l, listOf (hv bs).toArray n) :: news)) (off : ∀ p ∈ news, p.1 ≠ l)
  (hlen : bs.length < 900)
  (hdp : dp + 2 < recursionLimit) (hun : un + 16 < cLine)
  (hin : ∀ b ∈ bs, BlkIn news b) (hxin : BlkIn news x) (hne : ∀ b ∈ bs, b.k ≠ x.k)
  (hret : ∀ h' tk' n', Fr h₀ L h' m → News h₀ L h' ((l, listOf (hv (push bs x)).toArray n') :: news) → Q .none { s with heap := h', toks := tk' }) :
  wpAny (model prog w) (ktrTop dp un gd cn cs L a ccd cl outer) (call (.ref 28) [.ref l, .ref x.a]) Q E s := by
  refine wpAny_call ?_
  k_dflt cell_enter
  have hc0 : (0 : Int) = ((0 : Nat) : Int) := rfl
  have hl0 : bs.length < 1000 := by omega
  have hl1 : (bs ++ [x]).length < 1000 := by rw [List.length_append, List.length_singleton]; omega
  have hj : ((bs ++ [x]).length : Int) - 1 = ((bs.length : Nat) : Int) := by rw [List.length_append, List.length_singleton]; omega
  have hpos : bs.length < (bs ++ [x]).length := by rw [List.length_append, List.length_singleton]; omega
  have hx0 : (bs ++ [x])[bs.length]? = some x := by simp
  have hin1 : ∀ b ∈ bs ++ [x], BlkIn news b := by
    intro b hb
    rcases List.mem_append.mp hb with hb | hb
    · exact hin b hb
    · rw [List.mem_singleton.mp hb]; exact hxin
  have hd1 : ∀ i b, (bs ++ [x])[i]? = some b → i ≠ bs.length → b.k ≠ x.k := by
    intro i b hb hi
    refine hne b ?_
    rcases Nat.lt_or_ge i bs.length with h' | h'
    · rw [List.getElem?_append_left h'] at hb; exact List.mem_of_getElem? hb
    · rw [List.getElem?_append_right h', List.getElem?_singleton, if_neg (by omega)] at hb; cases hb
  (repeat' ((fail_if_success ((with_reducible show wpAny _ _ (exec (PySem.Stmt.While _ _ _ _) _) _ _ _))); (first | (with_reducible ((k_here; (with_reducible show wpAny _ _ (call (Value.ref 49) _) _ _ _); k_dflt (refine siftup_spec (by k_asm) (by k_asm) (by k_asm) (by k_asm) rfl (by k_asm) (by assumption) (by assumption) (by ktr_room) (by ktr_units) (by assumption) (by assumption) (by assumption) ?_); intro h' tk' F' N'))) | (with_reducible ((k_here; (with_reducible show wpAny _ _ (truthy (Value.ref _)) _ _ _); k_dflt (refine truthy_blk (by k_asm) (by k_mem) (by assumption) (by assumption) ?_; k_whole)))) | (with_reducible ((k_here; (with_reducible show wpAny _ _ (call (Value.builtin _) [Value.ref _]) _ _ _); k_dflt (refine pop_blk (by k_asm) (by k_asm) (by assumption) (by assumption) ?_; k_whole); intro h' F' N'))) | (with_reducible ((k_here; (with_reducible show wpAny _ _ (call (Value.builtin _) [Value.ref _, Value.ref _]) _ _ _); k_dflt (refine append_blk (by k_asm) (by k_asm) (by assumption) (by assumption) ?_; k_whole); intro h' F' N'))) | (with_reducible ((k_here; (with_reducible show wpAny _ _ (subscriptTail _ _ (Value.ref _) (Value.int _ _)) _ _ _); k_dflt (refine get_blk (by k_asm) (by k_mem) (by first | with_reducible assumption | exact rfl) (by assumption) (by assumption) ?_ (by with_unfolding_all rfl) (by (intro _; with_unfolding_all rfl)); k_whole)))) | (with_reducible ((k_here; (with_reducible show wpAny _ _ (call (Value.ref 42) _) _ _ _); k_dflt (refine siftdown_call (by k_asm) (by k_asm) (by k_asm) (by k_asm) rfl (by k_asm) (by assumption) (by assumption) (by assumption) (by assumption) (by assumption) (by ktr_room) (by ktr_units) (by assumption) (by assumption) (by assumption) ?_); intro h' tk' F' N'))) | (with_reducible ((k_here; (with_reducible show wpAny _ _ (call (Value.builtin "len") [Value.ref _]) _ _ _); k_dflt (refine len_blk (by k_asm) (by k_mem) (by assumption) ?_; k_whole)))) | (with_reducible ((k_here; (with_reducible show wpAny _ _ (compareOp _ (Value.ref _) (Value.ref _)) _ _ _); k_dflt (refine lt_blk (by k_asm) (by (intro _ hq; exact List.Mem.tail _ hq)) (by assumption) (by assumption) (by assumption) (by ktr_units) ?_; k_whole)))) | (with_reducible ((k_here; (with_reducible show wpAny _ _ (setItem (Value.ref _) (Value.int _ _) (Value.ref _)) _ _ _); k_dflt (refine set_blk (by k_asm) (by k_asm) (by assumption) (by first | with_reducible assumption | exact rfl) (by assumption) (by assumption) ?_; k_whole); intro h' F' N'))) | (k_unfold; (try dsimp only)) | (k_end; wrow_close) | walk1 | (dsimp only; walk1) | (leave1; walk_say "STEP leave1"; try dsimp only) | fail "no step")))
  exact hret _ _ _ (by k_asm) (by k_asm)
set_option maxHeartbeats 4000000 in
theorem pop_spec (B : Below A₀ base outer h₀) (F : Fr h₀ L s.heap m) (X : (heapK w.params).In h₀) (T : Top viewQ loose mean mg mb h₀) (hk : cs.kind = .function)
  {l : Addr} {bs : List Blk} {x : Blk} {n : Nat}
  (N : News h₀ L s.heap ((l, listOf (hv (bs ++ [x])).toArray n) :: news)) (off : ∀ p ∈ news, p.1 ≠ l)
  (hlen : bs.length < 900)
  (hdp : dp + 3 < recursionLimit) (hun : un + 24 < cLine)
  (hin : ∀ b ∈ bs ++ [x], BlkIn news b) (hnd : ((bs ++ [x]).map (·.k)).Nodup)
  (hret : ∀ h' tk' n', Fr h₀ L h' m → News h₀ L h' ((l, listOf (hv (popRest bs x)).toArray n') :: news) → Q (.ref (popHead bs x).a) { s with heap := h', toks := tk' }) :
  wpAny (model prog w) (ktrTop dp un gd cn cs L a ccd cl outer) (call (.ref 35) [.ref l]) Q E s := by
  refine wpAny_call ?_
  k_dflt cell_enter
  have hc0 : (0 : Int) = ((0 : Nat) : Int) := rfl
  have hl0 : bs.length < 1000 := by omega
  cases bs with
  | nil =>
    have hb : (!([] : List Blk).isEmpty) = false := rfl
    (repeat' ((fail_if_success ((with_reducible show wpAny _ _ (exec (PySem.Stmt.While _ _ _ _) _) _ _ _))); (first | (with_reducible ((k_here; (with_reducible show wpAny _ _ (call (Value.ref 49) _) _ _ _); k_dflt (refine siftup_spec (by k_asm) (by k_asm) (by k_asm) (by k_asm) rfl (by k_asm) (by assumption) (by assumption) (by ktr_room) (by ktr_units) (by assumption) (by assumption) (by assumption) ?_); intro h' tk' F' N'))) | (with_reducible ((k_here; (with_reducible show wpAny _ _ (truthy (Value.ref _)) _ _ _); k_dflt (refine truthy_blk (by k_asm) (by k_mem) (by assumption) (by assumption) ?_; k_whole)))) | (with_reducible ((k_here; (with_reducible show wpAny _ _ (call (Value.builtin _) [Value.ref _]) _ _ _); k_dflt (refine pop_blk (by k_asm) (by k_asm) (by assumption) (by assumption) ?_; k_whole); intro h' F' N'))) | (with_reducible ((k_here; (with_reducible show wpAny _ _ (call (Value.builtin _) [Value.ref _, Value.ref _]) _ _ _); k_dflt (refine append_blk (by k_asm) (by k_asm) (by assumption) (by assumption) ?_; k_whole); intro h' F' N'))) | (with_reducible ((k_here; (with_reducible show wpAny _ _ (subscriptTail _ _ (Value.ref _) (Value.int _ _)) _ _ _); k_dflt (refine get_blk (by k_asm) (by k_mem) (by first | with_reducible assumption | exact rfl) (by assumption) (by assumption) ?_ (by with_unfolding_all rfl) (by (intro _; with_unfolding_all rfl)); k_whole)))) | (with_reducible ((k_here; (with_reducible show wpAny _ _ (call (Value.ref 42) _) _ _ _); k_dflt (refine siftdown_call (by k_asm) (by k_asm) (by k_asm) (by k_asm) rfl (by k_asm) (by assumption) (by assumption) (by assumption) (by assumption) (by assumption) (by ktr_room) (by ktr_units) (by assumption) (by assumption) (by assumption) ?_); intro h' tk' F' N'))) | (with_reducible ((k_here; (with_reducible show wpAny _ _ (call (Value.builtin "len") [Value.ref _]) _ _ _); k_dflt (refine len_blk (by k_asm) (by k_mem) (by assumption) ?_; k_whole)))) | (with_reducible ((k_here; (with_reducible show wpAny _ _ (compareOp _ (Value.ref _) (Value.ref _)) _ _ _); k_dflt (refine lt_blk (by k_asm) (by (intro _ hq; exact List.Mem.tail _ hq)) (by assumption) (by assumption) (by assumption) (by ktr_units) ?_; k_whole)))) | (with_reducible ((k_here; (with_reducible show wpAny _ _ (setItem (Value.ref _) (Value.int _ _) (Value.ref _)) _ _ _); k_dflt (refine set_blk (by k_asm) (by k_asm) (by assumption) (by first | with_reducible assumption | exact rfl) (by assumption) (by assumption) ?_; k_whole); intro h' F' N'))) | (k_unfold; (try dsimp only)) | (k_end; wrow_close) | walk1 | (dsimp only; walk1) | (leave1; walk_say "STEP leave1"; try dsimp only) | fail "no step")))
    exact hret _ _ _ (by k_asm) (by k_asm)
  | cons y r =>
    have hb : (!(y :: r).isEmpty) = true := rfl
    have hy : (y :: r)[0]? = some y := rfl
    have h01 : 0 < (y :: r).length := by rw [List.length_cons]; omega
    have hs1 : ((y :: r).set 0 x).length < 1000 := by rw [List.length_set]; exact hl0
    have hx0 : ((y :: r).set 0 x)[0]? = some x := rfl
    have hin1 : ∀ b ∈ (y :: r).set 0 x, BlkIn news b := by
      intro b hb
      rcases List.mem_or_eq_of_mem_set hb with hb | rfl
      · exact hin b (List.mem_append_left _ hb)
      · exact hin b (List.mem_append_right _ (List.mem_singleton.mpr rfl))
    have hnd1 : (((y :: r).set 0 x).map (·.k)).Nodup := by
      have p : ((y :: r) ++ [x]).Perm (y :: ((y :: r).set 0 x)) := by
        show (y :: (r ++ [x])).Perm (y :: (x :: r))
        exact (List.perm_append_singleton x r).cons y
      have q := (p.map (·.k)).nodup_iff.mp hnd
      rw [List.map_cons, List.nodup_cons] at q
      exact q.2
    (repeat' ((fail_if_success ((with_reducible show wpAny _ _ (exec (PySem.Stmt.While _ _ _ _) _) _ _ _))); (first | (with_reducible ((k_here; (with_reducible show wpAny _ _ (call (Value.ref 49) _) _ _ _); k_dflt (refine siftup_spec (by k_asm) (by k_asm) (by k_asm) (by k_asm) rfl (by k_asm) (by assumption) (by assumption) (by ktr_room) (by ktr_units) (by assumption) (by assumption) (by assumption) ?_); intro h' tk' F' N'))) | (with_reducible ((k_here; (with_reducible show wpAny _ _ (truthy (Value.ref _)) _ _ _); k_dflt (refine truthy_blk (by k_asm) (by k_mem) (by assumption) (by assumption) ?_; k_whole)))) | (with_reducible ((k_here; (with_reducible show wpAny _ _ (call (Value.builtin _) [Value.ref _]) _ _ _); k_dflt (refine pop_blk (by k_asm) (by k_asm) (by assumption) (by assumption) ?_; k_whole); intro h' F' N'))) | (with_reducible ((k_here; (with_reducible show wpAny _ _ (call (Value.builtin _) [Value.ref _, Value.ref _]) _ _ _); k_dflt (refine append_blk (by k_asm) (by k_asm) (by assumption) (by assumption) ?_; k_whole); intro h' F' N'))) | (with_reducible ((k_here; (with_reducible show wpAny _ _ (subscriptTail _ _ (Value.ref _) (Value.int _ _)) _ _ _); k_dflt (refine get_blk (by k_asm) (by k_mem) (by first | with_reducible assumption | exact rfl) (by assumption) (by assumption) ?_ (by with_unfolding_all rfl) (by (intro _; with_unfolding_all rfl)); k_whole)))) | (with_reducible ((k_here; (with_reducible show wpAny _ _ (call (Value.ref 42) _) _ _ _); k_dflt (refine siftdown_call (by k_asm) (by k_asm) (by k_asm) (by k_asm) rfl (by k_asm) (by assumption) (by assumption) (by assumption) (by assumption) (by assumption) (by ktr_room) (by ktr_units) (by assumption) (by assumption) (by assumption) ?_); intro h' tk' F' N'))) | (with_reducible ((k_here; (with_reducible show wpAny _ _ (call (Value.builtin "len") [Value.ref _]) _ _ _); k_dflt (refine len_blk (by k_asm) (by k_mem) (by assumption) ?_; k_whole)))) | (with_reducible ((k_here; (with_reducible show wpAny _ _ (compareOp _ (Value.ref _) (Value.ref _)) _ _ _); k_dflt (refine lt_blk (by k_asm) (by (intro _ hq; exact List.Mem.tail _ hq)) (by assumption) (by assumption) (by assumption) (by ktr_units) ?_; k_whole)))) | (with_reducible ((k_here; (with_reducible show wpAny _ _ (setItem (Value.ref _) (Value.int _ _) (Value.ref _)) _ _ _); k_dflt (refine set_blk (by k_asm) (by k_asm) (by assumption) (by first | with_reducible assumption | exact rfl) (by assumption) (by assumption) ?_; k_whole); intro h' F' N'))) | (k_unfold; (try dsimp only)) | (k_end; wrow_close) | walk1 | (dsimp only; walk1) | (leave1; walk_say "STEP leave1"; try dsimp only) | fail "no step")))
    exact hret _ _ _ (by k_asm) (by k_asm)
end
end Mine
end

/-! ## L5 -/
section
open PySem PySem.W PyProof.Rows PySem.Calls PySem.Spec PySem.SeqAt
set_option maxRecDepth 100000
namespace Mine
section
variable {prog : Program} {w : World} {A : Around} {E : Value → Shared → Prop} {s : Shared}
theorem issub_nested_str {tk : Tok} {d : Int} {Q : PySem.Fin → Shared → Prop} (hq : Q (.done (.ret (.bool true))) s) :
    wpAny (model prog w) A (Builtin.«issubclass.nested» ⟨[.type "str", .type "str", .int d tk], []⟩) Q E s := by
  have h1 : isSubtype (.type "str") (.type "str") = pure true := by rw [isSubtype_type]; kernel_rfl
  have h2 : ((Manifest.find? "str").elim "type" (·.metatype)) = "type" := by decide +kernel
  repeat (any_goals (first | assumption | (rw [h2]) | (rw [h1]) | wp_step))
theorem code_issub_str {tk : Tok} {d : Int} {R : Result → Shared → Prop} (hq : R (.ok (.ret (.bool true))) s) :
    codeAny (model prog w) A (.call (.builtin "issubclass.nested") ⟨[.type "str", .type "str", .int d tk], []⟩) R s := by
  refine codeAny_call_builtin (by decide +kernel) F.entry_issubclass_nested ?_
  have hfin := issub_nested_str (prog := prog) (w := w) (A := A.in1) (E := fun e s' => R (.error e) s') (s := s) (tk := tk) (d := d)
    (Q := fun fin s' => match fin with | .done f => R (.ok f) s' | .again c' => c'.quiet = true ∧ codeAny (model prog w) A c' R s') hq
  simp only [checkBuiltinCall, (by decide +kernel : builtinKind "issubclass.nested" = none)]
  have hsig : Manifest.signature? "issubclass.nested" = none := by decide +kernel
  rw [hsig]
  exact wpAny_pure hfin
theorem issub_nested_tup {t : Addr} {n : Nat} {v : Value} {dd : Option Addr} {sl : Array (Option Value)} {R : Result → Shared → Prop} (ht : s.heap.get? t = some { cls := .type "tuple", dict := dd, data := .seq #[.type "str", v] n, slots := sl })
    (hq : R (.ok (.ret (.bool true))) s) :
    wpAny (model prog w) A.in1 (Builtin.«issubclass.nested» ⟨[.type "str", .ref t, rawInt 0], []⟩)
      (fun fin s' => match fin with | .done f => R (.ok f) s' | .again c' => c'.quiet = true ∧ codeAny (model prog w) A c' R s') (fun e s' => R (.error e) s') s := by
  obtain ⟨hp, g, d, tk, os⟩ := s
  have f2 := AutoSeq1.sub_tuple_tuple
  wp_walk using AutoSeq1.wpAny_loadPart' ht
  refine code_issub_str ?_
  dsimp only
  wp_walk
  exact hq
theorem issub_tup {t : Addr} {n : Nat} {v : Value} {dd : Option Addr} {sl : Array (Option Value)} :
    Meets (Builtin.«issubclass» ⟨[.type "str", .ref t], []⟩) (fun _ R s => s.heap.get? t = some { cls := .type "tuple", dict := dd, data := .seq #[.type "str", v] n, slots := sl } ∧ R (.ok (.ret (.bool true))) s) :=
  fun _ _ _ _ _ hs => issubclass_outer (issub_nested_tup hs.1 hs.2)
theorem call_issub {h₀ : Heap} {L t : Addr} {news : List (Addr × Obj)} {n : Nat} {v : Value} {Q : Value → Shared → Prop} (N : News h₀ L s.heap news) (hm : (t, ({ cls := .type "tuple", data := .seq #[.type "str", v] n } : Obj)) ∈ news) (h : Q (.bool true) s) :
    wpAny (model prog w) A (call (.builtin "issubclass") [.type "str", .ref t]) Q E s :=
  call_issubclass issub_tup ⟨(N _ hm).1, h⟩
end
theorem news_tail {h₀ h : Heap} {L : Addr} {q : Addr × Obj} {news : List (Addr × Obj)} (N : News h₀ L h (q :: news)) : News h₀ L h news := fun p hp => N p (.tail _ hp)
end Mine
end

/-! ## P6 -/
section
open PySem PySem.W PyProof.Rows PySem.Calls PySem.Spec PySem.SeqAt
set_option maxRecDepth 100000
namespace Mine
theorem fill_P6 (w : World) : PySem.Challenge.rw_ik0178_01 = PySem.Challenge.rw_ik0178_01 ∧ heapK w.params = heapK w.params := by
  k_fill
  exact ⟨rfl, rfl⟩
section
variable {prog : Program} {w : World} {loose : List Str} {mean : ExcName → Option Value} {mg mb : Str → Option Value}
variable {dp un : Nat} {gd : Option (List Code)} {cn : Str} {cs : Scope} {a : Addr} {ccd : Value} {cl : List (Str × Addr)} {outer : List Env} {A₀ : Around} {base h₀ : Heap} {L : Addr} {m : Str → Option Value} {news : List (Addr × Obj)} {s : Shared} {Q E : Value → Shared → Prop}


set_option maxHeartbeats 4000000 in
theorem fspath_spec (B : Below A₀ base outer h₀) (F : Fr h₀ L s.heap m) (X : (heapK w.params).In h₀) (N : News h₀ L s.heap news) (T : Top viewQ loose mean mg mb h₀) (hk : cs.kind = .function)
  (hdp : dp + 1 < recursionLimit) (hun : un + 8 < cLine) {x : Str} {tk : Tok}
  (hret : ∀ h' tk', Fr h₀ L h' m → News h₀ L h' news → Q (.str x tk) { s with heap := h', toks := tk' }) :
  wpAny (model prog w) (ktrTop dp un gd cn cs L a ccd cl outer) (call (.ref 130) [.str x tk]) Q E s := by
  refine wpAny_call ?_
  k_dflt cell_enter
  (repeat' ((first | (with_reducible ((k_here; (with_reducible show wpAny _ _ (call (Value.builtin _) [Value.type _, Value.ref _]) _ _ _); k_dflt (refine call_issub (by k_asm) (by k_mem) ?_; k_whole)))) | (k_unfold; (try dsimp only)) | (k_end; wrow_close) | walk1 | (dsimp only; walk1) | (leave1; walk_say "STEP leave1"; try dsimp only) | fail "no step")))
  exact hret _ _ (by k_asm) (news_tail (by k_asm))
set_option maxHeartbeats 4000000 in
theorem getsep_spec (B : Below A₀ base outer h₀) (F : Fr h₀ L s.heap m) (X : (heapK w.params).In h₀) (N : News h₀ L s.heap news) (T : Top viewQ loose mean mg mb h₀) (hk : cs.kind = .function)
  (hdp : dp + 1 < recursionLimit) (hun : un + 8 < cLine) {x : Str} {tk : Tok}
  (hret : ∀ t h' tk', Fr h₀ L h' m → News h₀ L h' news → Q (.str (Str.ofString "/") t) { s with heap := h', toks := tk' }) :
  wpAny (model prog w) (ktrTop dp un gd cn cs L a ccd cl outer) (call (.ref 144) [.str x tk]) Q E s := by
  refine wpAny_call ?_
  k_dflt cell_enter
  (repeat' ((first | (with_reducible ((k_here; (with_reducible show wpAny _ _ (call (Value.builtin _) [Value.type _, Value.ref _]) _ _ _); k_dflt (refine call_issub (by k_asm) (by k_mem) ?_; k_whole)))) | (k_unfold; (try dsimp only)) | (k_end; wrow_close) | walk1 | (dsimp only; walk1) | (leave1; walk_say "STEP leave1"; try dsimp only) | fail "no step")))
  all_goals exact hret _ _ _ (by k_asm) (by k_asm)
end
end Mine
end

/-! ## L6 -/
section
open PySem PySem.W PyProof.Rows PySem.Calls PySem.Spec PySem.SeqAt
set_option maxRecDepth 100000
namespace Mine
def joinStr (x y : Str) : Str := if Txt.endswith x (Str.ofString "/") = true then x ++ y else x ++ (Str.ofString "/" ++ y)
def FStep (h₀ : Heap) (L : Addr) (s : Shared) (J : (Str → Option Value) → List (Addr × Obj) → Prop) (srcs : List (Addr × Obj)) (I : Addr) (oI : Obj) (Q : Flow → Shared → Prop) (f : Flow) (s₃ : Shared) : Prop :=
  match f with
  | .brk => Q .next s₃
  | .ret v => Q (.ret v) s₃
  | _ => ∃ h' tk m₂ all news₂, s₃ = { s with heap := h', toks := tk } ∧ Fr h₀ L h' m₂ ∧ News h₀ L h' all ∧ (∀ p ∈ (I, oI) :: news₂, p ∈ all) ∧ (∀ p ∈ srcs, p ∈ news₂) ∧ (∀ p ∈ news₂, p.1 ≠ I) ∧ J m₂ news₂

section
variable {prog : Program} {w : World} {A : Around} {E : Value → Shared → Prop} {s : Shared} {env : Env} {h₀ : Heap} {target : Expr} {body orelse : List Stmt} {Q : Flow → Shared → Prop} {m : Str → Option Value} {news : List (Addr × Obj)}

theorem forLoop_W {I : Addr} {fp : List Addr} {n : Nat} {P : Nat → Value → Prop} {St : Nat → Heap → Prop} {srcs : List (Addr × Obj)} (W : Walks prog w A I fp [I] n P St)
    (hfp : ∀ b ∈ fp, b = I ∨ ∃ o, (b, o) ∈ srcs) (hIo : ∀ i h, St i h → ∃ o, h.get? I = some o) (hIL : env.locals ≠ I) (hI₀ : h₀.get? I = none)
    (hgo : ∀ i (s' : Shared) v (Q' : Unit → Shared → Prop), St i s'.heap → Q' () s' → wpAny (model prog w) A (letOwnedTupleGo target (.ref I) v) Q' (fun _ _ => False) s')
    (J : Nat → (Str → Option Value) → List (Addr × Obj) → Prop) (hst : St 0 s.heap) (F : Fr h₀ env.locals s.heap m) (N : News h₀ env.locals s.heap news) (hsrc : ∀ p ∈ srcs, p ∈ news) (hoff : ∀ p ∈ news, p.1 ≠ I) (h0 : J 0 m news)
    (step : ∀ i v m₁ news₁ oI h₁ tk₁, i < n → P i v → J i m₁ news₁ → (∀ p ∈ srcs, p ∈ news₁) → (∀ p ∈ news₁, p.1 ≠ I) → Fr h₀ env.locals h₁ m₁ → News h₀ env.locals h₁ ((I, oI) :: news₁) →
      wpAny (model prog w) A (assign target env v) (fun _ s₂ => wpAny (model prog w) A (execs body env) (FStep h₀ env.locals s (J (i + 1)) srcs I oI Q) (fun _ _ => False) s₂) (fun _ _ => False) { s with heap := h₁, toks := tk₁ })
    (done : ∀ m₁ news₁ h₁ tk₁, J n m₁ news₁ → (∀ p ∈ srcs, p ∈ news₁) → Fr h₀ env.locals h₁ m₁ → News h₀ env.locals h₁ news₁ → wpAny (model prog w) A (execs orelse env) Q (fun _ _ => False) { s with heap := h₁, toks := tk₁ }) :
    codeAny (model prog w) A (.forLoop target (.ref I) body orelse env) (fun r s' => match r with | .ok f => Q f s' | .error e => cameBackBy (model prog w) A env E e s') s := by
  refine codeAny_forLoop_any
    (fun k s' => ∃ h' tk m' news' i, s' = { s with heap := h', toks := tk } ∧ St i h' ∧ Fr h₀ env.locals h' m' ∧ News h₀ env.locals h' news' ∧ (∀ p ∈ srcs, p ∈ news') ∧ (∀ p ∈ news', p.1 ≠ I) ∧ J i m' news' ∧ i ≤ n ∧ k = n + 1 - i) ?_ (n + 1)
    ⟨s.heap, s.toks, m, news, 0, rfl, hst, F, N, hsrc, hoff, h0, Nat.zero_le _, rfl⟩
  rintro k s' ⟨h', tk, m', news', i, rfl, hst', F', N', hsrc', hoff', hJ, hi, rfl⟩
  have next : ∀ h₁ : Heap, (∀ b o, b ∉ [I] → h'.get? b = some o → h₁.get? b = some o) → Fr h₀ env.locals h₁ m' ∧ News h₀ env.locals h₁ news' := fun h₁ hk₁ =>
    ⟨⟨F'.ns.at' fun o e => hk₁ _ o (by simpa using hIL) e, fun b o e => hk₁ b o (fun hb => by rw [List.mem_singleton.mp hb, hI₀] at e; cases e) (F'.keep b o e), F'.above⟩, fun p hp => ⟨hk₁ _ _ (by simpa using hoff' p hp) (N' p hp).1, (N' p hp).2⟩⟩
  by_cases hlt : i < n
  · refine W.item i _ _ _ hlt hst' fun v h₁ tk₁ hP hst₁ hk₁ => ?_
    obtain ⟨F₁, N₁⟩ := next h₁ hk₁
    obtain ⟨oI, hoI⟩ := hIo _ _ hst₁
    have N₂ : News h₀ env.locals h₁ ((I, oI) :: news') := fun p hp => by
      rcases List.mem_cons.mp hp with rfl | hp
      · exact ⟨hoI, Ne.symm hIL, hI₀⟩
      · exact N₁ p hp
    refine wpAny_mono (hgo (i + 1) { s with heap := h₁, toks := tk₁ } v (fun _ s₁' => wpAny (model prog w) A (assign target env v) (fun _ s₂ => wpAny (model prog w) A (execs body env) (FStep h₀ env.locals s (J (i + 1)) srcs I oI Q) (fun _ _ => False) s₂) (fun _ _ => False) s₁') hst₁ (step i v m' news' oI h₁ tk₁ hlt hP hJ hsrc' hoff' F₁ N₂)) (fun _ s₁' x => ?_) (fun _ _ x => x.elim)
    refine wpAny_mono x (fun _ s₂ h₂ => wpAny_mono h₂ (fun f s₃ h₃ => ?_) (fun _ _ x => x.elim)) (fun _ _ x => x.elim)
    have fin : (∃ h' tk m₂ all news₂, s₃ = { s with heap := h', toks := tk } ∧ Fr h₀ env.locals h' m₂ ∧ News h₀ env.locals h' all ∧ (∀ p ∈ (I, oI) :: news₂, p ∈ all) ∧ (∀ p ∈ srcs, p ∈ news₂) ∧ (∀ p ∈ news₂, p.1 ≠ I) ∧ J (i + 1) m₂ news₂) →
        ∃ k', k' < n + 1 - i ∧ ∃ h' tk m' news' i, s₃ = { s with heap := h', toks := tk } ∧ St i h' ∧ Fr h₀ env.locals h' m' ∧ News h₀ env.locals h' news' ∧ (∀ p ∈ srcs, p ∈ news') ∧ (∀ p ∈ news', p.1 ≠ I) ∧ J i m' news' ∧ i ≤ n ∧ k' = n + 1 - i := by
      rintro ⟨h₃', tk₃, m₂, all, news₂, rfl, F₃, N₃, hall, hs₃, ho₃, hJ₃⟩
      refine ⟨n + 1 - (i + 1), by omega, h₃', tk₃, m₂, news₂, i + 1, rfl, ?_, F₃, fun p hp => N₃ p (hall p (.tail _ hp)), hs₃, ho₃, hJ₃, hlt, rfl⟩
      refine W.frame _ _ _ hst₁ fun b hb o e => ?_
      rcases hfp b hb with rfl | ⟨ob, hob⟩
      · rw [hoI] at e; cases e
        exact (N₃ _ (hall _ (.head _))).1
      · have e' := (N₁ _ (hsrc' _ hob)).1
        rw [e'] at e; cases e
        exact (N₃ _ (hall _ (.tail _ (hs₃ _ hob)))).1
    cases f with
    | brk => exact h₃
    | ret v => exact h₃
    | next => exact fin h₃
    | cont => exact fin h₃
  · have hin : i = n := by omega
    subst hin
    refine W.done _ _ _ hst' fun h₁ tk₁ hk₁ => ?_
    obtain ⟨F₁, N₁⟩ := next h₁ hk₁
    exact wpAny_mono (done m' news' h₁ tk₁ hJ hsrc' F₁ N₁) (fun f s₃ h₃ => h₃) (fun _ _ x => x.elim)

/-- over a list of the ledger -/
theorem iter_list_J {ax : Addr} {vs : List Value} {nn : Nat} (hh : A.handled = none) (F : Fr h₀ env.locals s.heap m) (N : News h₀ env.locals s.heap news) (hm : (ax, listOf vs.toArray nn) ∈ news)
    (J : Nat → (Str → Option Value) → List (Addr × Obj) → Prop) (h0 : J 0 m news)
    (step : ∀ i v m₁ news₁ I oI h₁ tk₁, vs[i]? = some v → J i m₁ news₁ → (ax, listOf vs.toArray nn) ∈ news₁ → (∀ p ∈ news₁, p.1 ≠ I) → Fr h₀ env.locals h₁ m₁ → News h₀ env.locals h₁ ((I, oI) :: news₁) →
      wpAny (model prog w) A (assign target env v) (fun _ s₂ => wpAny (model prog w) A (execs body env) (FStep h₀ env.locals s (J (i + 1)) [(ax, listOf vs.toArray nn)] I oI Q) (fun _ _ => False) s₂) (fun _ _ => False) { s with heap := h₁, toks := tk₁ })
    (done : ∀ m₁ news₁ h₁ tk₁, J vs.length m₁ news₁ → (ax, listOf vs.toArray nn) ∈ news₁ → Fr h₀ env.locals h₁ m₁ → News h₀ env.locals h₁ news₁ → wpAny (model prog w) A (execs orelse env) Q (fun _ _ => False) { s with heap := h₁, toks := tk₁ }) :
    wpAny (model prog w) A (pyIter (.ref ax)) (fun it s₂ => codeAny (model prog w) A (.forLoop target it body orelse env) (fun r s' => match r with | .ok f => Q f s' | .error e => cameBackBy (model prog w) A env E e s') s₂) E s := by
  have hls : s.heap.IsList ax vs.toArray := PySem.IsL.isList (n := nn) (N _ hm).1
  obtain ⟨ol, hol, _⟩ := id hls
  have hne : ax ≠ s.heap.objs.size := Nat.ne_of_lt (Heap.lt_size hol)
  refine wpAny_pyIter_list hls ?_
  have W := Walks.list (prog := prog) (w := w) hh s.heap.objs.size ax hne vs.toArray
  refine forLoop_W (s := { s with heap := s.heap.push _ }) (srcs := [(ax, listOf vs.toArray nn)]) W (fun b hb => ?_) (fun i h st => ?_) (Nat.ne_of_lt F.ns.lt) (next_is_new F) (fun i s' v Q' st hQ' => letGo_listiter st.1 hQ') J
    ⟨⟨_, Heap.get?_push_size _ rfl, rfl, rfl⟩, hls.at fun o e => Heap.get?_push_of_some _ e⟩ (F.push _) (fun p hp => ⟨Heap.get?_push_of_some _ (N p hp).1, (N p hp).2⟩)
    (fun p hp => by rw [List.mem_singleton.mp hp]; exact hm) (fun p hp => Nat.ne_of_lt (Heap.lt_size (N p hp).1)) h0 ?_ ?_
  · rcases List.mem_cons.mp hb with rfl | hb
    · exact .inl rfl
    · exact .inr ⟨_, by rw [List.mem_singleton.mp hb]; exact .head _⟩
  · obtain ⟨o, ho, _⟩ := st.1
    exact ⟨o, ho⟩
  · intro i v m₁ news₁ oI h₁ tk₁ _ hP hJ hs ho F₁ N₁
    exact step i v m₁ news₁ _ oI h₁ tk₁ (by simpa using hP) hJ (hs _ (.head _)) ho F₁ N₁
  · intro m₁ news₁ h₁ tk₁ hJ hs F₁ N₁
    exact done m₁ news₁ h₁ tk₁ (by simpa using hJ) (hs _ (.head _)) F₁ N₁
/-- over a tuple of the ledger, by names -/
theorem iter_tuple_J {ax : Addr} {vs : List Value} {nn : Nat} (hh : A.handled = none) (F : Fr h₀ env.locals s.heap m) (N : News h₀ env.locals s.heap news) (hm : (ax, ({ cls := .type "tuple", data := .seq vs.toArray nn } : Obj)) ∈ news)
    (hgo : ∀ it v, letOwnedTupleGo target it v = pure ())
    (J : Nat → (Str → Option Value) → List (Addr × Obj) → Prop) (h0 : J 0 m news)
    (step : ∀ i v m₁ news₁ I oI h₁ tk₁, vs[i]? = some v → J i m₁ news₁ → (ax, ({ cls := .type "tuple", data := .seq vs.toArray nn } : Obj)) ∈ news₁ → (∀ p ∈ news₁, p.1 ≠ I) → Fr h₀ env.locals h₁ m₁ → News h₀ env.locals h₁ ((I, oI) :: news₁) →
      wpAny (model prog w) A (assign target env v) (fun _ s₂ => wpAny (model prog w) A (execs body env) (FStep h₀ env.locals s (J (i + 1)) [(ax, ({ cls := .type "tuple", data := .seq vs.toArray nn } : Obj))] I oI Q) (fun _ _ => False) s₂) (fun _ _ => False) { s with heap := h₁, toks := tk₁ })
    (done : ∀ m₁ news₁ h₁ tk₁, J vs.length m₁ news₁ → (ax, ({ cls := .type "tuple", data := .seq vs.toArray nn } : Obj)) ∈ news₁ → Fr h₀ env.locals h₁ m₁ → News h₀ env.locals h₁ news₁ → wpAny (model prog w) A (execs orelse env) Q (fun _ _ => False) { s with heap := h₁, toks := tk₁ }) :
    wpAny (model prog w) A (pyIter (.ref ax)) (fun it s₂ => codeAny (model prog w) A (.forLoop target it body orelse env) (fun r s' => match r with | .ok f => Q f s' | .error e => cameBackBy (model prog w) A env E e s') s₂) E s := by
  have hls : s.heap.IsTuple ax vs.toArray := ⟨_, (N _ hm).1, rfl, nn, rfl⟩
  have hne : ax ≠ s.heap.objs.size := Nat.ne_of_lt (Heap.lt_size (N _ hm).1)
  refine wpAny_pyIter_tuple hls ?_
  have W := Walks.tuple (prog := prog) (w := w) hh s.heap.objs.size ax hne vs.toArray
  refine forLoop_W (s := { s with heap := s.heap.push _ }) (srcs := [(ax, ({ cls := .type "tuple", data := .seq vs.toArray nn } : Obj))]) W (fun b hb => ?_) (fun i h st => ?_) (Nat.ne_of_lt F.ns.lt) (next_is_new F) (fun i s' v Q' st hQ' => wpAny_of_eq (hgo _ _) hQ') J
    ⟨⟨_, Heap.get?_push_size _ rfl, rfl, rfl⟩, hls.at fun o e => Heap.get?_push_of_some _ e⟩ (F.push _) (fun p hp => ⟨Heap.get?_push_of_some _ (N p hp).1, (N p hp).2⟩)
    (fun p hp => by rw [List.mem_singleton.mp hp]; exact hm) (fun p hp => Nat.ne_of_lt (Heap.lt_size (N p hp).1)) h0 ?_ ?_
  · rcases List.mem_cons.mp hb with rfl | hb
    · exact .inl rfl
    · exact .inr ⟨_, by rw [List.mem_singleton.mp hb]; exact .head _⟩
  · obtain ⟨o, ho, _⟩ := st.1
    exact ⟨o, ho⟩
  · intro i v m₁ news₁ oI h₁ tk₁ _ hP hJ hs ho F₁ N₁
    exact step i v m₁ news₁ _ oI h₁ tk₁ (by simpa using hP) hJ (hs _ (.head _)) ho F₁ N₁
  · intro m₁ news₁ h₁ tk₁ hJ hs F₁ N₁
    exact done m₁ news₁ h₁ tk₁ (by simpa using hJ) (hs _ (.head _)) F₁ N₁
/-- over a range by ones -/
theorem iter_range_J {r : Addr} {a b : Int} {t u v : Tok} {n : Nat} (hh : A.handled = none) (F : Fr h₀ env.locals s.heap m) (N : News h₀ env.locals s.heap news) (hr : IsRange s.heap r a b 1 t u v)
    (hsmall : Builtin.Range.small a b 1 = true) (hn : Builtin.Range.rangeSize a b 1 = (n : Int)) (hgo : ∀ it v, letOwnedTupleGo target it v = pure ())
    (J : Nat → (Str → Option Value) → List (Addr × Obj) → Prop) (h0 : J 0 m news)
    (step : ∀ i v m₁ news₁ I oI h₁ tk₁, i < n → (∃ t, v = .int (a + i * 1) t) → J i m₁ news₁ → (∀ p ∈ news₁, p.1 ≠ I) → Fr h₀ env.locals h₁ m₁ → News h₀ env.locals h₁ ((I, oI) :: news₁) →
      wpAny (model prog w) A (assign target env v) (fun _ s₂ => wpAny (model prog w) A (execs body env) (FStep h₀ env.locals s (J (i + 1)) [] I oI Q) (fun _ _ => False) s₂) (fun _ _ => False) { s with heap := h₁, toks := tk₁ })
    (done : ∀ m₁ news₁ h₁ tk₁, J n m₁ news₁ → Fr h₀ env.locals h₁ m₁ → News h₀ env.locals h₁ news₁ → wpAny (model prog w) A (execs orelse env) Q (fun _ _ => False) { s with heap := h₁, toks := tk₁ }) :
    wpAny (model prog w) A (pyIter (.ref r)) (fun it s₂ => codeAny (model prog w) A (.forLoop target it body orelse env) (fun r s' => match r with | .ok f => Q f s' | .error e => cameBackBy (model prog w) A env E e s') s₂) E s := by
  refine wpAny_pyIter_range hr hsmall ?_
  have W := Walks.range (prog := prog) (w := w) hh s.heap.objs.size a 1 n
  refine forLoop_W (s := { s with heap := s.heap.push _ }) (srcs := []) W (fun b hb => .inl (List.mem_singleton.mp hb)) (fun i h st => ⟨_, st⟩) (Nat.ne_of_lt F.ns.lt) (next_is_new F) (fun i s' v Q' st hQ' => wpAny_of_eq (hgo _ _) hQ') J
    ?_ (F.push _) (fun p hp => ⟨Heap.get?_push_of_some _ (N p hp).1, (N p hp).2⟩)
    (fun p hp => nomatch hp) (fun p hp => Nat.ne_of_lt (Heap.lt_size (N p hp).1)) h0 ?_ ?_
  · show IsRangeIter _ _ _ _ _
    rw [hn]
    simpa using Heap.get?_push_size _ rfl
  · intro i v m₁ news₁ oI h₁ tk₁ hi hP hJ hs ho F₁ N₁
    exact step i v m₁ news₁ _ oI h₁ tk₁ hi hP hJ ho F₁ N₁
  · intro m₁ news₁ h₁ tk₁ hJ hs F₁ N₁
    exact done m₁ news₁ h₁ tk₁ hJ F₁ N₁
end
end Mine
end

/-! ## P7 -/
section
open PySem PySem.W PyProof.Rows PySem.Calls PySem.Spec PySem.SeqAt
set_option maxRecDepth 100000
namespace Mine
theorem fill_P7 (w : World) : PySem.Challenge.rw_ik0178_01 = PySem.Challenge.rw_ik0178_01 ∧ heapK w.params = heapK w.params := by
  k_fill
  exact ⟨rfl, rfl⟩
section
variable {prog : Program} {w : World} {loose : List Str} {mean : ExcName → Option Value} {mg mb : Str → Option Value}
variable {dp un : Nat} {gd : Option (List Code)} {cn : Str} {cs : Scope} {a : Addr} {ccd : Value} {cl : List (Str × Addr)} {outer : List Env} {A₀ : Around} {base h₀ : Heap} {L : Addr} {m : Str → Option Value} {news : List (Addr × Obj)} {s : Shared} {Q E : Value → Shared → Prop}



set_option maxHeartbeats 4000000 in
theorem join_spec (B : Below A₀ base outer h₀) (F : Fr h₀ L s.heap m) (X : (heapK w.params).In h₀) (N : News h₀ L s.heap news) (T : Top viewQ loose mean mg mb h₀) (hk : cs.kind = .function)
  (hdp : dp + 2 < recursionLimit) (hun : un + 16 < cLine) {x y : Str} {tx ty : Tok} (hlx : x.length < 1000) (hlx0 : 0 < x.length) (hly : y.length < 1000) (hys : Txt.startswith y (Str.ofString "/") = false)
  (hret : ∀ t h' tk', Fr h₀ L h' m → News h₀ L h' news → Q (.str (joinStr x y) t) { s with heap := h', toks := tk' }) :
  wpAny (model prog w) (ktrTop dp un gd cn cs L a ccd cl outer) (call (.ref 151) [.str x tx, .str y ty]) Q E s := by
  refine wpAny_call ?_
  k_dflt (refine' kp_rest ?k1 ?k2 ?k3 ?k4 ?k5 ?kA ?kF ?kK ?k6 ?k7 ?k8 ?kV ?kP ?kG ?kB ?_ ?c2 ?c3 ?c4 ?c5; (case kA => exact rfl); (case kF => exact rfl); (case kK => assumption); (case k1 => k_asm); (case k2 => k_asm); (case k3 => k_asm); (case k4 => k_asm); (case k5 => k_asm); (case k6 => k_is); (case k7 => k_is); (case k8 => ktr_room); (case kV => kl_lit); (case kP => exact rfl); (case kG => exact fun _ => rfl); (case kB => exact fun _ => locs rfl); (case c5 => decide); (case c2 => exact rfl); (case c3 => exact rfl); (case c4 => exact rfl); k_whole; intro D' g' L' h' l1 FG' F' N' B' X' T'; (try k_lt l1); (try dsimp only); (try k_lift B'); (try k_fold))
  (repeat' ((fail_if_success ((with_reducible show wpAny _ _ (pyIter (Value.ref _)) _ _ _))); (first | (((with_reducible show wpAny _ _ (exec (PySem.Stmt.For _ _ _ _ _) _) _ _ _); (k_here; (refine wpAny_For ?_ (by intro _; rfl))))) | (with_reducible ((k_here; (with_reducible show wpAny _ _ (call (Value.ref 144) _) _ _ _); k_dflt (refine getsep_spec (by k_asm) (by k_asm) (by k_asm) (by k_asm) (by k_asm) rfl (by ktr_room) (by ktr_units) ?_); intro t' h' tk' F' N'))) | (with_reducible ((k_here; (with_reducible show wpAny _ _ (call (Value.ref 130) _) _ _ _); k_dflt (refine fspath_spec (by k_asm) (by k_asm) (by k_asm) (by k_asm) (by k_asm) rfl (by ktr_room) (by ktr_units) ?_); intro h' tk' F' N'))) | (k_unfold; (try dsimp only)) | (k_end; wrow_close) | walk1 | (dsimp only; walk1) | (leave1; walk_say "STEP leave1"; try dsimp only) | fail "no step")))
  skip
  (rename Fr _ _ _ _ => F')
  (rename News _ _ _ _ => N')
  refine iter_tuple_J (vs := [.str y ty]) rfl F' N' (by k_mem) (by intro _ _; rfl) (fun i m₁ news₁ => (∃ tv ts, m₁ (Str.ofString "path") = some (.str (if i = 0 then x else joinStr x y) tv) ∧ m₁ (Str.ofString "sep") = some (.str (Str.ofString "/") ts)) ∧ ∀ p ∈ news, p ∈ news₁) ⟨⟨_, _, rfl, rfl⟩, fun p hp => .tail _ hp⟩ ?_ ?_
  · rintro i v m₁ news₁ I oI h₁ tk₁ hv ⟨⟨tv, ts, e1, e2⟩, hsub⟩ hm₁ hoff₁ F₁ N₁
    have hi : i = 0 := by
      cases i with
      | zero => rfl
      | succ i => cases hv
    subst hi
    cases hv
    have F₂ := fr_chain [(Str.ofString "path", .str x tv), (Str.ofString "sep", .str (Str.ofString "/") ts)] F₁ (allc (by assumption) (allc (by assumption) alln))
    clear F₁ F' e1 e2
    (repeat' ((fail_if_success ((with_reducible show wpAny _ _ (pyIter (Value.ref _)) _ _ _))); (first | (((with_reducible show wpAny _ _ (exec (PySem.Stmt.For _ _ _ _ _) _) _ _ _); (k_here; (refine wpAny_For ?_ (by intro _; rfl))))) | (with_reducible ((k_here; (with_reducible show wpAny _ _ (call (Value.ref 144) _) _ _ _); k_dflt (refine getsep_spec (by k_asm) (by k_asm) (by k_asm) (by k_asm) (by k_asm) rfl (by ktr_room) (by ktr_units) ?_); intro t' h' tk' F' N'))) | (with_reducible ((k_here; (with_reducible show wpAny _ _ (call (Value.ref 130) _) _ _ _); k_dflt (refine fspath_spec (by k_asm) (by k_asm) (by k_asm) (by k_asm) (by k_asm) rfl (by ktr_room) (by ktr_units) ?_); intro h' tk' F' N'))) | (k_unfold; (try dsimp only)) | (k_end; wrow_close) | walk1 | (dsimp only; walk1) | (leave1; walk_say "STEP leave1"; try dsimp only) | fail "no step")))
    · have hz : (if 0 + 1 = 0 then x else joinStr x y) = x ++ y := by simp [joinStr, (by assumption : Txt.endswith x (Str.ofString "/") = true)]
      exact ⟨_, _, _, _, news₁, rfl, by k_asm, by k_asm, fun p hp => hp, fun p hp => by rw [List.mem_singleton.mp hp]; exact hm₁, hoff₁, ⟨_, _, by rw [hz]; rfl, rfl⟩, hsub⟩
    · have hz : (if 0 + 1 = 0 then x else joinStr x y) = x ++ (Str.ofString "/" ++ y) := by simp [joinStr, (by assumption : Txt.endswith x (Str.ofString "/") = false)]
      exact ⟨_, _, _, _, news₁, rfl, by k_asm, by k_asm, fun p hp => hp, fun p hp => by rw [List.mem_singleton.mp hp]; exact hm₁, hoff₁, ⟨_, _, by rw [hz]; rfl, rfl⟩, hsub⟩
    · exfalso; omega
  · rintro m₁ news₁ h₁ tk₁ ⟨⟨tv, ts, e1, e2⟩, hsub⟩ hm₁ F₁ N₁
    have F₂ := fr_chain [(Str.ofString "path", .str (joinStr x y) tv)] F₁ (by
      intro q hq
      simp only [List.mem_cons, List.mem_nil_iff, or_false] at hq
      rcases hq with rfl
      exact e1)
    clear F₁ F' e1 e2
    (repeat' ((fail_if_success ((with_reducible show wpAny _ _ (pyIter (Value.ref _)) _ _ _))); (first | (((with_reducible show wpAny _ _ (exec (PySem.Stmt.For _ _ _ _ _) _) _ _ _); (k_here; (refine wpAny_For ?_ (by intro _; rfl))))) | (with_reducible ((k_here; (with_reducible show wpAny _ _ (call (Value.ref 144) _) _ _ _); k_dflt (refine getsep_spec (by k_asm) (by k_asm) (by k_asm) (by k_asm) (by k_asm) rfl (by ktr_room) (by ktr_units) ?_); intro t' h' tk' F' N'))) | (with_reducible ((k_here; (with_reducible show wpAny _ _ (call (Value.ref 130) _) _ _ _); k_dflt (refine fspath_spec (by k_asm) (by k_asm) (by k_asm) (by k_asm) (by k_asm) rfl (by ktr_room) (by ktr_units) ?_); intro h' tk' F' N'))) | (k_unfold; (try dsimp only)) | (k_end; wrow_close) | walk1 | (dsimp only; walk1) | (leave1; walk_say "STEP leave1"; try dsimp only) | fail "no step")))
    exact hret _ _ _ (by k_asm) (fun p hp => (by k_asm : News _ _ _ _) p (hsub p hp))
end
end Mine
end

/-! ## L7 -/
section
open PySem PySem.W PyProof.Rows PySem.Calls PySem.Spec PySem.SeqAt
set_option maxRecDepth 100000
namespace Mine
def spCut (x : Str) : Str := Txt.slice x none (some (Txt.rfind x (Str.ofString "/") + 1))
def spHead (x : Str) : Str :=
  if ((spCut x).length : Int) = 0 then spCut x else if (spCut x != Txt.mul (Str.ofString "/") ((spCut x).length : Int)) = true then Txt.rstripChars (spCut x) (Str.ofString "/") else spCut x
def spTail (x : Str) : Str := Txt.slice x (some (Txt.rfind x (Str.ofString "/") + 1)) none

def pathStr (bits : List Bool) : Str := if bits.isEmpty then ⟨#[47]⟩ else ⟨(bits.flatMap fun b => [47, if b then 116 else 104]).toArray⟩
def allBits : Nat → List (List Bool)
  | 0 => [[]]
  | n + 1 => (allBits n).flatMap fun l => [false :: l, true :: l]
theorem mem_allBits : ∀ l : List Bool, l ∈ allBits l.length
  | [] => .head _
  | b :: l => List.mem_flatMap.mpr ⟨l, mem_allBits l, by cases b <;> simp⟩
def upTo (n : Nat) : List (List Bool) := (List.range (n + 1)).flatMap allBits
theorem mem_upTo {l : List Bool} {n : Nat} (h : l.length ≤ n) : l ∈ upTo n := List.mem_flatMap.mpr ⟨l.length, List.mem_range.mpr (by omega), mem_allBits l⟩
def sideStr (b : Bool) : Str := if b then Str.ofString "t" else Str.ofString "h"
theorem join_path {l : List Bool} (h : l.length ≤ 4) (b : Bool) : joinStr (pathStr l) (sideStr b) = pathStr (l ++ [b]) := by
  have : ∀ l ∈ upTo 4, ∀ b : Bool, joinStr (pathStr l) (sideStr b) = pathStr (l ++ [b]) := by decide +kernel
  exact this l (mem_upTo h) b
theorem split_path {l : List Bool} (h : l.length ≤ 4) (b : Bool) : spHead (pathStr (l ++ [b])) = pathStr l ∧ spTail (pathStr (l ++ [b])) = sideStr b := by
  have : ∀ l ∈ upTo 4, ∀ b : Bool, spHead (pathStr (l ++ [b])) = pathStr l ∧ spTail (pathStr (l ++ [b])) = sideStr b := by decide +kernel
  exact this l (mem_upTo h) b
theorem path_len {l : List Bool} (h : l.length ≤ 5) : (pathStr l).length = if l.length = 0 then 1 else 2 * l.length := by
  have : ∀ l ∈ upTo 5, (pathStr l).length = if l.length = 0 then 1 else 2 * l.length := by decide +kernel
  exact this l (mem_upTo h)
theorem path_root {l : List Bool} (h : l.length ≤ 5) : (pathStr l == Str.ofString "/") = l.isEmpty := by
  have : ∀ l ∈ upTo 5, (pathStr l == Str.ofString "/") = l.isEmpty := by decide +kernel
  exact this l (mem_upTo h)
theorem side_start (b : Bool) : Txt.startswith (sideStr b) (Str.ofString "/") = false := by
  cases b <;> decide +kernel
theorem side_t (b : Bool) : (sideStr b == Str.ofString "t") = b := by
  cases b <;> decide +kernel
theorem side_len (b : Bool) : (sideStr b).length < 1000 := by
  cases b <;> decide +kernel
theorem news_skip {h₀ h : Heap} {L : Addr} {p q : Addr × Obj} {news : List (Addr × Obj)} (N : News h₀ L h (p :: q :: news)) : News h₀ L h (p :: news) := fun x hx => by
  rcases List.mem_cons.mp hx with rfl | hx
  · exact N _ (.head _)
  · exact N _ (.tail _ (.tail _ hx))
def flagNames : List Str := [Str.ofString "OPTIMIZED", Str.ofString "NEWLOCALS", Str.ofString "VARARGS", Str.ofString "VARKEYWORDS", Str.ofString "NESTED", Str.ofString "GENERATOR"]
def pfNames (n i : Nat) : List Str := ((List.range i).filter (n.testBit ·)).map fun k => flagNames.getD k (Str.ofString "")
def pfRem (n i : Nat) : Nat := n / 2 ^ i * 2 ^ i
theorem sub_swap {p q : Addr × Obj} {r : List (Addr × Obj)} : ∀ x ∈ p :: q :: r, x ∈ q :: p :: r := fun x hx => by
  rcases List.mem_cons.mp hx with rfl | hx
  · exact .tail _ (.head _)
  · rcases List.mem_cons.mp hx with rfl | hx
    · exact .head _
    · exact .tail _ (.tail _ hx)
theorem news_swap {h₀ h : Heap} {L : Addr} {p q : Addr × Obj} {r : List (Addr × Obj)} (N : News h₀ L h (p :: q :: r)) : News h₀ L h (q :: p :: r) := fun x hx => N x (sub_swap x hx)
theorem off_cons {p : Addr × Obj} {r : List (Addr × Obj)} {l : Addr} (h1 : p.1 ≠ l) (h : ∀ x ∈ r, x.1 ≠ l) : ∀ x ∈ p :: r, x.1 ≠ l := fun x hx => by
  rcases List.mem_cons.mp hx with rfl | hx
  · exact h1
  · exact h x hx
def flagText (n : Nat) : Str := if n = 0 then Str.ofString "0x0" else Txt.join (Str.ofString ", ") (pfNames n 6)
theorem pf_zero : ∀ n ∈ List.range 33, ∀ i ∈ List.range 32, Builtin.bitAnd (pfRem n i : Nat) (1 * 2 ^ (0 + (i : Int) * 1).toNat) = 0 → pfNames n (i + 1) = pfNames n i ∧ pfRem n (i + 1) = pfRem n i := by decide +kernel
theorem pf_one : ∀ n ∈ List.range 33, ∀ i ∈ List.range 32, Builtin.bitAnd (pfRem n i : Nat) (1 * 2 ^ (0 + (i : Int) * 1).toNat) ≠ 0 →
    i < 6 ∧ pfNames n (i + 1) = pfNames n i ++ [flagNames.getD i (Str.ofString "")] ∧ n ≠ 0 := by decide +kernel
theorem pf_two : ∀ n ∈ List.range 33, ∀ i ∈ List.range 32, Builtin.bitAnd (pfRem n i : Nat) (1 * 2 ^ (0 + (i : Int) * 1).toNat) ≠ 0 →
    Builtin.bitXor (pfRem n i : Nat) (1 * 2 ^ (0 + (i : Int) * 1).toNat) = (pfRem n (i + 1) : Nat) ∧ (pfRem n (i + 1) = 0 → pfNames n (i + 1) = pfNames n 6) := by decide +kernel
theorem strs_snoc {vs : List Value} {ys : List Str} {y : Str} {t : Tok} (h : StrsAre vs ys) : StrsAre (vs ++ [.str y t]) (ys ++ [y]) := by
  induction h with
  | nil => exact .cons y t .nil
  | cons z u _ ih => exact .cons z u ih
theorem strs_len {vs : List Value} {ys : List Str} (h : StrsAre vs ys) : vs.length = ys.length := by
  induction h with
  | nil => rfl
  | cons _ _ _ ih => simp [ih]
theorem pfNames_len (n i : Nat) : (pfNames n i).length ≤ i := by
  unfold pfNames
  rw [List.length_map]
  exact Nat.le_trans (List.length_filter_le _ _) (by simp)
theorem pf_weight : ∀ n ∈ List.range 33, ∀ i ∈ List.range 33, ((pfNames n i).map (·.length)).sum + (pfNames n i).length ≤ 1048576 := by decide +kernel
section
variable {prog : Program} {w : World} {A : Around} {E : Value → Shared → Prop} {s : Shared} {h₀ : Heap} {L D : Addr} {all : List (Addr × Obj)}
theorem join_strs {x : Str} {t : Tok} {vs : List Value} {e : Nat} {ys : List Str} {Q : Value → Shared → Prop} (N : News h₀ L s.heap all) (hm : (D, listOf vs.toArray e) ∈ all) (hi : StrsAre vs ys) (hsep : x.length ≤ 16) (hw : (ys.map (·.length)).sum + ys.length ≤ 1048576)
    (h : ∀ t' k, Q (.str (Txt.join x ys) t') { s with toks := k }) : wpAny (model prog w) A (call (.builtin "str.join") [.str x t, .ref D]) Q E s :=
  join_listW (News.isList N hm) hi hsep hw h
end
end Mine
end

/-! ## P9 -/
section
open PySem PySem.W PyProof.Rows PySem.Calls PySem.Spec PySem.SeqAt
set_option maxRecDepth 100000
namespace Mine
theorem fill_P9 (w : World) : PySem.Challenge.rw_ik0178_01 = PySem.Challenge.rw_ik0178_01 ∧ heapK w.params = heapK w.params := by
  k_fill
  exact ⟨rfl, rfl⟩
section
variable {prog : Program} {w : World} {loose : List Str} {mean : ExcName → Option Value} {mg mb : Str → Option Value}
variable {dp un : Nat} {gd : Option (List Code)} {cn : Str} {cs : Scope} {a : Addr} {ccd : Value} {cl : List (Str × Addr)} {outer : List Env} {A₀ : Around} {base h₀ : Heap} {L : Addr} {m : Str → Option Value} {news : List (Addr × Obj)} {s : Shared} {Q E : Value → Shared → Prop}



set_option maxHeartbeats 4000000 in
theorem flags_spec (B : Below A₀ base outer h₀) (F : Fr h₀ L s.heap m) (X : (heapK w.params).In h₀) (N : News h₀ L s.heap news) (T : Top viewQ loose mean mg mb h₀) (hk : cs.kind = .function)
  (hdp : dp + 2 < recursionLimit) (hun : un + 16 < cLine) {n : Nat} {tx : Tok} (hn : n ≤ 32)
  (hret : ∀ t h' tk', Fr h₀ L h' m → News h₀ L h' news → Q (.str (flagText n) t) { s with heap := h', toks := tk' }) :
  wpAny (model prog w) (ktrTop dp un gd cn cs L a ccd cl outer) (call (.ref 57) [.int n tx]) Q E s := by
  refine wpAny_call ?_
  k_dflt cell_enter
  (repeat' ((fail_if_success ((with_reducible show wpAny _ _ (pyIter (Value.ref _)) _ _ _))); (first | (with_reducible ((k_here; (with_reducible show wpAny _ _ (call (Value.builtin _) [Value.str _ _, Value.ref _]) _ _ _); k_dflt (refine join_strs (by k_asm) (by k_mem) (by first | assumption | exact (by assumption : ∀ t, StrsAre (_ ++ [Value.str _ t]) _) _) (by decide) (by assumption) ?_; k_whole); intro t' k'))) | (with_reducible ((k_here; (with_reducible show wpAny _ _ (call (Value.builtin _) [Value.ref _, _]) _ _ _); k_dflt (refine append_val (by k_asm) (by k_asm) (by assumption) (by assumption) ?_; k_whole); intro h' F' N'))) | (((with_reducible show wpAny _ _ (exec (PySem.Stmt.For _ _ _ _ _) _) _ _ _); (k_here; (refine wpAny_For ?_ (by intro _; rfl))))) | (k_unfold; (try dsimp only)) | (k_end; wrow_close) | walk1 | (dsimp only; walk1) | (leave1; walk_say "STEP leave1"; try dsimp only) | fail "no step")))
  skip
  (rename Fr _ _ _ _ => F')
  (rename News _ _ _ _ => N')
  (rename IsRange _ _ _ _ _ _ _ _ => hR')
  (rename ∀ p ∈ news, p.1 < _ => hlt')
  refine iter_range_J (n := 32) rfl F' N' hR' (by decide) (by decide) (by intro _ _; rfl) (fun i m₁ news₁ => ∃ l vs e tf, m₁ (Str.ofString "flags") = some (.int (pfRem n i : Nat) tf) ∧ m₁ (Str.ofString "names") = some (.ref l) ∧ news₁ = (l, listOf vs.toArray e) :: news ∧ (∀ p ∈ news, p.1 ≠ l) ∧ StrsAre vs (pfNames n i) ∧ (n = 0 ∨ pfRem n i ≠ 0)) ⟨_, [], 0, _, by rw [show pfRem n 0 = n from by unfold pfRem; omega]; rfl, rfl, rfl, fun p hp => Nat.ne_of_lt (hlt' p hp), .nil, by unfold pfRem; omega⟩ ?_ ?_
  · rintro i v m₁ news₁ I oI h₁ tk₁ hi ⟨tv, rfl⟩ ⟨l, vs, e, tf, e1, e2, rfl, hoffl, hvs, hnz⟩ hoff₁ F₁ N₁
    have F₂ := fr_chain [(Str.ofString "flags", .int (pfRem n i : Nat) tf), (Str.ofString "names", .ref l)] F₁ (allc (by assumption) (allc (by assumption) alln))
    clear F₁ F' e1 e2 N'
    have N₂ := news_swap N₁
    clear N₁
    have hIl : I ≠ l := Ne.symm (hoff₁ _ (.head _))
    have hoff₂ : ∀ p ∈ (I, oI) :: news, p.1 ≠ l := off_cons hIl hoffl
    have hlen : vs.length < 1000 := by
      have := strs_len hvs
      have := pfNames_len n i
      omega
    have hz0 := pf_zero n (List.mem_range.mpr (by omega)) i (List.mem_range.mpr hi)
    have hz1 := pf_one n (List.mem_range.mpr (by omega)) i (List.mem_range.mpr hi)
    have hz2 := pf_two n (List.mem_range.mpr (by omega)) i (List.mem_range.mpr hi)
    by_cases hi6 : i < 6
    · obtain rfl | rfl | rfl | rfl | rfl | rfl : i = 0 ∨ i = 1 ∨ i = 2 ∨ i = 3 ∨ i = 4 ∨ i = 5 := by omega
      · as_aux_lemma =>
          (repeat' ((fail_if_success ((with_reducible show wpAny _ _ (pyIter (Value.ref _)) _ _ _))); (first | (with_reducible ((k_here; (with_reducible show wpAny _ _ (call (Value.builtin _) [Value.str _ _, Value.ref _]) _ _ _); k_dflt (refine join_strs (by k_asm) (by k_mem) (by first | assumption | exact (by assumption : ∀ t, StrsAre (_ ++ [Value.str _ t]) _) _) (by decide) (by assumption) ?_; k_whole); intro t' k'))) | (with_reducible ((k_here; (with_reducible show wpAny _ _ (call (Value.builtin _) [Value.ref _, _]) _ _ _); k_dflt (refine append_val (by k_asm) (by k_asm) (by assumption) (by assumption) ?_; k_whole); intro h' F' N'))) | (((with_reducible show wpAny _ _ (exec (PySem.Stmt.For _ _ _ _ _) _) _ _ _); (k_here; (refine wpAny_For ?_ (by intro _; rfl))))) | (k_unfold; (try dsimp only)) | (k_end; wrow_close) | walk1 | (dsimp only; walk1) | (leave1; walk_say "STEP leave1"; try dsimp only) | fail "no step")))
          · (rename Builtin.bitAnd _ _ ≠ 0 => hb)
            obtain ⟨q1, q2, q3⟩ := hz1 hb
            obtain ⟨q4, q5⟩ := hz2 hb
            (rename Builtin.bitXor _ _ ≠ 0 => hx)
            rw [q4] at hx
            refine ⟨_, _, _, _, (l, listOf (vs ++ [_]).toArray (e + 1)) :: news, rfl, by k_asm, by k_asm, sub_swap, List.forall_mem_nil _, off_cons (Ne.symm hIl) (fun p hp => hoff₁ p (.tail _ hp)), l, _, _, _, by rw [← q4]; rfl, rfl, rfl, hoffl, by rw [q2]; exact strs_snoc hvs, .inr (by simpa using hx)⟩
          · show FStep _ _ _ _ _ _ _ _ Flow.brk _
            unfold FStep
            dsimp only
            (rename Builtin.bitAnd _ _ ≠ 0 => hb)
            obtain ⟨q1, q2, q3⟩ := hz1 hb
            obtain ⟨q4, q5⟩ := hz2 hb
            (rename Builtin.bitXor _ _ = 0 => hx)
            rw [q4] at hx
            have hvs' : ∀ t, StrsAre (vs ++ [.str (flagNames.getD 0 (Str.ofString "")) t]) (pfNames n 6) := fun t => by rw [← q5 (by simpa using hx), q2]; exact strs_snoc hvs
            have hw6 := pf_weight n (List.mem_range.mpr (by omega)) 6 (by decide)
            (repeat' ((fail_if_success ((with_reducible show wpAny _ _ (pyIter (Value.ref _)) _ _ _))); (first | (with_reducible ((k_here; (with_reducible show wpAny _ _ (call (Value.builtin _) [Value.str _ _, Value.ref _]) _ _ _); k_dflt (refine join_strs (by k_asm) (by k_mem) (by first | assumption | exact (by assumption : ∀ t, StrsAre (_ ++ [Value.str _ t]) _) _) (by decide) (by assumption) ?_; k_whole); intro t' k'))) | (with_reducible ((k_here; (with_reducible show wpAny _ _ (call (Value.builtin _) [Value.ref _, _]) _ _ _); k_dflt (refine append_val (by k_asm) (by k_asm) (by assumption) (by assumption) ?_; k_whole); intro h' F' N'))) | (((with_reducible show wpAny _ _ (exec (PySem.Stmt.For _ _ _ _ _) _) _ _ _); (k_here; (refine wpAny_For ?_ (by intro _; rfl))))) | (k_unfold; (try dsimp only)) | (k_end; wrow_close) | walk1 | (dsimp only; walk1) | (leave1; walk_say "STEP leave1"; try dsimp only) | fail "no step")))
            have ef : flagText n = Txt.join (Str.ofString ", ") (pfNames n 6) := if_neg q3
            rw [← ef]
            exact hret _ _ _ (by k_asm) (news_tail (news_tail (by k_asm)))
          · (rename Builtin.bitAnd _ _ = 0 => hb)
            obtain ⟨q1, q2⟩ := hz0 hb
            refine ⟨_, _, _, _, (l, listOf vs.toArray e) :: news, rfl, by k_asm, by k_asm, sub_swap, List.forall_mem_nil _, off_cons (Ne.symm hIl) (fun p hp => hoff₁ p (.tail _ hp)), l, _, _, _, by rw [q2]; rfl, rfl, rfl, hoffl, by rw [q1]; exact hvs, by rw [q2]; exact hnz⟩
      · as_aux_lemma =>
          (repeat' ((fail_if_success ((with_reducible show wpAny _ _ (pyIter (Value.ref _)) _ _ _))); (first | (with_reducible ((k_here; (with_reducible show wpAny _ _ (call (Value.builtin _) [Value.str _ _, Value.ref _]) _ _ _); k_dflt (refine join_strs (by k_asm) (by k_mem) (by first | assumption | exact (by assumption : ∀ t, StrsAre (_ ++ [Value.str _ t]) _) _) (by decide) (by assumption) ?_; k_whole); intro t' k'))) | (with_reducible ((k_here; (with_reducible show wpAny _ _ (call (Value.builtin _) [Value.ref _, _]) _ _ _); k_dflt (refine append_val (by k_asm) (by k_asm) (by assumption) (by assumption) ?_; k_whole); intro h' F' N'))) | (((with_reducible show wpAny _ _ (exec (PySem.Stmt.For _ _ _ _ _) _) _ _ _); (k_here; (refine wpAny_For ?_ (by intro _; rfl))))) | (k_unfold; (try dsimp only)) | (k_end; wrow_close) | walk1 | (dsimp only; walk1) | (leave1; walk_say "STEP leave1"; try dsimp only) | fail "no step")))
          · (rename Builtin.bitAnd _ _ ≠ 0 => hb)
            obtain ⟨q1, q2, q3⟩ := hz1 hb
            obtain ⟨q4, q5⟩ := hz2 hb
            (rename Builtin.bitXor _ _ ≠ 0 => hx)
            rw [q4] at hx
            refine ⟨_, _, _, _, (l, listOf (vs ++ [_]).toArray (e + 1)) :: news, rfl, by k_asm, by k_asm, sub_swap, List.forall_mem_nil _, off_cons (Ne.symm hIl) (fun p hp => hoff₁ p (.tail _ hp)), l, _, _, _, by rw [← q4]; rfl, rfl, rfl, hoffl, by rw [q2]; exact strs_snoc hvs, .inr (by simpa using hx)⟩
          · show FStep _ _ _ _ _ _ _ _ Flow.brk _
            unfold FStep
            dsimp only
            (rename Builtin.bitAnd _ _ ≠ 0 => hb)
            obtain ⟨q1, q2, q3⟩ := hz1 hb
            obtain ⟨q4, q5⟩ := hz2 hb
            (rename Builtin.bitXor _ _ = 0 => hx)
            rw [q4] at hx
            have hvs' : ∀ t, StrsAre (vs ++ [.str (flagNames.getD 1 (Str.ofString "")) t]) (pfNames n 6) := fun t => by rw [← q5 (by simpa using hx), q2]; exact strs_snoc hvs
            have hw6 := pf_weight n (List.mem_range.mpr (by omega)) 6 (by decide)
            (repeat' ((fail_if_success ((with_reducible show wpAny _ _ (pyIter (Value.ref _)) _ _ _))); (first | (with_reducible ((k_here; (with_reducible show wpAny _ _ (call (Value.builtin _) [Value.str _ _, Value.ref _]) _ _ _); k_dflt (refine join_strs (by k_asm) (by k_mem) (by first | assumption | exact (by assumption : ∀ t, StrsAre (_ ++ [Value.str _ t]) _) _) (by decide) (by assumption) ?_; k_whole); intro t' k'))) | (with_reducible ((k_here; (with_reducible show wpAny _ _ (call (Value.builtin _) [Value.ref _, _]) _ _ _); k_dflt (refine append_val (by k_asm) (by k_asm) (by assumption) (by assumption) ?_; k_whole); intro h' F' N'))) | (((with_reducible show wpAny _ _ (exec (PySem.Stmt.For _ _ _ _ _) _) _ _ _); (k_here; (refine wpAny_For ?_ (by intro _; rfl))))) | (k_unfold; (try dsimp only)) | (k_end; wrow_close) | walk1 | (dsimp only; walk1) | (leave1; walk_say "STEP leave1"; try dsimp only) | fail "no step")))
            have ef : flagText n = Txt.join (Str.ofString ", ") (pfNames n 6) := if_neg q3
            rw [← ef]
            exact hret _ _ _ (by k_asm) (news_tail (news_tail (by k_asm)))
          · (rename Builtin.bitAnd _ _ = 0 => hb)
            obtain ⟨q1, q2⟩ := hz0 hb
            refine ⟨_, _, _, _, (l, listOf vs.toArray e) :: news, rfl, by k_asm, by k_asm, sub_swap, List.forall_mem_nil _, off_cons (Ne.symm hIl) (fun p hp => hoff₁ p (.tail _ hp)), l, _, _, _, by rw [q2]; rfl, rfl, rfl, hoffl, by rw [q1]; exact hvs, by rw [q2]; exact hnz⟩
      · as_aux_lemma =>
          (repeat' ((fail_if_success ((with_reducible show wpAny _ _ (pyIter (Value.ref _)) _ _ _))); (first | (with_reducible ((k_here; (with_reducible show wpAny _ _ (call (Value.builtin _) [Value.str _ _, Value.ref _]) _ _ _); k_dflt (refine join_strs (by k_asm) (by k_mem) (by first | assumption | exact (by assumption : ∀ t, StrsAre (_ ++ [Value.str _ t]) _) _) (by decide) (by assumption) ?_; k_whole); intro t' k'))) | (with_reducible ((k_here; (with_reducible show wpAny _ _ (call (Value.builtin _) [Value.ref _, _]) _ _ _); k_dflt (refine append_val (by k_asm) (by k_asm) (by assumption) (by assumption) ?_; k_whole); intro h' F' N'))) | (((with_reducible show wpAny _ _ (exec (PySem.Stmt.For _ _ _ _ _) _) _ _ _); (k_here; (refine wpAny_For ?_ (by intro _; rfl))))) | (k_unfold; (try dsimp only)) | (k_end; wrow_close) | walk1 | (dsimp only; walk1) | (leave1; walk_say "STEP leave1"; try dsimp only) | fail "no step")))
          · (rename Builtin.bitAnd _ _ ≠ 0 => hb)
            obtain ⟨q1, q2, q3⟩ := hz1 hb
            obtain ⟨q4, q5⟩ := hz2 hb
            (rename Builtin.bitXor _ _ ≠ 0 => hx)
            rw [q4] at hx
            refine ⟨_, _, _, _, (l, listOf (vs ++ [_]).toArray (e + 1)) :: news, rfl, by k_asm, by k_asm, sub_swap, List.forall_mem_nil _, off_cons (Ne.symm hIl) (fun p hp => hoff₁ p (.tail _ hp)), l, _, _, _, by rw [← q4]; rfl, rfl, rfl, hoffl, by rw [q2]; exact strs_snoc hvs, .inr (by simpa using hx)⟩
          · show FStep _ _ _ _ _ _ _ _ Flow.brk _
            unfold FStep
            dsimp only
            (rename Builtin.bitAnd _ _ ≠ 0 => hb)
            obtain ⟨q1, q2, q3⟩ := hz1 hb
            obtain ⟨q4, q5⟩ := hz2 hb
            (rename Builtin.bitXor _ _ = 0 => hx)
            rw [q4] at hx
            have hvs' : ∀ t, StrsAre (vs ++ [.str (flagNames.getD 2 (Str.ofString "")) t]) (pfNames n 6) := fun t => by rw [← q5 (by simpa using hx), q2]; exact strs_snoc hvs
            have hw6 := pf_weight n (List.mem_range.mpr (by omega)) 6 (by decide)
            (repeat' ((fail_if_success ((with_reducible show wpAny _ _ (pyIter (Value.ref _)) _ _ _))); (first | (with_reducible ((k_here; (with_reducible show wpAny _ _ (call (Value.builtin _) [Value.str _ _, Value.ref _]) _ _ _); k_dflt (refine join_strs (by k_asm) (by k_mem) (by first | assumption | exact (by assumption : ∀ t, StrsAre (_ ++ [Value.str _ t]) _) _) (by decide) (by assumption) ?_; k_whole); intro t' k'))) | (with_reducible ((k_here; (with_reducible show wpAny _ _ (call (Value.builtin _) [Value.ref _, _]) _ _ _); k_dflt (refine append_val (by k_asm) (by k_asm) (by assumption) (by assumption) ?_; k_whole); intro h' F' N'))) | (((with_reducible show wpAny _ _ (exec (PySem.Stmt.For _ _ _ _ _) _) _ _ _); (k_here; (refine wpAny_For ?_ (by intro _; rfl))))) | (k_unfold; (try dsimp only)) | (k_end; wrow_close) | walk1 | (dsimp only; walk1) | (leave1; walk_say "STEP leave1"; try dsimp only) | fail "no step")))
            have ef : flagText n = Txt.join (Str.ofString ", ") (pfNames n 6) := if_neg q3
            rw [← ef]
            exact hret _ _ _ (by k_asm) (news_tail (news_tail (by k_asm)))
          · (rename Builtin.bitAnd _ _ = 0 => hb)
            obtain ⟨q1, q2⟩ := hz0 hb
            refine ⟨_, _, _, _, (l, listOf vs.toArray e) :: news, rfl, by k_asm, by k_asm, sub_swap, List.forall_mem_nil _, off_cons (Ne.symm hIl) (fun p hp => hoff₁ p (.tail _ hp)), l, _, _, _, by rw [q2]; rfl, rfl, rfl, hoffl, by rw [q1]; exact hvs, by rw [q2]; exact hnz⟩
      · as_aux_lemma =>
          (repeat' ((fail_if_success ((with_reducible show wpAny _ _ (pyIter (Value.ref _)) _ _ _))); (first | (with_reducible ((k_here; (with_reducible show wpAny _ _ (call (Value.builtin _) [Value.str _ _, Value.ref _]) _ _ _); k_dflt (refine join_strs (by k_asm) (by k_mem) (by first | assumption | exact (by assumption : ∀ t, StrsAre (_ ++ [Value.str _ t]) _) _) (by decide) (by assumption) ?_; k_whole); intro t' k'))) | (with_reducible ((k_here; (with_reducible show wpAny _ _ (call (Value.builtin _) [Value.ref _, _]) _ _ _); k_dflt (refine append_val (by k_asm) (by k_asm) (by assumption) (by assumption) ?_; k_whole); intro h' F' N'))) | (((with_reducible show wpAny _ _ (exec (PySem.Stmt.For _ _ _ _ _) _) _ _ _); (k_here; (refine wpAny_For ?_ (by intro _; rfl))))) | (k_unfold; (try dsimp only)) | (k_end; wrow_close) | walk1 | (dsimp only; walk1) | (leave1; walk_say "STEP leave1"; try dsimp only) | fail "no step")))
          · (rename Builtin.bitAnd _ _ ≠ 0 => hb)
            obtain ⟨q1, q2, q3⟩ := hz1 hb
            obtain ⟨q4, q5⟩ := hz2 hb
            (rename Builtin.bitXor _ _ ≠ 0 => hx)
            rw [q4] at hx
            refine ⟨_, _, _, _, (l, listOf (vs ++ [_]).toArray (e + 1)) :: news, rfl, by k_asm, by k_asm, sub_swap, List.forall_mem_nil _, off_cons (Ne.symm hIl) (fun p hp => hoff₁ p (.tail _ hp)), l, _, _, _, by rw [← q4]; rfl, rfl, rfl, hoffl, by rw [q2]; exact strs_snoc hvs, .inr (by simpa using hx)⟩
          · show FStep _ _ _ _ _ _ _ _ Flow.brk _
            unfold FStep
            dsimp only
            (rename Builtin.bitAnd _ _ ≠ 0 => hb)
            obtain ⟨q1, q2, q3⟩ := hz1 hb
            obtain ⟨q4, q5⟩ := hz2 hb
            (rename Builtin.bitXor _ _ = 0 => hx)
            rw [q4] at hx
            have hvs' : ∀ t, StrsAre (vs ++ [.str (flagNames.getD 3 (Str.ofString "")) t]) (pfNames n 6) := fun t => by rw [← q5 (by simpa using hx), q2]; exact strs_snoc hvs
            have hw6 := pf_weight n (List.mem_range.mpr (by omega)) 6 (by decide)
            (repeat' ((fail_if_success ((with_reducible show wpAny _ _ (pyIter (Value.ref _)) _ _ _))); (first | (with_reducible ((k_here; (with_reducible show wpAny _ _ (call (Value.builtin _) [Value.str _ _, Value.ref _]) _ _ _); k_dflt (refine join_strs (by k_asm) (by k_mem) (by first | assumption | exact (by assumption : ∀ t, StrsAre (_ ++ [Value.str _ t]) _) _) (by decide) (by assumption) ?_; k_whole); intro t' k'))) | (with_reducible ((k_here; (with_reducible show wpAny _ _ (call (Value.builtin _) [Value.ref _, _]) _ _ _); k_dflt (refine append_val (by k_asm) (by k_asm) (by assumption) (by assumption) ?_; k_whole); intro h' F' N'))) | (((with_reducible show wpAny _ _ (exec (PySem.Stmt.For _ _ _ _ _) _) _ _ _); (k_here; (refine wpAny_For ?_ (by intro _; rfl))))) | (k_unfold; (try dsimp only)) | (k_end; wrow_close) | walk1 | (dsimp only; walk1) | (leave1; walk_say "STEP leave1"; try dsimp only) | fail "no step")))
            have ef : flagText n = Txt.join (Str.ofString ", ") (pfNames n 6) := if_neg q3
            rw [← ef]
            exact hret _ _ _ (by k_asm) (news_tail (news_tail (by k_asm)))
          · (rename Builtin.bitAnd _ _ = 0 => hb)
            obtain ⟨q1, q2⟩ := hz0 hb
            refine ⟨_, _, _, _, (l, listOf vs.toArray e) :: news, rfl, by k_asm, by k_asm, sub_swap, List.forall_mem_nil _, off_cons (Ne.symm hIl) (fun p hp => hoff₁ p (.tail _ hp)), l, _, _, _, by rw [q2]; rfl, rfl, rfl, hoffl, by rw [q1]; exact hvs, by rw [q2]; exact hnz⟩
      · as_aux_lemma =>
          (repeat' ((fail_if_success ((with_reducible show wpAny _ _ (pyIter (Value.ref _)) _ _ _))); (first | (with_reducible ((k_here; (with_reducible show wpAny _ _ (call (Value.builtin _) [Value.str _ _, Value.ref _]) _ _ _); k_dflt (refine join_strs (by k_asm) (by k_mem) (by first | assumption | exact (by assumption : ∀ t, StrsAre (_ ++ [Value.str _ t]) _) _) (by decide) (by assumption) ?_; k_whole); intro t' k'))) | (with_reducible ((k_here; (with_reducible show wpAny _ _ (call (Value.builtin _) [Value.ref _, _]) _ _ _); k_dflt (refine append_val (by k_asm) (by k_asm) (by assumption) (by assumption) ?_; k_whole); intro h' F' N'))) | (((with_reducible show wpAny _ _ (exec (PySem.Stmt.For _ _ _ _ _) _) _ _ _); (k_here; (refine wpAny_For ?_ (by intro _; rfl))))) | (k_unfold; (try dsimp only)) | (k_end; wrow_close) | walk1 | (dsimp only; walk1) | (leave1; walk_say "STEP leave1"; try dsimp only) | fail "no step")))
          · (rename Builtin.bitAnd _ _ ≠ 0 => hb)
            obtain ⟨q1, q2, q3⟩ := hz1 hb
            obtain ⟨q4, q5⟩ := hz2 hb
            (rename Builtin.bitXor _ _ ≠ 0 => hx)
            rw [q4] at hx
            refine ⟨_, _, _, _, (l, listOf (vs ++ [_]).toArray (e + 1)) :: news, rfl, by k_asm, by k_asm, sub_swap, List.forall_mem_nil _, off_cons (Ne.symm hIl) (fun p hp => hoff₁ p (.tail _ hp)), l, _, _, _, by rw [← q4]; rfl, rfl, rfl, hoffl, by rw [q2]; exact strs_snoc hvs, .inr (by simpa using hx)⟩
          · show FStep _ _ _ _ _ _ _ _ Flow.brk _
            unfold FStep
            dsimp only
            (rename Builtin.bitAnd _ _ ≠ 0 => hb)
            obtain ⟨q1, q2, q3⟩ := hz1 hb
            obtain ⟨q4, q5⟩ := hz2 hb
            (rename Builtin.bitXor _ _ = 0 => hx)
            rw [q4] at hx
            have hvs' : ∀ t, StrsAre (vs ++ [.str (flagNames.getD 4 (Str.ofString "")) t]) (pfNames n 6) := fun t => by rw [← q5 (by simpa using hx), q2]; exact strs_snoc hvs
            have hw6 := pf_weight n (List.mem_range.mpr (by omega)) 6 (by decide)
            (repeat' ((fail_if_success ((with_reducible show wpAny _ _ (pyIter (Value.ref _)) _ _ _))); (first | (with_reducible ((k_here; (with_reducible show wpAny _ _ (call (Value.builtin _) [Value.str _ _, Value.ref _]) _ _ _); k_dflt (refine join_strs (by k_asm) (by k_mem) (by first | assumption | exact (by assumption : ∀ t, StrsAre (_ ++ [Value.str _ t]) _) _) (by decide) (by assumption) ?_; k_whole); intro t' k'))) | (with_reducible ((k_here; (with_reducible show wpAny _ _ (call (Value.builtin _) [Value.ref _, _]) _ _ _); k_dflt (refine append_val (by k_asm) (by k_asm) (by assumption) (by assumption) ?_; k_whole); intro h' F' N'))) | (((with_reducible show wpAny _ _ (exec (PySem.Stmt.For _ _ _ _ _) _) _ _ _); (k_here; (refine wpAny_For ?_ (by intro _; rfl))))) | (k_unfold; (try dsimp only)) | (k_end; wrow_close) | walk1 | (dsimp only; walk1) | (leave1; walk_say "STEP leave1"; try dsimp only) | fail "no step")))
            have ef : flagText n = Txt.join (Str.ofString ", ") (pfNames n 6) := if_neg q3
            rw [← ef]
            exact hret _ _ _ (by k_asm) (news_tail (news_tail (by k_asm)))
          · (rename Builtin.bitAnd _ _ = 0 => hb)
            obtain ⟨q1, q2⟩ := hz0 hb
            refine ⟨_, _, _, _, (l, listOf vs.toArray e) :: news, rfl, by k_asm, by k_asm, sub_swap, List.forall_mem_nil _, off_cons (Ne.symm hIl) (fun p hp => hoff₁ p (.tail _ hp)), l, _, _, _, by rw [q2]; rfl, rfl, rfl, hoffl, by rw [q1]; exact hvs, by rw [q2]; exact hnz⟩
      · as_aux_lemma =>
          (repeat' ((fail_if_success ((with_reducible show wpAny _ _ (pyIter (Value.ref _)) _ _ _))); (first | (with_reducible ((k_here; (with_reducible show wpAny _ _ (call (Value.builtin _) [Value.str _ _, Value.ref _]) _ _ _); k_dflt (refine join_strs (by k_asm) (by k_mem) (by first | assumption | exact (by assumption : ∀ t, StrsAre (_ ++ [Value.str _ t]) _) _) (by decide) (by assumption) ?_; k_whole); intro t' k'))) | (with_reducible ((k_here; (with_reducible show wpAny _ _ (call (Value.builtin _) [Value.ref _, _]) _ _ _); k_dflt (refine append_val (by k_asm) (by k_asm) (by assumption) (by assumption) ?_; k_whole); intro h' F' N'))) | (((with_reducible show wpAny _ _ (exec (PySem.Stmt.For _ _ _ _ _) _) _ _ _); (k_here; (refine wpAny_For ?_ (by intro _; rfl))))) | (k_unfold; (try dsimp only)) | (k_end; wrow_close) | walk1 | (dsimp only; walk1) | (leave1; walk_say "STEP leave1"; try dsimp only) | fail "no step")))
          · (rename Builtin.bitAnd _ _ ≠ 0 => hb)
            obtain ⟨q1, q2, q3⟩ := hz1 hb
            obtain ⟨q4, q5⟩ := hz2 hb
            (rename Builtin.bitXor _ _ ≠ 0 => hx)
            rw [q4] at hx
            refine ⟨_, _, _, _, (l, listOf (vs ++ [_]).toArray (e + 1)) :: news, rfl, by k_asm, by k_asm, sub_swap, List.forall_mem_nil _, off_cons (Ne.symm hIl) (fun p hp => hoff₁ p (.tail _ hp)), l, _, _, _, by rw [← q4]; rfl, rfl, rfl, hoffl, by rw [q2]; exact strs_snoc hvs, .inr (by simpa using hx)⟩
          · show FStep _ _ _ _ _ _ _ _ Flow.brk _
            unfold FStep
            dsimp only
            (rename Builtin.bitAnd _ _ ≠ 0 => hb)
            obtain ⟨q1, q2, q3⟩ := hz1 hb
            obtain ⟨q4, q5⟩ := hz2 hb
            (rename Builtin.bitXor _ _ = 0 => hx)
            rw [q4] at hx
            have hvs' : ∀ t, StrsAre (vs ++ [.str (flagNames.getD 5 (Str.ofString "")) t]) (pfNames n 6) := fun t => by rw [← q5 (by simpa using hx), q2]; exact strs_snoc hvs
            have hw6 := pf_weight n (List.mem_range.mpr (by omega)) 6 (by decide)
            (repeat' ((fail_if_success ((with_reducible show wpAny _ _ (pyIter (Value.ref _)) _ _ _))); (first | (with_reducible ((k_here; (with_reducible show wpAny _ _ (call (Value.builtin _) [Value.str _ _, Value.ref _]) _ _ _); k_dflt (refine join_strs (by k_asm) (by k_mem) (by first | assumption | exact (by assumption : ∀ t, StrsAre (_ ++ [Value.str _ t]) _) _) (by decide) (by assumption) ?_; k_whole); intro t' k'))) | (with_reducible ((k_here; (with_reducible show wpAny _ _ (call (Value.builtin _) [Value.ref _, _]) _ _ _); k_dflt (refine append_val (by k_asm) (by k_asm) (by assumption) (by assumption) ?_; k_whole); intro h' F' N'))) | (((with_reducible show wpAny _ _ (exec (PySem.Stmt.For _ _ _ _ _) _) _ _ _); (k_here; (refine wpAny_For ?_ (by intro _; rfl))))) | (k_unfold; (try dsimp only)) | (k_end; wrow_close) | walk1 | (dsimp only; walk1) | (leave1; walk_say "STEP leave1"; try dsimp only) | fail "no step")))
            have ef : flagText n = Txt.join (Str.ofString ", ") (pfNames n 6) := if_neg q3
            rw [← ef]
            exact hret _ _ _ (by k_asm) (news_tail (news_tail (by k_asm)))
          · (rename Builtin.bitAnd _ _ = 0 => hb)
            obtain ⟨q1, q2⟩ := hz0 hb
            refine ⟨_, _, _, _, (l, listOf vs.toArray e) :: news, rfl, by k_asm, by k_asm, sub_swap, List.forall_mem_nil _, off_cons (Ne.symm hIl) (fun p hp => hoff₁ p (.tail _ hp)), l, _, _, _, by rw [q2]; rfl, rfl, rfl, hoffl, by rw [q1]; exact hvs, by rw [q2]; exact hnz⟩
    · have hr : pfRem n i = 0 := by
        unfold pfRem
        rw [Nat.div_eq_of_lt (Nat.lt_of_le_of_lt hn (Nat.lt_of_lt_of_le (by decide : 32 < 2 ^ 6) (Nat.pow_le_pow_right (by decide) (by omega))))]
        exact Nat.zero_mul _
      have hb : Builtin.bitAnd (pfRem n i : Nat) (1 * 2 ^ (0 + (i : Int) * 1).toNat) = 0 := by
        by_cases h : Builtin.bitAnd (pfRem n i : Nat) (1 * 2 ^ (0 + (i : Int) * 1).toNat) = 0
        · exact h
        · exact absurd (hz1 h).1 hi6
      obtain ⟨q1, q2⟩ := hz0 hb
      (repeat' ((fail_if_success ((with_reducible show wpAny _ _ (pyIter (Value.ref _)) _ _ _))); (first | (with_reducible ((k_here; (with_reducible show wpAny _ _ (call (Value.builtin _) [Value.str _ _, Value.ref _]) _ _ _); k_dflt (refine join_strs (by k_asm) (by k_mem) (by first | assumption | exact (by assumption : ∀ t, StrsAre (_ ++ [Value.str _ t]) _) _) (by decide) (by assumption) ?_; k_whole); intro t' k'))) | (with_reducible ((k_here; (with_reducible show wpAny _ _ (call (Value.builtin _) [Value.ref _, _]) _ _ _); k_dflt (refine append_val (by k_asm) (by k_asm) (by assumption) (by assumption) ?_; k_whole); intro h' F' N'))) | (((with_reducible show wpAny _ _ (exec (PySem.Stmt.For _ _ _ _ _) _) _ _ _); (k_here; (refine wpAny_For ?_ (by intro _; rfl))))) | (k_unfold; (try dsimp only)) | (k_end; wrow_close) | walk1 | (dsimp only; walk1) | (leave1; walk_say "STEP leave1"; try dsimp only) | fail "no step")))
      · exact absurd hb (by assumption)
      refine ⟨_, _, _, _, (l, listOf vs.toArray e) :: news, rfl, by k_asm, by k_asm, sub_swap, List.forall_mem_nil _, off_cons (Ne.symm hIl) (fun p hp => hoff₁ p (.tail _ hp)), l, _, _, _, by rw [q2]; rfl, rfl, rfl, hoffl, by rw [q1]; exact hvs, by rw [q2]; exact hnz⟩
  · rintro m₁ news₁ h₁ tk₁ ⟨l, vs, e, tf, e1, e2, rfl, hoffl, hvs, hnz⟩ F₁ N₁
    have F₂ := fr_chain [(Str.ofString "flags", .int (pfRem n 32 : Nat) tf), (Str.ofString "names", .ref l)] F₁ (allc (by assumption) (allc (by assumption) alln))
    clear F₁ F' e1 e2 N'
    have hr : pfRem n 32 = 0 := by
      unfold pfRem
      rw [Nat.div_eq_of_lt (by omega)]
    have hn0 : n = 0 := by omega
    subst hn0
    have hv0 : vs = [] := List.length_eq_zero_iff.mp (strs_len hvs)
    subst hv0
    rw [hr] at F₂
    have hlen : ([] : List Value).length < 1000 := by decide
    have hw0 : ([Str.ofString "0x0"].map (·.length)).sum + [Str.ofString "0x0"].length ≤ 1048576 := by decide
    (repeat' ((fail_if_success ((with_reducible show wpAny _ _ (pyIter (Value.ref _)) _ _ _))); (first | (with_reducible ((k_here; (with_reducible show wpAny _ _ (call (Value.builtin _) [Value.str _ _, Value.ref _]) _ _ _); k_dflt (refine join_strs (by k_asm) (by k_mem) (by first | assumption | exact (by assumption : ∀ t, StrsAre (_ ++ [Value.str _ t]) _) _) (by decide) (by assumption) ?_; k_whole); intro t' k'))) | (with_reducible ((k_here; (with_reducible show wpAny _ _ (call (Value.builtin _) [Value.ref _, _]) _ _ _); k_dflt (refine append_val (by k_asm) (by k_asm) (by assumption) (by assumption) ?_; k_whole); intro h' F' N'))) | (((with_reducible show wpAny _ _ (exec (PySem.Stmt.For _ _ _ _ _) _) _ _ _); (k_here; (refine wpAny_For ?_ (by intro _; rfl))))) | (k_unfold; (try dsimp only)) | (k_end; wrow_close) | walk1 | (dsimp only; walk1) | (leave1; walk_say "STEP leave1"; try dsimp only) | fail "no step")))
    have ef : Txt.join (Str.ofString ", ") [baseText "0x" 16 ((0 : Nat) : Int)] = flagText 0 := by decide +kernel
    rw [ef]
    exact hret _ _ _ (by k_asm) (news_tail (by k_asm))
end
end Mine
end

/-! ## L8 -/
section
open PySem PySem.W PyProof.Rows PySem.Calls PySem.Spec PySem.SeqAt
set_option maxRecDepth 100000
namespace Mine
abbrev testsOf (ifs : List Expr) (env : Env) : Sem Bool := forIn ifs true fun c r => if r = true then do let ok ← isTrue c env (eval c env); pure (ForInStep.yield ok) else pure (ForInStep.yield r)
/-- what an element's walk must leave -/
def CEnd (h₀ : Heap) (L : Addr) (m : Str → Option Value) (s : Shared) (head : List (Addr × Obj)) (I C D : Addr) (srcs : List (Addr × Obj)) (K : List (Addr × Obj) → Prop) (s₄ : Shared) : Prop :=
  ∃ h' tk all news₂, s₄ = { s with heap := h', toks := tk } ∧ Fr h₀ L h' m ∧ News h₀ L h' all ∧ (∀ p ∈ head ++ news₂, p ∈ all) ∧ (∀ p ∈ srcs, p ∈ news₂) ∧ (∀ p ∈ news₂, p.1 ≠ I ∧ p.1 ≠ C ∧ p.1 ≠ D) ∧ K news₂

section
variable {prog : Program} {w : World} {A : Around} {E : Value → Shared → Prop} {s : Shared} {env : Env} {h₀ : Heap} {L : Addr} {m : Str → Option Value} {news : List (Addr × Obj)} {R : Result → Shared → Prop}
theorem compLoop_gen {elt target iter : Expr} {ifs : List Expr} {scope : Scope} {pos : Pos} {it acc : Value} {cenv : Env} (I : Nat → Shared → Prop)
    (turn : ∀ n s, I n s → wpAny (model prog w) A (pyNext it) (fun r s₁ => match r with
      | none => R (.ok .next) s₁
      | some v => wpAny (model prog w) A (letOwnedTupleGo target it v) (fun _ s₁' => wpAny (model prog w) A (assign target cenv v) (fun _ s₂ =>
          wpAny (model prog w) A (testsOf ifs cenv) (fun ok s₃ =>
            if ok = true then wpAny (model prog w) A (eval elt cenv) (fun x s₄ => wpAny (model prog w) A (call (.builtin "list.append") [acc, x]) (fun _ s₅ => ∃ m, m < n ∧ I m s₅) (fun _ _ => False) s₄) (fun _ _ => False) s₃
            else ∃ m, m < n ∧ I m s₃) (fun _ _ => False) s₂) (fun _ _ => False) s₁') (fun _ _ => False) s₁) (fun _ _ => False) s)
    (n : Nat) (h : I n s) : codeAny (model prog w) A (.compLoop (.ListComp elt [⟨target, iter, ifs, 0⟩] scope pos) 0 it acc cenv) R s := by
  refine codeAny_loop rfl I (fun n s hI => ?_) n h
  show wpAny _ A ((compTurn (.ListComp elt [⟨target, iter, ifs, 0⟩] scope pos) 0 it acc cenv).onRaise (fun x => do noteFrame x cenv; theTreesLotGoes x)) _ _ s
  refine wpAny_noted ?_
  rw [compTurn_list]
  refine wpAny_mono (E := fun _ _ => False) ?_ (fun _ _ x => x) (fun _ _ x => x.elim)
  refine wpAny_bind (wpAny_standAt (wpAny_bind (wpAny_mono (turn n s hI) (fun r s₁ h₁ => ?_) fun _ _ h' => h')))
  cases r with
  | none => exact wpAny_pure h₁
  | some v =>
    refine wpAny_bind (wpAny_mono h₁ (fun _ s₁' h₁' => ?_) fun _ _ h' => h')
    refine wpAny_bind (wpAny_mono h₁' (fun _ s₂ h₂ => ?_) fun _ _ h' => h')
    refine wpAny_bind (wpAny_mono h₂ (fun ok s₃ h₃ => ?_) fun _ _ h' => h')
    cases ok with
    | true =>
      simp only [if_true] at h₃ ⊢
      exact wpAny_bind (wpAny_bind (wpAny_mono h₃ (fun x s₄ h₄ => wpAny_bind (wpAny_mono h₄ (fun _ s₅ h₅ => wpAny_pure (wpAny_pure ⟨rfl, h₅⟩)) fun _ _ h' => h')) fun _ _ h' => h'))
    | false =>
      simp only [Bool.false_eq_true, if_false] at h₃ ⊢
      exact wpAny_pure ⟨rfl, h₃⟩

theorem comp_W {elt target iter : Expr} {ifs : List Expr} {scope : Scope} {cl : List (Str × Addr)} {pos : Pos} {I : Addr} {fp : List Addr} {n : Nat} {P : Nat → Value → Prop} {St : Nat → Heap → Prop} {srcs : List (Addr × Obj)} {RR : Value → Addr → Result → Shared → Prop}
    (W : Walks prog w A I fp [I] n P St)
    (hfp : ∀ b ∈ fp, b = I ∨ ∃ o, (b, o) ∈ srcs) (hIo : ∀ i h, St i h → ∃ o, h.get? I = some o) (hIL : L ≠ I) (hI₀ : h₀.get? I = none)
    (hgo : ∀ i (s' : Shared) v (Q' : Unit → Shared → Prop), St i s'.heap → Q' () s' → wpAny (model prog w) A (letOwnedTupleGo target (.ref I) v) Q' (fun _ _ => False) s')
    (hst : St 0 s.heap) (hsz : n ≤ 1000) (F : Fr h₀ L s.heap m) (N : News h₀ L s.heap news) (hsrc : ∀ p ∈ srcs, p ∈ news) (hoff : ∀ p ∈ news, p.1 ≠ I) (hIlt : I < s.heap.objs.size)
    (hcell : ∀ y ∈ scope.names, y.2 ≠ .cell) (hkind : scope.kind = .function)
    (Bd : Nat → (Str → Option Value) → Prop) (J : Nat → List Value → List (Addr × Obj) → Prop) (h0 : J 0 [] news)
    (hasg : ∀ i v C ys news₁ (s' : Shared) m' (Q' : Unit → Shared → Prop), P i v → J i ys news₁ → (∀ p ∈ news₁, s'.heap.get? p.1 = some p.2) → s'.heap.Ns C m' →
      (∀ h' tk m'', h'.Ns C m'' → Bd i m'' → (∀ c o, c ≠ C → s'.heap.get? c = some o → h'.get? c = some o) → Q' () { s' with heap := h', toks := tk }) → wpAny (model prog w) A (assign target (compEnvC scope cl C env) v) Q' (fun _ _ => False) s')
    (helt : ∀ i v ys news₁ oI C oC D m₂ h₁ tk₁, i < n → P i v → J i ys news₁ → (∀ p ∈ srcs, p ∈ news₁) → Bd i m₂ → LCg.NsObj oC m₂ → Fr h₀ L h₁ m → News h₀ L h₁ ((I, oI) :: (C, oC) :: (D, listOf ys.toArray ys.length) :: news₁) → (∀ p ∈ news₁, p.1 ≠ I ∧ p.1 ≠ C ∧ p.1 ≠ D) → (I ≠ C ∧ I ≠ D ∧ C ≠ D) →
      wpAny (model prog w) A (testsOf ifs (compEnvC scope cl C env)) (fun ok s₃ =>
        if ok = true then wpAny (model prog w) A (eval elt (compEnvC scope cl C env)) (fun y s₄ => CEnd h₀ L m s [(I, oI), (C, oC), (D, listOf ys.toArray ys.length)] I C D srcs (J (i + 1) (ys ++ [y])) s₄) (fun _ _ => False) s₃
        else CEnd h₀ L m s [(I, oI), (C, oC), (D, listOf ys.toArray ys.length)] I C D srcs (J (i + 1) ys) s₃) (fun _ _ => False) { s with heap := h₁, toks := tk₁ })
    (hfin : ∀ D C oC m' ys news' h tk, J n ys news' → (∀ p ∈ srcs, p ∈ news') → Fr h₀ L h m → News h₀ L h ((C, oC) :: (D, listOf ys.toArray ys.length) :: news') → LCg.NsObj oC m' → (∀ p ∈ news', p.1 ≠ D) → (∀ p ∈ (D, listOf ys.toArray ys.length) :: news', p.1 ≠ C) → RR (.ref D) C (.ok .next) { s with heap := h, toks := tk }) :
    wpAny (model prog w) A (newList []) (fun acc s₃ => wpAny (model prog w) A (newFunctionEnv scope env.globals cl [] env.qual none .none (some env)) (fun cenv s₄ =>
      codeAny (model prog w) A (.compStart (.ListComp elt [⟨target, iter, ifs, 0⟩] scope pos) 0 (.ref I) acc { cenv with scope := relabel scope env }) (RR acc cenv.locals) s₄) E s₃) E s := by
  refine wpAny_newObj_type (wpAny_newFunctionEnv hcell (by intro y hy; simp at hy) (fun h₁ hns₁ hsb₁ => ?_) hkind)
  dsimp only at hns₁ hsb₁ ⊢
  generalize hH2 : s.heap.push { cls := .type "list", dict := none, data := .seq ([] : List Value).toArray } = H2 at hns₁ hsb₁ ⊢
  have hC : H2.objs.size = s.heap.objs.size + 1 := by rw [← hH2, Heap.size_push]
  generalize hCe : H2.objs.size = C at hns₁ hsb₁ hC ⊢
  generalize hDe : s.heap.objs.size = D at hC hIlt ⊢
  have hDC : @LT.lt Nat _ D C := hC ▸ Nat.lt_succ_self D
  have hCD : C ≠ D := Nat.ne_of_gt hDC
  have hIC : I ≠ C := Nat.ne_of_lt (Nat.lt_trans hIlt hDC)
  have hID : I ≠ D := Nat.ne_of_lt hIlt
  have hLD : L < D := hDe ▸ F.ns.lt
  have hLC : L < C := Nat.lt_trans hLD hDC
  have below : ∀ b o, s.heap.get? b = some o → b < D := fun b o e => hDe ▸ Heap.lt_size e
  have fresh₀ : ∀ a, D ≤ a → h₀.get? a = none := fun a ha => by
    cases e : h₀.get? a with
    | none => rfl
    | some o' => exact absurd (below _ _ (F.keep a o' e)) (Nat.not_lt.mpr ha)
  have hD₀ := fresh₀ D (Nat.le_refl _)
  have hC₀ := fresh₀ C (Nat.le_of_lt hDC)
  have old : ∀ b o, s.heap.get? b = some o → h₁.get? b = some o := fun b o e =>
    hsb₁.extBut b o (Nat.ne_of_lt (Nat.lt_trans (below _ _ e) hDC)) (Heap.get?_push_of_some _ (hH2 ▸ Heap.get?_push_of_some _ e))
  have hacc : h₁.get? D = some (listOf ([] : List Value).toArray ([] : List Value).length) := hsb₁.extBut _ _ (Ne.symm hCD) (Heap.get?_push_of_some _ (by rw [← hH2, ← hDe]; exact Heap.get?_push_size _ rfl))
  have hst₁ : St 0 h₁ := W.frame _ _ _ hst fun b _ o e => old b o e
  have off₀ : ∀ p ∈ news, p.1 ≠ I ∧ p.1 ≠ C ∧ p.1 ≠ D := fun p hp => ⟨hoff p hp, Nat.ne_of_lt (Nat.lt_trans (below _ _ (N p hp).1) hDC), Nat.ne_of_lt (below _ _ (N p hp).1)⟩
  have loop : ∀ s₃ : Shared, (∃ tk, s₃ = { s with heap := h₁, toks := tk }) →
      codeAny (model prog w) A (.compLoop (.ListComp elt [⟨target, iter, ifs, 0⟩] scope pos) 0 (.ref I) (.ref D) (compEnvC scope cl C env)) (RR (.ref D) C) s₃ := by
    rintro s₃ ⟨tk₀, rfl⟩
    refine compLoop_gen
      (fun k s' => ∃ h' tk i ys m' news', s' = { s with heap := h', toks := tk } ∧ i ≤ n ∧ k = n + 1 - i ∧ ys.length ≤ i ∧ St i h' ∧ Fr h₀ L h' m ∧ h'.Ns C m' ∧ News h₀ L h' ((D, listOf ys.toArray ys.length) :: news') ∧
        (∀ p ∈ news', p.1 ≠ I ∧ p.1 ≠ C ∧ p.1 ≠ D) ∧ (∀ p ∈ srcs, p ∈ news') ∧ J i ys news') ?_ (n + 1)
      ⟨h₁, _, 0, [], _, news, rfl, Nat.zero_le _, rfl, Nat.le_refl _, hst₁, F.keeps old, hns₁, fun p hp => ?_, off₀, hsrc, h0⟩
    · rintro k s' ⟨h', tk, i, ys, m', news', rfl, hi, rfl, hyl, hst', F', hn', N', off', hsrc', hJ⟩
      by_cases hlt : i < n
      · refine W.item i _ _ _ hlt hst' fun v h₂ tk₂ hPv hst₂ hk₂ => ?_
        have hk₂' : ∀ b o, b ≠ I → h'.get? b = some o → h₂.get? b = some o := fun b o hb e => hk₂ b o (by simpa using hb) e
        have F₂ : Fr h₀ L h₂ m := ⟨F'.ns.at' fun o e => hk₂' _ o hIL e, fun b o e => hk₂' b o (fun hb => by rw [hb, hI₀] at e; cases e) (F'.keep b o e), F'.above⟩
        have N₂ : News h₀ L h₂ ((D, listOf ys.toArray ys.length) :: news') := fun p hp => by
          refine ⟨hk₂' _ _ ?_ (N' p hp).1, (N' p hp).2⟩
          rcases List.mem_cons.mp hp with rfl | hp
          · exact Ne.symm hID
          · exact (off' p hp).1
        have hn₂ : h₂.Ns C m' := hn'.at' fun o e => hk₂' _ o (Ne.symm hIC) e
        refine hgo (i + 1) { s with heap := h₂, toks := tk₂ } v (fun _ s₁' => wpAny (model prog w) A (assign target (compEnvC scope cl C env) v) _ (fun _ _ => False) s₁') hst₂ ?_
        refine hasg i v C ys news' { s with heap := h₂, toks := tk₂ } m' _ hPv hJ (fun p hp => (N₂ p (.tail _ hp)).1) hn₂ fun h₃ tk₃ m₃ hn₃ hBd hk₃ => ?_
        have hst₃ : St (i + 1) h₃ := W.frame _ _ _ hst₂ fun b hb o e => hk₃ b o (by
          rcases hfp b hb with rfl | ⟨ob, hob⟩
          · exact hIC
          · exact (off' _ (hsrc' _ hob)).2.1) e
        obtain ⟨oI, heI⟩ := hIo _ _ hst₃
        obtain ⟨oC, heC, hoC⟩ := LCg.ns_obj hn₃
        have F₃ : Fr h₀ L h₃ m := ⟨F₂.ns.at' fun o e => hk₃ _ o (Nat.ne_of_lt hLC) e, fun b o e => hk₃ b o (fun hb => by rw [hb, hC₀] at e; cases e) (F₂.keep b o e), F₂.above⟩
        have N₃ : News h₀ L h₃ ((I, oI) :: (C, oC) :: (D, listOf ys.toArray ys.length) :: news') := fun p hp => by
          rcases List.mem_cons.mp hp with rfl | hp
          · exact ⟨heI, Ne.symm hIL, hI₀⟩
          · rcases List.mem_cons.mp hp with rfl | hp
            · exact ⟨heC, Ne.symm (Nat.ne_of_lt hLC), hC₀⟩
            · refine ⟨hk₃ _ _ ?_ (N₂ p hp).1, (N₂ p hp).2⟩
              rcases List.mem_cons.mp hp with rfl | hp
              · exact Ne.symm hCD
              · exact (off' p hp).2.1
        have fin : ∀ (ys' : List Value) (s₄ : Shared), CEnd h₀ L m s [(I, oI), (C, oC), (D, listOf ys.toArray ys.length)] I C D srcs (J (i + 1) ys') s₄ →
            ∃ h₄ tk₄ news₄, s₄ = { s with heap := h₄, toks := tk₄ } ∧ St (i + 1) h₄ ∧ Fr h₀ L h₄ m ∧ h₄.Ns C m₃ ∧ News h₀ L h₄ ((D, listOf ys.toArray ys.length) :: news₄) ∧ (∀ p ∈ news₄, p.1 ≠ I ∧ p.1 ≠ C ∧ p.1 ≠ D) ∧ (∀ p ∈ srcs, p ∈ news₄) ∧ J (i + 1) ys' news₄ := by
          rintro ys' s₄ ⟨h₄, tk₄, all, news₄, rfl, F₄, N₄, hall, hs₄, off₄, hJ₄⟩
          have zI := (N₄ (I, oI) (hall _ (.head _))).1
          have zC := (N₄ (C, oC) (hall _ (.tail _ (.head _)))).1
          refine ⟨h₄, tk₄, news₄, rfl, W.frame _ _ _ hst₃ fun b hb o e => ?_, F₄, hoC.ns zC, fun p hp => ?_, off₄, hs₄, hJ₄⟩
          · rcases hfp b hb with rfl | ⟨ob, hob⟩
            · rw [heI] at e; cases e; exact zI
            · have e' := (N₃ _ (.tail _ (.tail _ (.tail _ (hsrc' _ hob))))).1
              rw [e'] at e; cases e
              exact (N₄ _ (hall _ (.tail _ (.tail _ (.tail _ (hs₄ _ hob)))))).1
          · exact N₄ _ (hall _ (.tail _ (.tail _ hp)))
        refine wpAny_mono (helt i v ys news' oI C oC D m₃ h₃ _ hlt hPv hJ hsrc' hBd hoC F₃ N₃ off' ⟨hIC, hID, hCD⟩) (fun ok s₃ h₃' => ?_) (fun _ _ x => x)
        cases ok with
        | false =>
          simp only [Bool.false_eq_true, if_false] at h₃' ⊢
          obtain ⟨h₄, tk₄, news₄, rfl, st₄, F₄, ns₄, N₄, off₄, hs₄, hJ₄⟩ := fin _ _ h₃'
          exact ⟨n + 1 - (i + 1), by omega, h₄, tk₄, i + 1, ys, _, news₄, rfl, hlt, rfl, by omega, st₄, F₄, ns₄, N₄, off₄, hs₄, hJ₄⟩
        | true =>
          simp only [if_true] at h₃' ⊢
          refine wpAny_mono h₃' (fun y s₄ h₄' => ?_) (fun _ _ x => x)
          obtain ⟨h₄, tk₄, news₄, rfl, st₄, F₄, ns₄, N₄, off₄, hs₄, hJ₄⟩ := fin _ _ h₄'
          refine append_at (hsz := by rw [List.size_toArray]; have := sizeLine_eq; omega) (N₄ _ (.head _)).1 fun h₅ hs₅ hD₅ => ?_
          refine ⟨n + 1 - (i + 1), by omega, h₅, tk₄, i + 1, ys ++ [y], _, news₄, rfl, hlt, rfl, by rw [List.length_append, List.length_singleton]; omega, W.frame _ _ _ st₄ fun b hb o e => hs₅.extBut b o (by
            rcases hfp b hb with rfl | ⟨ob, hob⟩
            · exact hID
            · exact (off₄ _ (hs₄ _ hob)).2.2) e, F₄.change hs₅ (Ne.symm (Nat.ne_of_lt hLD)) hD₀, ns₄.sameBut hs₅ hCD, fun p hp => ?_, off₄, hs₄, hJ₄⟩
          rcases List.mem_cons.mp hp with rfl | hp
          · exact ⟨hD₅.trans (congrArg some (LCg.lst_snoc ys y)), Ne.symm (Nat.ne_of_lt hLD), hD₀⟩
          · exact ⟨hs₅.extBut _ _ (off₄ p hp).2.2 (N₄ p (.tail _ hp)).1, (N₄ p (.tail _ hp)).2⟩
      · obtain rfl : i = n := Nat.le_antisymm hi (Nat.not_lt.mp hlt)
        refine W.done _ _ _ hst' fun h₂ tk₂ hk₂ => ?_
        have hk₂' : ∀ b o, b ≠ I → h'.get? b = some o → h₂.get? b = some o := fun b o hb e => hk₂ b o (by simpa using hb) e
        have F₂ : Fr h₀ L h₂ m := ⟨F'.ns.at' fun o e => hk₂' _ o hIL e, fun b o e => hk₂' b o (fun hb => by rw [hb, hI₀] at e; cases e) (F'.keep b o e), F'.above⟩
        have N₂ : News h₀ L h₂ ((D, listOf ys.toArray ys.length) :: news') := fun p hp => by
          refine ⟨hk₂' _ _ ?_ (N' p hp).1, (N' p hp).2⟩
          rcases List.mem_cons.mp hp with rfl | hp
          · exact Ne.symm hID
          · exact (off' p hp).1
        have hn₂ : h₂.Ns C m' := hn'.at' fun o e => hk₂' _ o (Ne.symm hIC) e
        obtain ⟨oC, heC, hoC⟩ := LCg.ns_obj hn₂
        have offC : ∀ p ∈ (D, listOf ys.toArray ys.length) :: news', p.1 ≠ C := fun p hp => by
          rcases List.mem_cons.mp hp with rfl | hp
          · exact Ne.symm hCD
          · exact (off' p hp).2.1
        refine hfin D C oC m' ys news' h₂ tk₂ hJ hsrc' F₂ (fun p hp => ?_) hoC (fun p hp => (off' p hp).2.2) offC
        rcases List.mem_cons.mp hp with rfl | hp
        · exact ⟨heC, Ne.symm (Nat.ne_of_lt hLC), hC₀⟩
        · exact N₂ p hp
    · rcases List.mem_cons.mp hp with rfl | hp
      · exact ⟨hacc, Ne.symm (Nat.ne_of_lt hLD), hD₀⟩
      · exact ⟨old _ _ (N p hp).1, (N p hp).2⟩
  exact codeAny_compStart_list (loop _ ⟨_, rfl⟩) (W.self 0 _ _ _ hst₁ (loop _ ⟨_, rfl⟩))

/-- the end of a block whose list is handed on -/
theorem comp_out {Q : Value → Shared → Prop} {D C : Addr} {oC : Obj} {m' : Str → Option Value} {news' : List (Addr × Obj)} {h : Heap} {tk : Nat} {lo : Obj} (F : Fr h₀ L h m) (N : News h₀ L h ((C, oC) :: (D, lo) :: news')) (hoC : LCg.NsObj oC m')
    (offC : ∀ p ∈ (D, lo) :: news', p.1 ≠ C) (hq : ∀ h', Fr h₀ L h' m → News h₀ L h' ((D, lo) :: news') → Q (.ref D) { s with heap := h', toks := tk }) :
    compPost (model prog w) A E none Q (.ref D) C (.ok .next) { s with heap := h, toks := tk } := by
  have z := N (C, oC) (.head _)
  refine ⟨m', hoC.ns z.1, fun h₃ hs₃ => hq h₃ (F.change hs₃ z.2.1 z.2.2) fun p hp => ?_⟩
  have y := N p (.tail _ hp)
  exact ⟨hs₃.extBut _ _ (offC p hp) y.1, y.2⟩
/-- the end of a block whose list is stored -/
def CUse (h₀ : Heap) (L : Addr) (s : Shared) (C : Addr) (Q : Value → Shared → Prop) (_ : Unit) (s'' : Shared) : Prop :=
  ∃ h' tk m' oC mC news', s'' = { s with heap := h', toks := tk } ∧ Fr h₀ L h' m' ∧ News h₀ L h' ((C, oC) :: news') ∧ LCg.NsObj oC mC ∧ (∀ p ∈ news', p.1 ≠ C) ∧ ∀ h'', Fr h₀ L h'' m' → News h₀ L h'' news' → Q .none { s with heap := h'', toks := tk }
theorem comp_use {Q : Value → Shared → Prop} {D C : Addr} {h : Heap} {tk : Nat} {u : Value → Sem Unit}
    (hq : wpAny (model prog w) A (u (.ref D)) (CUse h₀ L s C Q) E { s with heap := h, toks := tk }) :
    compPost (model prog w) A E (some u) Q (.ref D) C (.ok .next) { s with heap := h, toks := tk } := by
  refine wpAny_mono hq (fun _ s'' hc => ?_) (fun _ _ x => x)
  obtain ⟨h', tk', m', oC, mC, news', rfl, F, N, hoC, offC, hq⟩ := hc
  have z := N (C, oC) (.head _)
  refine ⟨mC, hoC.ns z.1, fun h₃ hs₃ => hq h₃ (F.change hs₃ z.2.1 z.2.2) fun p hp => ?_⟩
  have y := N p (.tail _ hp)
  exact ⟨hs₃.extBut _ _ (offC p hp) y.1, y.2⟩

theorem ListComp_open {elt target iter : Expr} {ifs : List Expr} {gs : List Comprehension} {scope : Scope} {cl : List (Str × Addr)} {pos : Pos} {Q : Value → Shared → Prop}
    (hclos : closureFor scope env = pure cl) (hkind : scope.kind = .function) (hnames : ∀ y ∈ scope.names, y.2 = .local → scope.names.lookup y.1 = some .local)
    (h : wpAny (model prog w) A (eval iter env) (fun xv s₁ => wpAny (model prog w) A (pyIter xv) (fun it s₂ => wpAny (model prog w) A (newList []) (fun acc s₃ => wpAny (model prog w) A (newFunctionEnv scope env.globals cl [] env.qual none .none (some env)) (fun cenv s₄ =>
      codeAny (model prog w) A (.compStart (.ListComp elt (⟨target, iter, ifs, 0⟩ :: gs) scope pos) 0 it acc { cenv with scope := relabel scope env }) (compPost (model prog w) A E none Q acc cenv.locals) s₄) E s₃) E s₂) E s₁) E s)
    (hs : ∀ x, foldedSetIterable iter env x = pure x := by intro _; rfl) :
    wpAny (model prog w) A (eval (.ListComp elt (⟨target, iter, ifs, 0⟩ :: gs) scope pos) env) Q E s := by
  rw [eval_ListComp]
  exact wpAny_comprehension_free (use := none) rfl hs hclos hkind hnames h
theorem AssignComp_open {elt target iter : Expr} {ifs : List Expr} {gs : List Comprehension} {scope : Scope} {cl : List (Str × Addr)} {pos spos py : Pos} {y : Str} {Q : Flow → Shared → Prop}
    (hsw : swapsWith (.ListComp elt (⟨target, iter, ifs, 0⟩ :: gs) scope pos) (some (.Name y py)) spos.line env = pure true)
    (hclos : closureFor scope env = pure cl) (hkind : scope.kind = .function) (hnames : ∀ y ∈ scope.names, y.2 = .local → scope.names.lookup y.1 = some .local)
    (h : wpAny (model prog w) A (eval iter env) (fun xv s₁ => wpAny (model prog w) A (pyIter xv) (fun it s₂ => wpAny (model prog w) A (newList []) (fun acc s₃ => wpAny (model prog w) A (newFunctionEnv scope env.globals cl [] env.qual none .none (some env)) (fun cenv s₄ =>
      codeAny (model prog w) A (.compStart (.ListComp elt (⟨target, iter, ifs, 0⟩ :: gs) scope pos) 0 it acc { cenv with scope := relabel scope env }) (compPost (model prog w) A E (some (assign (.Name y py) env)) (fun _ s' => Q .next s') acc cenv.locals) s₄) E s₃) E s₂) E s₁) E s)
    (hs : ∀ x, foldedSetIterable iter env x = pure x := by intro _; rfl) :
    wpAny (model prog w) A (exec (.Assign [.Name y py] (.ListComp elt (⟨target, iter, ifs, 0⟩ :: gs) scope pos) spos) env) Q E s := by
  rw [exec_Assign_Name_used _ _ _ _ hsw]
  refine wpAny_bind (wpAny_standAt (wpAny_bind ?_))
  show wpAny _ A (do let _ ← comprehension (.ListComp elt (⟨target, iter, ifs, 0⟩ :: gs) scope pos) scope env _ (newList []) false (eval iter env) (some (assign (.Name y py) env))) _ _ s
  exact wpAny_bind (wpAny_mono (wpAny_comprehension_free (use := some (assign (.Name y py) env)) (Q := fun _ s' => Q .next s') rfl hs hclos hkind hnames h) (fun _ s' hq => wpAny_pure (wpAny_pure hq)) fun _ _ e => e)
end
end Mine
end

/-! ## L9 -/
section
open PySem PySem.W PyProof.Rows PySem.Calls PySem.Spec PySem.SeqAt
set_option maxRecDepth 100000
namespace Mine
section
variable {prog : Program} {w : World} {A : Around} {E : Value → Shared → Prop} {s : Shared} {env : Env} {h₀ : Heap} {L : Addr} {m : Str → Option Value} {news : List (Addr × Obj)}

theorem comp_list {elt target iter : Expr} {ifs : List Expr} {scope : Scope} {cl : List (Str × Addr)} {pos : Pos} {ax : Addr} {vs : List Value} {nn : Nat} {RR : Value → Addr → Result → Shared → Prop}
    (hh : A.handled = none) (F : Fr h₀ L s.heap m) (N : News h₀ L s.heap news) (hm : (ax, listOf vs.toArray nn) ∈ news) (hsz : vs.length ≤ 1000)
    (hcell : ∀ y ∈ scope.names, y.2 ≠ .cell) (hkind : scope.kind = .function)
    (Bd : Nat → (Str → Option Value) → Prop) (J : Nat → List Value → List (Addr × Obj) → Prop) (h0 : J 0 [] news)
    (hasg : ∀ i v C ys news₁ (s' : Shared) m' (Q' : Unit → Shared → Prop), vs[i]? = some v → J i ys news₁ → (∀ p ∈ news₁, s'.heap.get? p.1 = some p.2) → s'.heap.Ns C m' →
      (∀ h' tk m'', h'.Ns C m'' → Bd i m'' → (∀ c o, c ≠ C → s'.heap.get? c = some o → h'.get? c = some o) → Q' () { s' with heap := h', toks := tk }) → wpAny (model prog w) A (assign target (compEnvC scope cl C env) v) Q' (fun _ _ => False) s')
    (helt : ∀ i v ys news₁ I oI C oC D m₂ h₁ tk₁, vs[i]? = some v → J i ys news₁ → (ax, listOf vs.toArray nn) ∈ news₁ → Bd i m₂ → LCg.NsObj oC m₂ → Fr h₀ L h₁ m → News h₀ L h₁ ((I, oI) :: (C, oC) :: (D, listOf ys.toArray ys.length) :: news₁) → (∀ p ∈ news₁, p.1 ≠ I ∧ p.1 ≠ C ∧ p.1 ≠ D) → (I ≠ C ∧ I ≠ D ∧ C ≠ D) →
      wpAny (model prog w) A (testsOf ifs (compEnvC scope cl C env)) (fun ok s₃ =>
        if ok = true then wpAny (model prog w) A (eval elt (compEnvC scope cl C env)) (fun y s₄ => CEnd h₀ L m s [(I, oI), (C, oC), (D, listOf ys.toArray ys.length)] I C D [(ax, listOf vs.toArray nn)] (J (i + 1) (ys ++ [y])) s₄) (fun _ _ => False) s₃
        else CEnd h₀ L m s [(I, oI), (C, oC), (D, listOf ys.toArray ys.length)] I C D [(ax, listOf vs.toArray nn)] (J (i + 1) ys) s₃) (fun _ _ => False) { s with heap := h₁, toks := tk₁ })
    (hfin : ∀ D C oC m' ys news' h tk, J vs.length ys news' → (ax, listOf vs.toArray nn) ∈ news' → Fr h₀ L h m → News h₀ L h ((C, oC) :: (D, listOf ys.toArray ys.length) :: news') → LCg.NsObj oC m' → (∀ p ∈ news', p.1 ≠ D) → (∀ p ∈ (D, listOf ys.toArray ys.length) :: news', p.1 ≠ C) → RR (.ref D) C (.ok .next) { s with heap := h, toks := tk }) :
    wpAny (model prog w) A (pyIter (.ref ax)) (fun it s₂ => wpAny (model prog w) A (newList []) (fun acc s₃ => wpAny (model prog w) A (newFunctionEnv scope env.globals cl [] env.qual none .none (some env)) (fun cenv s₄ =>
      codeAny (model prog w) A (.compStart (.ListComp elt [⟨target, iter, ifs, 0⟩] scope pos) 0 it acc { cenv with scope := relabel scope env }) (RR acc cenv.locals) s₄) E s₃) E s₂) E s := by
  have hls : s.heap.IsList ax vs.toArray := PySem.IsL.isList (n := nn) (N _ hm).1
  obtain ⟨ol, hol, _⟩ := id hls
  have hlt := Heap.lt_size hol
  refine wpAny_pyIter_list hls ?_
  have W := Walks.list (prog := prog) (w := w) hh s.heap.objs.size ax (Nat.ne_of_lt hlt) vs.toArray
  refine comp_W (s := { s with heap := s.heap.push _ }) (srcs := [(ax, listOf vs.toArray nn)]) W (fun b hb => ?_) (fun i h st => ?_) (Nat.ne_of_lt F.ns.lt) (next_is_new F) (fun i s' v Q' st hQ' => letGo_listiter st.1 hQ')
    ⟨⟨_, Heap.get?_push_size _ rfl, rfl, rfl⟩, hls.at fun o e => Heap.get?_push_of_some _ e⟩ (by simpa using hsz) (F.push _) (fun p hp => ⟨Heap.get?_push_of_some _ (N p hp).1, (N p hp).2⟩)
    (fun p hp => by rw [List.mem_singleton.mp hp]; exact hm) (fun p hp => Nat.ne_of_lt (Heap.lt_size (N p hp).1)) ?_ hcell hkind Bd J h0 ?_ ?_ ?_
  · rcases List.mem_cons.mp hb with rfl | hb
    · exact .inl rfl
    · exact .inr ⟨_, by rw [List.mem_singleton.mp hb]; exact .head _⟩
  · obtain ⟨o, ho, _⟩ := st.1
    exact ⟨o, ho⟩
  · show s.heap.objs.size < (s.heap.push _).objs.size
    rw [Heap.size_push]
    exact Nat.lt_succ_self _
  · intro i v C ys news₁ s' m' Q' hP
    exact hasg i v C ys news₁ s' m' Q' (by simpa using hP)
  · intro i v ys news₁ oI C oC D m₂ h₁ tk₁ _ hP hJ hs
    exact helt i v ys news₁ _ oI C oC D m₂ h₁ tk₁ (by simpa using hP) hJ (hs _ (.head _))
  · intro D C oC m' ys news' h tk hJ hs
    exact hfin D C oC m' ys news' h tk (by simpa using hJ) (hs _ (.head _))

theorem comp_range {elt target iter : Expr} {ifs : List Expr} {scope : Scope} {cl : List (Str × Addr)} {pos : Pos} {r : Addr} {a b : Int} {t u v : Tok} {n : Nat} {RR : Value → Addr → Result → Shared → Prop}
    (hh : A.handled = none) (F : Fr h₀ L s.heap m) (N : News h₀ L s.heap news) (hr : IsRange s.heap r a b 1 t u v)
    (hsmall : Builtin.Range.small a b 1 = true) (hn : Builtin.Range.rangeSize a b 1 = (n : Int)) (hgo : ∀ it v, letOwnedTupleGo target it v = pure ()) (hsz : n ≤ 1000)
    (hcell : ∀ y ∈ scope.names, y.2 ≠ .cell) (hkind : scope.kind = .function)
    (Bd : Nat → (Str → Option Value) → Prop) (J : Nat → List Value → List (Addr × Obj) → Prop) (h0 : J 0 [] news)
    (hasg : ∀ (i : Nat) (v : Value) C ys news₁ (s' : Shared) m' (Q' : Unit → Shared → Prop), (∃ t, v = Value.int (a + i * 1) t) → J i ys news₁ → (∀ p ∈ news₁, s'.heap.get? p.1 = some p.2) → s'.heap.Ns C m' →
      (∀ h' tk m'', h'.Ns C m'' → Bd i m'' → (∀ c o, c ≠ C → s'.heap.get? c = some o → h'.get? c = some o) → Q' () { s' with heap := h', toks := tk }) → wpAny (model prog w) A (assign target (compEnvC scope cl C env) v) Q' (fun _ _ => False) s')
    (helt : ∀ (i : Nat) (v : Value) ys news₁ I oI C oC D m₂ h₁ tk₁, i < n → (∃ t, v = Value.int (a + i * 1) t) → J i ys news₁ → Bd i m₂ → LCg.NsObj oC m₂ → Fr h₀ L h₁ m → News h₀ L h₁ ((I, oI) :: (C, oC) :: (D, listOf ys.toArray ys.length) :: news₁) → (∀ p ∈ news₁, p.1 ≠ I ∧ p.1 ≠ C ∧ p.1 ≠ D) → (I ≠ C ∧ I ≠ D ∧ C ≠ D) →
      wpAny (model prog w) A (testsOf ifs (compEnvC scope cl C env)) (fun ok s₃ =>
        if ok = true then wpAny (model prog w) A (eval elt (compEnvC scope cl C env)) (fun y s₄ => CEnd h₀ L m s [(I, oI), (C, oC), (D, listOf ys.toArray ys.length)] I C D [] (J (i + 1) (ys ++ [y])) s₄) (fun _ _ => False) s₃
        else CEnd h₀ L m s [(I, oI), (C, oC), (D, listOf ys.toArray ys.length)] I C D [] (J (i + 1) ys) s₃) (fun _ _ => False) { s with heap := h₁, toks := tk₁ })
    (hfin : ∀ D C oC m' ys news' h tk, J n ys news' → Fr h₀ L h m → News h₀ L h ((C, oC) :: (D, listOf ys.toArray ys.length) :: news') → LCg.NsObj oC m' → (∀ p ∈ news', p.1 ≠ D) → (∀ p ∈ (D, listOf ys.toArray ys.length) :: news', p.1 ≠ C) → RR (.ref D) C (.ok .next) { s with heap := h, toks := tk }) :
    wpAny (model prog w) A (pyIter (.ref r)) (fun it s₂ => wpAny (model prog w) A (newList []) (fun acc s₃ => wpAny (model prog w) A (newFunctionEnv scope env.globals cl [] env.qual none .none (some env)) (fun cenv s₄ =>
      codeAny (model prog w) A (.compStart (.ListComp elt [⟨target, iter, ifs, 0⟩] scope pos) 0 it acc { cenv with scope := relabel scope env }) (RR acc cenv.locals) s₄) E s₃) E s₂) E s := by
  refine wpAny_pyIter_range hr hsmall ?_
  have W := Walks.range (prog := prog) (w := w) hh s.heap.objs.size a 1 n
  refine comp_W (s := { s with heap := s.heap.push _ }) (srcs := []) W (fun b hb => .inl (List.mem_singleton.mp hb)) (fun i h st => ⟨_, st⟩) (Nat.ne_of_lt F.ns.lt) (next_is_new F) (fun i s' v Q' st hQ' => wpAny_of_eq (hgo _ _) hQ')
    ?_ hsz (F.push _) (fun p hp => ⟨Heap.get?_push_of_some _ (N p hp).1, (N p hp).2⟩)
    (fun p hp => nomatch hp) (fun p hp => Nat.ne_of_lt (Heap.lt_size (N p hp).1)) ?_ hcell hkind Bd J h0 hasg ?_ ?_
  · show IsRangeIter _ _ _ _ _
    rw [hn]
    simpa using Heap.get?_push_size _ rfl
  · show s.heap.objs.size < (s.heap.push _).objs.size
    rw [Heap.size_push]
    exact Nat.lt_succ_self _
  · intro i v ys news₁ oI C oC D m₂ h₁ tk₁ hi hP hJ hs
    exact helt i v ys news₁ _ oI C oC D m₂ h₁ tk₁ hi hP hJ
  · intro D C oC m' ys news' h tk hJ hs
    exact hfin D C oC m' ys news' h tk hJ

/-! ### the targets -/
theorem comp_local {scope : Scope} {cl : List (Str × Addr)} {C : Addr} {x : Str} (hx : scope.names.lookup x = some .local) : (compEnvC scope cl C env).kindOf x = some .local := lookup_relabel_local hx
theorem comp_plain {scope : Scope} {cl : List (Str × Addr)} {C : Addr} (hk : scope.kind = .function) : ((compEnvC scope cl C env).scope.kind == .class || ((compEnvC scope cl C env).scope.kind == .module && (compEnvC scope cl C env).locals != (compEnvC scope cl C env).globals)) = false := by
  simp [compEnvC, relabel, hk]
theorem asg_name {scope : Scope} {cl : List (Str × Addr)} {C : Addr} {x : Str} {px : Pos} {v : Value} {m' : Str → Option Value} {Q : Unit → Shared → Prop} (hx : scope.names.lookup x = some .local) (hk : scope.kind = .function) (hn : s.heap.Ns C m')
    (h : ∀ h' tk, h'.Ns C (fun z => if z = x then some v else m' z) → (∀ c o, c ≠ C → s.heap.get? c = some o → h'.get? c = some o) → Q () { s with heap := h', toks := tk }) :
    wpAny (model prog w) A (assign (.Name x px) (compEnvC scope cl C env) v) Q E s :=
  wpAny_assign_Name (wpAny_storeName_local (comp_local hx) hn (fun h₃ hn₃ hs₃ => h h₃ _ hn₃ fun c o hc e => hs₃.extBut c o hc e) (comp_plain hk))
theorem asg_pair {scope : Scope} {cl : List (Str × Addr)} {C : Addr} {a b : Str} {pa pb tp : Pos} {kk : Nat} {T : Addr} {x y : Value} {m' : Str → Option Value} {Q : Unit → Shared → Prop} (hh : A.handled = none) (ht : s.heap.IsTuple T #[x, y])
    (ha : scope.names.lookup a = some .local) (hb : scope.names.lookup b = some .local) (hk : scope.kind = .function) (hn : s.heap.Ns C m')
    (h : ∀ h' tk, h'.Ns C (fun z => if z = b then some y else if z = a then some x else m' z) → (∀ c o, c ≠ C → s.heap.get? c = some o → h'.get? c = some o) → Q () { s with heap := h', toks := tk }) :
    wpAny (model prog w) A (assign (.Tuple [.Name a pa, .Name b pb] kk tp) (compEnvC scope cl C env) (.ref T)) Q E s := by
  refine wpAny_assign_Tuple hh ht rfl rfl fun h₁ he₁ => ?_
  have up₁ : ∀ c o, s.heap.get? c = some o → h₁.get? c = some o := fun c o e => he₁ c o (Nat.ne_of_lt (Heap.lt_size e)) e
  show wpAny _ _ (assignInOrder [assign (.Name a pa) (compEnvC scope cl C env), assign (.Name b pb) (compEnvC scope cl C env)] [x, y]) _ _ _
  refine assignInOrder_cons (asg_name ha hk (hn.at' fun o e => up₁ _ o e) fun h₂ tk₂ hn₂ hs₂ => ?_)
  refine assignInOrder_cons (asg_name hb hk hn₂ fun h₃ tk₃ hn₃ hs₃ => assignInOrder_nil ?_)
  exact h h₃ _ hn₃ fun c o hc e => hs₃ c o hc (hs₂ c o hc (up₁ c o e))
theorem asg_triple {scope : Scope} {cl : List (Str × Addr)} {C : Addr} {a b c : Str} {pa pb pc tp : Pos} {kk : Nat} {T : Addr} {x y z : Value} {m' : Str → Option Value} {Q : Unit → Shared → Prop} (hh : A.handled = none) (ht : s.heap.IsTuple T #[x, y, z])
    (ha : scope.names.lookup a = some .local) (hb : scope.names.lookup b = some .local) (hc : scope.names.lookup c = some .local) (hk : scope.kind = .function) (hn : s.heap.Ns C m')
    (h : ∀ h' tk, h'.Ns C (fun q => if q = c then some z else if q = b then some y else if q = a then some x else m' q) → (∀ c o, c ≠ C → s.heap.get? c = some o → h'.get? c = some o) → Q () { s with heap := h', toks := tk }) :
    wpAny (model prog w) A (assign (.Tuple [.Name a pa, .Name b pb, .Name c pc] kk tp) (compEnvC scope cl C env) (.ref T)) Q E s := by
  refine wpAny_assign_Tuple hh ht rfl rfl fun h₁ he₁ => ?_
  have up₁ : ∀ c o, s.heap.get? c = some o → h₁.get? c = some o := fun c o e => he₁ c o (Nat.ne_of_lt (Heap.lt_size e)) e
  show wpAny _ _ (assignInOrder [assign (.Name a pa) (compEnvC scope cl C env), assign (.Name b pb) (compEnvC scope cl C env), assign (.Name c pc) (compEnvC scope cl C env)] [x, y, z]) _ _ _
  refine assignInOrder_cons (asg_name ha hk (hn.at' fun o e => up₁ _ o e) fun h₂ tk₂ hn₂ hs₂ => ?_)
  refine assignInOrder_cons (asg_name hb hk hn₂ fun h₃ tk₃ hn₃ hs₃ => ?_)
  refine assignInOrder_cons (asg_name hc hk hn₃ fun h₄ tk₄ hn₄ hs₄ => assignInOrder_nil ?_)
  exact h h₄ _ hn₄ fun c o hc e => hs₄ c o hc (hs₃ c o hc (hs₂ c o hc (up₁ c o e)))
end
end Mine
end

/-! ## L10 -/
section
open PySem PySem.W PyProof.Rows PySem.Calls PySem.Spec PySem.SeqAt
set_option maxRecDepth 100000
namespace Mine
section
variable {prog : Program} {w : World} {A : Around} {E : Value → Shared → Prop} {s : Shared} {env : Env} {h₀ : Heap} {L a : Addr} {m : Str → Option Value} {news : List (Addr × Obj)} {vs : List Value}
theorem sort_small {n : Nat} {P : PySem.Fin → Shared → Prop} (F : Fr h₀ L s.heap m) (N : News h₀ L s.heap news) (ho : s.heap.get? a = some (seqObj "list" vs.toArray n)) (haL : a ≠ L) (ha0 : h₀.get? a = none) (hna : ∀ p ∈ news, p.1 ≠ a)
    (h2 : vs.length < 2)
    (h : ∀ e1 h', Fr h₀ L h' m → News h₀ L h' ((a, listOf vs.toArray e1) :: news) → P (.done (.ret .none)) { s with heap := h' }) :
    wpAny (model prog w) A (Builtin.«list.sort» ⟨[.ref a], []⟩) P E s := by
  have s1 := Heap.SameBut.update s.heap a (Obj.mapSeq fun _ => (#[] : Array Value))
  obtain ⟨e1, ho1⟩ : ∃ e1, (s.heap.update a (Obj.mapSeq fun _ => (#[] : Array Value))).get? a = some (seqObj "list" #[] e1) := ⟨_, get?_update_seq ho fun _ => #[]⟩
  rw [list_sort_plain]
  refine wpAny_bind (listItems_at ho rfl ?_)
  refine wpAny_bind (listUpdate_at ho rfl ?_ (by rw [List.size_toArray, sizeLine_eq]; omega) (Nat.zero_le _))
  refine wpAny_bind (seqEpoch_at ho1 rfl ?_)
  refine wpAny_bind (wpAny_newTuple ?_ (by show vs.length ≤ _; rw [sizeLine_eq]; omega))
  refine wpAny_bind (wpAny_newList ?_ (Nat.zero_le _))
  refine wpAny_holding ?_
  dsimp only
  have hn2 : vs.toArray.size < 2 := by rw [List.size_toArray]; omega
  rw [if_pos hn2, if_pos hn2]
  have F3 : Fr h₀ L (((s.heap.update a (Obj.mapSeq fun _ => (#[] : Array Value))).push (seqObj "tuple" vs.toArray 0)).push (seqObj "list" #[] 0)) m := ((kas_fr F s1 haL ha0).push _).push _
  have N2 : News h₀ L (((s.heap.update a (Obj.mapSeq fun _ => (#[] : Array Value))).push (seqObj "tuple" vs.toArray 0)).push (seqObj "list" #[] 0)) news :=
    (kas_news N s1 hna).grown fun b x e => Heap.get?_push_of_some _ (Heap.get?_push_of_some _ e)
  have na : (((s.heap.update a (Obj.mapSeq fun _ => (#[] : Array Value))).push (seqObj "tuple" vs.toArray 0)).push (seqObj "list" #[] 0)).get? a = some (seqObj "list" #[] e1) := Heap.get?_push_of_some _ (Heap.get?_push_of_some _ ho1)
  refine wpAny_bind (wpAny_pure ?_)
  refine wpAny_bind (wpAny_pure ?_)
  have hz : ((vs.toArray.zip vs.toArray).map (·.2)) = vs.toArray := by
    apply Array.toList_inj.mp
    simp only [Array.toList_map, Array.toList_zip]
    exact List.map_snd_zip (Nat.le_refl _)
  have har : arrOf (SortSt.mk' general' (vs.toArray.zip vs.toArray) #[] 7 none) = vs.toArray.zip vs.toArray := rfl
  show wpAny (model prog w) A _ P E { s with heap := ((s.heap.update a (Obj.mapSeq fun _ => (#[] : Array Value))).push (seqObj "tuple" vs.toArray 0)).push (seqObj "list" #[] 0) }
  generalize hH : ((s.heap.update a (Obj.mapSeq fun _ => (#[] : Array Value))).push (seqObj "tuple" vs.toArray 0)).push (seqObj "list" #[] 0) = H at F3 N2 na ⊢
  refine wpAny_bind (seqEpoch_at na rfl ?_)
  dsimp only
  rw [har, hz]
  have s2 := Heap.SameBut.update H a (Obj.mapSeq fun _ => vs.toArray)
  obtain ⟨c2, hc2⟩ : ∃ c2, (H.update a (Obj.mapSeq fun _ => vs.toArray)).get? a = some (seqObj "list" vs.toArray c2) := ⟨_, get?_update_seq na fun _ => vs.toArray⟩
  refine wpAny_bind (listUpdate_at na rfl ?_ (Nat.zero_le _) (by rw [List.size_toArray, sizeLine_eq]; omega))
  simp only [bne_self_eq_false, Bool.false_eq_true, if_false]
  refine wpAny_pure (h c2 _ (kas_fr F3 s2 haL ha0) fun p hp => ?_)
  rcases List.mem_cons.mp hp with rfl | hp
  · exact ⟨hc2, haL, ha0⟩
  · exact kas_news N2 s2 hna p hp
theorem sorted_small {l : Addr} {Q : Value → Shared → Prop} (F : Fr h₀ L s.heap m) (N : News h₀ L s.heap news) (hl : s.heap.IsList l vs.toArray) (h2 : vs.length < 2)
    (h : ∀ D e1 h', Fr h₀ L h' m → News h₀ L h' ((D, listOf vs.toArray e1) :: news) → (∀ q ∈ news, q.1 < D) → Q (.ref D) { s with heap := h' }) :
    wpAny (model prog w) A (call (.builtin "sorted") [.ref l]) Q E s := by
  refine Calls.call_function_entry kind_sorted plain_sorted entry_sorted (args_sorted1 _) ?_
  unfold Builtin.«sorted»
  refine wpAny_bind (m := checkCount "sorted" 1 1 _) (wpAny_pure ?_)
  refine wpAny_bind (collect_list hl ?_ (by rw [sizeLine_eq]; omega))
  refine wpAny_bind (wpAny_newList ?_ (by rw [sizeLine_eq]; omega))
  generalize hH : (s.heap.push (seqObj "list" #[] 0)).update s.heap.objs.size (Obj.mapSeq (· ++ vs.toArray)) = H
  have hsz : H.objs.size = s.heap.objs.size + 1 := by
    rw [← hH, Heap.size_update, size_push']
  have hHe : ∀ b o, s.heap.get? b = some o → H.get? b = some o := fun b o q => by
    have hlt : b < s.heap.objs.size := Heap.lt_size q
    rw [← hH, Heap.get?_update_ne _ _ _ _ (Nat.ne_of_lt hlt), Heap.get?_push_ne _ _ _ (Nat.ne_of_lt hlt)]
    exact q
  have hoL : (H.push (seqObj "list" vs.toArray 0)).get? (s.heap.objs.size + 1) = some (seqObj "list" vs.toArray 0) := by
    rw [← hsz]; exact Heap.get?_push_size _ rfl
  have keep : ∀ b o, s.heap.get? b = some o → (H.push (seqObj "list" vs.toArray 0)).get? b = some o := fun b o q => Heap.get?_push_of_some _ (hHe b o q)
  have hL : L < s.heap.objs.size := F.ns.lt
  show wpAny _ _ _ _ _ { s with heap := H.push (seqObj "list" vs.toArray 0) }
  dsimp only
  rw [hsz]
  refine wpAny_bind (wpAny_holding (wpAny_call_entry slot_list_sort ⟨_, hoL, rfl⟩ entry_list_sort ?body (args_list_sort _)))
  case body =>
    refine sort_small (s := { s with heap := H.push (seqObj "list" vs.toArray 0) })
      (F.kept keep) (N.grown keep) hoL (Nat.ne_of_gt (Nat.lt_succ_of_lt hL)) (Heap.get?_none_of_le (Nat.le_trans F.above (Nat.le_succ_of_le (Nat.le_of_lt hL))))
      (fun p hp => Nat.ne_of_lt (Nat.lt_succ_of_lt (Heap.lt_size (N p hp).1))) h2 fun e1 h' F' N' => ?_
    exact ⟨_, rfl, wpAny_pure ⟨_, rfl, h _ e1 h' F' N' fun q hq => Nat.lt_succ_of_lt (Heap.lt_size (N q hq).1)⟩⟩

theorem ask_blk {all : List (Addr × Obj)} {x y : Blk} {C : Bool → Shared → Prop} (N : News h₀ L s.heap all) (hx : BlkIn all x) (hy : BlkIn all y) (hne : x.k ≠ y.k) (h : C (decide (x.k < y.k)) s) :
    wpAny (model prog w) A (keyLt' (tuples' true) (.ref x.a) (.ref y.a)) C E s := by
  obtain ⟨tk, tk', n, hm⟩ := hx
  obtain ⟨uk, uk', n', hm'⟩ := hy
  refine kat_lt (N _ hm).1 rfl (N _ hm').1 rfl ?_
  show KatLex prog w A true _ C ((Value.int x.k tk, Value.int y.k uk) :: _) 0 s
  refine kat_cons (EqAt.int_int x.k tk y.k uk prog w _ _ ?_)
  rw [show (x.k == y.k) = false by simpa using hne]
  exact kat_no (oneLt_int h)

/-- a decision tree run on keys -/
def kasRun {α : Type} (ks : List Int) : KasT α → Option α
  | .ret a => some a
  | .ask i j k => match ks[i]?, ks[j]? with
    | some x, some y => if x = y then none else kasRun ks (k (decide (x < y)))
    | _, _ => none
theorem kasRun_ok {α : Type} {ks : List Int} {cmp : Nat → Nat → (Bool → Shared → Prop) → Shared → Prop} {Q : α → Shared → Prop} {a : α}
    (hc : ∀ i j x y (C : Bool → Shared → Prop), ks[i]? = some x → ks[j]? = some y → x ≠ y → C (decide (x < y)) s → cmp i j C s) : ∀ (t : KasT α), kasRun ks t = some a → Q a s → t.kasWp cmp Q s
  | .ret b, e, q => by
    unfold kasRun at e
    cases e
    exact q
  | .ask i j k, e, q => by
    unfold kasRun at e
    split at e
    · rename_i x y hx hy
      split at e
      · cases e
      · rename_i hne
        exact hc i j x y _ hx hy hne (kasRun_ok hc (k (decide (x < y))) e q)
    · cases e

theorem sorted_blk {l : Addr} {bs : List Blk} {n : Nat} {p : Array Nat} {Q : Value → Shared → Prop} (F : Fr h₀ L s.heap m) (N : News h₀ L s.heap news) (hml : (l, listOf (hv bs).toArray n) ∈ news) (hin : ∀ b ∈ bs, BlkIn news b) (h64 : bs.length < 64)
    (hp : 2 ≤ bs.length → kasRun (bs.map (·.k)) (kas_sort bs.length) = some p) (hp1 : bs.length < 2 → p = List.toArray (List.range bs.length))
    (h : ∀ D e1 h', Fr h₀ L h' m → News h₀ L h' ((D, listOf (p.toList.map fun i => (hv bs).getD i Value.none).toArray e1) :: news) → (∀ q ∈ news, q.1 < D) → Q (.ref D) { s with heap := h' }) :
    wpAny (model prog w) A (call (.builtin "sorted") [.ref l]) Q E s := by
  have hl : s.heap.IsList l (hv bs).toArray := News.isList N hml
  have hlen : (hv bs).length = bs.length := by simp [hv]
  by_cases h2 : 2 ≤ bs.length
  · refine kat_sorted F N hl (by omega) (by omega) fun D e1 h' F' N' lt => ?_
    have N'' : News h₀ L h' news := fun q hq => N' q (.tail _ hq)
    obtain ⟨fs, hfs, hfl, hft⟩ : ∃ fs, KatTups h' (hv bs) fs ∧ fs.length = bs.length ∧ ∀ v ∈ fs, ∃ i t, v = Value.int i t := by
      have : ∀ cs : List Blk, (∀ b ∈ cs, BlkIn news b) → ∃ fs, KatTups h' (hv cs) fs ∧ fs.length = cs.length ∧ ∀ v ∈ fs, ∃ i t, v = Value.int i t := by
        intro cs
        induction cs with
        | nil => intro _; exact ⟨[], KatTups.nil, rfl, fun _ h => nomatch h⟩
        | cons b r ih =>
          intro hb
          obtain ⟨fs, a1, a2, a3⟩ := ih fun c hc => hb c (List.mem_cons_of_mem _ hc)
          obtain ⟨tk, tk', k, hm⟩ := hb b (List.mem_cons_self ..)
          refine ⟨.int b.k tk :: fs, KatTups.cons (N'' _ hm).1 rfl rfl rfl a1, by simp [a2], fun v hv => ?_⟩
          rcases List.mem_cons.mp hv with rfl | hv
          · exact ⟨_, _, rfl⟩
          · exact a3 v hv
      exact this bs hin
    refine kat_kind (s := { s with heap := h' }) (T := Value.type "int") hfs (by omega) (fun v hv => ?_) (by decide) ?_
    · obtain ⟨i, t, rfl⟩ := hft v hv
      exact Looks.of_pure rfl
    · rw [show (Value.type "int" != Value.type "tuple") = true by decide]
      rw [hlen]
      refine kasRun_ok (ks := bs.map (·.k)) (a := p) (fun i j x y C hx hy hne hC => ?_) _ (hp h2) ?_
      · obtain ⟨bx, hbx, rfl⟩ : ∃ bx, bs[i]? = some bx ∧ bx.k = x := by simpa using hx
        obtain ⟨bY, hbY, rfl⟩ : ∃ bY, bs[j]? = some bY ∧ bY.k = y := by simpa using hy
        show wpAny _ _ (keyLt' _ ((hv bs).getD i Value.none) ((hv bs).getD j Value.none)) _ _ _
        have e1 : (hv bs).getD i Value.none = .ref bx.a := by simp [hv, hbx]
        have e2 : (hv bs).getD j Value.none = .ref bY.a := by simp [hv, hbY]
        rw [e1, e2]
        exact ask_blk (s := { s with heap := h' }) N'' (hin _ (List.mem_of_getElem? hbx)) (hin _ (List.mem_of_getElem? hbY)) hne hC
      · refine KasFin.intro F' N' (UpdF.head (fun q hq => Nat.ne_of_lt (lt q hq))) fun h'' c F'' N₂ => ?_
        exact h D c h'' F'' N₂ lt
  · have hp2 := hp1 (by omega)
    subst hp2
    refine sorted_small F N hl (by omega) fun D e1 h' F' N' lt => h D e1 h' F' ?_ lt
    have e : ((List.toArray (List.range bs.length)).toList.map fun i => (hv bs).getD i Value.none) = hv bs := by
      match bs, h2 with
      | [], _ => rfl
      | [b], _ => rfl
      | _ :: _ :: r, h2 => exact absurd (show 2 ≤ r.length + 1 + 1 by omega) h2
    rw [e]
    exact N'
end
theorem BlkIn.mono {news all : List (Addr × Obj)} {b : Blk} (h : BlkIn news b) (hs : ∀ p ∈ news, p ∈ all) : BlkIn all b := let ⟨a, c, n, hm⟩ := h; ⟨a, c, n, hs _ hm⟩
def sbOf (bs : List Blk) (p : Array Nat) : List Blk := p.toList.filterMap (bs[·]?)
theorem sbOf_hv {bs : List Blk} {p : Array Nat} (h : ∀ i ∈ p.toList, i < bs.length) : (p.toList.map fun i => (hv bs).getD i Value.none) = hv (sbOf bs p) := by
  unfold sbOf
  generalize p.toList = q at h
  induction q with
  | nil => rfl
  | cons i r ih =>
    have hi : i < bs.length := h i (List.mem_cons_self ..)
    rw [List.map_cons, ih fun j hj => h j (List.mem_cons_of_mem _ hj), List.filterMap_cons, List.getElem?_eq_getElem hi]
    show _ = Value.ref (bs[i]).a :: hv _
    congr 1
    simp [hv, hi]
theorem sbOf_keys {bs : List Blk} {p : Array Nat} : (sbOf bs p).map (·.k) = p.toList.filterMap ((bs.map (·.k))[·]?) := by
  unfold sbOf
  rw [List.map_filterMap]
  congr 1
  funext i
  simp
def wordOf (k : Int) : Str := if k = 1 then Str.ofString "OPTIMIZED" else if k = 2 then Str.ofString "NEWLOCALS" else if k = 4 then Str.ofString "VARARGS" else if k = 8 then Str.ofString "VARKEYWORDS" else if k = 16 then Str.ofString "NESTED" else Str.ofString "GENERATOR"
def wordsText (bs : List Blk) (p : Array Nat) : Str := if bs = [] then Str.ofString "0x0" else Txt.join (Str.ofString ", ") ((sbOf bs p).map fun b => wordOf b.k)
theorem word_len (k : Int) : (wordOf k).length ≤ 20 := by
  unfold wordOf
  repeat' split
  all_goals decide
theorem words_weight (l : List Blk) (h : l.length ≤ 1000) : ((l.map fun b => wordOf b.k).map (·.length)).sum + (l.map fun b => wordOf b.k).length ≤ 1048576 := by
  have : ((l.map fun b => wordOf b.k).map (·.length)).sum ≤ 20 * l.length := by
    induction l with
    | nil => simp
    | cons b r ih =>
      have h1 := word_len b.k
      have h2 := ih (by rw [List.length_cons] at h; omega)
      simp only [List.map_cons, List.sum_cons, List.length_cons]
      omega
  rw [List.length_map]
  omega
theorem sbOf_len {bs : List Blk} {p : Array Nat} : (sbOf bs p).length ≤ p.size := by
  unfold sbOf
  exact List.length_filterMap_le _ _
theorem allLt_mem {d : Addr} : ∀ {l : List (Addr × Obj)}, AllLt d l → ∀ p ∈ l, p.1 < d
  | [], _, _, h => nomatch h
  | _ :: _, x, p, h => by
    rcases List.mem_cons.mp h with rfl | h
    · exact x.1
    · exact allLt_mem x.2 p h
theorem off_of_lt {c d : Addr} {l : List (Addr × Obj)} (h : AllLt d l) (hd : @LE.le Nat _ d c) : ∀ p ∈ l, p.1 ≠ c := fun p hp => Nat.ne_of_lt (Nat.lt_of_lt_of_le (allLt_mem h p hp) hd)
end Mine
end

/-! ## P8 -/
section
open PySem PySem.W PyProof.Rows PySem.Calls PySem.Spec PySem.SeqAt
set_option maxRecDepth 100000
namespace Mine
theorem fill_P8 (w : World) : PySem.Challenge.rw_ik0178_01 = PySem.Challenge.rw_ik0178_01 ∧ heapK w.params = heapK w.params := by
  k_fill
  exact ⟨rfl, rfl⟩
section
variable {prog : Program} {w : World} {loose : List Str} {mean : ExcName → Option Value} {mg mb : Str → Option Value}
variable {dp un : Nat} {gd : Option (List Code)} {cn : Str} {cs : Scope} {a : Addr} {ccd : Value} {cl : List (Str × Addr)} {outer : List Env} {A₀ : Around} {base h₀ : Heap} {L : Addr} {m : Str → Option Value} {news : List (Addr × Obj)} {s : Shared} {Q E : Value → Shared → Prop}


set_option maxHeartbeats 4000000 in
theorem split_spec (B : Below A₀ base outer h₀) (F : Fr h₀ L s.heap m) (X : (heapK w.params).In h₀) (N : News h₀ L s.heap news) (T : Top viewQ loose mean mg mb h₀) (hk : cs.kind = .function)
  (hdp : dp + 2 < recursionLimit) (hun : un + 16 < cLine) {x : Str} {tx : Tok} (hlx : x.length < 1000) (hlx0 : 0 < x.length)
  (hret : ∀ D t1 t2 h' tk', Fr h₀ L h' m → News h₀ L h' ((D, ({ cls := .type "tuple", data := .seq #[.str (spHead x) t1, .str (spTail x) t2] } : Obj)) :: news) → (∀ p ∈ news, p.1 < D) → Q (.ref D) { s with heap := h', toks := tk' }) :
  wpAny (model prog w) (ktrTop dp un gd cn cs L a ccd cl outer) (call (.ref 158) [.str x tx]) Q E s := by
  refine wpAny_call ?_
  k_dflt cell_enter
  (repeat' ((first | (with_reducible ((k_here; (with_reducible show wpAny _ _ (call (Value.ref 144) _) _ _ _); k_dflt (refine getsep_spec (by k_asm) (by k_asm) (by k_asm) (by k_asm) (by k_asm) rfl (by ktr_room) (by ktr_units) ?_); intro t' h' tk' F' N'))) | (with_reducible ((k_here; (with_reducible show wpAny _ _ (call (Value.ref 130) _) _ _ _); k_dflt (refine fspath_spec (by k_asm) (by k_asm) (by k_asm) (by k_asm) (by k_asm) rfl (by ktr_room) (by ktr_units) ?_); intro h' tk' F' N'))) | (k_unfold; (try dsimp only)) | (k_end; wrow_close) | walk1 | (dsimp only; walk1) | (leave1; walk_say "STEP leave1"; try dsimp only) | fail "no step")))
  · (rename News _ _ _ _ => N')
    have e : spHead x = Txt.rstripChars (Txt.slice x none (some (Txt.rfind x (Str.ofString "/") + 1))) (Str.ofString "/") := (if_neg (by assumption)).trans (if_pos (by assumption))
    simp only [e, spTail] at hret
    exact hret _ _ _ _ _ (by k_asm) (news_skip N') (allLt_mem (And.right (by assumption)))
  · (rename News _ _ _ _ => N')
    have e : spHead x = Txt.slice x none (some (Txt.rfind x (Str.ofString "/") + 1)) := (if_neg (by assumption)).trans (if_neg (by rename (_ != _) = false => hb; rw [spCut, hb]; decide))
    simp only [e, spTail] at hret
    exact hret _ _ _ _ _ (by k_asm) (news_skip N') (allLt_mem (And.right (by assumption)))
  · (rename News _ _ _ _ => N')
    have e : spHead x = Txt.slice x none (some (Txt.rfind x (Str.ofString "/") + 1)) := if_pos (by assumption)
    simp only [e, spTail] at hret
    exact hret _ _ _ _ _ (by k_asm) (news_skip N') (allLt_mem (And.right (by assumption)))
end
end Mine
end

/-! ## P10 -/
section
open PySem PySem.W PyProof.Rows PySem.Calls PySem.Spec PySem.SeqAt
set_option maxRecDepth 100000
namespace Mine
theorem fill_P10 (w : World) : PySem.Challenge.rw_ik0178_01 = PySem.Challenge.rw_ik0178_01 ∧ heapK w.params = heapK w.params := by
  k_fill
  exact ⟨rfl, rfl⟩
section
variable {prog : Program} {w : World} {loose : List Str} {mean : ExcName → Option Value} {mg mb : Str → Option Value}
variable {dp un : Nat} {gd : Option (List Code)} {cn : Str} {cs : Scope} {a : Addr} {ccd : Value} {cl : List (Str × Addr)} {outer : List Env} {A₀ : Around} {base h₀ : Heap} {L : Addr} {m : Str → Option Value} {news : List (Addr × Obj)} {s : Shared} {Q E : Value → Shared → Prop}


local macro_rules | `(tactic| k_all) => `(tactic| assumption)
local macro_rules | `(tactic| k_mem) => `(tactic| assumption)
set_option maxHeartbeats 4000000 in
theorem words_spec (B : Below A₀ base outer h₀) (F : Fr h₀ L s.heap m) (X : (heapK w.params).In h₀) (T : Top viewQ loose mean mg mb h₀) (hk : cs.kind = .function)
  {l : Addr} {bs : List Blk} {n : Nat}
  (N : News h₀ L s.heap ((l, listOf (hv bs).toArray n) :: news)) (off : ∀ p ∈ news, p.1 ≠ l)
  (hlen : bs.length < 20)
  (hdp : dp + 2 < recursionLimit) (hun : un + 16 < cLine)
  (hin : ∀ b ∈ bs, BlkIn news b) (hpow : ∀ b ∈ bs, b.k = 1 ∨ b.k = 2 ∨ b.k = 4 ∨ b.k = 8 ∨ b.k = 16 ∨ b.k = 32) {p : Array Nat}
  (hp : 2 ≤ bs.length → kasRun (bs.map (·.k)) (kas_sort bs.length) = some p) (hp1 : bs.length < 2 → p = List.toArray (List.range bs.length)) (hpl : ∀ i ∈ p.toList, i < bs.length) (hpz : p.size ≤ 1000)
  (hret : ∀ t h' tk', Fr h₀ L h' m → News h₀ L h' ((l, listOf (hv bs).toArray n) :: news) → Q (.str (wordsText bs p) t) { s with heap := h', toks := tk' }) :
  wpAny (model prog w) (ktrTop dp un gd cn cs L a ccd cl outer) (call (.ref 168) [.ref l]) Q E s := by
  refine wpAny_call ?_
  k_dflt (refine' code_defC ?k1 ?k2 ?k3 ?k4 ?k5 ?kA ?kF ?kK ?k6 ?k7 ?k8 ?k9 ?kB ?kD ?_ ?c2 ?c3 ?c4; (case kA => exact rfl); (case kF => exact rfl); (case kK => assumption); (case k1 => k_asm); (case k2 => k_asm); (case k3 => k_asm); (case k4 => k_asm); (case k5 => k_asm); (case k6 => k_is); (case k7 => k_is); (case k8 => ktr_room); (case k9 => exact BindsTo.of_eq rfl); (case kB => exact rfl); (case kD => decide +kernel); (case c2 => exact rfl); (case c3 => exact rfl); (case c4 => exact rfl); k_whole; intro g' L' h' tk' cells' FG' F' N' Y' B' X' T' l1; (try k_lt l1); k_cells Y'; (try simp only [List.cons_append, List.nil_append] at N'); (try dsimp only); (try k_lift B'); (try k_fold))

  replace F' : Fr g' L' h' (chain [(Str.ofString "blocks", Value.ref l)] fun _ => none) := F'
  have hl0 : bs.length < 1000 := by omega
  have hoffC : ∀ p ∈ news, p.1 ≠ L' + 1 := off_of_lt l1.2 (Nat.le_succ _)
  (repeat' ((fail_if_success ((with_reducible show wpAny _ _ (call (Value.builtin "sorted") _) _ _ _))); (fail_if_success ((with_reducible show wpAny _ _ (truthy (Value.ref _)) _ _ _))); (fail_if_success ((with_reducible show wpAny _ _ (pyIter (Value.ref _)) _ _ _))); (first | (with_reducible ((k_here; (with_reducible show wpAny _ _ (call (Value.builtin _) [Value.str _ _, Value.ref _]) _ _ _); k_dflt (refine join_strs (by k_asm) (by k_mem) (by first | assumption | exact (by assumption : ∀ t, StrsAre (_ ++ [Value.str _ t]) _) _) (by decide) (by assumption) ?_; k_whole); intro t' k'))) | (with_reducible (((with_reducible show wpAny _ _ (eval (PySem.Expr.ListComp _ _ _ _) _) _ _ _); (k_here; k_dflt (refine ListComp_open (by with_unfolding_all rfl) (by rfl) (by decide) ?_ (by intro _; rfl)))))) | (with_reducible ((k_here; (with_reducible show wpAny _ _ (subscriptTail _ _ (Value.ref _) (Value.int _ _)) _ _ _); k_dflt (refine kim_tup (by k_asm) (by k_mem) rfl rfl (by decide) (by decide) rfl rfl ?_ (by with_unfolding_all rfl) (by (intro _; with_unfolding_all rfl)); k_whole)))) | (((with_reducible show wpAny _ _ (exec (PySem.Stmt.For _ _ _ _ _) _) _ _ _); (k_here; (refine wpAny_For ?_ (by intro _; rfl))))) | (k_unfold; (try dsimp only)) | (k_end; wrow_close) | walk1 | (dsimp only; walk1) | (leave1; walk_say "STEP leave1"; try dsimp only) | fail "no step")))
  skip
  (rename Fr _ _ _ _ => F₁)
  (rename News _ _ _ _ => N₁)
  by_cases hb0 : bs = []
  · refine truthy_blk N₁ (.tail _ (.tail _ (.head _))) hl0 (by rw [hb0]; rfl : (!bs.isEmpty) = false) ?_
    (repeat' ((fail_if_success ((with_reducible show wpAny _ _ (call (Value.builtin "sorted") _) _ _ _))); (fail_if_success ((with_reducible show wpAny _ _ (truthy (Value.ref _)) _ _ _))); (fail_if_success ((with_reducible show wpAny _ _ (pyIter (Value.ref _)) _ _ _))); (first | (with_reducible ((k_here; (with_reducible show wpAny _ _ (call (Value.builtin _) [Value.str _ _, Value.ref _]) _ _ _); k_dflt (refine join_strs (by k_asm) (by k_mem) (by first | assumption | exact (by assumption : ∀ t, StrsAre (_ ++ [Value.str _ t]) _) _) (by decide) (by assumption) ?_; k_whole); intro t' k'))) | (with_reducible (((with_reducible show wpAny _ _ (eval (PySem.Expr.ListComp _ _ _ _) _) _ _ _); (k_here; k_dflt (refine ListComp_open (by with_unfolding_all rfl) (by rfl) (by decide) ?_ (by intro _; rfl)))))) | (with_reducible ((k_here; (with_reducible show wpAny _ _ (subscriptTail _ _ (Value.ref _) (Value.int _ _)) _ _ _); k_dflt (refine kim_tup (by k_asm) (by k_mem) rfl rfl (by decide) (by decide) rfl rfl ?_ (by with_unfolding_all rfl) (by (intro _; with_unfolding_all rfl)); k_whole)))) | (((with_reducible show wpAny _ _ (exec (PySem.Stmt.For _ _ _ _ _) _) _ _ _); (k_here; (refine wpAny_For ?_ (by intro _; rfl))))) | (k_unfold; (try dsimp only)) | (k_end; wrow_close) | walk1 | (dsimp only; walk1) | (leave1; walk_say "STEP leave1"; try dsimp only) | fail "no step")))
    rw [show wordsText bs p = Str.ofString "0x0" from if_pos hb0] at hret
    exact hret _ _ _ (by k_asm) (news_tail (news_tail (by k_asm)))
  · refine truthy_blk N₁ (.tail _ (.tail _ (.head _))) hl0 (by cases bs with | nil => exact absurd rfl hb0 | cons _ _ => rfl : (!bs.isEmpty) = true) ?_
    (repeat' ((fail_if_success ((with_reducible show wpAny _ _ (call (Value.builtin "sorted") _) _ _ _))); (fail_if_success ((with_reducible show wpAny _ _ (truthy (Value.ref _)) _ _ _))); (fail_if_success ((with_reducible show wpAny _ _ (pyIter (Value.ref _)) _ _ _))); (first | (with_reducible ((k_here; (with_reducible show wpAny _ _ (call (Value.builtin _) [Value.str _ _, Value.ref _]) _ _ _); k_dflt (refine join_strs (by k_asm) (by k_mem) (by first | assumption | exact (by assumption : ∀ t, StrsAre (_ ++ [Value.str _ t]) _) _) (by decide) (by assumption) ?_; k_whole); intro t' k'))) | (with_reducible (((with_reducible show wpAny _ _ (eval (PySem.Expr.ListComp _ _ _ _) _) _ _ _); (k_here; k_dflt (refine ListComp_open (by with_unfolding_all rfl) (by rfl) (by decide) ?_ (by intro _; rfl)))))) | (with_reducible ((k_here; (with_reducible show wpAny _ _ (subscriptTail _ _ (Value.ref _) (Value.int _ _)) _ _ _); k_dflt (refine kim_tup (by k_asm) (by k_mem) rfl rfl (by decide) (by decide) rfl rfl ?_ (by with_unfolding_all rfl) (by (intro _; with_unfolding_all rfl)); k_whole)))) | (((with_reducible show wpAny _ _ (exec (PySem.Stmt.For _ _ _ _ _) _) _ _ _); (k_here; (refine wpAny_For ?_ (by intro _; rfl))))) | (k_unfold; (try dsimp only)) | (k_end; wrow_close) | walk1 | (dsimp only; walk1) | (leave1; walk_say "STEP leave1"; try dsimp only) | fail "no step")))
    skip
    (rename Fr _ _ _ _ => F₁)
    (rename News _ _ _ _ => N₁)
    refine sorted_blk (p := p) F₁ N₁ (.tail _ (.tail _ (.head _))) (fun b hb => (hin b hb).mono fun q hq => .tail _ (.tail _ (.tail _ hq))) (by omega) hp hp1 fun D e1 h2 F₂ N₂ lt₂ => ?_
    rw [sbOf_hv hpl] at N₂
    refine comp_list rfl F₂ N₂ (.head _) (by rw [List.length_map]; exact Nat.le_trans sbOf_len hpz) (by decide) rfl (fun i m'' => ∀ v, (hv (sbOf bs p))[i]? = some v → m'' (Str.ofString "block") = some v) (fun i ys news₁ => news₁ = _ ∧ StrsAre ys (((sbOf bs p).take i).map fun b => wordOf b.k)) ⟨rfl, .nil⟩ ?_ ?_ ?_
    · intro i v C ys news₁ s' m' Q' hv hJ _ hn hq
      exact asg_name rfl rfl hn fun h' tk hn' hk => hq h' tk _ hn' (fun v' hv' => by rw [hv] at hv'; cases hv'; rfl) hk
    · rintro i v ys news₁ I oI C oC D' m₂ h₁ tk₁ hvi ⟨rfl, hys⟩ hm hBd hNs F₃ N₃ off₃ ne₃
      refine wpAny_tests_nil ?_
      simp only [if_true]
      obtain ⟨b, hb, rfl⟩ : ∃ b, (sbOf bs p)[i]? = some b ∧ Value.ref b.a = v := by simpa [hv] using hvi
      have hbs : b ∈ bs := by
        obtain ⟨j, _, hj⟩ := List.mem_filterMap.mp (List.mem_of_getElem? hb)
        exact List.mem_of_getElem? hj
      have hbv := hBd _ hvi
      obtain ⟨t1, t2, nb, hmb⟩ := hin b hbs
      have hnext : ∀ t, StrsAre (ys ++ [.str (wordOf b.k) t]) (((sbOf bs p).take (i + 1)).map fun b => wordOf b.k) := fun t => by
        rw [List.take_add_one, hb, List.map_append]
        exact strs_snoc hys
      rcases hpow b hbs with hk1 | hk1 | hk1 | hk1 | hk1 | hk1
      all_goals (
        rw [hk1] at hmb hnext
        (repeat' ((fail_if_success ((with_reducible show wpAny _ _ (call (Value.builtin "sorted") _) _ _ _))); (fail_if_success ((with_reducible show wpAny _ _ (truthy (Value.ref _)) _ _ _))); (fail_if_success ((with_reducible show wpAny _ _ (pyIter (Value.ref _)) _ _ _))); (first | (with_reducible ((k_here; (with_reducible show wpAny _ _ (call (Value.builtin _) [Value.str _ _, Value.ref _]) _ _ _); k_dflt (refine join_strs (by k_asm) (by k_mem) (by first | assumption | exact (by assumption : ∀ t, StrsAre (_ ++ [Value.str _ t]) _) _) (by decide) (by assumption) ?_; k_whole); intro t' k'))) | (with_reducible (((with_reducible show wpAny _ _ (eval (PySem.Expr.ListComp _ _ _ _) _) _ _ _); (k_here; k_dflt (refine ListComp_open (by with_unfolding_all rfl) (by rfl) (by decide) ?_ (by intro _; rfl)))))) | (with_reducible ((k_here; (with_reducible show wpAny _ _ (subscriptTail _ _ (Value.ref _) (Value.int _ _)) _ _ _); k_dflt (refine kim_tup (by k_asm) (by k_mem) rfl rfl (by decide) (by decide) rfl rfl ?_ (by with_unfolding_all rfl) (by (intro _; with_unfolding_all rfl)); k_whole)))) | (((with_reducible show wpAny _ _ (exec (PySem.Stmt.For _ _ _ _ _) _) _ _ _); (k_here; (refine wpAny_For ?_ (by intro _; rfl))))) | (k_unfold; (try dsimp only)) | (k_end; wrow_close) | walk1 | (dsimp only; walk1) | (leave1; walk_say "STEP leave1"; try dsimp only) | fail "no step")))
        exact ⟨_, _, _, _, rfl, F₃, N₃, fun p hp => hp, fun p hp => by rw [List.mem_singleton.mp hp]; exact hm, off₃, rfl, hnext _⟩)
    · rintro D' C oC m' ys news' h tk₂ ⟨rfl, hys⟩ hm F₄ N₄ hNs off4 offC
      rw [List.length_map, List.take_length] at hys
      have hw := words_weight (sbOf bs p) (Nat.le_trans sbOf_len hpz)
      refine comp_out F₄ N₄ hNs offC fun h' F' N' => ?_
      (repeat' ((fail_if_success ((with_reducible show wpAny _ _ (call (Value.builtin "sorted") _) _ _ _))); (fail_if_success ((with_reducible show wpAny _ _ (truthy (Value.ref _)) _ _ _))); (fail_if_success ((with_reducible show wpAny _ _ (pyIter (Value.ref _)) _ _ _))); (first | (with_reducible ((k_here; (with_reducible show wpAny _ _ (call (Value.builtin _) [Value.str _ _, Value.ref _]) _ _ _); k_dflt (refine join_strs (by k_asm) (by k_mem) (by first | assumption | exact (by assumption : ∀ t, StrsAre (_ ++ [Value.str _ t]) _) _) (by decide) (by assumption) ?_; k_whole); intro t' k'))) | (with_reducible (((with_reducible show wpAny _ _ (eval (PySem.Expr.ListComp _ _ _ _) _) _ _ _); (k_here; k_dflt (refine ListComp_open (by with_unfolding_all rfl) (by rfl) (by decide) ?_ (by intro _; rfl)))))) | (with_reducible ((k_here; (with_reducible show wpAny _ _ (subscriptTail _ _ (Value.ref _) (Value.int _ _)) _ _ _); k_dflt (refine kim_tup (by k_asm) (by k_mem) rfl rfl (by decide) (by decide) rfl rfl ?_ (by with_unfolding_all rfl) (by (intro _; with_unfolding_all rfl)); k_whole)))) | (((with_reducible show wpAny _ _ (exec (PySem.Stmt.For _ _ _ _ _) _) _ _ _); (k_here; (refine wpAny_For ?_ (by intro _; rfl))))) | (k_unfold; (try dsimp only)) | (k_end; wrow_close) | walk1 | (dsimp only; walk1) | (leave1; walk_say "STEP leave1"; try dsimp only) | fail "no step")))
      rw [show wordsText bs p = Txt.join (Str.ofString ", ") ((sbOf bs p).map fun b => wordOf b.k) from if_neg hb0] at hret
      exact hret _ _ _ (by k_asm) (news_tail (news_tail (news_tail (news_tail (by k_asm)))))
end
end Mine
end

/-! ## L11 -/
section
open PySem PySem.W PyProof.Rows PySem.Calls PySem.Spec PySem.SeqAt
set_option maxRecDepth 100000
namespace Mine
/-! ### the heap's keys -/
def sdK (x : Int) (start : Nat) : Nat → Nat → List Int → List Int
  | 0, pos, l => l.set pos x
  | f + 1, pos, l => if start < pos then
      match l[(pos - 1) / 2]? with
      | some par => if x < par then sdK x start f ((pos - 1) / 2) (l.set pos par) else l.set pos x
      | none => l.set pos x
    else l.set pos x
def childK (l : List Int) (c : Nat) : Nat := match l[c]?, l[c + 1]? with
  | some a, some b => if a < b then c else c + 1
  | _, _ => c
def suK : Nat → Nat → List Int → List Int × Nat
  | 0, pos, l => (l, pos)
  | f + 1, pos, l => match l[childK l (2 * pos + 1)]? with
    | some y => suK f (childK l (2 * pos + 1)) (l.set pos y)
    | none => (l, pos)
def siftupK (l : List Int) (x : Int) : List Int :=
  let r := suK l.length 0 l
  sdK x 0 r.2 r.2 (r.1.set r.2 x)
def pushK (ks : List Int) (x : Int) : List Int := sdK x 0 ks.length ks.length (ks ++ [x])
def popRestK (ks : List Int) (x : Int) : List Int := match ks with
  | [] => []
  | _ :: r => siftupK (x :: r) x
abbrev keys (l : List Blk) : List Int := l.map (·.k)
theorem keys_set (l : List Blk) (p : Nat) (x : Blk) : keys (l.set p x) = (keys l).set p x.k := List.map_set
theorem keys_get (l : List Blk) (p : Nat) : (keys l)[p]? = (l[p]?).map (·.k) := List.getElem?_map
theorem sd_keys (x : Blk) (start : Nat) : ∀ (f p : Nat) (l : List Blk), keys (sd x start f p l) = sdK x.k start f p (keys l)
  | 0, p, l => keys_set l p x
  | f + 1, p, l => by
    unfold sd sdK
    rw [keys_get]
    split
    · cases h : l[(p - 1) / 2]? with
      | none => exact keys_set l p x
      | some par =>
        simp only [Option.map_some]
        split
        · rw [← keys_set]; exact sd_keys x start f _ _
        · exact keys_set l p x
    · exact keys_set l p x
theorem child_keys (l : List Blk) (c : Nat) : child l c = childK (keys l) c := by
  unfold child childK
  rw [keys_get, keys_get]
  cases l[c]? with
  | none => cases l[c + 1]? <;> rfl
  | some a => cases l[c + 1]? <;> rfl
theorem su_keys : ∀ (f p : Nat) (l : List Blk), (keys (su f p l).1, (su f p l).2) = suK f p (keys l)
  | 0, _, _ => rfl
  | f + 1, p, l => by
    unfold su suK
    rw [← child_keys, keys_get]
    cases h : l[child l (2 * p + 1)]? with
    | none => rfl
    | some y =>
      simp only [Option.map_some]
      rw [← keys_set]
      exact su_keys f _ _
theorem siftup_keys (l : List Blk) (x : Blk) : keys (siftup l x) = siftupK (keys l) x.k := by
  unfold siftup siftupK
  have e := su_keys l.length 0 l
  rw [List.length_map, ← e]
  dsimp only
  rw [sd_keys, keys_set]
theorem push_keys (l : List Blk) (x : Blk) : keys (push l x) = pushK (keys l) x.k := by
  unfold push pushK
  rw [sd_keys, List.length_map, keys, List.map_append]
  rfl
theorem popRest_keys (l : List Blk) (x : Blk) : keys (popRest l x) = popRestK (keys l) x.k := by
  cases l with
  | nil => rfl
  | cons y r => exact siftup_keys (x :: r) x

/-! ### the same things, in another order -/
theorem set_get_lt {l : List Blk} {p : Nat} {x : Blk} (h : l[p]? = some x) : p < l.length := by
  rcases Nat.lt_or_ge p l.length with h' | h'
  · exact h'
  · rw [List.getElem?_eq_none h'] at h; cases h
theorem sd_perm (x : Blk) (start : Nat) : ∀ (f p : Nat) (l : List Blk), p < l.length → (sd x start f p l).Perm (l.set p x)
  | 0, _, _, _ => .refl _
  | f + 1, p, l, hp => by
    unfold sd
    split
    · rename_i hs
      cases h : l[(p - 1) / 2]? with
      | none => exact .refl _
      | some par =>
        dsimp only
        split
        · exact (sd_perm x start f _ _ (by rw [List.length_set]; omega)).trans (hole_perm hp h (by omega))
        · exact .refl _
    · exact .refl _
theorem su_perm (x : Blk) : ∀ (f p : Nat) (l : List Blk), p < l.length → ((su f p l).1.set (su f p l).2 x).Perm (l.set p x) ∧ (su f p l).2 < (su f p l).1.length
  | 0, _, _, hp => ⟨.refl _, hp⟩
  | f + 1, p, l, hp => by
    unfold su
    cases h : l[child l (2 * p + 1)]? with
    | none => exact ⟨.refl _, hp⟩
    | some y =>
      dsimp only
      have hc := set_get_lt h
      have hg := child_ge l (2 * p + 1)
      have z := su_perm x f (child l (2 * p + 1)) (l.set p y) (by rw [List.length_set]; exact hc)
      exact ⟨z.1.trans (hole_perm hp h (by omega)), z.2⟩
theorem push_perm (l : List Blk) (x : Blk) : (push l x).Perm (x :: l) := by
  unfold push
  refine (sd_perm x 0 _ _ _ (by simp)).trans ?_
  rw [set_self_get (by simp)]
  exact List.perm_append_singleton x l
theorem pop_perm (l : List Blk) (x : Blk) : (popHead l x :: popRest l x).Perm (l ++ [x]) := by
  cases l with
  | nil => exact .refl _
  | cons y r =>
    show (y :: siftup (x :: r) x).Perm (y :: (r ++ [x]))
    refine List.Perm.cons y ?_
    unfold siftup
    have z := su_perm x (x :: r).length 0 (x :: r) (by simp)
    exact ((sd_perm x 0 _ _ _ (by rw [List.length_set]; exact z.2)).trans (by rw [List.set_set]; exact z.1)).trans (List.perm_append_singleton x r).symm

/-! ### all the heaps of different powers -/
def pows : List Int := [1, 2, 4, 8, 16, 32]
def heaps : List (List Int) := [[], [1], [2], [4], [8], [16], [32], [1, 2], [1, 4], [1, 8], [1, 16], [1, 32], [2, 4], [2, 8], [2, 16], [2, 32], [4, 8], [4, 16], [4, 32], [8, 16], [8, 32], [16, 32], [1, 2, 4], [1, 4, 2], [1, 2, 8], [1, 8, 2], [1, 2, 16], [1, 16, 2], [1, 2, 32], [1, 32, 2], [1, 4, 8], [1, 8, 4], [1, 4, 16], [1, 16, 4], [1, 4, 32], [1, 32, 4], [1, 8, 16], [1, 16, 8], [1, 8, 32], [1, 32, 8], [1, 16, 32], [1, 32, 16], [2, 4, 8], [2, 8, 4], [2, 4, 16], [2, 16, 4], [2, 4, 32], [2, 32, 4], [2, 8, 16], [2, 16, 8], [2, 8, 32], [2, 32, 8], [2, 16, 32], [2, 32, 16], [4, 8, 16], [4, 16, 8], [4, 8, 32], [4, 32, 8], [4, 16, 32], [4, 32, 16], [8, 16, 32], [8, 32, 16], [1, 2, 4, 8], [1, 2, 8, 4], [1, 4, 2, 8], [1, 2, 4, 16], [1, 2, 16, 4], [1, 4, 2, 16], [1, 2, 4, 32], [1, 2, 32, 4], [1, 4, 2, 32], [1, 2, 8, 16], [1, 2, 16, 8], [1, 8, 2, 16], [1, 2, 8, 32], [1, 2, 32, 8], [1, 8, 2, 32], [1, 2, 16, 32], [1, 2, 32, 16], [1, 16, 2, 32], [1, 4, 8, 16], [1, 4, 16, 8], [1, 8, 4, 16], [1, 4, 8, 32], [1, 4, 32, 8], [1, 8, 4, 32], [1, 4, 16, 32], [1, 4, 32, 16], [1, 16, 4, 32], [1, 8, 16, 32], [1, 8, 32, 16], [1, 16, 8, 32], [2, 4, 8, 16], [2, 4, 16, 8], [2, 8, 4, 16], [2, 4, 8, 32], [2, 4, 32, 8], [2, 8, 4, 32], [2, 4, 16, 32], [2, 4, 32, 16], [2, 16, 4, 32], [2, 8, 16, 32], [2, 8, 32, 16], [2, 16, 8, 32], [4, 8, 16, 32], [4, 8, 32, 16], [4, 16, 8, 32], [1, 2, 4, 8, 16], [1, 2, 4, 16, 8], [1, 2, 8, 4, 16], [1, 2, 8, 16, 4], [1, 2, 16, 4, 8], [1, 2, 16, 8, 4], [1, 4, 2, 8, 16], [1, 4, 2, 16, 8], [1, 2, 4, 8, 32], [1, 2, 4, 32, 8], [1, 2, 8, 4, 32], [1, 2, 8, 32, 4], [1, 2, 32, 4, 8], [1, 2, 32, 8, 4], [1, 4, 2, 8, 32], [1, 4, 2, 32, 8], [1, 2, 4, 16, 32], [1, 2, 4, 32, 16], [1, 2, 16, 4, 32], [1, 2, 16, 32, 4], [1, 2, 32, 4, 16], [1, 2, 32, 16, 4], [1, 4, 2, 16, 32], [1, 4, 2, 32, 16], [1, 2, 8, 16, 32], [1, 2, 8, 32, 16], [1, 2, 16, 8, 32], [1, 2, 16, 32, 8], [1, 2, 32, 8, 16], [1, 2, 32, 16, 8], [1, 8, 2, 16, 32], [1, 8, 2, 32, 16], [1, 4, 8, 16, 32], [1, 4, 8, 32, 16], [1, 4, 16, 8, 32], [1, 4, 16, 32, 8], [1, 4, 32, 8, 16], [1, 4, 32, 16, 8], [1, 8, 4, 16, 32], [1, 8, 4, 32, 16], [2, 4, 8, 16, 32], [2, 4, 8, 32, 16], [2, 4, 16, 8, 32], [2, 4, 16, 32, 8], [2, 4, 32, 8, 16], [2, 4, 32, 16, 8], [2, 8, 4, 16, 32], [2, 8, 4, 32, 16], [1, 2, 4, 8, 16, 32], [1, 2, 4, 8, 32, 16], [1, 2, 4, 16, 8, 32], [1, 2, 4, 16, 32, 8], [1, 2, 4, 32, 8, 16], [1, 2, 4, 32, 16, 8], [1, 2, 8, 4, 16, 32], [1, 2, 8, 4, 32, 16], [1, 2, 8, 16, 4, 32], [1, 2, 8, 32, 4, 16], [1, 2, 16, 4, 8, 32], [1, 2, 16, 8, 4, 32], [1, 4, 2, 8, 16, 32], [1, 4, 2, 8, 32, 16], [1, 4, 2, 16, 8, 32], [1, 4, 2, 16, 32, 8], [1, 4, 2, 32, 8, 16], [1, 4, 2, 32, 16, 8], [1, 8, 2, 16, 32, 4], [1, 8, 2, 32, 16, 4]]
def headK (l : List Int) (x : Int) : Int := match l with
  | [] => x
  | y :: _ => y
theorem popHead_key (l : List Blk) (x : Blk) : (popHead l x).k = headK (keys l) x.k := by
  cases l <;> rfl
theorem heaps_push : ∀ ks ∈ heaps, ∀ x ∈ pows, x ∉ ks → pushK ks x ∈ heaps := by decide +kernel
theorem heaps_pop : ∀ ks ∈ heaps, ks ≠ [] → popRestK ks.dropLast (ks.getLastD 0) ∈ heaps ∧ (∀ k ∈ popRestK ks.dropLast (ks.getLastD 0), headK ks.dropLast (ks.getLastD 0) < k) := by decide +kernel
end Mine
end

/-! ## L12 -/
section
open PySem PySem.W PyProof.Rows PySem.Calls PySem.Spec PySem.SeqAt
set_option maxRecDepth 100000
namespace Mine
def sortIx (ks : List Int) : Array Nat := if 2 ≤ ks.length then (kasRun ks (kas_sort ks.length)).getD #[] else List.toArray (List.range ks.length)
def wordsTextK (ks : List Int) : Str := if ks = [] then Str.ofString "0x0" else Txt.join (Str.ofString ", ") (((sortIx ks).toList.filterMap (ks[·]?)).map wordOf)
theorem heaps_sort : ∀ ks ∈ heaps, 2 ≤ ks.length → (kasRun ks (kas_sort ks.length)).isSome = true := by decide +kernel
theorem heaps_ix : ∀ ks ∈ heaps, (∀ i ∈ (sortIx ks).toList, i < ks.length) ∧ (sortIx ks).size ≤ 6 := by decide +kernel
/-- the powers of two in a number, from the least on -/
def bitsK (n : Nat) : List Int := pows.filter fun p => n / p.toNat % 2 == 1
theorem heaps_bits : ∀ ks ∈ heaps, (sortIx ks).toList.filterMap (ks[·]?) = bitsK ks.sum.toNat ∧ ks.sum.toNat < 64 ∧ (ks.sum.toNat = 0 ↔ ks = []) := by decide +kernel
theorem bits_names : (List.range 64).map (fun n => (bitsK n).map wordOf) = (List.range 64).map (fun n => pfNames n 6) := by kernel_rfl
theorem bits_text (n : Nat) (h : n ∈ List.range 64) (h0 : n ≠ 0) : Txt.join (Str.ofString ", ") ((bitsK n).map wordOf) = flagText n := by
  unfold flagText
  rw [if_neg h0]
  exact congrArg _ (List.map_inj_left.mp bits_names n h)
theorem heaps_text (ks : List Int) (hk : ks ∈ heaps) : wordsTextK ks = flagText ks.sum.toNat := by
  obtain ⟨h1, h2, h3⟩ := heaps_bits ks hk
  unfold wordsTextK
  by_cases e : ks = []
  · rw [if_pos e, h3.mpr e]; rfl
  · rw [if_neg e, h1, bits_text _ (List.mem_range.mpr h2) fun h => e (h3.mp h)]
theorem heaps_pows : ∀ ks ∈ heaps, ks.length ≤ 6 ∧ ks.Nodup ∧ ∀ k ∈ ks, k ∈ pows := by decide +kernel
theorem wordsText_eq (bs : List Blk) : wordsText bs (sortIx (keys bs)) = wordsTextK (keys bs) := by
  unfold wordsText wordsTextK
  by_cases h : bs = []
  · rw [if_pos h, h]; rfl
  · rw [if_neg h, if_neg (by simpa using h), ← sbOf_keys, List.map_map]
    rfl
theorem sortIx_two {ks : List Int} (hm : ks ∈ heaps) (h : 2 ≤ ks.length) : kasRun ks (kas_sort ks.length) = some (sortIx ks) := by
  unfold sortIx
  rw [if_pos h]
  obtain ⟨p, hp⟩ := Option.isSome_iff_exists.mp (heaps_sort ks hm h)
  rw [hp]
  rfl
theorem sortIx_one {ks : List Int} (h : ks.length < 2) : sortIx ks = List.toArray (List.range ks.length) := if_neg (by omega)

/-! ### rows -/
def rowsOf (l : List Bool) : List Nat := (List.range (2 ^ (5 - l.length))).map fun r => 2 ^ (5 - l.length) * l.foldl (fun a b => 2 * a + (if b then 1 else 0)) 0 + r
def bitsOf (s : Str) : List Bool := s.cps.toList.filterMap fun c => if c = 116 then some true else if c = 104 then some false else none
theorem bits_path {l : List Bool} (h : l.length ≤ 5) : bitsOf (pathStr l) = l := by
  have : ∀ l ∈ upTo 5, bitsOf (pathStr l) = l := by decide +kernel
  exact this l (mem_upTo h)
theorem rows_split {l : List Bool} (h : l.length ≤ 4) : rowsOf l = rowsOf (l ++ [false]) ++ rowsOf (l ++ [true]) := by
  have : ∀ l ∈ upTo 4, rowsOf l = rowsOf (l ++ [false]) ++ rowsOf (l ++ [true]) := by decide +kernel
  exact this l (mem_upTo h)
def GoodB (b : Blk) : Prop := ∃ l : List Bool, l.length ≤ 5 ∧ b.p = pathStr l ∧ b.k = ((2 ^ (5 - l.length) : Nat) : Int)
def rowsB (b : Blk) : List Nat := rowsOf (bitsOf b.p)
end Mine
end

/-! ## L13 -/
section
open PySem PySem.W PyProof.Rows PySem.Calls PySem.Spec PySem.SeqAt
set_option maxRecDepth 100000
namespace Mine
/-- an ask: where its pair lies, its room, its thing -/
structure Ask where
  a : Addr
  room : Int
  thing : Int
/-- a block given -/
structure Giv where
  a : Addr
  bits : List Bool
  room : Int
  thing : Int
def AskIn (news : List (Addr × Obj)) (x : Ask) : Prop := ∃ (t t' : Tok) (n : Nat), (x.a, ({ cls := .type "tuple", data := .seq #[.int x.room t, .int x.thing t'] n } : Obj)) ∈ news
def GivIn (news : List (Addr × Obj)) (g : Giv) : Prop := ∃ (t t' t'' : Tok) (n : Nat), (g.a, ({ cls := .type "tuple", data := .seq #[.str (pathStr g.bits) t, .int g.room t', .int g.thing t''] n } : Obj)) ∈ news
theorem AskIn.mono {news all : List (Addr × Obj)} {x : Ask} (h : AskIn news x) (hs : ∀ p ∈ news, p ∈ all) : AskIn all x := let ⟨a, b, n, hm⟩ := h; ⟨a, b, n, hs _ hm⟩
theorem GivIn.mono {news all : List (Addr × Obj)} {x : Giv} (h : GivIn news x) (hs : ∀ p ∈ news, p ∈ all) : GivIn all x := let ⟨a, b, c, n, hm⟩ := h; ⟨a, b, c, n, hs _ hm⟩
abbrev av (l : List Ask) : List Value := l.map fun x => Value.ref x.a
abbrev gv (l : List Giv) : List Value := l.map fun x => Value.ref x.a

structure GInv (bs : List Blk) (gb : List Giv) (asks : List Ask) : Prop where
  heap : keys bs ∈ heaps
  good : ∀ b ∈ bs, GoodB b
  rows : (bs.flatMap rowsB ++ gb.flatMap fun g => rowsOf g.bits).Perm (List.range 32)
  same : gb.map (fun g => (g.room, g.thing)) = asks.map fun x => (x.room, x.thing)
  len : ∀ g ∈ gb, g.bits.length ≤ 5 ∧ g.room = ((2 ^ (5 - g.bits.length) : Nat) : Int)
  sum : (keys bs).sum + (asks.map (·.room)).sum = 32
theorem GInv.start (a : Addr) : GInv [⟨a, 32, pathStr []⟩] [] [] where
  heap := show [(32 : Int)] ∈ heaps by decide +kernel
  good := fun b hb => by rw [List.mem_singleton.mp hb]; exact ⟨[], by decide, rfl, rfl⟩
  rows := by
    have : (rowsOf (bitsOf (pathStr [])) ++ []) ++ [] = List.range 32 := by decide +kernel
    exact this ▸ List.Perm.refl _
  same := rfl
  len := fun _ h => nomatch h
  sum := rfl
theorem heaps_big : ∀ ks ∈ heaps, ∀ r ∈ pows, r ≤ ks.sum → ∃ k ∈ ks, r ≤ k := by decide +kernel
theorem pows_pos : ∀ r ∈ pows, 1 ≤ r ∧ r ≤ 32 := by decide
theorem sum_le_of_mem : ∀ (l : List Int), (∀ x ∈ l, 0 ≤ x) → 0 ≤ l.sum
  | [], _ => by simp
  | x :: r, h => by
    have := sum_le_of_mem r fun y hy => h y (List.mem_cons_of_mem _ hy)
    have := h x (List.mem_cons_self ..)
    rw [List.sum_cons]; omega
theorem take_room {al : List Ask} {i : Nat} {x : Ask} (hx : al[i]? = some x) (hpow : ∀ x ∈ al, x.room ∈ pows) (hsum : (al.map (·.room)).sum = 32) : ((al.take i).map (·.room)).sum + x.room ≤ 32 ∧ ((al.take (i + 1)).map (·.room)).sum = ((al.take i).map (·.room)).sum + x.room := by
  have e : ((al.take (i + 1)).map (·.room)).sum = ((al.take i).map (·.room)).sum + x.room := by
    rw [List.take_add_one, hx, List.map_append, List.sum_append]
    simp
  have e2 : al = al.take (i + 1) ++ al.drop (i + 1) := (List.take_append_drop _ _).symm
  have e3 : (al.map (·.room)).sum = ((al.take (i + 1)).map (·.room)).sum + ((al.drop (i + 1)).map (·.room)).sum := by
    conv => lhs; rw [e2]
    rw [List.map_append, List.sum_append]
  have e4 := sum_le_of_mem ((al.drop (i + 1)).map (·.room)) fun y hy => by
    obtain ⟨z, hz, rfl⟩ := List.mem_map.mp hy
    have := pows_pos _ (hpow z (List.mem_of_mem_drop hz))
    omega
  exact ⟨by omega, e⟩
theorem keys_mem_heaps {bs : List Blk} (h : keys bs ∈ heaps) : bs.length ≤ 6 ∧ (keys bs).Nodup ∧ ∀ b ∈ bs, b.k ∈ pows := by
  obtain ⟨h1, h2, h3⟩ := heaps_pows _ h
  exact ⟨by simpa using h1, h2, fun b hb => h3 _ (List.mem_map_of_mem hb)⟩
theorem last_split {l : List Blk} (h : l ≠ []) : ∃ ini z, l = ini ++ [z] := ⟨l.dropLast, l.getLast h, (List.dropLast_concat_getLast h).symm⟩
/-- one pop, by keys -/
theorem pop_heaps {ini : List Blk} {z : Blk} (h : keys (ini ++ [z]) ∈ heaps) : keys (popRest ini z) ∈ heaps ∧ ∀ b ∈ popRest ini z, (popHead ini z).k < b.k := by
  have e : keys (ini ++ [z]) = keys ini ++ [z.k] := by simp [keys]
  have z1 := heaps_pop _ h (by rw [e]; simp)
  rw [e, List.dropLast_concat, List.getLastD_eq_getLast?, List.getLast?_append] at z1
  simp only [List.getLast?_singleton, Option.some_or, Option.getD_some] at z1
  rw [← popRest_keys, ← popHead_key] at z1
  exact ⟨z1.1, fun b hb => z1.2 _ (List.mem_map_of_mem hb)⟩
theorem push_heaps {bs : List Blk} {x : Blk} (h : keys bs ∈ heaps) (hx : x.k ∈ pows) (hne : ∀ b ∈ bs, b.k ≠ x.k) : keys (push bs x) ∈ heaps := by
  rw [push_keys]
  refine heaps_push _ h _ hx fun hm => ?_
  obtain ⟨b, hb, e⟩ := List.mem_map.mp hm
  exact hne b hb e
theorem popHead_get (ini : List Blk) (z : Blk) : (ini ++ [z])[0]? = some (popHead ini z) := by cases ini <;> rfl
theorem popHead_mem (ini : List Blk) (z : Blk) : popHead ini z ∈ ini ++ [z] := List.mem_of_getElem? (popHead_get ini z)
theorem off2_cons {q : Addr × Obj} {r : List (Addr × Obj)} {a b : Addr} (h1 : q.1 ≠ a) (h2 : q.1 ≠ b) (h : ∀ p ∈ r, p.1 ≠ a ∧ p.1 ≠ b) : ∀ p ∈ q :: r, p.1 ≠ a ∧ p.1 ≠ b := fun p hp => by
  rcases List.mem_cons.mp hp with rfl | hp
  · exact ⟨h1, h2⟩
  · exact h p hp
theorem sub_rot4 {q a b c d : Addr × Obj} {r : List (Addr × Obj)} : ∀ x ∈ a :: b :: c :: d :: q :: r, x ∈ q :: a :: b :: c :: d :: r := fun x hx => by
  rcases List.mem_cons.mp hx with rfl | hx
  · exact .tail _ (.head _)
  rcases List.mem_cons.mp hx with rfl | hx
  · exact .tail _ (.tail _ (.head _))
  rcases List.mem_cons.mp hx with rfl | hx
  · exact .tail _ (.tail _ (.tail _ (.head _)))
  rcases List.mem_cons.mp hx with rfl | hx
  · exact .tail _ (.tail _ (.tail _ (.tail _ (.head _))))
  rcases List.mem_cons.mp hx with rfl | hx
  · exact .head _
  · exact .tail _ (.tail _ (.tail _ (.tail _ (.tail _ hx))))
theorem news_sub {h₀ h : Heap} {L : Addr} {l l' : List (Addr × Obj)} (N : News h₀ L h l) (hs : ∀ x ∈ l', x ∈ l) : News h₀ L h l' := fun x hx => N x (hs x hx)
theorem pop_len (ini : List Blk) (z : Blk) : (popRest ini z).length < (ini ++ [z]).length := by
  have := (pop_perm ini z).length_eq
  rw [List.length_cons] at this
  omega
theorem pop_step {ini sm bs : List Blk} {z : Blk} (hP : ((ini ++ [z]) ++ sm).Perm bs) : (popRest ini z ++ (sm ++ [popHead ini z])).Perm bs := by
  refine List.Perm.trans ?_ hP
  rw [← List.append_assoc]
  refine (List.perm_append_singleton _ _).trans ?_
  rw [← List.cons_append]
  exact (pop_perm ini z).append_right sm
theorem pop_big {ini : List Blk} {z : Blk} {r : Int} (h : ∃ b ∈ ini ++ [z], r ≤ b.k) (hlt : (popHead ini z).k < r) : ∃ b ∈ popRest ini z, r ≤ b.k := by
  obtain ⟨b, hb, hr⟩ := h
  rcases List.mem_cons.mp ((pop_perm ini z).mem_iff.mpr hb) with rfl | hb
  · omega
  · exact ⟨b, hb, hr⟩
theorem half_pow {n : Nat} (h : n ≤ 4) : (((2 ^ (5 - n) : Nat) : Int)).fdiv 2 = ((2 ^ (5 - (n + 1)) : Nat) : Int) := by
  have : ∀ n ∈ List.range 5, (((2 ^ (5 - n) : Nat) : Int)).fdiv 2 = ((2 ^ (5 - (n + 1)) : Nat) : Int) := by decide
  exact this n (List.mem_range.mpr (by omega))
theorem pow_gt_one {n : Nat} (h : n ≤ 5) {r : Int} (hr : 1 ≤ r) (hlt : r < ((2 ^ (5 - n) : Nat) : Int)) : n ≤ 4 := by
  rcases Nat.lt_or_ge n 5 with h' | h'
  · omega
  · have : n = 5 := by omega
    subst this
    have : ((2 ^ (5 - 5) : Nat) : Int) = 1 := rfl
    omega
theorem pow_mem {n : Nat} : ((2 ^ (5 - n) : Nat) : Int) ∈ pows := by
  rcases Nat.lt_or_ge n 6 with h | h
  · have : ∀ n ∈ List.range 6, ((2 ^ (5 - n) : Nat) : Int) ∈ pows := by decide
    exact this n (List.mem_range.mpr h)
  · have : 5 - n = 0 := by omega
    rw [this]
    decide
theorem pow_between {n : Nat} (h : n ≤ 4) {r : Int} (hr : r ∈ pows) (hlt : r < ((2 ^ (5 - n) : Nat) : Int)) : r ≤ ((2 ^ (5 - (n + 1)) : Nat) : Int) := by
  have : ∀ n ∈ List.range 5, ∀ r ∈ pows, r < ((2 ^ (5 - n) : Nat) : Int) → r ≤ ((2 ^ (5 - (n + 1)) : Nat) : Int) := by decide
  exact this n (List.mem_range.mpr (by omega)) r hr hlt
theorem pow_double {n : Nat} (h : n ≤ 4) : ((2 ^ (5 - n) : Nat) : Int) = 2 * ((2 ^ (5 - (n + 1)) : Nat) : Int) := by
  have : ∀ n ∈ List.range 5, ((2 ^ (5 - n) : Nat) : Int) = 2 * ((2 ^ (5 - (n + 1)) : Nat) : Int) := by decide
  exact this n (List.mem_range.mpr (by omega))
theorem keys_sum_perm {a b : List Blk} (h : a.Perm b) : (keys a).sum = (keys b).sum := by
  induction h with
  | nil => rfl
  | cons x _ ih => simp only [keys, List.map_cons, List.sum_cons] at ih ⊢; omega
  | swap x y l => simp only [keys, List.map_cons, List.sum_cons]; omega
  | trans _ _ ih1 ih2 => exact ih1.trans ih2
theorem path_pos {l : List Bool} (h : l.length ≤ 5) : 0 < (pathStr l).length ∧ (pathStr l).length < 1000 := by
  rw [path_len h]
  split <;> omega
end Mine
end

/-! ## L14 -/
section
open PySem PySem.W PyProof.Rows PySem.Calls PySem.Spec PySem.SeqAt
set_option maxRecDepth 100000
namespace Mine
theorem pt_path {bits : List Bool} (h : bits.length ≤ 4) : joinStr (pathStr bits) (Str.ofString "t") = pathStr (bits ++ [true]) := join_path h true
theorem ph_path {bits : List Bool} (h : bits.length ≤ 4) : joinStr (pathStr bits) (Str.ofString "h") = pathStr (bits ++ [false]) := join_path h false
theorem half_turn {bits : List Bool} {bs3 : List Blk} {sz r tot : Int} {D : Addr} {rows : List Nat} (hbl4 : bits.length ≤ 4) (hsz : sz = ((2 ^ (5 - bits.length) : Nat) : Int)) (hrp : r ∈ pows) (hgt : r < sz)
    (hbig3 : ∀ b ∈ bs3, sz ≤ b.k) (hK3 : keys bs3 ∈ heaps) (hG3 : ∀ b ∈ bs3, GoodB b) (hne3 : ∀ b ∈ bs3, b.k ≠ sz.fdiv 2) (hR3 : (bs3.flatMap rowsB ++ rowsOf bits).Perm rows) (hS3 : (keys bs3).sum + sz = tot) :
    (sz.fdiv 2).toNat < sz.toNat ∧ sz.fdiv 2 = ((2 ^ (5 - (bits ++ [false]).length) : Nat) : Int) ∧ r ≤ sz.fdiv 2 ∧
    (∀ b ∈ push bs3 ⟨D, sz.fdiv 2, joinStr (pathStr bits) (Str.ofString "t")⟩, sz.fdiv 2 ≤ b.k) ∧ keys (push bs3 ⟨D, sz.fdiv 2, joinStr (pathStr bits) (Str.ofString "t")⟩) ∈ heaps ∧
    (∀ b ∈ push bs3 ⟨D, sz.fdiv 2, joinStr (pathStr bits) (Str.ofString "t")⟩, GoodB b) ∧
    ((push bs3 ⟨D, sz.fdiv 2, joinStr (pathStr bits) (Str.ofString "t")⟩).flatMap rowsB ++ rowsOf (bits ++ [false])).Perm rows ∧
    (keys (push bs3 ⟨D, sz.fdiv 2, joinStr (pathStr bits) (Str.ofString "t")⟩)).sum + sz.fdiv 2 = tot := by
  have h1 : sz.fdiv 2 = ((2 ^ (5 - (bits.length + 1)) : Nat) : Int) := by rw [hsz, half_pow hbl4]
  have h2 : sz = 2 * sz.fdiv 2 := by rw [h1, hsz]; exact pow_double hbl4
  have h3 : r ≤ sz.fdiv 2 := by rw [h1]; exact pow_between hbl4 hrp (hsz ▸ hgt)
  have h4 : 1 ≤ sz.fdiv 2 := by rw [h1]; exact (pows_pos _ pow_mem).1
  have hp := push_perm bs3 ⟨D, sz.fdiv 2, joinStr (pathStr bits) (Str.ofString "t")⟩
  rw [pt_path hbl4] at hp ⊢
  refine ⟨by omega, by rw [h1, List.length_append]; rfl, h3, ?_, push_heaps hK3 (by show sz.fdiv 2 ∈ pows; rw [h1]; exact pow_mem) hne3, ?_, ?_, ?_⟩
  · intro b hb
    rcases List.mem_cons.mp (hp.mem_iff.mp hb) with rfl | hb
    · exact Int.le_refl _
    · have := hbig3 b hb; omega
  · intro b hb
    rcases List.mem_cons.mp (hp.mem_iff.mp hb) with rfl | hb
    · exact ⟨bits ++ [true], by simp; omega, rfl, by rw [List.length_append]; exact h1⟩
    · exact hG3 b hb
  · refine List.Perm.trans ?_ hR3
    refine (List.Perm.append_right _ (hp.flatMap_right rowsB)).trans ?_
    rw [List.flatMap_cons, rowsB, bits_path (by simp; omega), rows_split hbl4, List.append_assoc]
    refine (List.perm_append_comm).trans ?_
    rw [List.append_assoc]
  · rw [keys_sum_perm hp]
    simp only [keys, List.map_cons, List.sum_cons] at hS3 ⊢
    omega
theorem lay_back {bs3 bs4 sm : List Blk} {i : Nat} {b : Blk} {r : Int} (hp : bs4.Perm (bs3 ++ sm.take i)) (hb : sm[i]? = some b) (hnd : (keys sm).Nodup) (hbig : ∀ b ∈ bs3, r ≤ b.k) (hsm : ∀ b ∈ sm, b.k < r) :
    (∀ c ∈ bs4, c.k ≠ b.k) ∧ (push bs4 b).Perm (bs3 ++ sm.take (i + 1)) := by
  have hbm := List.mem_of_getElem? hb
  have e : sm.take (i + 1) = sm.take i ++ [b] := by rw [List.take_add_one, hb]; rfl
  constructor
  · intro c hc
    rcases List.mem_append.mp (hp.mem_iff.mp hc) with hc | hc
    · have := hbig c hc
      have := hsm b hbm
      omega
    · have h1 : (keys (sm.take (i + 1))).Nodup := by
        have : (keys (sm.take (i + 1))).Sublist (keys sm) := (List.take_sublist _ _).map _
        exact this.nodup hnd
      rw [e, keys, List.map_append] at h1
      intro h
      exact (List.nodup_append.mp h1).2.2 _ (List.mem_map_of_mem hc) _ (by simp) h
  · refine (push_perm bs4 b).trans ?_
    rw [e, ← List.append_assoc]
    exact (List.Perm.cons b hp).trans (List.perm_append_singleton b _).symm
theorem small_nodup {a sm bs : List Blk} (hP : (a ++ sm).Perm bs) (h : (keys bs).Nodup) : (keys sm).Nodup := by
  have h1 : (keys (a ++ sm)).Nodup := (hP.map (fun b : Blk => b.k)).nodup_iff.mpr h
  rw [keys, List.map_append] at h1
  exact (List.nodup_append.mp h1).2.1
theorem ginv_next {bs bs3 bs4 sm ini : List Blk} {z : Blk} {gb : List Giv} {al : List Ask} {i : Nat} {x : Ask} {bits : List Bool} {sz : Int} {D : Addr} (GI : GInv bs gb (al.take i)) (hx : al[i]? = some x) (hP : ((ini ++ [z]) ++ sm).Perm bs)
    (hbl : bits.length ≤ 5) (hsz : sz = ((2 ^ (5 - bits.length) : Nat) : Int)) (hr : x.room = sz)
    (hR3 : (bs3.flatMap rowsB ++ rowsOf bits).Perm ((popRest ini z).flatMap rowsB ++ rowsB (popHead ini z))) (hS3 : (keys bs3).sum + sz = (keys (popRest ini z)).sum + (popHead ini z).k)
    (hG3 : ∀ b ∈ bs3, GoodB b) (hp : bs4.Perm (bs3 ++ sm)) (hK : keys bs4 ∈ heaps) :
    GInv bs4 (gb ++ [⟨D, bits, x.room, x.thing⟩]) (al.take (i + 1)) ∧ (keys bs4).sum = (keys bs).sum - x.room := by
  have e : al.take (i + 1) = al.take i ++ [x] := by rw [List.take_add_one, hx]; rfl
  have hs : (keys bs4).sum = (keys bs).sum - x.room := by
    have h1 := keys_sum_perm hp
    have h2 := keys_sum_perm hP
    have h3 := keys_sum_perm (pop_perm ini z)
    simp only [keys, List.map_append, List.sum_append, List.map_cons, List.sum_cons] at h1 h2 h3 hS3 ⊢
    omega
  refine ⟨⟨hK, ?_, ?_, ?_, ?_, ?_⟩, hs⟩
  · intro b hb
    rcases List.mem_append.mp (hp.mem_iff.mp hb) with hb | hb
    · exact hG3 b hb
    · exact GI.good b (hP.mem_iff.mp (List.mem_append_right _ hb))
  · refine List.Perm.trans ?_ GI.rows
    have h1 := hp.flatMap_right rowsB
    have h2 := hP.flatMap_right rowsB
    have h3 := (pop_perm ini z).flatMap_right rowsB
    rw [List.flatMap_append] at h1 h2
    rw [List.flatMap_cons] at h3
    rw [List.flatMap_append, List.flatMap_singleton]
    rw [List.perm_iff_count] at h1 h2 h3 hR3 ⊢
    intro q
    have h1 := h1 q
    have h2 := h2 q
    have h3 := h3 q
    have h4 := hR3 q
    simp only [List.count_append] at h1 h2 h3 h4 ⊢
    omega
  · rw [e, List.map_append, List.map_append, GI.same]
    rfl
  · intro g hg
    rcases List.mem_append.mp hg with hg | hg
    · exact GI.len g hg
    · rw [List.mem_singleton.mp hg]
      exact ⟨hbl, hr.trans hsz⟩
  · have := GI.sum
    rw [e, List.map_append, List.sum_append]
    simp only [List.map_cons, List.map_nil, List.sum_cons, List.sum_nil]
    omega
theorem perm_in {bs bs' : List Blk} {news : List (Addr × Obj)} (h : bs'.Perm bs) (hin : ∀ b ∈ bs, BlkIn news b) : ∀ b ∈ bs', BlkIn news b := fun b hb => hin b (h.mem_iff.mp hb)
theorem keys_nonneg {bs : List Blk} (h : keys bs ∈ heaps) : 0 ≤ (keys bs).sum := sum_le_of_mem _ fun y hy => by
  have := pows_pos _ ((heaps_pows _ h).2.2 y hy)
  omega
/-- nothing left: no block is free -/
theorem ginv_end {bs : List Blk} {gb : List Giv} {al : List Ask} (GI : GInv bs gb al) (hsum : (al.map (·.room)).sum = 32) : bs = [] := by
  have h := GI.sum
  have h0 : (keys bs).sum = 0 := by omega
  cases bs with
  | nil => rfl
  | cons b r =>
    exfalso
    obtain ⟨_, _, hp⟩ := keys_mem_heaps GI.heap
    have h1 := pows_pos _ (hp b (List.mem_cons_self ..))
    have h2 := sum_le_of_mem (keys r) fun y hy => by
      obtain ⟨c, hc, rfl⟩ := List.mem_map.mp hy
      have := pows_pos _ (hp c (List.mem_cons_of_mem _ hc))
      omega
    simp only [keys, List.map_cons, List.sum_cons] at h0 h2
    omega
end Mine
namespace Mine
theorem sub_in4 {q a b c d : Addr × Obj} {r : List (Addr × Obj)} : ∀ x ∈ a :: b :: c :: d :: q :: r, x ∈ a :: q :: b :: c :: d :: r := fun x hx => by
  simp only [List.mem_cons] at hx ⊢
  rcases hx with h | h | h | h | h | h <;> simp [h]
theorem sub_head4 {a b c d : Addr × Obj} {r : List (Addr × Obj)} : ∀ x ∈ d :: a :: b :: c :: r, x ∈ a :: b :: c :: d :: r := fun x hx => by
  simp only [List.mem_cons] at hx ⊢
  rcases hx with h | h | h | h | h <;> simp [h]
end Mine
namespace Mine
theorem sub_third {a b c : Addr × Obj} {r : List (Addr × Obj)} : ∀ x ∈ c :: a :: b :: r, x ∈ a :: b :: c :: r := fun x hx => by
  simp only [List.mem_cons] at hx ⊢
  rcases hx with h | h | h | h <;> simp [h]
theorem pows_cases {k : Int} (h : k ∈ pows) : k = 1 ∨ k = 2 ∨ k = 4 ∨ k = 8 ∨ k = 16 ∨ k = 32 := by simpa [pows] using h
theorem words_flag {bs : List Blk} (h : keys bs ∈ heaps) : wordsText bs (sortIx (keys bs)) = flagText (keys bs).sum.toNat := by rw [wordsText_eq, heaps_text _ h]
end Mine
namespace Mine
theorem words_hp {bs : List Blk} (hK : keys bs ∈ heaps) : 2 ≤ bs.length → kasRun (bs.map (·.k)) (kas_sort bs.length) = some (sortIx (keys bs)) := fun h2 => by
  have := sortIx_two hK (by rw [List.length_map]; exact h2)
  rwa [List.length_map] at this
theorem words_hp1 {bs : List Blk} : bs.length < 2 → sortIx (keys bs) = List.toArray (List.range bs.length) := fun h2 => by
  have := sortIx_one (ks := keys bs) (by rw [List.length_map]; exact h2)
  rwa [List.length_map] at this
theorem words_hpl {bs : List Blk} (hK : keys bs ∈ heaps) : ∀ i ∈ (sortIx (keys bs)).toList, i < bs.length := fun i hi => by
  have := (heaps_ix _ hK).1 i hi
  rwa [List.length_map] at this
end Mine
namespace Mine
theorem sub_rot4' {q a b c d : Addr × Obj} {r : List (Addr × Obj)} : ∀ x ∈ q :: a :: b :: c :: d :: r, x ∈ a :: b :: c :: d :: q :: r := fun x hx => by
  simp only [List.mem_cons] at hx ⊢
  rcases hx with h | h | h | h | h | h <;> simp [h]
theorem text_ne (n : Nat) : (flagText n != flagText n) = false := by simp
end Mine
end

/-! ## P11 -/
section
open PySem PySem.W PyProof.Rows PySem.Calls PySem.Spec PySem.SeqAt
set_option maxRecDepth 100000
namespace Mine
theorem fill_P11 (w : World) : PySem.Challenge.rw_ik0178_01 = PySem.Challenge.rw_ik0178_01 ∧ heapK w.params = heapK w.params := by
  k_fill
  exact ⟨rfl, rfl⟩
section
variable {prog : Program} {w : World} {loose : List Str} {mean : ExcName → Option Value} {mg mb : Str → Option Value}
variable {dp un : Nat} {gd : Option (List Code)} {cn : Str} {cs : Scope} {a : Addr} {ccd : Value} {cl : List (Str × Addr)} {outer : List Env} {A₀ : Around} {base h₀ : Heap} {L : Addr} {m : Str → Option Value} {news : List (Addr × Obj)} {s : Shared} {Q E : Value → Shared → Prop}

theorem push_new (B : Below A₀ base outer h₀) (F : Fr h₀ L s.heap m) (X : (heapK w.params).In h₀) (T : Top viewQ loose mean mg mb h₀) (hk : cs.kind = .function)
  {l D : Addr} {bs : List Blk} {k : Int} {p : Str} {tk tp : Tok} {n : Nat} {D' : Addr × Obj}
  (N : News h₀ L s.heap (D' :: (l, listOf (hv bs).toArray n) :: news)) (hm : D' = (D, ({ cls := .type "tuple", data := .seq #[.int k tk, .str p tp] } : Obj))) (off : ∀ p ∈ D' :: news, p.1 ≠ l)
  (hlen : bs.length < 900)
  (hdp : dp + 2 < recursionLimit) (hun : un + 16 < cLine)
  (hin : ∀ b ∈ bs, BlkIn news b) (hne : ∀ b ∈ bs, b.k ≠ k)
  (hret : ∀ h' tk' n', Fr h₀ L h' m → News h₀ L h' ((l, listOf (hv (push bs ⟨D, k, p⟩)).toArray n') :: D' :: news) → Q .none { s with heap := h', toks := tk' }) :
  wpAny (model prog w) (ktrTop dp un gd cn cs L a ccd cl outer) (call (.ref 28) [.ref l, .ref D]) Q E s := by
  subst hm
  exact push_spec (x := ⟨D, k, p⟩) B F X T hk (news_swap N) off hlen hdp hun (fun b hb => (hin b hb).mono fun q hq => .tail _ hq) ⟨tk, tp, 0, .head _⟩ hne hret
theorem flags_call (B : Below A₀ base outer h₀) (F : Fr h₀ L s.heap m) (X : (heapK w.params).In h₀) (N : News h₀ L s.heap news) (T : Top viewQ loose mean mg mb h₀) (hk : cs.kind = .function)
  (hdp : dp + 2 < recursionLimit) (hun : un + 16 < cLine) {n : Int} {tx : Tok} (hn0 : 0 ≤ n) (hn : n ≤ 32)
  (hret : ∀ t h' tk', Fr h₀ L h' m → News h₀ L h' news → Q (.str (flagText n.toNat) t) { s with heap := h', toks := tk' }) :
  wpAny (model prog w) (ktrTop dp un gd cn cs L a ccd cl outer) (call (.ref 57) [.int n tx]) Q E s := by
  have e : n = ((n.toNat : Nat) : Int) := (Int.toNat_of_nonneg hn0).symm
  rw [e]
  exact flags_spec B F X N T hk hdp hun (by omega) hret
theorem append_giv {l D : Addr} {gb : List Giv} {bits : List Bool} {r th : Int} {n : Nat} {D' : Addr × Obj} {tp tr tt : Tok} {A : Around} (F : Fr h₀ L s.heap m) (N : News h₀ L s.heap (D' :: (l, listOf (gv gb).toArray n) :: news)) (hm : D' = (D, ({ cls := .type "tuple", data := .seq #[.str (pathStr bits) tp, .int r tr, .int th tt] } : Obj))) (off : ∀ p ∈ D' :: news, p.1 ≠ l) (hz : gb.length < 1000)
    (h : ∀ h', Fr h₀ L h' m → News h₀ L h' ((l, listOf (gv (gb ++ [⟨D, bits, r, th⟩])).toArray (n + 1)) :: D' :: news) → Q .none { s with heap := h' }) :
    wpAny (model prog w) A (call (.builtin "list.append") [.ref l, .ref D]) Q E s := by
  refine append_val F (news_swap N) off (by simpa using hz) fun h' F' N' => h h' F' ?_
  have e : gv gb ++ [Value.ref D] = gv (gb ++ [⟨D, bits, r, th⟩]) := by simp [gv]
  rw [e] at N'
  exact N'


local macro_rules | `(tactic| k_all) => `(tactic| assumption)
local macro_rules | `(tactic| k_mem) => `(tactic| assumption)
set_option maxHeartbeats 4000000 in
theorem given_spec (B : Below A₀ base outer h₀) (F : Fr h₀ L s.heap m) (X : (heapK w.params).In h₀) (T : Top viewQ loose mean mg mb h₀) (hk : cs.kind = .function)
  (hdp : dp + 6 < recursionLimit) (hun : un + 48 < cLine) {ax : Addr} {al : List Ask} {e0 : Nat}
  (N : News h₀ L s.heap news) (hax : (ax, listOf (av al).toArray e0) ∈ news) (hain : ∀ x ∈ al, AskIn news x) (hal : al.length ≤ 1000)
  (hpow : ∀ x ∈ al, x.room ∈ pows) (hsum : (al.map (·.room)).sum = 32)
  (hret : ∀ ga gb e h' tk' rest, GInv [] gb al → (∀ p ∈ news, p ∈ rest) → (∀ g ∈ gb, GivIn rest g) → (∀ p ∈ rest, p.1 ≠ ga) → Fr h₀ L h' m → News h₀ L h' ((ga, listOf (gv gb).toArray e) :: rest) → Q (.ref ga) { s with heap := h', toks := tk' }) :
  wpAny (model prog w) (ktrTop dp un gd cn cs L a ccd cl outer) (call (.ref 175) [.ref ax]) Q E s := by
  refine wpAny_call ?_
  k_dflt (refine' code_def ?k1 ?k2 ?k3 ?k4 ?k5 ?kA ?kF ?kK ?k6 ?k7 ?k8 ?k9 ?kB ?_ ?c2 ?c3 ?c4 ?c5; (case kA => exact rfl); (case kF => exact rfl); (case kK => assumption); (case k1 => k_asm); (case k2 => k_asm); (case k3 => k_asm); (case k4 => k_asm); (case k5 => k_asm); (case k6 => k_is); (case k7 => k_is); (case k8 => ktr_room); (case k9 => exact BindsTo.of_eq rfl); (case c5 => decide); (case kB => exact locs rfl); (case c2 => exact rfl); (case c3 => exact rfl); (case c4 => exact rfl); k_whole; intro g' L' h' FG' F' N' B' X' T'; (try dsimp only); (try k_lift B'); (try k_fold))

  replace F' : Fr g' L' h' (fun y => List.lookup y [(Str.ofString "asks", Value.ref ax)]) := F'
  as_aux_lemma =>
    (repeat' ((fail_if_success ((with_reducible show wpAny _ _ (exec (PySem.Stmt.While _ _ _ _) _) _ _ _))); (fail_if_success ((with_reducible show wpAny _ _ (call (Value.ref 168) _) _ _ _))); (fail_if_success ((with_reducible show wpAny _ _ (pyIter (Value.ref _)) _ _ _))); (first | (with_reducible ((k_here; (with_reducible show wpAny _ _ (call (Value.ref 57) _) _ _ _); k_dflt (refine flags_call (by k_asm) (by k_asm) (by k_asm) (by k_asm) (by k_asm) rfl (by ktr_room) (by ktr_units) (by omega) (by omega) ?_); intro t' h' tk' F' N'))) | (with_reducible ((k_here; (with_reducible show wpAny _ _ (call (Value.builtin _) [Value.ref _, Value.ref _]) _ _ _); k_dflt (refine append_giv (by k_asm) (by k_asm) rfl (by first | assumption | k_all) (by assumption) ?_; k_whole); intro h' F' N'))) | (with_reducible ((k_here; (with_reducible show wpAny _ _ (call (Value.ref 28) [Value.ref _, Value.ref _]) _ _ _); k_dflt (refine push_new (by k_asm) (by k_asm) (by k_asm) (by k_asm) rfl (by k_asm) rfl (by first | assumption | k_all) (by assumption) (by ktr_room) (by ktr_units) (by assumption) (by assumption) ?_); intro h' tk' n' F' N'))) | (with_reducible ((k_here; (with_reducible show wpAny _ _ (call (Value.ref 151) _) _ _ _); k_dflt (refine join_spec (by k_asm) (by k_asm) (by k_asm) (by k_asm) (by k_asm) rfl (by ktr_room) (by ktr_units) (by assumption) (by assumption) (by decide) (by decide +kernel) ?_); intro t' h' tk' F' N'))) | (with_reducible ((k_here; (with_reducible show wpAny _ _ (call (Value.ref 35) _) _ _ _); k_dflt (refine pop_spec (by k_asm) (by k_asm) (by k_asm) (by k_asm) rfl (by first | k_asm | exact news_swap (by k_asm)) (by first | assumption | k_all) (by assumption) (by ktr_room) (by ktr_units) (by assumption) (by assumption) ?_); intro h' tk' n' F' N'))) | (with_reducible ((k_here; (with_reducible show wpAny _ _ (call (Value.ref 28) _) _ _ _); k_dflt (refine push_spec (by k_asm) (by k_asm) (by k_asm) (by k_asm) rfl (by first | k_asm | exact news_swap (by k_asm)) (by first | assumption | k_all) (by assumption) (by ktr_room) (by ktr_units) (by assumption) (by assumption) (by assumption) ?_); intro h' tk' n' F' N'))) | (with_reducible ((k_here; (with_reducible show wpAny _ _ (call (Value.builtin _) [Value.ref _, Value.ref _]) _ _ _); k_dflt (refine append_blk (by k_asm) (by first | k_asm | exact news_swap (by k_asm)) (by first | assumption | k_all) (by assumption) ?_; k_whole); intro h' F' N'))) | (with_reducible ((k_here; (with_reducible show wpAny _ _ (subscriptTail _ _ (Value.ref _) (Value.int _ _)) _ _ _); k_dflt (refine kim_tup (by k_asm) (by k_mem) rfl rfl (by decide) (by decide) rfl rfl ?_ (by with_unfolding_all rfl) (by (intro _; with_unfolding_all rfl)); k_whole)))) | (with_reducible ((k_here; (with_reducible show wpAny _ _ (subscriptTail _ _ (Value.ref _) (Value.int _ _)) _ _ _); k_dflt (refine get_blk (by k_asm) (by k_mem) (by first | with_reducible assumption | exact rfl) (by assumption) (by assumption) ?_ (by with_unfolding_all rfl) (by (intro _; with_unfolding_all rfl)); k_whole)))) | (((with_reducible show wpAny _ _ (exec (PySem.Stmt.For _ _ _ _ _) _) _ _ _); (k_here; (refine wpAny_For ?_ (by intro _; rfl))))) | (k_unfold; (try dsimp only)) | (k_end; wrow_close) | walk1 | (dsimp only; walk1) | (leave1; walk_say "STEP leave1"; try dsimp only) | fail "no step")))
    skip
    (rename Fr _ _ _ _ => F₁)
    (rename News _ _ _ _ => N₁)
    -- the ledger in our order
    refine iter_list_J (vs := av al) rfl F₁ (fun p hp => N₁ p (by rcases List.mem_cons.mp hp with rfl | hp; exact .tail _ (.tail _ (.head _)); rcases List.mem_cons.mp hp with rfl | hp; exact .tail _ (.head _); rcases List.mem_cons.mp hp with rfl | hp; exact .head _; exact .tail _ (.tail _ (.tail _ hp)))) (.tail _ (.tail _ (.tail _ (.tail _ hax))))
      (fun i m₁ news₁ => ∃ hl gl bs gb e1 e2 lf t rest, m₁ (Str.ofString "heap") = some (.ref hl) ∧ m₁ (Str.ofString "given") = some (.ref gl) ∧ m₁ (Str.ofString "left") = some (.int lf t) ∧ lf = (keys bs).sum ∧
        news₁ = (hl, listOf (hv bs).toArray e1) :: (gl, listOf (gv gb).toArray e2) :: rest ∧ (∀ p ∈ news, p ∈ rest) ∧ hl ≠ gl ∧ (∀ p ∈ rest, p.1 ≠ hl ∧ p.1 ≠ gl) ∧ (∀ b ∈ bs, BlkIn rest b) ∧ (∀ g ∈ gb, GivIn rest g) ∧ GInv bs gb (al.take i)) ?_ ?_ ?_
    · refine ⟨_, _, [⟨_, 32, pathStr []⟩], [], _, _, 32, _, _, rfl, rfl, rfl, rfl, rfl, fun p hp => .tail _ (.tail _ hp), ?_, ?_, ?_, List.forall_mem_nil _, GInv.start _⟩
      · k_ne
      · refine off2_cons (by k_ne) (by k_ne) (off2_cons (by k_ne) (by k_ne) fun p hp => ⟨?_, ?_⟩)
        · exact off_of_lt (And.right (by assumption)) (Nat.le_refl _) p hp
        · exact off_of_lt (And.right (And.right (by assumption))) (Nat.le_refl _) p hp
      · intro b hb
        rw [List.mem_singleton.mp hb]
        exact ⟨_, _, _, .tail _ (.head _)⟩
    · rintro i v m₁ news₁ I oI h₁ tk₁ hvi ⟨hl, gl, bs, gb, e1, e2, lf, t, rest, m1, m2, m3, hlf, rfl, hsub, hhg, hoffr, hbin, hgin, GI⟩ hm hoffI F₂ N₂
      refine hideB fun Z1 hZ1 => ?_
      clear N₁
      obtain ⟨x, hx, rfl⟩ : ∃ x, al[i]? = some x ∧ Value.ref x.a = v := by simpa [av] using hvi
      obtain ⟨tr, tt, nx, hmx₀⟩ := hain x (List.mem_of_getElem? hx)
      have hmx := hsub _ hmx₀
      have F₃ := fr_chain [(Str.ofString "heap", .ref hl), (Str.ofString "given", .ref gl), (Str.ofString "left", .int lf t)] F₂ (allc (by assumption) (allc (by assumption) (allc (by assumption) alln)))
      have N₃ := news_swap N₂
      have hIh : @Ne Nat I hl := Ne.symm (hoffI _ (.head _))
      have hIg : @Ne Nat I gl := Ne.symm (hoffI _ (.tail _ (.head _)))
      have hhg' : @Ne Nat hl gl := hhg
      have hrh : ∀ p ∈ rest, p.1 ≠ hl := fun p hp => (hoffr p hp).1
      have hrg : ∀ p ∈ rest, p.1 ≠ gl := fun p hp => (hoffr p hp).2
      have hrI : ∀ p ∈ rest, p.1 ≠ I := fun p hp => hoffI _ (.tail _ (.tail _ hp))
      obtain ⟨hroom, hroom'⟩ := take_room hx hpow hsum
      have hxp := hpow x (List.mem_of_getElem? hx)
      clear F₂ N₂ m1 m2 m3
      as_aux_lemma =>
        (repeat' ((fail_if_success ((with_reducible show wpAny _ _ (exec (PySem.Stmt.While _ _ _ _) _) _ _ _))); (fail_if_success ((with_reducible show wpAny _ _ (call (Value.ref 168) _) _ _ _))); (fail_if_success ((with_reducible show wpAny _ _ (pyIter (Value.ref _)) _ _ _))); (first | (with_reducible ((k_here; (with_reducible show wpAny _ _ (call (Value.ref 57) _) _ _ _); k_dflt (refine flags_call (by k_asm) (by k_asm) (by k_asm) (by k_asm) (by k_asm) rfl (by ktr_room) (by ktr_units) (by omega) (by omega) ?_); intro t' h' tk' F' N'))) | (with_reducible ((k_here; (with_reducible show wpAny _ _ (call (Value.builtin _) [Value.ref _, Value.ref _]) _ _ _); k_dflt (refine append_giv (by k_asm) (by k_asm) rfl (by first | assumption | k_all) (by assumption) ?_; k_whole); intro h' F' N'))) | (with_reducible ((k_here; (with_reducible show wpAny _ _ (call (Value.ref 28) [Value.ref _, Value.ref _]) _ _ _); k_dflt (refine push_new (by k_asm) (by k_asm) (by k_asm) (by k_asm) rfl (by k_asm) rfl (by first | assumption | k_all) (by assumption) (by ktr_room) (by ktr_units) (by assumption) (by assumption) ?_); intro h' tk' n' F' N'))) | (with_reducible ((k_here; (with_reducible show wpAny _ _ (call (Value.ref 151) _) _ _ _); k_dflt (refine join_spec (by k_asm) (by k_asm) (by k_asm) (by k_asm) (by k_asm) rfl (by ktr_room) (by ktr_units) (by assumption) (by assumption) (by decide) (by decide +kernel) ?_); intro t' h' tk' F' N'))) | (with_reducible ((k_here; (with_reducible show wpAny _ _ (call (Value.ref 35) _) _ _ _); k_dflt (refine pop_spec (by k_asm) (by k_asm) (by k_asm) (by k_asm) rfl (by first | k_asm | exact news_swap (by k_asm)) (by first | assumption | k_all) (by assumption) (by ktr_room) (by ktr_units) (by assumption) (by assumption) ?_); intro h' tk' n' F' N'))) | (with_reducible ((k_here; (with_reducible show wpAny _ _ (call (Value.ref 28) _) _ _ _); k_dflt (refine push_spec (by k_asm) (by k_asm) (by k_asm) (by k_asm) rfl (by first | k_asm | exact news_swap (by k_asm)) (by first | assumption | k_all) (by assumption) (by ktr_room) (by ktr_units) (by assumption) (by assumption) (by assumption) ?_); intro h' tk' n' F' N'))) | (with_reducible ((k_here; (with_reducible show wpAny _ _ (call (Value.builtin _) [Value.ref _, Value.ref _]) _ _ _); k_dflt (refine append_blk (by k_asm) (by first | k_asm | exact news_swap (by k_asm)) (by first | assumption | k_all) (by assumption) ?_; k_whole); intro h' F' N'))) | (with_reducible ((k_here; (with_reducible show wpAny _ _ (subscriptTail _ _ (Value.ref _) (Value.int _ _)) _ _ _); k_dflt (refine kim_tup (by k_asm) (by k_mem) rfl rfl (by decide) (by decide) rfl rfl ?_ (by with_unfolding_all rfl) (by (intro _; with_unfolding_all rfl)); k_whole)))) | (with_reducible ((k_here; (with_reducible show wpAny _ _ (subscriptTail _ _ (Value.ref _) (Value.int _ _)) _ _ _); k_dflt (refine get_blk (by k_asm) (by k_mem) (by first | with_reducible assumption | exact rfl) (by assumption) (by assumption) ?_ (by with_unfolding_all rfl) (by (intro _; with_unfolding_all rfl)); k_whole)))) | (((with_reducible show wpAny _ _ (exec (PySem.Stmt.For _ _ _ _ _) _) _ _ _); (k_here; (refine wpAny_For ?_ (by intro _; rfl))))) | (k_unfold; (try dsimp only)) | (k_end; wrow_close) | walk1 | (dsimp only; walk1) | (leave1; walk_say "STEP leave1"; try dsimp only) | fail "no step")))
        skip
        (rename Fr _ _ _ _ => F₄)
        (rename News _ _ _ _ => N₄)
        refine While_brk (fun k m₂ news₂ => ∃ sl bs' sm e1' e3, bs'.length = k ∧ m₂ (Str.ofString "heap") = some (.ref hl) ∧ m₂ (Str.ofString "given") = some (.ref gl) ∧ m₂ (Str.ofString "left") = some (.int lf t) ∧ m₂ (Str.ofString "room") = some (.int x.room tr) ∧
          m₂ (Str.ofString "thing") = some (.int x.thing tt) ∧ m₂ (Str.ofString "small") = some (.ref sl) ∧ news₂ = (hl, listOf (hv bs').toArray e1') :: (sl, listOf (hv sm).toArray e3) :: (I, oI) :: (gl, listOf (gv gb).toArray e2) :: rest ∧
          @Ne Nat sl hl ∧ @Ne Nat sl gl ∧ @Ne Nat sl I ∧ (∀ p ∈ rest, p.1 ≠ sl) ∧ keys bs' ∈ heaps ∧ (bs' ++ sm).Perm bs ∧ (∀ b ∈ sm, b.k < x.room) ∧ ∃ b ∈ bs', x.room ≤ b.k) (n₀ := bs.length) F₄ (news_swap N₄) ?_ ?_
        · refine ⟨_, bs, [], _, _, rfl, rfl, rfl, rfl, rfl, rfl, rfl, rfl, by omega, by omega, by omega, off_of_lt (And.right (And.right (And.right (by assumption)))) (Nat.le_refl _), GI.heap, by rw [List.append_nil], List.forall_mem_nil _, ?_⟩
          obtain ⟨k, hk, hr⟩ := heaps_big _ GI.heap _ hxp (by have := GI.sum; omega)
          obtain ⟨b, hb, rfl⟩ := List.mem_map.mp hk
          exact ⟨b, hb, hr⟩
        · rintro k m₂ news₂ h₂ tk₂ F₅ N₅ ⟨sl, bs', sm, e1', e3, rfl, m1, m2, m3, m4, m5, m6, rfl, hsh, hsg, hsI, hrs, hK, hP, hsm, hbig⟩
          refine hideW fun Z2 hZ2 => ?_
          have F₆ := fr_chain [(Str.ofString "heap", .ref hl), (Str.ofString "given", .ref gl), (Str.ofString "left", .int lf t), (Str.ofString "room", .int x.room tr), (Str.ofString "thing", .int x.thing tt), (Str.ofString "small", .ref sl)] F₅ (allc (by assumption) (allc (by assumption) (allc (by assumption) (allc (by assumption) (allc (by assumption) (allc (by assumption) alln))))))
          clear F₅ m1 m2 m3 m4 m5 m6 F₄ N₄
          have hne0 : bs' ≠ [] := by
            obtain ⟨b, hb, _⟩ := hbig
            exact List.ne_nil_of_mem hb
          obtain ⟨ini, z, rfl⟩ := last_split hne0
          obtain ⟨hk6, hknd, hkp⟩ := keys_mem_heaps hK
          have hpl : ∀ b ∈ (ini ++ [z]) ++ sm, BlkIn rest b := fun b hb => hbin b (hP.mem_iff.mp hb)
          have hget := popHead_get ini z
          have hpm := popHead_mem ini z
          obtain ⟨tb, tb', nb, hmb⟩ := hpl _ (List.mem_append_left _ hpm)
          have hc0 : (0 : Int) = ((0 : Nat) : Int) := rfl
          have hl0 : (ini ++ [z]).length < 1000 := by omega
          have hl1 : ini.length < 900 := by rw [List.length_append] at hk6; omega
          have hin1 : ∀ b ∈ ini ++ [z], BlkIn ((sl, listOf (hv sm).toArray e3) :: (I, oI) :: (gl, listOf (gv gb).toArray e2) :: rest) b := fun b hb => (hpl b (List.mem_append_left _ hb)).mono fun p hp => .tail _ (.tail _ (.tail _ hp))
          have hsl : sm.length < 1000 := by
            have := hP.length_eq
            have := (keys_mem_heaps GI.heap).1
            rw [List.length_append] at *
            omega
          by_cases hlt : (popHead ini z).k < x.room
          · as_aux_lemma =>
              (repeat' ((fail_if_success ((with_reducible show wpAny _ _ (exec (PySem.Stmt.While _ _ _ _) _) _ _ _))); (fail_if_success ((with_reducible show wpAny _ _ (call (Value.ref 168) _) _ _ _))); (fail_if_success ((with_reducible show wpAny _ _ (pyIter (Value.ref _)) _ _ _))); (first | (with_reducible ((k_here; (with_reducible show wpAny _ _ (call (Value.ref 57) _) _ _ _); k_dflt (refine flags_call (by k_asm) (by k_asm) (by k_asm) (by k_asm) (by k_asm) rfl (by ktr_room) (by ktr_units) (by omega) (by omega) ?_); intro t' h' tk' F' N'))) | (with_reducible ((k_here; (with_reducible show wpAny _ _ (call (Value.builtin _) [Value.ref _, Value.ref _]) _ _ _); k_dflt (refine append_giv (by k_asm) (by k_asm) rfl (by first | assumption | k_all) (by assumption) ?_; k_whole); intro h' F' N'))) | (with_reducible ((k_here; (with_reducible show wpAny _ _ (call (Value.ref 28) [Value.ref _, Value.ref _]) _ _ _); k_dflt (refine push_new (by k_asm) (by k_asm) (by k_asm) (by k_asm) rfl (by k_asm) rfl (by first | assumption | k_all) (by assumption) (by ktr_room) (by ktr_units) (by assumption) (by assumption) ?_); intro h' tk' n' F' N'))) | (with_reducible ((k_here; (with_reducible show wpAny _ _ (call (Value.ref 151) _) _ _ _); k_dflt (refine join_spec (by k_asm) (by k_asm) (by k_asm) (by k_asm) (by k_asm) rfl (by ktr_room) (by ktr_units) (by assumption) (by assumption) (by decide) (by decide +kernel) ?_); intro t' h' tk' F' N'))) | (with_reducible ((k_here; (with_reducible show wpAny _ _ (call (Value.ref 35) _) _ _ _); k_dflt (refine pop_spec (by k_asm) (by k_asm) (by k_asm) (by k_asm) rfl (by first | k_asm | exact news_swap (by k_asm)) (by first | assumption | k_all) (by assumption) (by ktr_room) (by ktr_units) (by assumption) (by assumption) ?_); intro h' tk' n' F' N'))) | (with_reducible ((k_here; (with_reducible show wpAny _ _ (call (Value.ref 28) _) _ _ _); k_dflt (refine push_spec (by k_asm) (by k_asm) (by k_asm) (by k_asm) rfl (by first | k_asm | exact news_swap (by k_asm)) (by first | assumption | k_all) (by assumption) (by ktr_room) (by ktr_units) (by assumption) (by assumption) (by assumption) ?_); intro h' tk' n' F' N'))) | (with_reducible ((k_here; (with_reducible show wpAny _ _ (call (Value.builtin _) [Value.ref _, Value.ref _]) _ _ _); k_dflt (refine append_blk (by k_asm) (by first | k_asm | exact news_swap (by k_asm)) (by first | assumption | k_all) (by assumption) ?_; k_whole); intro h' F' N'))) | (with_reducible ((k_here; (with_reducible show wpAny _ _ (subscriptTail _ _ (Value.ref _) (Value.int _ _)) _ _ _); k_dflt (refine kim_tup (by k_asm) (by k_mem) rfl rfl (by decide) (by decide) rfl rfl ?_ (by with_unfolding_all rfl) (by (intro _; with_unfolding_all rfl)); k_whole)))) | (with_reducible ((k_here; (with_reducible show wpAny _ _ (subscriptTail _ _ (Value.ref _) (Value.int _ _)) _ _ _); k_dflt (refine get_blk (by k_asm) (by k_mem) (by first | with_reducible assumption | exact rfl) (by assumption) (by assumption) ?_ (by with_unfolding_all rfl) (by (intro _; with_unfolding_all rfl)); k_whole)))) | (((with_reducible show wpAny _ _ (exec (PySem.Stmt.For _ _ _ _ _) _) _ _ _); (k_here; (refine wpAny_For ?_ (by intro _; rfl))))) | (k_unfold; (try dsimp only)) | (k_end; wrow_close) | walk1 | (dsimp only; walk1) | (leave1; walk_say "STEP leave1"; try dsimp only) | fail "no step")))
              obtain ⟨hK', _⟩ := pop_heaps hK
              exact hZ2 _ _ ⟨_, _, _, _, (popRest ini z).length, rfl, by k_asm, news_swap (by k_asm), pop_len ini z, sl, popRest ini z, sm ++ [popHead ini z], _, _, rfl, rfl, rfl, rfl, rfl, rfl, rfl, rfl, hsh, hsg, hsI, hrs, hK', pop_step hP,
                fun b hb => by rcases List.mem_append.mp hb with hb | hb; exact hsm b hb; rw [List.mem_singleton.mp hb]; exact hlt, pop_big hbig hlt⟩
          · as_aux_lemma =>
              (repeat' ((fail_if_success ((with_reducible show wpAny _ _ (exec (PySem.Stmt.While _ _ _ _) _) _ _ _))); (fail_if_success ((with_reducible show wpAny _ _ (call (Value.ref 168) _) _ _ _))); (fail_if_success ((with_reducible show wpAny _ _ (pyIter (Value.ref _)) _ _ _))); (first | (with_reducible ((k_here; (with_reducible show wpAny _ _ (call (Value.ref 57) _) _ _ _); k_dflt (refine flags_call (by k_asm) (by k_asm) (by k_asm) (by k_asm) (by k_asm) rfl (by ktr_room) (by ktr_units) (by omega) (by omega) ?_); intro t' h' tk' F' N'))) | (with_reducible ((k_here; (with_reducible show wpAny _ _ (call (Value.builtin _) [Value.ref _, Value.ref _]) _ _ _); k_dflt (refine append_giv (by k_asm) (by k_asm) rfl (by first | assumption | k_all) (by assumption) ?_; k_whole); intro h' F' N'))) | (with_reducible ((k_here; (with_reducible show wpAny _ _ (call (Value.ref 28) [Value.ref _, Value.ref _]) _ _ _); k_dflt (refine push_new (by k_asm) (by k_asm) (by k_asm) (by k_asm) rfl (by k_asm) rfl (by first | assumption | k_all) (by assumption) (by ktr_room) (by ktr_units) (by assumption) (by assumption) ?_); intro h' tk' n' F' N'))) | (with_reducible ((k_here; (with_reducible show wpAny _ _ (call (Value.ref 151) _) _ _ _); k_dflt (refine join_spec (by k_asm) (by k_asm) (by k_asm) (by k_asm) (by k_asm) rfl (by ktr_room) (by ktr_units) (by assumption) (by assumption) (by decide) (by decide +kernel) ?_); intro t' h' tk' F' N'))) | (with_reducible ((k_here; (with_reducible show wpAny _ _ (call (Value.ref 35) _) _ _ _); k_dflt (refine pop_spec (by k_asm) (by k_asm) (by k_asm) (by k_asm) rfl (by first | k_asm | exact news_swap (by k_asm)) (by first | assumption | k_all) (by assumption) (by ktr_room) (by ktr_units) (by assumption) (by assumption) ?_); intro h' tk' n' F' N'))) | (with_reducible ((k_here; (with_reducible show wpAny _ _ (call (Value.ref 28) _) _ _ _); k_dflt (refine push_spec (by k_asm) (by k_asm) (by k_asm) (by k_asm) rfl (by first | k_asm | exact news_swap (by k_asm)) (by first | assumption | k_all) (by assumption) (by ktr_room) (by ktr_units) (by assumption) (by assumption) (by assumption) ?_); intro h' tk' n' F' N'))) | (with_reducible ((k_here; (with_reducible show wpAny _ _ (call (Value.builtin _) [Value.ref _, Value.ref _]) _ _ _); k_dflt (refine append_blk (by k_asm) (by first | k_asm | exact news_swap (by k_asm)) (by first | assumption | k_all) (by assumption) ?_; k_whole); intro h' F' N'))) | (with_reducible ((k_here; (with_reducible show wpAny _ _ (subscriptTail _ _ (Value.ref _) (Value.int _ _)) _ _ _); k_dflt (refine kim_tup (by k_asm) (by k_mem) rfl rfl (by decide) (by decide) rfl rfl ?_ (by with_unfolding_all rfl) (by (intro _; with_unfolding_all rfl)); k_whole)))) | (with_reducible ((k_here; (with_reducible show wpAny _ _ (subscriptTail _ _ (Value.ref _) (Value.int _ _)) _ _ _); k_dflt (refine get_blk (by k_asm) (by k_mem) (by first | with_reducible assumption | exact rfl) (by assumption) (by assumption) ?_ (by with_unfolding_all rfl) (by (intro _; with_unfolding_all rfl)); k_whole)))) | (((with_reducible show wpAny _ _ (exec (PySem.Stmt.For _ _ _ _ _) _) _ _ _); (k_here; (refine wpAny_For ?_ (by intro _; rfl))))) | (k_unfold; (try dsimp only)) | (k_end; wrow_close) | walk1 | (dsimp only; walk1) | (leave1; walk_say "STEP leave1"; try dsimp only) | fail "no step")))
              skip
              (rename Fr _ _ _ _ => F₇)
              (rename News _ _ _ _ => N₇)
              obtain ⟨hK', hKy⟩ := pop_heaps hK
              have hgood : ∀ b ∈ (ini ++ [z]) ++ sm, GoodB b := fun b hb => GI.good b (hP.mem_iff.mp hb)
              obtain ⟨bits₀, hbl₀, hbp₀, hbk₀⟩ := hgood _ (List.mem_append_left _ hpm)
              rw [hbp₀, hbk₀] at F₇
              refine While_brk (fun k m₃ news₃ => ∃ bits sz ts tp bs3 e4 nt, sz.toNat = k ∧ m₃ (Str.ofString "heap") = some (.ref hl) ∧ m₃ (Str.ofString "given") = some (.ref gl) ∧ m₃ (Str.ofString "left") = some (.int lf t) ∧ m₃ (Str.ofString "room") = some (.int x.room tr) ∧
                m₃ (Str.ofString "thing") = some (.int x.thing tt) ∧ m₃ (Str.ofString "small") = some (.ref sl) ∧ m₃ (Str.ofString "size") = some (.int sz ts) ∧ m₃ (Str.ofString "path") = some (.str (pathStr bits) tp) ∧
                news₃ = (hl, listOf (hv bs3).toArray e4) :: (sl, listOf (hv sm).toArray e3) :: (I, oI) :: (gl, listOf (gv gb).toArray e2) :: (nt ++ rest) ∧ (∀ p ∈ nt, (@Ne Nat p.1 hl) ∧ (@Ne Nat p.1 sl) ∧ (@Ne Nat p.1 I) ∧ (@Ne Nat p.1 gl)) ∧
                bits.length ≤ 5 ∧ sz = ((2 ^ (5 - bits.length) : Nat) : Int) ∧ x.room ≤ sz ∧ (∀ b ∈ bs3, sz ≤ b.k) ∧ keys bs3 ∈ heaps ∧ (∀ b ∈ bs3, GoodB b) ∧ (∀ b ∈ bs3, BlkIn (nt ++ rest) b) ∧
                (bs3.flatMap rowsB ++ rowsOf bits).Perm ((popRest ini z).flatMap rowsB ++ rowsB (popHead ini z)) ∧ (keys bs3).sum + sz = (keys (popRest ini z)).sum + (popHead ini z).k) (n₀ := (((2 ^ (5 - bits₀.length) : Nat) : Int)).toNat) F₇ N₇ ?_ ?_
              · refine ⟨bits₀, _, _, _, popRest ini z, _, [], rfl, rfl, rfl, rfl, rfl, rfl, rfl, rfl, rfl, rfl, List.forall_mem_nil _, hbl₀, rfl, ?_, ?_, hK', ?_, ?_, ?_, ?_⟩
                · rw [← hbk₀]; omega
                · intro b hb
                  have := hKy b hb
                  rw [← hbk₀]; omega
                · exact fun b hb => hgood b (List.mem_append_left _ ((pop_perm ini z).mem_iff.mp (List.mem_cons_of_mem _ hb)))
                · exact fun b hb => hpl b (List.mem_append_left _ ((pop_perm ini z).mem_iff.mp (List.mem_cons_of_mem _ hb)))
                · rw [rowsB, hbp₀, bits_path hbl₀]
                · rw [← hbk₀]
              · rintro k m₃ news₃ h₃ tk₃ F₈ N₈ ⟨bits, sz, ts, tp, bs3, e4, nt, rfl, m1, m2, m3, m4, m5, m6, m7, m8, rfl, hnt, hbl, hsz, hrsz, hbig3, hK3, hG3, hB3, hR3, hS3⟩
                refine hideW fun Z3 hZ3 => ?_
                have F₉ := fr_chain [(Str.ofString "heap", .ref hl), (Str.ofString "given", .ref gl), (Str.ofString "left", .int lf t), (Str.ofString "room", .int x.room tr), (Str.ofString "thing", .int x.thing tt), (Str.ofString "small", .ref sl), (Str.ofString "size", .int sz ts), (Str.ofString "path", .str (pathStr bits) tp)] F₈ (allc (by assumption) (allc (by assumption) (allc (by assumption) (allc (by assumption) (allc (by assumption) (allc (by assumption) (allc (by assumption) (allc (by assumption) alln))))))))
                clear F₈ m1 m2 m3 m4 m5 m6 m7 m8 F₇ N₇
                obtain ⟨hx0, hx1⟩ := path_pos hbl
                obtain ⟨hk36, hknd3, hkp3⟩ := keys_mem_heaps hK3
                have hnh : ∀ p ∈ nt ++ rest, p.1 ≠ hl := fun p hp => by rcases List.mem_append.mp hp with hp | hp; exact (hnt p hp).1; exact hrh p hp
                have hns : ∀ p ∈ nt ++ rest, p.1 ≠ sl := fun p hp => by rcases List.mem_append.mp hp with hp | hp; exact (hnt p hp).2.1; exact hrs p hp
                have hng : ∀ p ∈ nt ++ rest, p.1 ≠ gl := fun p hp => by rcases List.mem_append.mp hp with hp | hp; exact (hnt p hp).2.2.2; exact hrg p hp
                have hl3 : bs3.length < 900 := by omega
                have hin3 : ∀ b ∈ bs3, BlkIn ((sl, listOf (hv sm).toArray e3) :: (I, oI) :: (gl, listOf (gv gb).toArray e2) :: (nt ++ rest)) b := fun b hb => (hB3 b hb).mono fun p hp => .tail _ (.tail _ (.tail _ hp))
                by_cases hgt : x.room < sz
                · have hbl4 : bits.length ≤ 4 := pow_gt_one hbl (pows_pos _ hxp).1 (hsz ▸ hgt)
                  have hne3 : ∀ b ∈ bs3, b.k ≠ sz.fdiv 2 := fun b hb e => by
                    have h1 := hbig3 b hb
                    have h2 := half_pow hbl4
                    have h3 := pow_double hbl4
                    rw [e, hsz, h2] at h1
                    have : (1 : Int) ≤ ((2 ^ (5 - (bits.length + 1)) : Nat) : Int) := (pows_pos _ pow_mem).1
                    omega
                  as_aux_lemma =>
                    (repeat' ((fail_if_success ((with_reducible show wpAny _ _ (exec (PySem.Stmt.While _ _ _ _) _) _ _ _))); (fail_if_success ((with_reducible show wpAny _ _ (call (Value.ref 168) _) _ _ _))); (fail_if_success ((with_reducible show wpAny _ _ (pyIter (Value.ref _)) _ _ _))); (first | (with_reducible ((k_here; (with_reducible show wpAny _ _ (call (Value.ref 57) _) _ _ _); k_dflt (refine flags_call (by k_asm) (by k_asm) (by k_asm) (by k_asm) (by k_asm) rfl (by ktr_room) (by ktr_units) (by omega) (by omega) ?_); intro t' h' tk' F' N'))) | (with_reducible ((k_here; (with_reducible show wpAny _ _ (call (Value.builtin _) [Value.ref _, Value.ref _]) _ _ _); k_dflt (refine append_giv (by k_asm) (by k_asm) rfl (by first | assumption | k_all) (by assumption) ?_; k_whole); intro h' F' N'))) | (with_reducible ((k_here; (with_reducible show wpAny _ _ (call (Value.ref 28) [Value.ref _, Value.ref _]) _ _ _); k_dflt (refine push_new (by k_asm) (by k_asm) (by k_asm) (by k_asm) rfl (by k_asm) rfl (by first | assumption | k_all) (by assumption) (by ktr_room) (by ktr_units) (by assumption) (by assumption) ?_); intro h' tk' n' F' N'))) | (with_reducible ((k_here; (with_reducible show wpAny _ _ (call (Value.ref 151) _) _ _ _); k_dflt (refine join_spec (by k_asm) (by k_asm) (by k_asm) (by k_asm) (by k_asm) rfl (by ktr_room) (by ktr_units) (by assumption) (by assumption) (by decide) (by decide +kernel) ?_); intro t' h' tk' F' N'))) | (with_reducible ((k_here; (with_reducible show wpAny _ _ (call (Value.ref 35) _) _ _ _); k_dflt (refine pop_spec (by k_asm) (by k_asm) (by k_asm) (by k_asm) rfl (by first | k_asm | exact news_swap (by k_asm)) (by first | assumption | k_all) (by assumption) (by ktr_room) (by ktr_units) (by assumption) (by assumption) ?_); intro h' tk' n' F' N'))) | (with_reducible ((k_here; (with_reducible show wpAny _ _ (call (Value.ref 28) _) _ _ _); k_dflt (refine push_spec (by k_asm) (by k_asm) (by k_asm) (by k_asm) rfl (by first | k_asm | exact news_swap (by k_asm)) (by first | assumption | k_all) (by assumption) (by ktr_room) (by ktr_units) (by assumption) (by assumption) (by assumption) ?_); intro h' tk' n' F' N'))) | (with_reducible ((k_here; (with_reducible show wpAny _ _ (call (Value.builtin _) [Value.ref _, Value.ref _]) _ _ _); k_dflt (refine append_blk (by k_asm) (by first | k_asm | exact news_swap (by k_asm)) (by first | assumption | k_all) (by assumption) ?_; k_whole); intro h' F' N'))) | (with_reducible ((k_here; (with_reducible show wpAny _ _ (subscriptTail _ _ (Value.ref _) (Value.int _ _)) _ _ _); k_dflt (refine kim_tup (by k_asm) (by k_mem) rfl rfl (by decide) (by decide) rfl rfl ?_ (by with_unfolding_all rfl) (by (intro _; with_unfolding_all rfl)); k_whole)))) | (with_reducible ((k_here; (with_reducible show wpAny _ _ (subscriptTail _ _ (Value.ref _) (Value.int _ _)) _ _ _); k_dflt (refine get_blk (by k_asm) (by k_mem) (by first | with_reducible assumption | exact rfl) (by assumption) (by assumption) ?_ (by with_unfolding_all rfl) (by (intro _; with_unfolding_all rfl)); k_whole)))) | (((with_reducible show wpAny _ _ (exec (PySem.Stmt.For _ _ _ _ _) _) _ _ _); (k_here; (refine wpAny_For ?_ (by intro _; rfl))))) | (k_unfold; (try dsimp only)) | (k_end; wrow_close) | walk1 | (dsimp only; walk1) | (leave1; walk_say "STEP leave1"; try dsimp only) | fail "no step")))
                    (rename Fr _ _ _ _ => G₁)
                    (rename News _ _ _ _ => M₁)
                    (rename _ ∧ _ ∧ _ ∧ _ ∧ AllLt _ (nt ++ rest) => l9)
                    rw [ph_path hbl4] at G₁
                    have H := fun D : Addr => half_turn (D := D) hbl4 hsz hxp hgt hbig3 hK3 hG3 hne3 hR3 hS3
                    have hoffD : (∀ p ∈ nt, (@Ne Nat p.1 hl) ∧ (@Ne Nat p.1 sl) ∧ (@Ne Nat p.1 I) ∧ (@Ne Nat p.1 gl)) := hnt
                    refine hZ3 _ _ ⟨_, _, _, _, _, rfl, G₁, news_sub M₁ sub_in4, (H 0).1, bits ++ [false], _, _, _, _, _, _ :: nt, rfl, rfl, rfl, rfl, rfl, rfl, rfl, rfl, rfl, rfl, ?_, by simp; omega, (H 0).2.1, (H 0).2.2.1, (H _).2.2.2.1, (H _).2.2.2.2.1, (H _).2.2.2.2.2.1, ?_, (H _).2.2.2.2.2.2.1, (H _).2.2.2.2.2.2.2⟩
                    · intro p hp
                      rcases List.mem_cons.mp hp with rfl | hp
                      · exact ⟨by omega, by omega, by omega, by omega⟩
                      · exact hnt p hp
                    · exact perm_in (push_perm _ _) fun b hb => by
                        rcases List.mem_cons.mp hb with rfl | hb
                        · exact ⟨_, _, _, .head _⟩
                        · exact (hB3 b hb).mono fun p hp => .tail _ hp
                · as_aux_lemma =>
                    (repeat' ((fail_if_success ((with_reducible show wpAny _ _ (exec (PySem.Stmt.While _ _ _ _) _) _ _ _))); (fail_if_success ((with_reducible show wpAny _ _ (call (Value.ref 168) _) _ _ _))); (fail_if_success ((with_reducible show wpAny _ _ (pyIter (Value.ref _)) _ _ _))); (first | (with_reducible ((k_here; (with_reducible show wpAny _ _ (call (Value.ref 57) _) _ _ _); k_dflt (refine flags_call (by k_asm) (by k_asm) (by k_asm) (by k_asm) (by k_asm) rfl (by ktr_room) (by ktr_units) (by omega) (by omega) ?_); intro t' h' tk' F' N'))) | (with_reducible ((k_here; (with_reducible show wpAny _ _ (call (Value.builtin _) [Value.ref _, Value.ref _]) _ _ _); k_dflt (refine append_giv (by k_asm) (by k_asm) rfl (by first | assumption | k_all) (by assumption) ?_; k_whole); intro h' F' N'))) | (with_reducible ((k_here; (with_reducible show wpAny _ _ (call (Value.ref 28) [Value.ref _, Value.ref _]) _ _ _); k_dflt (refine push_new (by k_asm) (by k_asm) (by k_asm) (by k_asm) rfl (by k_asm) rfl (by first | assumption | k_all) (by assumption) (by ktr_room) (by ktr_units) (by assumption) (by assumption) ?_); intro h' tk' n' F' N'))) | (with_reducible ((k_here; (with_reducible show wpAny _ _ (call (Value.ref 151) _) _ _ _); k_dflt (refine join_spec (by k_asm) (by k_asm) (by k_asm) (by k_asm) (by k_asm) rfl (by ktr_room) (by ktr_units) (by assumption) (by assumption) (by decide) (by decide +kernel) ?_); intro t' h' tk' F' N'))) | (with_reducible ((k_here; (with_reducible show wpAny _ _ (call (Value.ref 35) _) _ _ _); k_dflt (refine pop_spec (by k_asm) (by k_asm) (by k_asm) (by k_asm) rfl (by first | k_asm | exact news_swap (by k_asm)) (by first | assumption | k_all) (by assumption) (by ktr_room) (by ktr_units) (by assumption) (by assumption) ?_); intro h' tk' n' F' N'))) | (with_reducible ((k_here; (with_reducible show wpAny _ _ (call (Value.ref 28) _) _ _ _); k_dflt (refine push_spec (by k_asm) (by k_asm) (by k_asm) (by k_asm) rfl (by first | k_asm | exact news_swap (by k_asm)) (by first | assumption | k_all) (by assumption) (by ktr_room) (by ktr_units) (by assumption) (by assumption) (by assumption) ?_); intro h' tk' n' F' N'))) | (with_reducible ((k_here; (with_reducible show wpAny _ _ (call (Value.builtin _) [Value.ref _, Value.ref _]) _ _ _); k_dflt (refine append_blk (by k_asm) (by first | k_asm | exact news_swap (by k_asm)) (by first | assumption | k_all) (by assumption) ?_; k_whole); intro h' F' N'))) | (with_reducible ((k_here; (with_reducible show wpAny _ _ (subscriptTail _ _ (Value.ref _) (Value.int _ _)) _ _ _); k_dflt (refine kim_tup (by k_asm) (by k_mem) rfl rfl (by decide) (by decide) rfl rfl ?_ (by with_unfolding_all rfl) (by (intro _; with_unfolding_all rfl)); k_whole)))) | (with_reducible ((k_here; (with_reducible show wpAny _ _ (subscriptTail _ _ (Value.ref _) (Value.int _ _)) _ _ _); k_dflt (refine get_blk (by k_asm) (by k_mem) (by first | with_reducible assumption | exact rfl) (by assumption) (by assumption) ?_ (by with_unfolding_all rfl) (by (intro _; with_unfolding_all rfl)); k_whole)))) | (((with_reducible show wpAny _ _ (exec (PySem.Stmt.For _ _ _ _ _) _) _ _ _); (k_here; (refine wpAny_For ?_ (by intro _; rfl))))) | (k_unfold; (try dsimp only)) | (k_end; wrow_close) | walk1 | (dsimp only; walk1) | (leave1; walk_say "STEP leave1"; try dsimp only) | fail "no step")))
                    skip
                    (rename Fr _ _ _ _ => G₁)
                    (rename News _ _ _ _ => M₁)
                    have hszr : x.room = sz := by omega
                    have hsmnd := small_nodup hP (keys_mem_heaps GI.heap).2.1
                    have hsmin : ∀ b ∈ sm, BlkIn (nt ++ rest) b := fun b hb => (hpl b (List.mem_append_right _ hb)).mono fun p hp => List.mem_append_right _ hp
                    refine iter_list_J (vs := hv sm) rfl G₁ M₁ (.tail _ (.head _))
                      (fun j m₅ news₅ => ∃ bs4 e5, m₅ (Str.ofString "heap") = some (.ref hl) ∧ m₅ (Str.ofString "given") = some (.ref gl) ∧ m₅ (Str.ofString "left") = some (.int lf t) ∧ m₅ (Str.ofString "room") = some (.int x.room tr) ∧
                        m₅ (Str.ofString "thing") = some (.int x.thing tt) ∧ m₅ (Str.ofString "path") = some (.str (pathStr bits) tp) ∧
                        news₅ = (hl, listOf (hv bs4).toArray e5) :: (sl, listOf (hv sm).toArray e3) :: (I, oI) :: (gl, listOf (gv gb).toArray e2) :: (nt ++ rest) ∧ keys bs4 ∈ heaps ∧ bs4.Perm (bs3 ++ sm.take j)) ?_ ?_ ?_
                    · exact ⟨bs3, e4, rfl, rfl, rfl, rfl, rfl, rfl, rfl, hK3, by rw [List.take_zero, List.append_nil]⟩
                    · rintro j v m₅ news₅ I₂ oI₂ h₅ tk₅ hvj ⟨bs4, e5, m1, m2, m3, m4, m5, m6, rfl, hK4, hP4⟩ hm₅ hoffI₂ G₂ M₂
                      refine hideB fun Z4 hZ4 => ?_
                      have G₃ := fr_chain [(Str.ofString "heap", .ref hl), (Str.ofString "given", .ref gl), (Str.ofString "left", .int lf t), (Str.ofString "room", .int x.room tr), (Str.ofString "thing", .int x.thing tt), (Str.ofString "path", .str (pathStr bits) tp)] G₂ (allc (by assumption) (allc (by assumption) (allc (by assumption) (allc (by assumption) (allc (by assumption) (allc (by assumption) alln))))))
                      clear G₂ m1 m2 m3 m4 m5 m6 G₁ M₁
                      obtain ⟨b, hb, rfl⟩ : ∃ b, sm[j]? = some b ∧ Value.ref b.a = v := by simpa [hv] using hvj
                      have hbm := List.mem_of_getElem? hb
                      obtain ⟨hneb, hP5⟩ := lay_back hP4 hb hsmnd (r := x.room) (hszr ▸ hbig3) hsm
                      have hl4 : bs4.length < 900 := by have := (keys_mem_heaps hK4).1; omega
                      have hin4 : ∀ b ∈ bs4, BlkIn ((I₂, oI₂) :: (sl, listOf (hv sm).toArray e3) :: (I, oI) :: (gl, listOf (gv gb).toArray e2) :: (nt ++ rest)) b := fun b hb => by
                        refine BlkIn.mono (news := nt ++ rest) ?_ fun p hp => .tail _ (.tail _ (.tail _ (.tail _ hp)))
                        rcases List.mem_append.mp (hP4.mem_iff.mp hb) with hb | hb
                        · exact hB3 b hb
                        · exact hsmin b (List.mem_of_mem_take hb)
                      have hxin : BlkIn ((I₂, oI₂) :: (sl, listOf (hv sm).toArray e3) :: (I, oI) :: (gl, listOf (gv gb).toArray e2) :: (nt ++ rest)) b := (hsmin b hbm).mono fun p hp => .tail _ (.tail _ (.tail _ (.tail _ hp)))
                      have hI₂ : @Ne Nat I₂ hl := Ne.symm (hoffI₂ _ (.head _))
                      have hkb : b.k ∈ pows := (keys_mem_heaps GI.heap).2.2 b (hP.mem_iff.mp (List.mem_append_right _ hbm))
                      have hsl' : @Ne Nat sl I₂ := hoffI₂ _ (.tail _ (.head _))
                      as_aux_lemma =>
                        (repeat' ((fail_if_success ((with_reducible show wpAny _ _ (exec (PySem.Stmt.While _ _ _ _) _) _ _ _))); (fail_if_success ((with_reducible show wpAny _ _ (call (Value.ref 168) _) _ _ _))); (fail_if_success ((with_reducible show wpAny _ _ (pyIter (Value.ref _)) _ _ _))); (first | (with_reducible ((k_here; (with_reducible show wpAny _ _ (call (Value.ref 57) _) _ _ _); k_dflt (refine flags_call (by k_asm) (by k_asm) (by k_asm) (by k_asm) (by k_asm) rfl (by ktr_room) (by ktr_units) (by omega) (by omega) ?_); intro t' h' tk' F' N'))) | (with_reducible ((k_here; (with_reducible show wpAny _ _ (call (Value.builtin _) [Value.ref _, Value.ref _]) _ _ _); k_dflt (refine append_giv (by k_asm) (by k_asm) rfl (by first | assumption | k_all) (by assumption) ?_; k_whole); intro h' F' N'))) | (with_reducible ((k_here; (with_reducible show wpAny _ _ (call (Value.ref 28) [Value.ref _, Value.ref _]) _ _ _); k_dflt (refine push_new (by k_asm) (by k_asm) (by k_asm) (by k_asm) rfl (by k_asm) rfl (by first | assumption | k_all) (by assumption) (by ktr_room) (by ktr_units) (by assumption) (by assumption) ?_); intro h' tk' n' F' N'))) | (with_reducible ((k_here; (with_reducible show wpAny _ _ (call (Value.ref 151) _) _ _ _); k_dflt (refine join_spec (by k_asm) (by k_asm) (by k_asm) (by k_asm) (by k_asm) rfl (by ktr_room) (by ktr_units) (by assumption) (by assumption) (by decide) (by decide +kernel) ?_); intro t' h' tk' F' N'))) | (with_reducible ((k_here; (with_reducible show wpAny _ _ (call (Value.ref 35) _) _ _ _); k_dflt (refine pop_spec (by k_asm) (by k_asm) (by k_asm) (by k_asm) rfl (by first | k_asm | exact news_swap (by k_asm)) (by first | assumption | k_all) (by assumption) (by ktr_room) (by ktr_units) (by assumption) (by assumption) ?_); intro h' tk' n' F' N'))) | (with_reducible ((k_here; (with_reducible show wpAny _ _ (call (Value.ref 28) _) _ _ _); k_dflt (refine push_spec (by k_asm) (by k_asm) (by k_asm) (by k_asm) rfl (by first | k_asm | exact news_swap (by k_asm)) (by first | assumption | k_all) (by assumption) (by ktr_room) (by ktr_units) (by assumption) (by assumption) (by assumption) ?_); intro h' tk' n' F' N'))) | (with_reducible ((k_here; (with_reducible show wpAny _ _ (call (Value.builtin _) [Value.ref _, Value.ref _]) _ _ _); k_dflt (refine append_blk (by k_asm) (by first | k_asm | exact news_swap (by k_asm)) (by first | assumption | k_all) (by assumption) ?_; k_whole); intro h' F' N'))) | (with_reducible ((k_here; (with_reducible show wpAny _ _ (subscriptTail _ _ (Value.ref _) (Value.int _ _)) _ _ _); k_dflt (refine kim_tup (by k_asm) (by k_mem) rfl rfl (by decide) (by decide) rfl rfl ?_ (by with_unfolding_all rfl) (by (intro _; with_unfolding_all rfl)); k_whole)))) | (with_reducible ((k_here; (with_reducible show wpAny _ _ (subscriptTail _ _ (Value.ref _) (Value.int _ _)) _ _ _); k_dflt (refine get_blk (by k_asm) (by k_mem) (by first | with_reducible assumption | exact rfl) (by assumption) (by assumption) ?_ (by with_unfolding_all rfl) (by (intro _; with_unfolding_all rfl)); k_whole)))) | (((with_reducible show wpAny _ _ (exec (PySem.Stmt.For _ _ _ _ _) _) _ _ _); (k_here; (refine wpAny_For ?_ (by intro _; rfl))))) | (k_unfold; (try dsimp only)) | (k_end; wrow_close) | walk1 | (dsimp only; walk1) | (leave1; walk_say "STEP leave1"; try dsimp only) | fail "no step")))
                        (rename Fr _ _ _ _ => G₄)
                        (rename News _ _ _ _ => M₄)
                        exact hZ4 _ _ ⟨_, _, _, _, _, rfl, G₄, news_swap M₄, fun p hp => hp, fun p hp => by rw [List.mem_singleton.mp hp]; exact .tail _ (.head _), fun p hp => by
                          rcases List.mem_cons.mp hp with rfl | hp
                          · exact Ne.symm hI₂
                          · exact hoffI₂ p (.tail _ hp), push bs4 b, _, rfl, rfl, rfl, rfl, rfl, rfl, rfl, push_heaps hK4 hkb hneb, hP5⟩
                    · rintro m₅ news₅ h₅ tk₅ ⟨bs4, e5, m1, m2, m3, m4, m5, m6, rfl, hK4, hP4⟩ hm₅ G₂ M₂
                      have G₃ := fr_chain [(Str.ofString "heap", .ref hl), (Str.ofString "given", .ref gl), (Str.ofString "left", .int lf t), (Str.ofString "room", .int x.room tr), (Str.ofString "thing", .int x.thing tt), (Str.ofString "path", .str (pathStr bits) tp)] G₂ (allc (by assumption) (allc (by assumption) (allc (by assumption) (allc (by assumption) (allc (by assumption) (allc (by assumption) alln))))))
                      clear m1 m2 m3 m4 m5 m6 G₁ M₁
                      have M₃ := news_sub M₂ sub_head4
                      clear M₂ G₂
                      rw [List.length_map, List.take_length] at hP4
                      have GN := fun D => ginv_next (D := D) GI hx hP hbl hsz hszr hR3 hS3 hG3 hP4 hK4
                      have hlf4 : lf - x.room = (keys bs4).sum := by rw [(GN 0).2, hlf]
                      have hlf0 := keys_nonneg hK4
                      have hlf1 : lf - x.room ≤ 32 := by have := GI.sum; have := (pows_pos _ hxp).1; have := keys_nonneg GI.heap; have := (GN 0).1.sum; have := sum_le_of_mem ((al.take (i + 1)).map (·.room)) (fun y hy => by obtain ⟨z, hz, rfl⟩ := List.mem_map.mp hy; have := pows_pos _ (hpow z (List.mem_of_mem_take hz)); omega); omega
                      have hgl : gb.length < 1000 := by
                        have := congrArg List.length GI.same
                        rw [List.length_map, List.length_map, List.length_take] at this
                        have := (List.getElem?_eq_some_iff.mp hx).1
                        omega
                      have hshl : @Ne Nat sl hl := hsh
                      as_aux_lemma =>
                        (repeat' ((fail_if_success ((with_reducible show wpAny _ _ (exec (PySem.Stmt.While _ _ _ _) _) _ _ _))); (fail_if_success ((with_reducible show wpAny _ _ (call (Value.ref 168) _) _ _ _))); (fail_if_success ((with_reducible show wpAny _ _ (pyIter (Value.ref _)) _ _ _))); (first | (with_reducible ((k_here; (with_reducible show wpAny _ _ (call (Value.ref 57) _) _ _ _); k_dflt (refine flags_call (by k_asm) (by k_asm) (by k_asm) (by k_asm) (by k_asm) rfl (by ktr_room) (by ktr_units) (by omega) (by omega) ?_); intro t' h' tk' F' N'))) | (with_reducible ((k_here; (with_reducible show wpAny _ _ (call (Value.builtin _) [Value.ref _, Value.ref _]) _ _ _); k_dflt (refine append_giv (by k_asm) (by k_asm) rfl (by first | assumption | k_all) (by assumption) ?_; k_whole); intro h' F' N'))) | (with_reducible ((k_here; (with_reducible show wpAny _ _ (call (Value.ref 28) [Value.ref _, Value.ref _]) _ _ _); k_dflt (refine push_new (by k_asm) (by k_asm) (by k_asm) (by k_asm) rfl (by k_asm) rfl (by first | assumption | k_all) (by assumption) (by ktr_room) (by ktr_units) (by assumption) (by assumption) ?_); intro h' tk' n' F' N'))) | (with_reducible ((k_here; (with_reducible show wpAny _ _ (call (Value.ref 151) _) _ _ _); k_dflt (refine join_spec (by k_asm) (by k_asm) (by k_asm) (by k_asm) (by k_asm) rfl (by ktr_room) (by ktr_units) (by assumption) (by assumption) (by decide) (by decide +kernel) ?_); intro t' h' tk' F' N'))) | (with_reducible ((k_here; (with_reducible show wpAny _ _ (call (Value.ref 35) _) _ _ _); k_dflt (refine pop_spec (by k_asm) (by k_asm) (by k_asm) (by k_asm) rfl (by first | k_asm | exact news_swap (by k_asm)) (by first | assumption | k_all) (by assumption) (by ktr_room) (by ktr_units) (by assumption) (by assumption) ?_); intro h' tk' n' F' N'))) | (with_reducible ((k_here; (with_reducible show wpAny _ _ (call (Value.ref 28) _) _ _ _); k_dflt (refine push_spec (by k_asm) (by k_asm) (by k_asm) (by k_asm) rfl (by first | k_asm | exact news_swap (by k_asm)) (by first | assumption | k_all) (by assumption) (by ktr_room) (by ktr_units) (by assumption) (by assumption) (by assumption) ?_); intro h' tk' n' F' N'))) | (with_reducible ((k_here; (with_reducible show wpAny _ _ (call (Value.builtin _) [Value.ref _, Value.ref _]) _ _ _); k_dflt (refine append_blk (by k_asm) (by first | k_asm | exact news_swap (by k_asm)) (by first | assumption | k_all) (by assumption) ?_; k_whole); intro h' F' N'))) | (with_reducible ((k_here; (with_reducible show wpAny _ _ (subscriptTail _ _ (Value.ref _) (Value.int _ _)) _ _ _); k_dflt (refine kim_tup (by k_asm) (by k_mem) rfl rfl (by decide) (by decide) rfl rfl ?_ (by with_unfolding_all rfl) (by (intro _; with_unfolding_all rfl)); k_whole)))) | (with_reducible ((k_here; (with_reducible show wpAny _ _ (subscriptTail _ _ (Value.ref _) (Value.int _ _)) _ _ _); k_dflt (refine get_blk (by k_asm) (by k_mem) (by first | with_reducible assumption | exact rfl) (by assumption) (by assumption) ?_ (by with_unfolding_all rfl) (by (intro _; with_unfolding_all rfl)); k_whole)))) | (((with_reducible show wpAny _ _ (exec (PySem.Stmt.For _ _ _ _ _) _) _ _ _); (k_here; (refine wpAny_For ?_ (by intro _; rfl))))) | (k_unfold; (try dsimp only)) | (k_end; wrow_close) | walk1 | (dsimp only; walk1) | (leave1; walk_say "STEP leave1"; try dsimp only) | fail "no step")))
                        skip
                        (rename Fr _ _ _ _ => G₄)
                        (rename News _ _ _ _ => M₄)
                        (rename _ ∧ _ ∧ _ ∧ _ ∧ AllLt _ (nt ++ rest) => l9)
                        have hDh : @Ne Nat hl _ := Nat.ne_of_lt l9.2.1
                        have hDg : @Ne Nat gl _ := Nat.ne_of_lt l9.1
                        have M₅ := news_sub M₄ sub_third
                        clear M₄
                        have hbs4 : ∀ b ∈ bs4, BlkIn (nt ++ rest) b := fun b hb => by
                          rcases List.mem_append.mp (hP4.mem_iff.mp hb) with hb | hb
                          · exact hB3 b hb
                          · exact hsmin b hb
                        have hk4 := keys_mem_heaps hK4
                        have hwf := words_flag hK4
                        rw [← hlf4] at hwf
                        have hp2 : 2 ≤ bs4.length → kasRun (bs4.map (·.k)) (kas_sort bs4.length) = some (sortIx (keys bs4)) := words_hp hK4
                        have hp3 : bs4.length < 2 → sortIx (keys bs4) = List.toArray (List.range bs4.length) := words_hp1
                        have hp4 : ∀ i ∈ (sortIx (keys bs4)).toList, i < bs4.length := words_hpl hK4
                        have hp5 : (sortIx (keys bs4)).size ≤ 1000 := Nat.le_trans (heaps_ix _ hK4).2 (by omega)
                        generalize sortIx (keys bs4) = pix at hwf hp2 hp3 hp4 hp5
                        k_dflt (refine' words_spec (p := pix) ?B ?F ?X ?T ?hk ?N ?off ?hlen ?hdp ?hun ?hin ?hpow ?hp ?hp1 ?hpl ?hpz ?_; (case B => k_asm); (case F => exact G₄); (case hk => exact rfl); (case N => exact M₅); (case X => k_asm); (case T => k_asm); (case off => exact off_cons (Ne.symm hhg) (off_cons (Ne.symm hDh) (off_cons hsh (off_cons hIh hnh)))); (case hlen => omega); (case hdp => ktr_room); (case hun => ktr_units); (case hin => exact fun b hb => (hbs4 b hb).mono fun p hp => .tail _ (.tail _ (.tail _ (.tail _ hp)))); (case hpow => exact fun b hb => pows_cases (hk4.2.2 b hb)); (case hp => exact hp2); (case hp1 => exact hp3); (case hpl => exact hp4); (case hpz => exact hp5))
                        intro t₆ h₆ tk₆ G₆ M₆
                        rw [hwf]
                        clear G₄ M₅
                        have hcmp := text_ne (lf - x.room).toNat
                        as_aux_lemma =>
                          (repeat' ((fail_if_success ((with_reducible show wpAny _ _ (exec (PySem.Stmt.While _ _ _ _) _) _ _ _))); (fail_if_success ((with_reducible show wpAny _ _ (call (Value.ref 168) _) _ _ _))); (fail_if_success ((with_reducible show wpAny _ _ (pyIter (Value.ref _)) _ _ _))); (first | (with_reducible ((k_here; (with_reducible show wpAny _ _ (call (Value.ref 57) _) _ _ _); k_dflt (refine flags_call (by k_asm) (by k_asm) (by k_asm) (by k_asm) (by k_asm) rfl (by ktr_room) (by ktr_units) (by omega) (by omega) ?_); intro t' h' tk' F' N'))) | (with_reducible ((k_here; (with_reducible show wpAny _ _ (call (Value.builtin _) [Value.ref _, Value.ref _]) _ _ _); k_dflt (refine append_giv (by k_asm) (by k_asm) rfl (by first | assumption | k_all) (by assumption) ?_; k_whole); intro h' F' N'))) | (with_reducible ((k_here; (with_reducible show wpAny _ _ (call (Value.ref 28) [Value.ref _, Value.ref _]) _ _ _); k_dflt (refine push_new (by k_asm) (by k_asm) (by k_asm) (by k_asm) rfl (by k_asm) rfl (by first | assumption | k_all) (by assumption) (by ktr_room) (by ktr_units) (by assumption) (by assumption) ?_); intro h' tk' n' F' N'))) | (with_reducible ((k_here; (with_reducible show wpAny _ _ (call (Value.ref 151) _) _ _ _); k_dflt (refine join_spec (by k_asm) (by k_asm) (by k_asm) (by k_asm) (by k_asm) rfl (by ktr_room) (by ktr_units) (by assumption) (by assumption) (by decide) (by decide +kernel) ?_); intro t' h' tk' F' N'))) | (with_reducible ((k_here; (with_reducible show wpAny _ _ (call (Value.ref 35) _) _ _ _); k_dflt (refine pop_spec (by k_asm) (by k_asm) (by k_asm) (by k_asm) rfl (by first | k_asm | exact news_swap (by k_asm)) (by first | assumption | k_all) (by assumption) (by ktr_room) (by ktr_units) (by assumption) (by assumption) ?_); intro h' tk' n' F' N'))) | (with_reducible ((k_here; (with_reducible show wpAny _ _ (call (Value.ref 28) _) _ _ _); k_dflt (refine push_spec (by k_asm) (by k_asm) (by k_asm) (by k_asm) rfl (by first | k_asm | exact news_swap (by k_asm)) (by first | assumption | k_all) (by assumption) (by ktr_room) (by ktr_units) (by assumption) (by assumption) (by assumption) ?_); intro h' tk' n' F' N'))) | (with_reducible ((k_here; (with_reducible show wpAny _ _ (call (Value.builtin _) [Value.ref _, Value.ref _]) _ _ _); k_dflt (refine append_blk (by k_asm) (by first | k_asm | exact news_swap (by k_asm)) (by first | assumption | k_all) (by assumption) ?_; k_whole); intro h' F' N'))) | (with_reducible ((k_here; (with_reducible show wpAny _ _ (subscriptTail _ _ (Value.ref _) (Value.int _ _)) _ _ _); k_dflt (refine kim_tup (by k_asm) (by k_mem) rfl rfl (by decide) (by decide) rfl rfl ?_ (by with_unfolding_all rfl) (by (intro _; with_unfolding_all rfl)); k_whole)))) | (with_reducible ((k_here; (with_reducible show wpAny _ _ (subscriptTail _ _ (Value.ref _) (Value.int _ _)) _ _ _); k_dflt (refine get_blk (by k_asm) (by k_mem) (by first | with_reducible assumption | exact rfl) (by assumption) (by assumption) ?_ (by with_unfolding_all rfl) (by (intro _; with_unfolding_all rfl)); k_whole)))) | (((with_reducible show wpAny _ _ (exec (PySem.Stmt.For _ _ _ _ _) _) _ _ _); (k_here; (refine wpAny_For ?_ (by intro _; rfl))))) | (k_unfold; (try dsimp only)) | (k_end; wrow_close) | walk1 | (dsimp only; walk1) | (leave1; walk_say "STEP leave1"; try dsimp only) | fail "no step")))
                          (rename Fr _ _ _ _ => G₇)
                          (rename News _ _ _ _ => M₇)
                          refine hZ1 _ _ ⟨_, _, _, _, _, rfl, G₇, M₇, sub_rot4', ?_, ?_, hl, gl, bs4, gb ++ [⟨_, bits, x.room, x.thing⟩], _, _, _, _, _, rfl, rfl, rfl, hlf4, rfl, ?_, hhg, ?_, ?_, ?_, (GN _).1⟩
                          · intro p hp
                            rw [List.mem_singleton.mp hp]
                            exact .tail _ (.tail _ (.tail _ (.tail _ (List.mem_append_right _ (hsub _ hax)))))
                          · refine off_cons (Ne.symm hIh) (off_cons (Ne.symm hIg) (off_cons (Ne.symm (Nat.ne_of_lt l9.2.2.2.1)) (off_cons hsI fun p hp => ?_)))
                            rcases List.mem_append.mp hp with hp | hp
                            · exact (hnt p hp).2.2.1
                            · exact hrI p hp
                          · exact fun p hp => .tail _ (.tail _ (List.mem_append_right _ (hsub p hp)))
                          · exact off2_cons (Ne.symm hDh) (Ne.symm hDg) (off2_cons hsh hsg fun p hp => ⟨hnh p hp, hng p hp⟩)
                          · exact fun b hb => (hbs4 b hb).mono fun p hp => .tail _ (.tail _ hp)
                          · intro g hg
                            rcases List.mem_append.mp hg with hg | hg
                            · exact (hgin g hg).mono fun p hp => .tail _ (.tail _ (List.mem_append_right _ hp))
                            · rw [List.mem_singleton.mp hg]
                              exact ⟨_, _, _, _, .head _⟩
    · rintro m₁ news₁ h₁ tk₁ ⟨hl, gl, bs, gb, e1, e2, lf, t, rest, m1, m2, m3, hlf, rfl, hsub, hhg, hoffr, hbin, hgin, GI⟩ hm F₂ N₂
      have F₃ := fr_chain [(Str.ofString "heap", .ref hl), (Str.ofString "given", .ref gl), (Str.ofString "left", .int lf t)] F₂ (allc (by assumption) (allc (by assumption) (allc (by assumption) alln)))
      clear F₂ m1 m2 m3
      rw [List.length_map, List.take_length] at GI
      obtain rfl := ginv_end GI hsum
      as_aux_lemma =>
        (repeat' ((fail_if_success ((with_reducible show wpAny _ _ (exec (PySem.Stmt.While _ _ _ _) _) _ _ _))); (fail_if_success ((with_reducible show wpAny _ _ (call (Value.ref 168) _) _ _ _))); (fail_if_success ((with_reducible show wpAny _ _ (pyIter (Value.ref _)) _ _ _))); (first | (with_reducible ((k_here; (with_reducible show wpAny _ _ (call (Value.ref 57) _) _ _ _); k_dflt (refine flags_call (by k_asm) (by k_asm) (by k_asm) (by k_asm) (by k_asm) rfl (by ktr_room) (by ktr_units) (by omega) (by omega) ?_); intro t' h' tk' F' N'))) | (with_reducible ((k_here; (with_reducible show wpAny _ _ (call (Value.builtin _) [Value.ref _, Value.ref _]) _ _ _); k_dflt (refine append_giv (by k_asm) (by k_asm) rfl (by first | assumption | k_all) (by assumption) ?_; k_whole); intro h' F' N'))) | (with_reducible ((k_here; (with_reducible show wpAny _ _ (call (Value.ref 28) [Value.ref _, Value.ref _]) _ _ _); k_dflt (refine push_new (by k_asm) (by k_asm) (by k_asm) (by k_asm) rfl (by k_asm) rfl (by first | assumption | k_all) (by assumption) (by ktr_room) (by ktr_units) (by assumption) (by assumption) ?_); intro h' tk' n' F' N'))) | (with_reducible ((k_here; (with_reducible show wpAny _ _ (call (Value.ref 151) _) _ _ _); k_dflt (refine join_spec (by k_asm) (by k_asm) (by k_asm) (by k_asm) (by k_asm) rfl (by ktr_room) (by ktr_units) (by assumption) (by assumption) (by decide) (by decide +kernel) ?_); intro t' h' tk' F' N'))) | (with_reducible ((k_here; (with_reducible show wpAny _ _ (call (Value.ref 35) _) _ _ _); k_dflt (refine pop_spec (by k_asm) (by k_asm) (by k_asm) (by k_asm) rfl (by first | k_asm | exact news_swap (by k_asm)) (by first | assumption | k_all) (by assumption) (by ktr_room) (by ktr_units) (by assumption) (by assumption) ?_); intro h' tk' n' F' N'))) | (with_reducible ((k_here; (with_reducible show wpAny _ _ (call (Value.ref 28) _) _ _ _); k_dflt (refine push_spec (by k_asm) (by k_asm) (by k_asm) (by k_asm) rfl (by first | k_asm | exact news_swap (by k_asm)) (by first | assumption | k_all) (by assumption) (by ktr_room) (by ktr_units) (by assumption) (by assumption) (by assumption) ?_); intro h' tk' n' F' N'))) | (with_reducible ((k_here; (with_reducible show wpAny _ _ (call (Value.builtin _) [Value.ref _, Value.ref _]) _ _ _); k_dflt (refine append_blk (by k_asm) (by first | k_asm | exact news_swap (by k_asm)) (by first | assumption | k_all) (by assumption) ?_; k_whole); intro h' F' N'))) | (with_reducible ((k_here; (with_reducible show wpAny _ _ (subscriptTail _ _ (Value.ref _) (Value.int _ _)) _ _ _); k_dflt (refine kim_tup (by k_asm) (by k_mem) rfl rfl (by decide) (by decide) rfl rfl ?_ (by with_unfolding_all rfl) (by (intro _; with_unfolding_all rfl)); k_whole)))) | (with_reducible ((k_here; (with_reducible show wpAny _ _ (subscriptTail _ _ (Value.ref _) (Value.int _ _)) _ _ _); k_dflt (refine get_blk (by k_asm) (by k_mem) (by first | with_reducible assumption | exact rfl) (by assumption) (by assumption) ?_ (by with_unfolding_all rfl) (by (intro _; with_unfolding_all rfl)); k_whole)))) | (((with_reducible show wpAny _ _ (exec (PySem.Stmt.For _ _ _ _ _) _) _ _ _); (k_here; (refine wpAny_For ?_ (by intro _; rfl))))) | (k_unfold; (try dsimp only)) | (k_end; wrow_close) | walk1 | (dsimp only; walk1) | (leave1; walk_say "STEP leave1"; try dsimp only) | fail "no step")))
        exact hret gl gb _ _ _ (_ :: rest) GI (fun p hp => .tail _ (hsub p hp)) (fun g hg => (hgin g hg).mono fun p hp => .tail _ hp) (off_cons hhg fun p hp => (hoffr p hp).2) (by k_asm) (news_swap (by k_asm))
end
end Mine
end

/-! ## L15 -/
section
open PySem PySem.W PyProof.Rows PySem.Calls PySem.Spec PySem.SeqAt
set_option maxRecDepth 100000
namespace Mine
def ownW (wr : List Addr) (h : Heap) : List (Addr × Obj) := wr.filterMap fun b => (h.get? b).map fun o => (b, o)
theorem mem_ownW {wr : List Addr} {h : Heap} {p : Addr × Obj} : p ∈ ownW wr h ↔ p.1 ∈ wr ∧ h.get? p.1 = some p.2 := by
  unfold ownW
  rw [List.mem_filterMap]
  constructor
  · rintro ⟨b, hb, e⟩
    cases e' : h.get? b with
    | none => rw [e'] at e; cases e
    | some o => rw [e'] at e; cases e; exact ⟨hb, e'⟩
  · rintro ⟨h1, h2⟩
    exact ⟨p.1, h1, by rw [h2]; rfl⟩
def CEndT (h₀ : Heap) (L : Addr) (m : Str → Option Value) (s : Shared) (head : List (Addr × Obj)) (wr : List Addr) (C D : Addr) (srcs : List (Addr × Obj)) (K : List (Addr × Obj) → Prop) (s₄ : Shared) : Prop :=
  ∃ h' tk all news₂, s₄ = { s with heap := h', toks := tk } ∧ Fr h₀ L h' m ∧ News h₀ L h' all ∧ (∀ p ∈ head ++ news₂, p ∈ all) ∧ (∀ p ∈ srcs, p ∈ news₂) ∧ (∀ p ∈ news₂, p.1 ∉ wr ∧ p.1 ≠ C ∧ p.1 ≠ D) ∧ K news₂

section
variable {prog : Program} {w : World} {A : Around} {E : Value → Shared → Prop} {s : Shared} {env : Env} {h₀ : Heap} {L : Addr} {m : Str → Option Value} {news : List (Addr × Obj)}
theorem comp_T {elt target iter : Expr} {ifs : List Expr} {scope : Scope} {cl : List (Str × Addr)} {pos : Pos} {I : Addr} {fp wr : List Addr} {n : Nat} {P Md : Nat → Value → Heap → Prop} {St : Nat → Heap → Prop} {srcs : List (Addr × Obj)} {RR : Value → Addr → Result → Shared → Prop}
    (W : KTurns prog w A target I fp wr n P Md St) (hself : ∀ i (s : Shared) (Q : Value → Shared → Prop) (E : Value → Shared → Prop), St i s.heap → Q (.ref I) s → wpAny (model prog w) A (pyIter (.ref I)) Q E s)
    (hfp : ∀ b ∈ fp, b ∈ wr ∨ ∃ o, (b, o) ∈ srcs) (hIo : ∀ i h, St i h → ∀ b ∈ wr, ∃ o, h.get? b = some o) (hIL : L ∉ wr) (hI₀ : ∀ b ∈ wr, h₀.get? b = none)
    (hst : St 0 s.heap) (hsz : n ≤ 1000) (F : Fr h₀ L s.heap m) (N : News h₀ L s.heap news) (hsrc : ∀ p ∈ srcs, p ∈ news) (hoff : ∀ p ∈ news, p.1 ∉ wr) (hIlt : ∀ b ∈ wr, b < s.heap.objs.size)
    (hcell : ∀ y ∈ scope.names, y.2 ≠ .cell) (hkind : scope.kind = .function)
    (Bd : Nat → (Str → Option Value) → Prop) (J : Nat → List Value → List (Addr × Obj) → Prop) (h0 : J 0 [] news)
    (hasg : ∀ i v C ys news₁ (s' : Shared) m' (Q' : Unit → Shared → Prop), P i v s'.heap → J i ys news₁ → (∀ p ∈ news₁, s'.heap.get? p.1 = some p.2) → s'.heap.Ns C m' →
      (∀ h' tk m'', h'.Ns C m'' → Bd i m'' → (∀ c o, c ≠ C → s'.heap.get? c = some o → h'.get? c = some o) → Q' () { s' with heap := h', toks := tk }) → wpAny (model prog w) A (assign target (compEnvC scope cl C env) v) Q' (fun _ _ => False) s')
    (helt : ∀ i ys news₁ own C oC D m₂ h₁ tk₁, i < n → J i ys news₁ → (∀ p ∈ srcs, p ∈ news₁) → Bd i m₂ → LCg.NsObj oC m₂ → Fr h₀ L h₁ m → News h₀ L h₁ (own ++ (C, oC) :: (D, listOf ys.toArray ys.length) :: news₁) → (∀ p ∈ own, p.1 ∈ wr) → (∀ p ∈ news₁, p.1 ∉ wr ∧ p.1 ≠ C ∧ p.1 ≠ D) → (C ∉ wr ∧ D ∉ wr ∧ C ≠ D) →
      wpAny (model prog w) A (testsOf ifs (compEnvC scope cl C env)) (fun ok s₃ =>
        if ok = true then wpAny (model prog w) A (eval elt (compEnvC scope cl C env)) (fun y s₄ => CEndT h₀ L m s (own ++ [(C, oC), (D, listOf ys.toArray ys.length)]) wr C D srcs (J (i + 1) (ys ++ [y])) s₄) (fun _ _ => False) s₃
        else CEndT h₀ L m s (own ++ [(C, oC), (D, listOf ys.toArray ys.length)]) wr C D srcs (J (i + 1) ys) s₃) (fun _ _ => False) { s with heap := h₁, toks := tk₁ })
    (hfin : ∀ D C oC m' ys news' h tk, J n ys news' → (∀ p ∈ srcs, p ∈ news') → Fr h₀ L h m → News h₀ L h ((C, oC) :: (D, listOf ys.toArray ys.length) :: news') → LCg.NsObj oC m' → (∀ p ∈ news', p.1 ≠ D) → (∀ p ∈ (D, listOf ys.toArray ys.length) :: news', p.1 ≠ C) → RR (.ref D) C (.ok .next) { s with heap := h, toks := tk }) :
    wpAny (model prog w) A (newList []) (fun acc s₃ => wpAny (model prog w) A (newFunctionEnv scope env.globals cl [] env.qual none .none (some env)) (fun cenv s₄ =>
      codeAny (model prog w) A (.compStart (.ListComp elt [⟨target, iter, ifs, 0⟩] scope pos) 0 (.ref I) acc { cenv with scope := relabel scope env }) (RR acc cenv.locals) s₄) E s₃) E s := by
  refine wpAny_newObj_type (wpAny_newFunctionEnv hcell (by intro y hy; simp at hy) (fun h₁ hns₁ hsb₁ => ?_) hkind)
  dsimp only at hns₁ hsb₁ ⊢
  generalize hH2 : s.heap.push { cls := .type "list", dict := none, data := .seq ([] : List Value).toArray } = H2 at hns₁ hsb₁ ⊢
  have hC : H2.objs.size = s.heap.objs.size + 1 := by rw [← hH2, Heap.size_push]
  generalize hCe : H2.objs.size = C at hns₁ hsb₁ hC ⊢
  generalize hDe : s.heap.objs.size = D at hC hIlt ⊢
  have hDC : @LT.lt Nat _ D C := hC ▸ Nat.lt_succ_self D
  have hCD : C ≠ D := Nat.ne_of_gt hDC
  have hIC : C ∉ wr := fun h => Nat.lt_irrefl _ (Nat.lt_trans (hIlt C h) hDC)
  have hID : D ∉ wr := fun h => Nat.lt_irrefl _ (hIlt D h)
  have hLD : L < D := hDe ▸ F.ns.lt
  have hLC : L < C := Nat.lt_trans hLD hDC
  have below : ∀ b o, s.heap.get? b = some o → b < D := fun b o e => hDe ▸ Heap.lt_size e
  have fresh₀ : ∀ a, D ≤ a → h₀.get? a = none := fun a ha => by
    cases e : h₀.get? a with
    | none => rfl
    | some o' => exact absurd (below _ _ (F.keep a o' e)) (Nat.not_lt.mpr ha)
  have hD₀ := fresh₀ D (Nat.le_refl _)
  have hC₀ := fresh₀ C (Nat.le_of_lt hDC)
  have old : ∀ b o, s.heap.get? b = some o → h₁.get? b = some o := fun b o e =>
    hsb₁.extBut b o (Nat.ne_of_lt (Nat.lt_trans (below _ _ e) hDC)) (Heap.get?_push_of_some _ (hH2 ▸ Heap.get?_push_of_some _ e))
  have hacc : h₁.get? D = some (listOf ([] : List Value).toArray ([] : List Value).length) := hsb₁.extBut _ _ (Ne.symm hCD) (Heap.get?_push_of_some _ (by rw [← hH2, ← hDe]; exact Heap.get?_push_size _ rfl))
  have hst₁ : St 0 h₁ := W.frame _ _ _ hst fun b _ o e => old b o e
  have off₀ : ∀ p ∈ news, p.1 ∉ wr ∧ p.1 ≠ C ∧ p.1 ≠ D := fun p hp => ⟨hoff p hp, Nat.ne_of_lt (Nat.lt_trans (below _ _ (N p hp).1) hDC), Nat.ne_of_lt (below _ _ (N p hp).1)⟩
  have loop : ∀ s₃ : Shared, (∃ tk, s₃ = { s with heap := h₁, toks := tk }) →
      codeAny (model prog w) A (.compLoop (.ListComp elt [⟨target, iter, ifs, 0⟩] scope pos) 0 (.ref I) (.ref D) (compEnvC scope cl C env)) (RR (.ref D) C) s₃ := by
    rintro s₃ ⟨tk₀, rfl⟩
    refine compLoop_gen
      (fun k s' => ∃ h' tk i ys m' news', s' = { s with heap := h', toks := tk } ∧ i ≤ n ∧ k = n + 1 - i ∧ ys.length ≤ i ∧ St i h' ∧ Fr h₀ L h' m ∧ h'.Ns C m' ∧ News h₀ L h' ((D, listOf ys.toArray ys.length) :: news') ∧
        (∀ p ∈ news', p.1 ∉ wr ∧ p.1 ≠ C ∧ p.1 ≠ D) ∧ (∀ p ∈ srcs, p ∈ news') ∧ J i ys news') ?_ (n + 1)
      ⟨h₁, _, 0, [], _, news, rfl, Nat.zero_le _, rfl, Nat.le_refl _, hst₁, F.keeps old, hns₁, fun p hp => ?_, off₀, hsrc, h0⟩
    · rintro k s' ⟨h', tk, i, ys, m', news', rfl, hi, rfl, hyl, hst', F', hn', N', off', hsrc', hJ⟩
      by_cases hlt : i < n
      · refine W.item i _ _ _ hlt hst' fun v h₁' tk₂ hMd hk₁' => ?_
        refine W.go i v _ _ _ hMd fun h₂ hPv hst₂ hk₂₀ => ?_
        have hk₂ : ∀ b o, b ∉ wr → h'.get? b = some o → h₂.get? b = some o := fun b o hb e => hk₂₀ b o hb (hk₁' b o hb e)
        have F₂ : Fr h₀ L h₂ m := ⟨F'.ns.at' fun o e => hk₂ _ o hIL e, fun b o e => hk₂ b o (fun hb => by rw [hI₀ b hb] at e; cases e) (F'.keep b o e), F'.above⟩
        have N₂ : News h₀ L h₂ ((D, listOf ys.toArray ys.length) :: news') := fun p hp => by
          refine ⟨hk₂ _ _ ?_ (N' p hp).1, (N' p hp).2⟩
          rcases List.mem_cons.mp hp with rfl | hp
          · exact hID
          · exact (off' p hp).1
        have hn₂ : h₂.Ns C m' := hn'.at' fun o e => hk₂ _ o hIC e
        refine hasg i v C ys news' { s with heap := h₂, toks := tk₂ } m' _ hPv hJ (fun p hp => (N₂ p (.tail _ hp)).1) hn₂ fun h₃ tk₃ m₃ hn₃ hBd hk₃ => ?_
        have hst₃ : St (i + 1) h₃ := W.frame _ _ _ hst₂ fun b hb o e => hk₃ b o (by
          rcases hfp b hb with hb | ⟨ob, hob⟩
          · exact fun h => hIC (h ▸ hb)
          · exact (off' _ (hsrc' _ hob)).2.1) e
        have hown := hIo _ _ hst₃
        obtain ⟨oC, heC, hoC⟩ := LCg.ns_obj hn₃
        have F₃ : Fr h₀ L h₃ m := ⟨F₂.ns.at' fun o e => hk₃ _ o (Nat.ne_of_lt hLC) e, fun b o e => hk₃ b o (fun hb => by rw [hb, hC₀] at e; cases e) (F₂.keep b o e), F₂.above⟩
        have N₃ : News h₀ L h₃ (ownW wr h₃ ++ (C, oC) :: (D, listOf ys.toArray ys.length) :: news') := fun p hp => by
          rcases List.mem_append.mp hp with hp | hp
          · have z := mem_ownW.mp hp
            exact ⟨z.2, fun h => hIL (h ▸ z.1), hI₀ _ z.1⟩
          · rcases List.mem_cons.mp hp with rfl | hp
            · exact ⟨heC, Ne.symm (Nat.ne_of_lt hLC), hC₀⟩
            · refine ⟨hk₃ _ _ ?_ (N₂ p hp).1, (N₂ p hp).2⟩
              rcases List.mem_cons.mp hp with rfl | hp
              · exact Ne.symm hCD
              · exact (off' p hp).2.1
        have fin : ∀ (ys' : List Value) (s₄ : Shared), CEndT h₀ L m s (ownW wr h₃ ++ [(C, oC), (D, listOf ys.toArray ys.length)]) wr C D srcs (J (i + 1) ys') s₄ →
            ∃ h₄ tk₄ news₄, s₄ = { s with heap := h₄, toks := tk₄ } ∧ St (i + 1) h₄ ∧ Fr h₀ L h₄ m ∧ h₄.Ns C m₃ ∧ News h₀ L h₄ ((D, listOf ys.toArray ys.length) :: news₄) ∧ (∀ p ∈ news₄, p.1 ∉ wr ∧ p.1 ≠ C ∧ p.1 ≠ D) ∧ (∀ p ∈ srcs, p ∈ news₄) ∧ J (i + 1) ys' news₄ := by
          rintro ys' s₄ ⟨h₄, tk₄, all, news₄, rfl, F₄, N₄, hall, hs₄, off₄, hJ₄⟩
          have zC := (N₄ (C, oC) (hall _ (List.mem_append_left _ (List.mem_append_right _ (.head _))))).1
          refine ⟨h₄, tk₄, news₄, rfl, W.frame _ _ _ hst₃ fun b hb o e => ?_, F₄, hoC.ns zC, fun p hp => ?_, off₄, hs₄, hJ₄⟩
          · rcases hfp b hb with hb | ⟨ob, hob⟩
            · exact (N₄ (b, o) (hall _ (List.mem_append_left _ (List.mem_append_left _ (mem_ownW.mpr ⟨hb, e⟩))))).1
            · have e' := (N₃ _ (List.mem_append_right _ (.tail _ (.tail _ (hsrc' _ hob))))).1
              rw [e'] at e; cases e
              exact (N₄ _ (hall _ (List.mem_append_right _ (hs₄ _ hob)))).1
          · rcases List.mem_cons.mp hp with rfl | hp
            · exact N₄ _ (hall _ (List.mem_append_left _ (List.mem_append_right _ (.tail _ (.head _)))))
            · exact N₄ _ (hall _ (List.mem_append_right _ hp))
        refine wpAny_mono (helt i ys news' (ownW wr h₃) C oC D m₃ h₃ _ hlt hJ hsrc' hBd hoC F₃ N₃ (fun p hp => (mem_ownW.mp hp).1) off' ⟨hIC, hID, hCD⟩) (fun ok s₃ h₃' => ?_) (fun _ _ x => x)
        cases ok with
        | false =>
          simp only [Bool.false_eq_true, if_false] at h₃' ⊢
          obtain ⟨h₄, tk₄, news₄, rfl, st₄, F₄, ns₄, N₄, off₄, hs₄, hJ₄⟩ := fin _ _ h₃'
          exact ⟨n + 1 - (i + 1), by omega, h₄, tk₄, i + 1, ys, _, news₄, rfl, hlt, rfl, by omega, st₄, F₄, ns₄, N₄, off₄, hs₄, hJ₄⟩
        | true =>
          simp only [if_true] at h₃' ⊢
          refine wpAny_mono h₃' (fun y s₄ h₄' => ?_) (fun _ _ x => x)
          obtain ⟨h₄, tk₄, news₄, rfl, st₄, F₄, ns₄, N₄, off₄, hs₄, hJ₄⟩ := fin _ _ h₄'
          refine append_at (hsz := by rw [List.size_toArray]; have := sizeLine_eq; omega) (N₄ _ (.head _)).1 fun h₅ hs₅ hD₅ => ?_
          refine ⟨n + 1 - (i + 1), by omega, h₅, tk₄, i + 1, ys ++ [y], _, news₄, rfl, hlt, rfl, by rw [List.length_append, List.length_singleton]; omega, W.frame _ _ _ st₄ fun b hb o e => hs₅.extBut b o (by
            rcases hfp b hb with hb | ⟨ob, hob⟩
            · exact fun h => hID (h ▸ hb)
            · exact (off₄ _ (hs₄ _ hob)).2.2) e, F₄.change hs₅ (Ne.symm (Nat.ne_of_lt hLD)) hD₀, ns₄.sameBut hs₅ hCD, fun p hp => ?_, off₄, hs₄, hJ₄⟩
          rcases List.mem_cons.mp hp with rfl | hp
          · exact ⟨hD₅.trans (congrArg some (LCg.lst_snoc ys y)), Ne.symm (Nat.ne_of_lt hLD), hD₀⟩
          · exact ⟨hs₅.extBut _ _ (off₄ p hp).2.2 (N₄ p (.tail _ hp)).1, (N₄ p (.tail _ hp)).2⟩
      · obtain rfl : i = n := Nat.le_antisymm hi (Nat.not_lt.mp hlt)
        refine W.done _ _ _ hst' fun h₂ tk₂ hk₂ => ?_
        have F₂ : Fr h₀ L h₂ m := ⟨F'.ns.at' fun o e => hk₂ _ o hIL e, fun b o e => hk₂ b o (fun hb => by rw [hI₀ b hb] at e; cases e) (F'.keep b o e), F'.above⟩
        have N₂ : News h₀ L h₂ ((D, listOf ys.toArray ys.length) :: news') := fun p hp => by
          refine ⟨hk₂ _ _ ?_ (N' p hp).1, (N' p hp).2⟩
          rcases List.mem_cons.mp hp with rfl | hp
          · exact hID
          · exact (off' p hp).1
        have hn₂ : h₂.Ns C m' := hn'.at' fun o e => hk₂ _ o hIC e
        obtain ⟨oC, heC, hoC⟩ := LCg.ns_obj hn₂
        have offC : ∀ p ∈ (D, listOf ys.toArray ys.length) :: news', p.1 ≠ C := fun p hp => by
          rcases List.mem_cons.mp hp with rfl | hp
          · exact Ne.symm hCD
          · exact (off' p hp).2.1
        refine hfin D C oC m' ys news' h₂ tk₂ hJ hsrc' F₂ (fun p hp => ?_) hoC (fun p hp => (off' p hp).2.2) offC
        rcases List.mem_cons.mp hp with rfl | hp
        · exact ⟨heC, Ne.symm (Nat.ne_of_lt hLC), hC₀⟩
        · exact N₂ p hp
    · rcases List.mem_cons.mp hp with rfl | hp
      · exact ⟨hacc, Ne.symm (Nat.ne_of_lt hLD), hD₀⟩
      · exact ⟨old _ _ (N p hp).1, (N p hp).2⟩
  exact codeAny_compStart_list (loop _ ⟨_, rfl⟩) (hself 0 _ _ _ hst₁ (loop _ ⟨_, rfl⟩))
end
end Mine
end

/-! ## L16 -/
section
open PySem PySem.W PyProof.Rows PySem.Calls PySem.Spec PySem.SeqAt
set_option maxRecDepth 100000
namespace Mine
def FStepT (h₀ : Heap) (L : Addr) (s : Shared) (J : (Str → Option Value) → List (Addr × Obj) → Prop) (srcs : List (Addr × Obj)) (wr : List Addr) (own : List (Addr × Obj)) (Q : Flow → Shared → Prop) (f : Flow) (s₃ : Shared) : Prop :=
  match f with
  | .brk => Q .next s₃
  | .ret v => Q (.ret v) s₃
  | _ => ∃ h' tk m₂ all news₂, s₃ = { s with heap := h', toks := tk } ∧ Fr h₀ L h' m₂ ∧ News h₀ L h' all ∧ (∀ p ∈ own ++ news₂, p ∈ all) ∧ (∀ p ∈ srcs, p ∈ news₂) ∧ (∀ p ∈ news₂, p.1 ∉ wr) ∧ J m₂ news₂
theorem turns_widen {prog : Program} {w : World} {A : Around} {target : Expr} {I : Addr} {fp wr ow : List Addr} {n : Nat} {P Md : Nat → Value → Heap → Prop} {St : Nat → Heap → Prop} (W : KTurns prog w A target I fp wr n P Md St) (h1 : ∀ b ∈ wr, b ∈ ow) (h2 : ∀ b ∈ ow, b ∈ fp) :
    KTurns prog w A target I fp ow n P Md St where
  sub := h2
  frame := W.frame
  item := fun i s Q E hi st hQ => W.item i s Q E hi st fun v h' tk hm hk => hQ v h' tk hm fun b o hb e => hk b o (fun h => hb (h1 b h)) e
  go := fun i v s Q E hm hQ => W.go i v s Q E hm fun h' hP st hk => hQ h' hP st fun b o hb e => hk b o (fun h => hb (h1 b h)) e
  done := fun s Q E st hQ => W.done s Q E st fun h' tk hk => hQ h' tk fun b o hb e => hk b o (fun h => hb (h1 b h)) e

section
variable {prog : Program} {w : World} {A : Around} {E : Value → Shared → Prop} {s : Shared} {env : Env} {h₀ : Heap} {m : Str → Option Value} {news : List (Addr × Obj)}
theorem for_T {target : Expr} {body orelse : List Stmt} {Q : Flow → Shared → Prop} {I : Addr} {fp wr : List Addr} {n : Nat} {P Md : Nat → Value → Heap → Prop} {St : Nat → Heap → Prop} {srcs : List (Addr × Obj)} (W : KTurns prog w A target I fp wr n P Md St)
    (hfp : ∀ b ∈ fp, b ∈ wr ∨ ∃ o, (b, o) ∈ srcs) (hIo : ∀ i h, St i h → ∀ b ∈ wr, ∃ o, h.get? b = some o) (hIL : env.locals ∉ wr) (hI₀ : ∀ b ∈ wr, h₀.get? b = none)
    (J : Nat → (Str → Option Value) → List (Addr × Obj) → Prop) (hst : St 0 s.heap) (F : Fr h₀ env.locals s.heap m) (N : News h₀ env.locals s.heap news) (hsrc : ∀ p ∈ srcs, p ∈ news) (hoff : ∀ p ∈ news, p.1 ∉ wr) (h0 : J 0 m news)
    (step : ∀ i v m₁ news₁ own h₁ tk₁, i < n → P i v h₁ → J i m₁ news₁ → (∀ p ∈ srcs, p ∈ news₁) → (∀ p ∈ news₁, p.1 ∉ wr) → (∀ p ∈ own, p.1 ∈ wr) → (∀ b ∈ wr, ∃ o, (b, o) ∈ own) → Fr h₀ env.locals h₁ m₁ → News h₀ env.locals h₁ (own ++ news₁) →
      wpAny (model prog w) A (assign target env v) (fun _ s₂ => wpAny (model prog w) A (execs body env) (FStepT h₀ env.locals s (J (i + 1)) srcs wr own Q) (fun _ _ => False) s₂) (fun _ _ => False) { s with heap := h₁, toks := tk₁ })
    (done : ∀ m₁ news₁ h₁ tk₁, J n m₁ news₁ → (∀ p ∈ srcs, p ∈ news₁) → Fr h₀ env.locals h₁ m₁ → News h₀ env.locals h₁ news₁ → wpAny (model prog w) A (execs orelse env) Q (fun _ _ => False) { s with heap := h₁, toks := tk₁ }) :
    codeAny (model prog w) A (.forLoop target (.ref I) body orelse env) (fun r s' => match r with | .ok f => Q f s' | .error e => cameBackBy (model prog w) A env E e s') s := by
  refine codeAny_forLoop_any
    (fun k s' => ∃ h' tk m' news' i, s' = { s with heap := h', toks := tk } ∧ St i h' ∧ Fr h₀ env.locals h' m' ∧ News h₀ env.locals h' news' ∧ (∀ p ∈ srcs, p ∈ news') ∧ (∀ p ∈ news', p.1 ∉ wr) ∧ J i m' news' ∧ i ≤ n ∧ k = n + 1 - i) ?_ (n + 1)
    ⟨s.heap, s.toks, m, news, 0, rfl, hst, F, N, hsrc, hoff, h0, Nat.zero_le _, rfl⟩
  rintro k s' ⟨h', tk, m', news', i, rfl, hst', F', N', hsrc', hoff', hJ, hi, rfl⟩
  have next : ∀ h₁ : Heap, (∀ b o, b ∉ wr → h'.get? b = some o → h₁.get? b = some o) → Fr h₀ env.locals h₁ m' ∧ News h₀ env.locals h₁ news' := fun h₁ hk₁ =>
    ⟨⟨F'.ns.at' fun o e => hk₁ _ o hIL e, fun b o e => hk₁ b o (fun hb => by rw [hI₀ b hb] at e; cases e) (F'.keep b o e), F'.above⟩, fun p hp => ⟨hk₁ _ _ (hoff' p hp) (N' p hp).1, (N' p hp).2⟩⟩
  by_cases hlt : i < n
  · refine W.item i _ _ _ hlt hst' fun v h₁' tk₁ hMd hk₁' => ?_
    refine W.go i v _ _ _ hMd fun h₁ hP hst₁ hk₁₀ => ?_
    obtain ⟨F₁, N₁⟩ := next h₁ fun b o hb e => hk₁₀ b o hb (hk₁' b o hb e)
    have N₂ : News h₀ env.locals h₁ (ownW wr h₁ ++ news') := fun p hp => by
      rcases List.mem_append.mp hp with hp | hp
      · have z := mem_ownW.mp hp
        exact ⟨z.2, fun h => hIL (h ▸ z.1), hI₀ _ z.1⟩
      · exact N₁ p hp
    refine wpAny_mono (step i v m' news' (ownW wr h₁) h₁ tk₁ hlt hP hJ hsrc' hoff' (fun p hp => (mem_ownW.mp hp).1) (fun b hb => let ⟨o, ho⟩ := hIo _ _ hst₁ b hb; ⟨o, mem_ownW.mpr ⟨hb, ho⟩⟩) F₁ N₂) (fun _ s₂ h₂ => wpAny_mono h₂ (fun f s₃ h₃ => ?_) (fun _ _ x => x.elim)) (fun _ _ x => x.elim)
    have fin : (∃ h' tk m₂ all news₂, s₃ = { s with heap := h', toks := tk } ∧ Fr h₀ env.locals h' m₂ ∧ News h₀ env.locals h' all ∧ (∀ p ∈ ownW wr h₁ ++ news₂, p ∈ all) ∧ (∀ p ∈ srcs, p ∈ news₂) ∧ (∀ p ∈ news₂, p.1 ∉ wr) ∧ J (i + 1) m₂ news₂) →
        ∃ k', k' < n + 1 - i ∧ ∃ h' tk m' news' i, s₃ = { s with heap := h', toks := tk } ∧ St i h' ∧ Fr h₀ env.locals h' m' ∧ News h₀ env.locals h' news' ∧ (∀ p ∈ srcs, p ∈ news') ∧ (∀ p ∈ news', p.1 ∉ wr) ∧ J i m' news' ∧ i ≤ n ∧ k' = n + 1 - i := by
      rintro ⟨h₃', tk₃, m₂, all, news₂, rfl, F₃, N₃, hall, hs₃, ho₃, hJ₃⟩
      refine ⟨n + 1 - (i + 1), by omega, h₃', tk₃, m₂, news₂, i + 1, rfl, ?_, F₃, fun p hp => N₃ p (hall p (List.mem_append_right _ hp)), hs₃, ho₃, hJ₃, hlt, rfl⟩
      refine W.frame _ _ _ hst₁ fun b hb o e => ?_
      rcases hfp b hb with hb | ⟨ob, hob⟩
      · exact (N₃ (b, o) (hall _ (List.mem_append_left _ (mem_ownW.mpr ⟨hb, e⟩)))).1
      · have e' := (N₁ _ (hsrc' _ hob)).1
        rw [e'] at e; cases e
        exact (N₃ _ (hall _ (List.mem_append_right _ (hs₃ _ hob)))).1
    cases f with
    | brk => exact h₃
    | ret v => exact h₃
    | next => exact fin h₃
    | cont => exact fin h₃
  · have hin : i = n := by omega
    subst hin
    refine W.done _ _ _ hst' fun h₁ tk₁ hk₁ => ?_
    obtain ⟨F₁, N₁⟩ := next h₁ hk₁
    exact wpAny_mono (done m' news' h₁ tk₁ hJ hsrc' F₁ N₁) (fun f s₃ h₃ => h₃) (fun _ _ x => x.elim)

/-- a for over an enumerate of a list of the ledger -/
theorem for_enum {elts : List Expr} {k : Nat} {tpos : Pos} {body orelse : List Stmt} {Q : Flow → Shared → Prop} {l : Addr} {vs : List Value} {nn : Nat} (hh : A.handled = none) (F : Fr h₀ env.locals s.heap m) (N : News h₀ env.locals s.heap news) (hm : (l, listOf vs.toArray nn) ∈ news)
    (J : Nat → (Str → Option Value) → List (Addr × Obj) → Prop) (h0 : J 0 m news)
    (step : ∀ i x T t m₁ news₁ wr own h₁ tk₁, vs[i]? = some x → h₁.IsTuple T #[.int (i : Nat) t, x] → J i m₁ news₁ → (l, listOf vs.toArray nn) ∈ news₁ → (∀ p ∈ news₁, p.1 ∉ wr) → (∀ p ∈ own, p.1 ∈ wr) → (∀ b ∈ wr, ∃ o, (b, o) ∈ own) → Fr h₀ env.locals h₁ m₁ → News h₀ env.locals h₁ (own ++ news₁) →
      wpAny (model prog w) A (assign (.Tuple elts k tpos) env (.ref T)) (fun _ s₂ => wpAny (model prog w) A (execs body env) (FStepT h₀ env.locals s (J (i + 1)) [(l, listOf vs.toArray nn)] wr own Q) (fun _ _ => False) s₂) (fun _ _ => False) { s with heap := h₁, toks := tk₁ })
    (done : ∀ m₁ news₁ h₁ tk₁, J vs.length m₁ news₁ → (l, listOf vs.toArray nn) ∈ news₁ → Fr h₀ env.locals h₁ m₁ → News h₀ env.locals h₁ news₁ → wpAny (model prog w) A (execs orelse env) Q (fun _ _ => False) { s with heap := h₁, toks := tk₁ }) :
    wpAny (model prog w) A (call (.type "enumerate") [.ref l]) (fun xv s₁ => wpAny (model prog w) A (pyIter xv) (fun it s₂ => codeAny (model prog w) A (.forLoop (.Tuple elts k tpos) it body orelse env) (fun r s' => match r with | .ok f => Q f s' | .error e => cameBackBy (model prog w) A env E e s') s₂) E s₁) E s := by
  have hax := N _ hm
  have hl : s.heap.IsList l vs.toArray := PySem.IsL.isList (n := nn) hax.1
  have hlt : l < s.heap.objs.size := Heap.lt_size hax.1
  have hLs : env.locals < s.heap.objs.size := F.ns.lt
  refine call_enumerate_list hl fun h' hE hI hsz hk => ?_
  refine wpAny_pyIter_enum hE ?_
  refine for_T (s := { s with heap := h' }) (srcs := [(l, listOf vs.toArray nn)]) (KTurns.ofWalksU (WalksT.enumerate hh (s.heap.objs.size + 1) s.heap.objs.size l (Nat.succ_ne_self _) (ktu_ne 1 hlt) (Nat.ne_of_lt hlt) vs.toArray).toU) ?_ ?_ ?_ ?_ J ⟨⟨_, hE⟩, hI, hl.at fun o e => hk l o e⟩ (F.keeps hk) (N.grown hk) (fun p hp => by rw [List.mem_singleton.mp hp]; exact hm) ?_ h0 ?_ ?_
  · intro b hb
    rcases List.mem_cons.mp hb with rfl | hb
    · exact .inl (.head _)
    rcases List.mem_cons.mp hb with rfl | hb
    · exact .inl (.tail _ (.head _))
    · exact .inr ⟨_, by rw [List.mem_singleton.mp hb]; exact .head _⟩
  · rintro i h ⟨⟨old, he⟩, ⟨oi, hoi, _⟩, _⟩ b hb
    rcases List.mem_cons.mp hb with rfl | hb
    · exact ⟨_, he⟩
    · rw [List.mem_singleton.mp hb]; exact ⟨_, hoi⟩
  · intro hb
    rcases List.mem_cons.mp hb with e | hb
    · exact ktu_ne 1 hLs e
    · exact Nat.ne_of_lt hLs (List.mem_singleton.mp hb)
  · intro b hb
    rcases List.mem_cons.mp hb with rfl | hb
    · exact ktu_new F (Nat.le_add_right _ _)
    · rw [List.mem_singleton.mp hb]; exact ktu_new F (Nat.le_refl _)
  · intro p hp hb
    have hpl : p.1 < s.heap.objs.size := Heap.lt_size (N p hp).1
    rcases List.mem_cons.mp hb with e | hb
    · exact ktu_ne 1 hpl e
    · exact Nat.ne_of_lt hpl (List.mem_singleton.mp hb)
  · rintro i v m₁ news₁ own h₁ tk₁ hi ⟨T, vals, rfl, ⟨t, x, hx, rfl⟩, hT⟩ hJ hs ho hown hwo F₁ N₁
    exact step i x T t m₁ news₁ _ own h₁ tk₁ (by simpa using hx) hT hJ (hs _ (.head _)) ho hown hwo F₁ N₁
  · intro m₁ news₁ h₁ tk₁ hJ hs F₁ N₁
    exact done m₁ news₁ h₁ tk₁ (by simpa using hJ) (hs _ (.head _)) F₁ N₁
end
end Mine
end

/-! ## L17 -/
section
open PySem PySem.W PyProof.Rows PySem.Calls PySem.Spec PySem.SeqAt
set_option maxRecDepth 100000
namespace Mine
section
variable {prog : Program} {w : World} {A : Around} {E : Value → Shared → Prop} {s : Shared} {env : Env} {h₀ : Heap} {L : Addr} {m : Str → Option Value} {news : List (Addr × Obj)}
theorem comp_enum {elt iter : Expr} {ifs : List Expr} {scope : Scope} {cl : List (Str × Addr)} {pos : Pos} {elts : List Expr} {k : Nat} {tpos : Pos} {l : Addr} {vs : List Value} {nn : Nat} {RR : Value → Addr → Result → Shared → Prop}
    (hh : A.handled = none) (F : Fr h₀ L s.heap m) (N : News h₀ L s.heap news) (hm : (l, listOf vs.toArray nn) ∈ news) (hsz : vs.length ≤ 1000)
    (hcell : ∀ y ∈ scope.names, y.2 ≠ .cell) (hkind : scope.kind = .function)
    (Bd : Nat → (Str → Option Value) → Prop) (J : Nat → List Value → List (Addr × Obj) → Prop) (h0 : J 0 [] news)
    (hasg : ∀ i x T t C ys news₁ (s' : Shared) m' (Q' : Unit → Shared → Prop), vs[i]? = some x → s'.heap.IsTuple T #[.int (i : Nat) t, x] → J i ys news₁ → (∀ p ∈ news₁, s'.heap.get? p.1 = some p.2) → s'.heap.Ns C m' →
      (∀ h' tk m'', h'.Ns C m'' → Bd i m'' → (∀ c o, c ≠ C → s'.heap.get? c = some o → h'.get? c = some o) → Q' () { s' with heap := h', toks := tk }) → wpAny (model prog w) A (assign (.Tuple elts k tpos) (compEnvC scope cl C env) (.ref T)) Q' (fun _ _ => False) s')
    (helt : ∀ i ys news₁ wr own C oC D m₂ h₁ tk₁, i < vs.length → J i ys news₁ → (l, listOf vs.toArray nn) ∈ news₁ → Bd i m₂ → LCg.NsObj oC m₂ → Fr h₀ L h₁ m → News h₀ L h₁ (own ++ (C, oC) :: (D, listOf ys.toArray ys.length) :: news₁) → (∀ p ∈ own, p.1 ∈ wr) → (∀ p ∈ news₁, p.1 ∉ wr ∧ p.1 ≠ C ∧ p.1 ≠ D) → (C ∉ wr ∧ D ∉ wr ∧ C ≠ D) →
      wpAny (model prog w) A (testsOf ifs (compEnvC scope cl C env)) (fun ok s₃ =>
        if ok = true then wpAny (model prog w) A (eval elt (compEnvC scope cl C env)) (fun y s₄ => CEndT h₀ L m s (own ++ [(C, oC), (D, listOf ys.toArray ys.length)]) wr C D [(l, listOf vs.toArray nn)] (J (i + 1) (ys ++ [y])) s₄) (fun _ _ => False) s₃
        else CEndT h₀ L m s (own ++ [(C, oC), (D, listOf ys.toArray ys.length)]) wr C D [(l, listOf vs.toArray nn)] (J (i + 1) ys) s₃) (fun _ _ => False) { s with heap := h₁, toks := tk₁ })
    (hfin : ∀ D C oC m' ys news' h tk, J vs.length ys news' → (l, listOf vs.toArray nn) ∈ news' → Fr h₀ L h m → News h₀ L h ((C, oC) :: (D, listOf ys.toArray ys.length) :: news') → LCg.NsObj oC m' → (∀ p ∈ news', p.1 ≠ D) → (∀ p ∈ (D, listOf ys.toArray ys.length) :: news', p.1 ≠ C) → RR (.ref D) C (.ok .next) { s with heap := h, toks := tk }) :
    wpAny (model prog w) A (call (.type "enumerate") [.ref l]) (fun xv s₁ => wpAny (model prog w) A (pyIter xv) (fun it s₂ => wpAny (model prog w) A (newList []) (fun acc s₃ => wpAny (model prog w) A (newFunctionEnv scope env.globals cl [] env.qual none .none (some env)) (fun cenv s₄ =>
      codeAny (model prog w) A (.compStart (.ListComp elt [⟨.Tuple elts k tpos, iter, ifs, 0⟩] scope pos) 0 it acc { cenv with scope := relabel scope env }) (RR acc cenv.locals) s₄) E s₃) E s₂) E s₁) E s := by
  have hax := N _ hm
  have hl : s.heap.IsList l vs.toArray := PySem.IsL.isList (n := nn) hax.1
  have hlt : l < s.heap.objs.size := Heap.lt_size hax.1
  have hLs : L < s.heap.objs.size := F.ns.lt
  refine call_enumerate_list hl fun h' hE hI hsz' hk => ?_
  refine wpAny_pyIter_enum hE ?_
  have WT := (WalksT.enumerate (prog := prog) (w := w) hh (s.heap.objs.size + 1) s.heap.objs.size l (Nat.succ_ne_self _) (ktu_ne 1 hlt) (Nat.ne_of_lt hlt) vs.toArray)
  refine comp_T (s := { s with heap := h' }) (srcs := [(l, listOf vs.toArray nn)]) (KTurns.ofWalksU WT.toU) WT.self ?_ ?_ ?_ ?_ ⟨⟨_, hE⟩, hI, hl.at fun o e => hk l o e⟩ (by simpa using hsz) (F.keeps hk) (N.grown hk) (fun p hp => by rw [List.mem_singleton.mp hp]; exact hm) ?_ ?_ hcell hkind Bd J h0 ?_ ?_ ?_
  · intro b hb
    rcases List.mem_cons.mp hb with rfl | hb
    · exact .inl (.head _)
    rcases List.mem_cons.mp hb with rfl | hb
    · exact .inl (.tail _ (.head _))
    · exact .inr ⟨_, by rw [List.mem_singleton.mp hb]; exact .head _⟩
  · rintro i h ⟨⟨old, he⟩, ⟨oi, hoi, _⟩, _⟩ b hb
    rcases List.mem_cons.mp hb with rfl | hb
    · exact ⟨_, he⟩
    · rw [List.mem_singleton.mp hb]; exact ⟨_, hoi⟩
  · intro hb
    rcases List.mem_cons.mp hb with e | hb
    · exact ktu_ne 1 hLs e
    · exact Nat.ne_of_lt hLs (List.mem_singleton.mp hb)
  · intro b hb
    rcases List.mem_cons.mp hb with rfl | hb
    · exact ktu_new F (Nat.le_add_right _ _)
    · rw [List.mem_singleton.mp hb]; exact ktu_new F (Nat.le_refl _)
  · intro p hp hb
    have hpl : p.1 < s.heap.objs.size := Heap.lt_size (N p hp).1
    rcases List.mem_cons.mp hb with e | hb
    · exact ktu_ne 1 hpl e
    · exact Nat.ne_of_lt hpl (List.mem_singleton.mp hb)
  · intro b hb
    show @LT.lt Nat _ b h'.objs.size
    rw [hsz']
    rcases List.mem_cons.mp hb with rfl | hb
    · exact Nat.lt_succ_self _
    · rw [List.mem_singleton.mp hb]; exact Nat.lt_succ_of_lt (Nat.lt_succ_self _)
  · rintro i v C ys news₁ s' m' Q' ⟨T, vals, rfl, ⟨t, x, hx, rfl⟩, hT⟩ hJ hn hns hq
    exact hasg i x T t C ys news₁ s' m' Q' (by simpa using hx) hT hJ hn hns hq
  · intro i ys news₁ own C oC D m₂ h₁ tk₁ hi hJ hs
    exact helt i ys news₁ _ own C oC D m₂ h₁ tk₁ (by simpa using hi) hJ (hs _ (.head _))
  · intro D C oC m' ys news' h tk hJ hs
    exact hfin D C oC m' ys news' h tk (by simpa using hJ) (hs _ (.head _))

theorem comp_zip {elt iter : Expr} {ifs : List Expr} {scope : Scope} {cl : List (Str × Addr)} {pos : Pos} {elts : List Expr} {k : Nat} {tpos : Pos} {l1 l2 : Addr} {xs ys₀ : List Value} {n1 n2 : Nat} {RR : Value → Addr → Result → Shared → Prop}
    (hh : A.handled = none) (F : Fr h₀ L s.heap m) (N : News h₀ L s.heap news) (hm1 : (l1, listOf xs.toArray n1) ∈ news) (hm2 : (l2, listOf ys₀.toArray n2) ∈ news) (hsz : xs.length ≤ 1000) (hlen : xs.length = ys₀.length)
    (hcell : ∀ y ∈ scope.names, y.2 ≠ .cell) (hkind : scope.kind = .function)
    (Bd : Nat → (Str → Option Value) → Prop) (J : Nat → List Value → List (Addr × Obj) → Prop) (h0 : J 0 [] news)
    (hasg : ∀ i x y T C ys news₁ (s' : Shared) m' (Q' : Unit → Shared → Prop), xs[i]? = some x → ys₀[i]? = some y → s'.heap.IsTuple T #[x, y] → J i ys news₁ → (∀ p ∈ news₁, s'.heap.get? p.1 = some p.2) → s'.heap.Ns C m' →
      (∀ h' tk m'', h'.Ns C m'' → Bd i m'' → (∀ c o, c ≠ C → s'.heap.get? c = some o → h'.get? c = some o) → Q' () { s' with heap := h', toks := tk }) → wpAny (model prog w) A (assign (.Tuple elts k tpos) (compEnvC scope cl C env) (.ref T)) Q' (fun _ _ => False) s')
    (helt : ∀ i ys news₁ wr own C oC D m₂ h₁ tk₁, i < xs.length → J i ys news₁ → (∀ p ∈ [(l1, listOf xs.toArray n1), (l2, listOf ys₀.toArray n2)], p ∈ news₁) → Bd i m₂ → LCg.NsObj oC m₂ → Fr h₀ L h₁ m → News h₀ L h₁ (own ++ (C, oC) :: (D, listOf ys.toArray ys.length) :: news₁) → (∀ p ∈ own, p.1 ∈ wr) → (∀ p ∈ news₁, p.1 ∉ wr ∧ p.1 ≠ C ∧ p.1 ≠ D) → (C ∉ wr ∧ D ∉ wr ∧ C ≠ D) →
      wpAny (model prog w) A (testsOf ifs (compEnvC scope cl C env)) (fun ok s₃ =>
        if ok = true then wpAny (model prog w) A (eval elt (compEnvC scope cl C env)) (fun y s₄ => CEndT h₀ L m s (own ++ [(C, oC), (D, listOf ys.toArray ys.length)]) wr C D [(l1, listOf xs.toArray n1), (l2, listOf ys₀.toArray n2)] (J (i + 1) (ys ++ [y])) s₄) (fun _ _ => False) s₃
        else CEndT h₀ L m s (own ++ [(C, oC), (D, listOf ys.toArray ys.length)]) wr C D [(l1, listOf xs.toArray n1), (l2, listOf ys₀.toArray n2)] (J (i + 1) ys) s₃) (fun _ _ => False) { s with heap := h₁, toks := tk₁ })
    (hfin : ∀ D C oC m' ys news' h tk, J xs.length ys news' → Fr h₀ L h m → News h₀ L h ((C, oC) :: (D, listOf ys.toArray ys.length) :: news') → LCg.NsObj oC m' → (∀ p ∈ news', p.1 ≠ D) → (∀ p ∈ (D, listOf ys.toArray ys.length) :: news', p.1 ≠ C) → RR (.ref D) C (.ok .next) { s with heap := h, toks := tk }) :
    wpAny (model prog w) A (call (.type "zip") [.ref l1, .ref l2]) (fun xv s₁ => wpAny (model prog w) A (pyIter xv) (fun it s₂ => wpAny (model prog w) A (newList []) (fun acc s₃ => wpAny (model prog w) A (newFunctionEnv scope env.globals cl [] env.qual none .none (some env)) (fun cenv s₄ =>
      codeAny (model prog w) A (.compStart (.ListComp elt [⟨.Tuple elts k tpos, iter, ifs, 0⟩] scope pos) 0 it acc { cenv with scope := relabel scope env }) (RR acc cenv.locals) s₄) E s₃) E s₂) E s₁) E s := by
  have hax1 := N _ hm1
  have hax2 := N _ hm2
  have hl1 : s.heap.IsList l1 xs.toArray := PySem.IsL.isList (n := n1) hax1.1
  have hl2 : s.heap.IsList l2 ys₀.toArray := PySem.IsL.isList (n := n2) hax2.1
  have hlt1 : l1 < s.heap.objs.size := Heap.lt_size hax1.1
  have hlt2 : l2 < s.heap.objs.size := Heap.lt_size hax2.1
  have hLs : L < s.heap.objs.size := F.ns.lt
  have D : ZipApart (s.heap.objs.size + 4) (s.heap.objs.size + 2) (s.heap.objs.size + 3) s.heap.objs.size (s.heap.objs.size + 1) l1 l2 := ktu_apart _ _ _ hlt1 hlt2
  refine call_zip_2 hl1 hl2 fun h' hz hTI hTO hi1 hi2 hsz' hk => ?_
  refine wpAny_pyIter_zip hz ?_
  have WT := (WalksT.zip2 (prog := prog) (w := w) hh _ _ _ _ _ _ _ D xs.toArray ys₀.toArray)
  have hin : ∀ b ∈ [s.heap.objs.size + 4, s.heap.objs.size + 2, s.heap.objs.size + 3, s.heap.objs.size, s.heap.objs.size + 1], s.heap.objs.size ≤ b ∧ b < s.heap.objs.size + 5 := by
    intro b hb
    simp only [List.mem_cons, List.mem_nil_iff, or_false] at hb
    omega
  have hmin : min xs.toArray.size ys₀.toArray.size = xs.length := by simp [hlen]
  refine comp_T (s := { s with heap := h' }) (srcs := [(l1, listOf xs.toArray n1), (l2, listOf ys₀.toArray n2)]) (turns_widen (ow := [s.heap.objs.size + 4, s.heap.objs.size + 2, s.heap.objs.size + 3, s.heap.objs.size, s.heap.objs.size + 1]) (KTurns.ofWalksU WT.toU) ?_ ?_) WT.self ?_ ?_ ?_ ?_ ⟨hz, hTI, ⟨_, _, hTO⟩, hi1, hi2, hl1.at fun o e => hk l1 o e, hl2.at fun o e => hk l2 o e⟩ (by rw [hmin]; exact hsz) (F.keeps hk) (N.grown hk) (fun p hp => ?_) ?_ ?_ hcell hkind Bd J h0 ?_ ?_ ?_
  · intro b hb
    simp only [List.mem_cons, List.mem_nil_iff, or_false] at hb ⊢
    rcases hb with h | h | h | h <;> simp [h]
  · intro b hb
    simp only [List.mem_cons, List.mem_nil_iff, or_false] at hb ⊢
    rcases hb with h | h | h | h | h <;> simp [h]
  · intro b hb
    simp only [List.mem_cons, List.mem_nil_iff, or_false] at hb ⊢
    rcases hb with h | h | h | h | h | h | h
    · simp [h]
    · simp [h]
    · simp [h]
    · simp [h]
    · simp [h]
    · exact .inr ⟨_, .inl (by rw [h])⟩
    · exact .inr ⟨_, .inr (by rw [h])⟩
  · rintro i h ⟨hz, hTI, ⟨a, b, hTO⟩, ⟨o1, ho1, _⟩, ⟨o2, ho2, _⟩, _⟩ b hb
    simp only [List.mem_cons, List.mem_nil_iff, or_false] at hb
    rcases hb with rfl | rfl | rfl | rfl | rfl
    · exact ⟨_, hz⟩
    · exact ⟨_, hTI⟩
    · exact ⟨_, hTO⟩
    · exact ⟨_, ho1⟩
    · exact ⟨_, ho2⟩
  · exact fun hb => Nat.lt_irrefl _ (Nat.lt_of_lt_of_le hLs (hin _ hb).1)
  · exact fun b hb => ktu_new F (hin b hb).1
  · rcases List.mem_cons.mp hp with rfl | hp
    · exact hm1
    · rw [List.mem_singleton.mp hp]; exact hm2
  · exact fun p hp hb => Nat.lt_irrefl _ (Nat.lt_of_lt_of_le (Heap.lt_size (N p hp).1) (hin _ hb).1)
  · intro b hb
    show @LT.lt Nat _ b h'.objs.size
    rw [hsz']
    exact (hin b hb).2
  · rintro i v C ys news₁ s' m' Q' ⟨T, vals, rfl, ⟨x, y, hx, hy, rfl⟩, hT⟩ hJ hn hns hq
    exact hasg i x y T C ys news₁ s' m' Q' (by simpa using hx) (by simpa using hy) hT hJ hn hns hq
  · intro i ys news₁ own C oC D m₂ h₁ tk₁ hi hJ hs
    exact helt i ys news₁ _ own C oC D m₂ h₁ tk₁ (by rw [hmin] at hi; exact hi) hJ hs
  · intro D C oC m' ys news' h tk hJ hs
    exact hfin D C oC m' ys news' h tk (by rw [hmin] at hJ; exact hJ)
end
end Mine
end

/-! ## L18 -/
section
open PySem PySem.W PyProof.Rows PySem.Calls PySem.Spec PySem.SeqAt
set_option maxRecDepth 100000
namespace Mine
section
variable {prog : Program} {w : World} {A : Around} {E : Value → Shared → Prop} {s : Shared} {h₀ : Heap} {L : Addr} {m : Str → Option Value} {news : List (Addr × Obj)}
theorem inplace_list {a b : Value} {Q : Value → Shared → Prop} (ha : s.TypeIs a "list") (hb : s.TypeIs b "list")
    (hc : wpAny (model prog w) A (call (.builtin "list.__iadd__") [a, b]) Q E s) : wpAny (model prog w) A (inplaceOp .Add a b) Q E s := by
  unfold inplaceOp
  refine wpAny_holding ?_
  have hl := PySem.F.slot_list_iadd.lookup
  have hfi : fillsInplaceSlot (.type "list") "add" (Operator.Add == .Add) = pure false := by
    unfold fillsInplaceSlot
    show (typeLookup (.type "list") (dunderI "add") >>= fun fi => pure (fi.isSome && !isSeqSlot fi)) = pure false
    rw [hl, pure_bind]
    exact congrArg pure (by decide +kernel)
  have hsi : seqSlot? (.type "list") (dunderI "add") = pure (some (.builtin "list.__iadd__")) := PySem.seqSlot_of hl (by decide +kernel)
  refine wpAny_bind (wpAny_typeOf ha (wpAny_bind (wpAny_of_eq hfi ?_)))
  show wpAny (model prog w) A (if false = true then _ else _) Q E s
  rw [if_neg Bool.false_ne_true]
  refine wpAny_bind (wpAny_binaryOp1_none (nm := "add") ha hb noFill_list_add ?_)
  refine wpAny_bind (wpAny_of_eq hsi ?_)
  exact wpAny_bind (wpAny_rule hc)
theorem iadd_lists {l b : Addr} {xs ys : List Value} {n n2 : Nat} {Q : Value → Shared → Prop} (F : Fr h₀ L s.heap m) (N : News h₀ L s.heap ((l, listOf xs.toArray n) :: news)) (off : ∀ p ∈ news, p.1 ≠ l) (hb : (b, listOf ys.toArray n2) ∈ news) (hne : ys ≠ []) (hz : xs.length + ys.length ≤ 1000)
    (h : ∀ h', Fr h₀ L h' m → News h₀ L h' ((l, listOf (xs ++ ys).toArray (n + 1)) :: news) → Q (.ref l) { s with heap := h' }) :
    wpAny (model prog w) A (inplaceOp .Add (.ref l) (.ref b)) Q E s := by
  have z := N _ (.head _)
  have zb := N _ (List.mem_cons_of_mem _ hb)
  have hsz := sizeLine_eq
  refine inplace_list ⟨_, z.1, rfl⟩ ⟨_, zb.1, rfl⟩ ?_
  have hlong : ¬(!xs.toArray.isEmpty && Builtin.List.listTooLong (xs.toArray.size + ys.toArray.size)) = true := by
    have : Builtin.List.listTooLong (xs.toArray.size + ys.toArray.size) = false := by
      unfold Builtin.List.listTooLong
      simp
      omega
    rw [this]
    simp
  refine call_meets PySem.F.slot_list_iadd ⟨_, z.1, rfl⟩ PySem.F.entry_list_iadd (PySem.F.args_list_iadd_2 _ _) (PySem.AutoSeq1.list___iadd___list_list_0 l xs.toArray n b ys.toArray n2 hlong (by simp; omega) (by simp; omega)) ⟨z.1, zb.1, h _ (F.change (Heap.SameBut.update ..) z.2.1 z.2.2) ?_⟩
  have := kl_turn (pre := []) (fun x => x ++ ys.toArray) N (fun _ h => nomatch h) off (its' := (xs ++ ys).toArray) (by simp) (by simpa using hne)
  exact this
end
end Mine
end

/-! ## L19 -/
section
open PySem PySem.W PyProof.Rows PySem.Calls PySem.Spec PySem.SeqAt
set_option maxRecDepth 100000
namespace Mine
/-! ### what is asked for -/
def askRooms (n : Nat) : List Int := ((List.range 6).filter fun i => n.testBit i).map fun i => ((2 ^ i : Nat) : Int)
def asksUpTo (ods : List Int) (i : Nat) : List (Int × Int) := (List.range i).flatMap fun (j : Nat) => (askRooms (ods[j]?.getD 0).toNat).map fun r => (r, (j : Int))
theorem asksUpTo_succ {ods : List Int} {i : Nat} {o : Int} (h : ods[i]? = some o) : asksUpTo ods (i + 1) = asksUpTo ods i ++ (askRooms o.toNat).map fun r => (r, (i : Int)) := by
  unfold asksUpTo
  rw [List.range_succ, List.flatMap_append, List.flatMap_singleton, h]
  rfl
theorem flags_split : ∀ n ∈ List.range 33, 0 < n → Txt.split (flagText n) (Str.ofString ", ") = (askRooms n).map wordOf := by decide +kernel
theorem askRooms_facts : ∀ n ∈ List.range 33, (askRooms n).sum = (n : Int) ∧ (askRooms n).length ≤ 6 ∧ (∀ r ∈ askRooms n, r ∈ pows) ∧ (0 < n → askRooms n ≠ []) := by decide +kernel
theorem flags_len : ∀ n ∈ List.range 33, (flagText n).length ≤ 100 := by decide +kernel
theorem askRooms_zero : askRooms 0 = [] := by decide +kernel
theorem strsAre_get {vs : List Value} {ys : List Str} (h : StrsAre vs ys) : ∀ (i : Nat) v, vs[i]? = some v → ∃ y t, ys[i]? = some y ∧ v = .str y t := by
  induction h with
  | nil => intro i v hv; simp at hv
  | cons y t h ih =>
    intro i v hv
    cases i with
    | zero => simp at hv; exact ⟨y, t, by simp, hv.symm⟩
    | succ i => simp only [List.getElem?_cons_succ] at hv ⊢; exact ih i v hv
theorem strsAre_len {vs : List Value} {ys : List Str} (h : StrsAre vs ys) : vs.length = ys.length := by
  induction h with
  | nil => rfl
  | cons y t h ih => simp [ih]
end Mine
namespace Mine
theorem sub_own {own : List (Addr × Obj)} {a b : Addr × Obj} {r : List (Addr × Obj)} : ∀ x ∈ a :: b :: (own ++ r), x ∈ own ++ a :: b :: r := fun x hx => by
  simp only [List.mem_cons, List.mem_append] at hx ⊢
  rcases hx with h | h | h | h <;> simp [h]
end Mine
namespace Mine
theorem sub_23 {a b c : Addr × Obj} {r : List (Addr × Obj)} : ∀ x ∈ a :: c :: b :: r, x ∈ a :: b :: c :: r := fun x hx => by
  simp only [List.mem_cons] at hx ⊢
  rcases hx with h | h | h | h <;> simp [h]
end Mine
namespace Mine
theorem sub_rot3 {q a b c : Addr × Obj} {r : List (Addr × Obj)} : ∀ x ∈ a :: b :: c :: q :: r, x ∈ q :: a :: b :: c :: r := fun x hx => by
  simp only [List.mem_cons] at hx ⊢
  rcases hx with h | h | h | h | h <;> simp [h]
theorem sub_asks {D la cT dw : Addr × Obj} {nt own rest : List (Addr × Obj)} : ∀ x ∈ la :: D :: cT :: (nt ++ (own ++ rest)), x ∈ D :: (nt ++ dw :: la :: cT :: (own ++ rest)) := fun x hx => by
  simp only [List.mem_cons, List.mem_append] at hx ⊢
  rcases hx with h | h | h | h | h | h <;> simp [h]
theorem sub_asks2 {D la cT : Addr × Obj} {nt own rest : List (Addr × Obj)} : ∀ x ∈ own ++ la :: cT :: (nt ++ rest), x ∈ la :: D :: cT :: (nt ++ (own ++ rest)) := fun x hx => by
  simp only [List.mem_cons, List.mem_append] at hx ⊢
  rcases hx with h | h | h | h | h <;> simp [h]
theorem off3_cons {q : Addr × Obj} {r : List (Addr × Obj)} {a b c : Addr} (h1 : q.1 ≠ a) (h2 : q.1 ≠ b) (h3 : q.1 ≠ c) (h : ∀ p ∈ r, p.1 ≠ a ∧ p.1 ≠ b ∧ p.1 ≠ c) : ∀ p ∈ q :: r, p.1 ≠ a ∧ p.1 ≠ b ∧ p.1 ≠ c := fun p hp => by
  rcases List.mem_cons.mp hp with rfl | hp
  · exact ⟨h1, h2, h3⟩
  · exact h p hp
end Mine
namespace Mine
theorem asksUpTo_len {ods : List Int} (h : ∀ o ∈ ods, 0 ≤ o ∧ o ≤ 32) : ∀ i, (asksUpTo ods i).length ≤ 6 * i
  | 0 => by simp [asksUpTo]
  | i + 1 => by
    have ih := asksUpTo_len h i
    unfold asksUpTo at ih ⊢
    rw [List.range_succ, List.flatMap_append, List.flatMap_singleton, List.length_append, List.length_map]
    have : (askRooms (ods[i]?.getD 0).toNat).length ≤ 6 := by
      have hr : (ods[i]?.getD 0).toNat ∈ List.range 33 := by
        rw [List.mem_range]
        cases e : ods[i]? with
        | none => simp
        | some o =>
          have := h o (List.mem_of_getElem? e)
          simp
          omega
      exact (askRooms_facts _ hr).2.1
    omega
theorem sub_else {la cT : Addr × Obj} {own rest : List (Addr × Obj)} : ∀ x ∈ own ++ la :: cT :: rest, x ∈ la :: cT :: (own ++ rest) := fun x hx => by
  simp only [List.mem_cons, List.mem_append] at hx ⊢
  rcases hx with h | h | h | h <;> simp [h]
end Mine
namespace Mine
theorem av_snoc (xs : List Ask) (T : Addr) (r th : Int) : av xs ++ [Value.ref T] = av (xs ++ [⟨T, r, th⟩]) := by simp [av]
theorem av_app (xs ys : List Ask) : av xs ++ av ys = av (xs ++ ys) := by simp [av]
end Mine
end

/-! ## P12 -/
section
open PySem PySem.W PyProof.Rows PySem.Calls PySem.Spec PySem.SeqAt
set_option maxRecDepth 100000
namespace Mine
theorem fill_P12 (w : World) : PySem.Challenge.rw_ik0178_01 = PySem.Challenge.rw_ik0178_01 ∧ heapK w.params = heapK w.params := by
  k_fill
  exact ⟨rfl, rfl⟩
section
variable {prog : Program} {w : World} {loose : List Str} {mean : ExcName → Option Value} {mg mb : Str → Option Value}
variable {dp un : Nat} {gd : Option (List Code)} {cn : Str} {cs : Scope} {a : Addr} {ccd : Value} {cl : List (Str × Addr)} {outer : List Env} {A₀ : Around} {base h₀ : Heap} {L : Addr} {m : Str → Option Value} {news : List (Addr × Obj)} {s : Shared} {Q E : Value → Shared → Prop}


local macro_rules | `(tactic| k_all) => `(tactic| assumption)
local macro_rules | `(tactic| k_mem) => `(tactic| assumption)
set_option maxHeartbeats 4000000 in
theorem asks_spec (B : Below A₀ base outer h₀) (F : Fr h₀ L s.heap m) (X : (heapK w.params).In h₀) (T : Top viewQ loose mean mg mb h₀) (hk : cs.kind = .function)
  (hdp : dp + 6 < recursionLimit) (hun : un + 48 < cLine) {ox : Addr} {ovs : List Value} {ods : List Int} {e0 : Nat}
  (N : News h₀ L s.heap news) (hax : (ox, listOf ovs.toArray e0) ∈ news) (hov : ∀ (i : Nat) v, ovs[i]? = some v → ∃ o t, ods[i]? = some o ∧ v = .int o t) (hol : ovs.length = ods.length) (hods : ∀ o ∈ ods, 0 ≤ o ∧ o ≤ 32) (hlen : ods.length ≤ 10)
  (hret : ∀ la al e h' tk' rest, al.map (fun x => (x.room, x.thing)) = asksUpTo ods ods.length → (∀ p ∈ news, p ∈ rest) → (∀ x ∈ al, AskIn rest x) → (∀ p ∈ rest, p.1 ≠ la) → Fr h₀ L h' m → News h₀ L h' ((la, listOf (av al).toArray e) :: rest) → Q (.ref la) { s with heap := h', toks := tk' }) :
  wpAny (model prog w) (ktrTop dp un gd cn cs L a ccd cl outer) (call (.ref 163) [.ref ox]) Q E s := by
  refine wpAny_call ?_
  k_dflt (refine' code_defC ?k1 ?k2 ?k3 ?k4 ?k5 ?kA ?kF ?kK ?k6 ?k7 ?k8 ?k9 ?kB ?kD ?_ ?c2 ?c3 ?c4; (case kA => exact rfl); (case kF => exact rfl); (case kK => assumption); (case k1 => k_asm); (case k2 => k_asm); (case k3 => k_asm); (case k4 => k_asm); (case k5 => k_asm); (case k6 => k_is); (case k7 => k_is); (case k8 => ktr_room); (case k9 => exact BindsTo.of_eq rfl); (case kB => exact rfl); (case kD => decide +kernel); (case c2 => exact rfl); (case c3 => exact rfl); (case c4 => exact rfl); k_whole; intro g' L' h' tk' cells' FG' F' N' Y' B' X' T' l1; (try k_lt l1); k_cells Y'; (try simp only [List.cons_append, List.nil_append] at N'); (try dsimp only); (try k_lift B'); (try k_fold))

  replace F' : Fr g' L' h' (chain [(Str.ofString "odds", Value.ref ox)] fun _ => none) := F'
  rename_i o1 o2 d1 d2
  replace d1 : o1.data = Data.cell none := d1
  replace d2 : o2.data = Data.cell none := d2
  have hoffC : ∀ p ∈ news, p.1 ≠ L' + 1 := fun p hp => Nat.ne_of_lt (Nat.lt_of_lt_of_le (l1 p hp) (Nat.le_succ _))
  have hoffC2 : ∀ p ∈ news, p.1 ≠ L' + 1 + 1 := fun p hp => Nat.ne_of_lt (Nat.lt_of_lt_of_le (l1 p hp) (Nat.le_add_right _ 2))
  (repeat' ((fail_if_success ((with_reducible show wpAny _ _ (storeName _ (Str.ofString "rooms") _) _ _ _))); (fail_if_success ((with_reducible show wpAny _ _ (call (Value.type "enumerate") _) _ _ _))); (fail_if_success ((with_reducible show wpAny _ _ (pyIter (Value.ref _)) _ _ _))); (first | (with_reducible ((k_here; (with_reducible show wpAny _ _ (inplaceOp _ (Value.ref _) (Value.ref _)) _ _ _); k_dflt (refine iadd_lists (by k_asm) (by k_asm) (by assumption) (by exact .head _) (by assumption) (by assumption) ?_; k_whole); intro h' F' N'))) | ((k_here; (with_reducible show wpAny _ _ (call (Value.builtin _) [Value.str _ _, Value.str _ _]) _ _ _); (refine KSpl.split1 (by k_asm) (by k_asm) (by decide) ?_ (by assumption)); intro Dw lw hw kw ew aw G₅ M₅ l5; (try k_lt l5))) | (with_reducible (((with_reducible show wpAny _ _ (eval (PySem.Expr.ListComp _ _ _ _) _) _ _ _); (k_here; k_dflt (refine ListComp_open (by with_unfolding_all rfl) (by rfl) (by decide) ?_ (by intro _; rfl)))))) | (with_reducible ((k_here; (with_reducible show wpAny _ _ (call (Value.ref 57) _) _ _ _); k_dflt (refine flags_call (by k_asm) (by k_asm) (by k_asm) (by k_asm) (by k_asm) rfl (by ktr_room) (by ktr_units) (by omega) (by omega) ?_); intro t' h' tk' F' N'))) | (((with_reducible show wpAny _ _ (exec (PySem.Stmt.For _ _ _ _ _) _) _ _ _); (k_here; (refine wpAny_For ?_ (by intro _; rfl))))) | (k_unfold; (try dsimp only)) | (k_end; wrow_close) | walk1 | (dsimp only; walk1) | (leave1; walk_say "STEP leave1"; try dsimp only) | fail "no step")))
  skip
  rename_i oR F₀ N₀ lo₁ hd₁ hf₁ ap₁ l2

  dsimp only at hd₁ hf₁ ⊢
  revert F₀ N₀ lo₁ hd₁ hf₁ ap₁ l2
  generalize h'.objs.size = dR
  intro F₀ N₀ lo₁ hd₁ hf₁ ap₁ l2
  k_dflt (refine' storeX_C F₀ N₀ ?c ?U ?d ?_ ?a ?b)
  case a => rfl
  case b => rfl
  case c => rfl
  case U => k_updF
  case d => k_asm
  k_whole
  intro h₂ oc F₁ N₁ dc
  (try dsimp only at N₁)
  clear F₀ N₀
  (repeat' ((fail_if_success ((with_reducible show wpAny _ _ (storeName _ (Str.ofString "rooms") _) _ _ _))); (fail_if_success ((with_reducible show wpAny _ _ (call (Value.type "enumerate") _) _ _ _))); (fail_if_success ((with_reducible show wpAny _ _ (pyIter (Value.ref _)) _ _ _))); (first | (with_reducible ((k_here; (with_reducible show wpAny _ _ (inplaceOp _ (Value.ref _) (Value.ref _)) _ _ _); k_dflt (refine iadd_lists (by k_asm) (by k_asm) (by assumption) (by exact .head _) (by assumption) (by assumption) ?_; k_whole); intro h' F' N'))) | ((k_here; (with_reducible show wpAny _ _ (call (Value.builtin _) [Value.str _ _, Value.str _ _]) _ _ _); (refine KSpl.split1 (by k_asm) (by k_asm) (by decide) ?_ (by assumption)); intro Dw lw hw kw ew aw G₅ M₅ l5; (try k_lt l5))) | (with_reducible (((with_reducible show wpAny _ _ (eval (PySem.Expr.ListComp _ _ _ _) _) _ _ _); (k_here; k_dflt (refine ListComp_open (by with_unfolding_all rfl) (by rfl) (by decide) ?_ (by intro _; rfl)))))) | (with_reducible ((k_here; (with_reducible show wpAny _ _ (call (Value.ref 57) _) _ _ _); k_dflt (refine flags_call (by k_asm) (by k_asm) (by k_asm) (by k_asm) (by k_asm) rfl (by ktr_room) (by ktr_units) (by omega) (by omega) ?_); intro t' h' tk' F' N'))) | (((with_reducible show wpAny _ _ (exec (PySem.Stmt.For _ _ _ _ _) _) _ _ _); (k_here; (refine wpAny_For ?_ (by intro _; rfl))))) | (k_unfold; (try dsimp only)) | (k_end; wrow_close) | walk1 | (dsimp only; walk1) | (leave1; walk_say "STEP leave1"; try dsimp only) | fail "no step")))
  skip
  (rename Fr _ _ _ _ => F₂)
  (rename News _ _ _ _ => N₂)
  (rename _ ∧ _ ∧ _ ∧ AllLt _ news => l3)
  refine for_enum (vs := ovs) rfl F₂ (news_sub N₂ sub_23) (.tail _ (.tail _ (.tail _ (.tail _ hax))))
    (fun i m₁ news₁ => ∃ al la e oT v rest, m₁ (Str.ofString "asks") = some (.ref la) ∧ news₁ = (la, listOf (av al).toArray e) :: (L' + 1 + 1, oT) :: rest ∧ oT.data = Data.cell v ∧ (∀ p ∈ (dR, oR) :: (L' + 1, oc) :: news, p ∈ rest) ∧
      la ≠ L' + 1 + 1 ∧ (∀ p ∈ rest, p.1 ≠ la ∧ p.1 ≠ L' + 1 + 1) ∧ (∀ x ∈ al, AskIn rest x) ∧ al.map (fun x => (x.room, x.thing)) = asksUpTo ods i) ?_ ?_ ?_
  · refine ⟨[], _, _, o1, _, (dR, oR) :: (L' + 1, oc) :: news, rfl, rfl, d1, fun p hp => hp, ?_, ?_, List.forall_mem_nil _, rfl⟩
    · exact Nat.ne_of_gt l3.2.1
    · refine off2_cons (Nat.ne_of_lt l3.1) (Nat.ne_of_gt l2.1) (off2_cons (Nat.ne_of_lt l3.2.2.1) (Nat.ne_of_lt (Nat.lt_succ_self _)) fun p hp => ⟨Nat.ne_of_lt (allLt_mem l3.2.2.2 p hp), hoffC2 p hp⟩)
  · rintro i v T t m₁ news₁ wr own h₁ tk₁ hvi hT ⟨al, la, e, oT, vT, rest, m1, rfl, dT, hsub, hlaT, hoffr, hain, hal⟩ hm hoffw hown hwo G₁ M₁
    refine hideB fun Z1 hZ1 => ?_
    obtain ⟨o, to, ho, rfl⟩ := hov i v hvi
    have ho32 := hods o (List.mem_of_getElem? ho)
    refine wpAny_assign_Tuple rfl hT rfl rfl fun h₃ he₃ => ?_
    have up₃ : ∀ c o, h₁.get? c = some o → h₃.get? c = some o := fun c o e => he₃ c o (Nat.ne_of_lt (Heap.lt_size e)) e
    have G₂ := fr_chain [(Str.ofString "asks", .ref la)] (Fr.keeps G₁ up₃) (allc m1 alln)
    have M₂ := news_sub (News.grown M₁ up₃) (sub_own (own := own))
    have hoffo : ∀ p ∈ own ++ rest, p.1 ≠ la := fun p hp => by
      rcases List.mem_append.mp hp with hp | hp
      · exact fun h => hoffw _ (.head _) (h ▸ hown p hp)
      · exact (hoffr p hp).1
    have hoffT : ∀ p ∈ own ++ rest, p.1 ≠ L' + 1 + 1 := fun p hp => by
      rcases List.mem_append.mp hp with hp | hp
      · exact fun h => hoffw _ (.tail _ (.head _)) (h ▸ hown p hp)
      · exact (hoffr p hp).2
    have hlaT' : @Ne Nat la (L' + 1 + 1) := hlaT
    clear G₁ M₁ m1 F₂ N₂
    show wpAny _ _ (assignInOrder [_, _] [_, _]) _ _ _
    have hfl : (flagText o.toNat).length + 2 ≤ sizeLine := by
      have := flags_len o.toNat (List.mem_range.mpr (by omega))
      have := sizeLine_eq
      omega
    by_cases h0 : 0 < o
    · (repeat' ((fail_if_success ((with_reducible show wpAny _ _ (storeName _ (Str.ofString "rooms") _) _ _ _))); (fail_if_success ((with_reducible show wpAny _ _ (call (Value.type "enumerate") _) _ _ _))); (fail_if_success ((with_reducible show wpAny _ _ (pyIter (Value.ref _)) _ _ _))); (first | (with_reducible ((k_here; (with_reducible show wpAny _ _ (inplaceOp _ (Value.ref _) (Value.ref _)) _ _ _); k_dflt (refine iadd_lists (by k_asm) (by k_asm) (by assumption) (by exact .head _) (by assumption) (by assumption) ?_; k_whole); intro h' F' N'))) | ((k_here; (with_reducible show wpAny _ _ (call (Value.builtin _) [Value.str _ _, Value.str _ _]) _ _ _); (refine KSpl.split1 (by k_asm) (by k_asm) (by decide) ?_ (by assumption)); intro Dw lw hw kw ew aw G₅ M₅ l5; (try k_lt l5))) | (with_reducible (((with_reducible show wpAny _ _ (eval (PySem.Expr.ListComp _ _ _ _) _) _ _ _); (k_here; k_dflt (refine ListComp_open (by with_unfolding_all rfl) (by rfl) (by decide) ?_ (by intro _; rfl)))))) | (with_reducible ((k_here; (with_reducible show wpAny _ _ (call (Value.ref 57) _) _ _ _); k_dflt (refine flags_call (by k_asm) (by k_asm) (by k_asm) (by k_asm) (by k_asm) rfl (by ktr_room) (by ktr_units) (by omega) (by omega) ?_); intro t' h' tk' F' N'))) | (((with_reducible show wpAny _ _ (exec (PySem.Stmt.For _ _ _ _ _) _) _ _ _); (k_here; (refine wpAny_For ?_ (by intro _; rfl))))) | (k_unfold; (try dsimp only)) | (k_end; wrow_close) | walk1 | (dsimp only; walk1) | (leave1; walk_say "STEP leave1"; try dsimp only) | fail "no step")))
      skip
      (rename Obj => oT')
      (rename _ = Data.cell (some (Value.int _ _)) => dT')
      have hon : o.toNat ∈ List.range 33 := List.mem_range.mpr (by omega)
      have hfs := flags_split _ hon (by omega)
      obtain ⟨_, har6, harp, harne⟩ := askRooms_facts _ hon
      rw [ew, hfs] at aw
      generalize strValues lw = ws at aw M₅
      have hwl : ws.length = (askRooms o.toNat).length := by rw [strsAre_len aw, List.length_map]
      refine comp_list (vs := ws) rfl G₅ M₅ (.head _) (by omega) (by decide) rfl (fun j m'' => ∀ v, ws[j]? = some v → m'' (Str.ofString "word") = some v)
        (fun j ys news₂ => ∃ (xs : List Ask) (nt : List (Addr × Obj)), ys = av xs ∧ news₂ = nt ++ ((Dw, listOf ws.toArray 0) :: (la, listOf (av al).toArray e) :: (L' + 1 + 1, oT') :: (own ++ rest)) ∧ (∀ p ∈ nt, p.1 ≠ la ∧ p.1 ≠ L' + 1 + 1 ∧ p.1 ∉ wr) ∧ (∀ x ∈ xs, AskIn nt x) ∧
          xs.map (fun x => (x.room, x.thing)) = ((askRooms o.toNat).take j).map fun r => (r, (i : Int))) ⟨[], [], rfl, rfl, List.forall_mem_nil _, List.forall_mem_nil _, rfl⟩ ?_ ?_ ?_
      · intro j v C ys news₂ s' m' Q' hv hJ _ hn hq
        exact asg_name rfl rfl hn fun h' tk hn' hk => hq h' tk _ hn' (fun v' hv' => by rw [hv] at hv'; cases hv'; rfl) hk
      · rintro j v ys news₂ I oI C oC D' m₂ h₄ tk₄ hvj ⟨xs, nt, rfl, rfl, hntoff, hxs, hxm⟩ hm₂ hBd hNs G₆ M₆ off₆ ne₆
        refine wpAny_tests_nil ?_
        simp only [if_true]
        obtain ⟨y, ty, hy, rfl⟩ := strsAre_get aw j v hvj
        obtain ⟨r, hr, rfl⟩ : ∃ r, (askRooms o.toNat)[j]? = some r ∧ wordOf r = y := by simpa using hy
        have hbv := hBd _ hvj
        have hrp := harp r (List.mem_of_getElem? hr)
        have hmC : (L' + 1, oc) ∈ nt ++ ((Dw, listOf ws.toArray 0) :: (la, listOf (av al).toArray e) :: (L' + 1 + 1, oT') :: (own ++ rest)) := List.mem_append_right nt (.tail _ (.tail _ (.tail _ (List.mem_append_right own (hsub _ (.tail _ (.head _)))))))
        have hmR : (dR, oR) ∈ nt ++ ((Dw, listOf ws.toArray 0) :: (la, listOf (av al).toArray e) :: (L' + 1 + 1, oT') :: (own ++ rest)) := List.mem_append_right nt (.tail _ (.tail _ (.tail _ (List.mem_append_right own (hsub _ (.head _))))))
        have hmT : (L' + 1 + 1, oT') ∈ nt ++ ((Dw, listOf ws.toArray 0) :: (la, listOf (av al).toArray e) :: (L' + 1 + 1, oT') :: (own ++ rest)) := List.mem_append_right nt (.tail _ (.tail _ (.head _)))
        have hlt₄ := fun p hp => Heap.lt_size (M₆ p hp).1
        rcases pows_cases hrp with hk1 | hk1 | hk1 | hk1 | hk1 | hk1
        all_goals (
          rw [hk1] at hbv
          refine hideQ fun Z2 E2 hZ2 => ?_
          (repeat' ((fail_if_success ((with_reducible show wpAny _ _ (storeName _ (Str.ofString "rooms") _) _ _ _))); (fail_if_success ((with_reducible show wpAny _ _ (call (Value.type "enumerate") _) _ _ _))); (fail_if_success ((with_reducible show wpAny _ _ (pyIter (Value.ref _)) _ _ _))); (first | (with_reducible ((k_here; (with_reducible show wpAny _ _ (inplaceOp _ (Value.ref _) (Value.ref _)) _ _ _); k_dflt (refine iadd_lists (by k_asm) (by k_asm) (by assumption) (by exact .head _) (by assumption) (by assumption) ?_; k_whole); intro h' F' N'))) | ((k_here; (with_reducible show wpAny _ _ (call (Value.builtin _) [Value.str _ _, Value.str _ _]) _ _ _); (refine KSpl.split1 (by k_asm) (by k_asm) (by decide) ?_ (by assumption)); intro Dw lw hw kw ew aw G₅ M₅ l5; (try k_lt l5))) | (with_reducible (((with_reducible show wpAny _ _ (eval (PySem.Expr.ListComp _ _ _ _) _) _ _ _); (k_here; k_dflt (refine ListComp_open (by with_unfolding_all rfl) (by rfl) (by decide) ?_ (by intro _; rfl)))))) | (with_reducible ((k_here; (with_reducible show wpAny _ _ (call (Value.ref 57) _) _ _ _); k_dflt (refine flags_call (by k_asm) (by k_asm) (by k_asm) (by k_asm) (by k_asm) rfl (by ktr_room) (by ktr_units) (by omega) (by omega) ?_); intro t' h' tk' F' N'))) | (((with_reducible show wpAny _ _ (exec (PySem.Stmt.For _ _ _ _ _) _) _ _ _); (k_here; (refine wpAny_For ?_ (by intro _; rfl))))) | (k_unfold; (try dsimp only)) | (k_end; wrow_close) | walk1 | (dsimp only; walk1) | (leave1; walk_say "STEP leave1"; try dsimp only) | fail "no step")))
          (rename Fr _ _ _ _ => G₇)
          (rename News _ _ _ _ => M₇)
          refine hZ2 _ _ ⟨_, _, _, _ :: (nt ++ _), rfl, G₇, M₇, sub_rot3, fun p hp => by rw [List.mem_singleton.mp hp]; exact .tail _ hm₂, ?_, xs ++ [⟨h₄.objs.size, r, i⟩], _ :: nt, ?_, rfl, ?_, ?_, ?_⟩
          · exact off3_cons (Nat.ne_of_gt (hlt₄ (I, oI) (.head _))) (Nat.ne_of_gt (hlt₄ (C, oC) (.tail _ (.head _)))) (Nat.ne_of_gt (hlt₄ _ (.tail _ (.tail _ (.head _))))) off₆
          · exact av_snoc xs _ r i
          · intro p hp
            rcases List.mem_cons.mp hp with rfl | hp
            · refine ⟨Nat.ne_of_gt (hlt₄ (la, _) (.tail _ (.tail _ (.tail _ (List.mem_append_right nt (.tail _ (.head _))))))), Nat.ne_of_gt (hlt₄ (L' + 1 + 1, oT') (.tail _ (.tail _ (.tail _ hmT)))), fun h => ?_⟩
              obtain ⟨o', ho'⟩ := hwo _ h
              exact Nat.lt_irrefl _ (hlt₄ (_, o') (.tail _ (.tail _ (.tail _ (List.mem_append_right nt (.tail _ (.tail _ (.tail _ (List.mem_append_left rest ho')))))))))
            · exact hntoff p hp
          · intro x hx
            rcases List.mem_append.mp hx with hx | hx
            · exact (hxs x hx).mono fun p hp => .tail _ hp
            · rw [List.mem_singleton.mp hx, hk1]
              exact ⟨_, _, _, .head _⟩
          · rw [List.take_add_one, hr, List.map_append, List.map_append, hxm]
            rfl)
      · rintro D' C oC m' ys news₂ h₄ tk₄ ⟨xs, nt, rfl, rfl, hntoff, hxs, hxm⟩ hm₂ G₆ M₆ hNs off₆ offC
        rw [hwl, List.take_length] at hxm
        have hxl : xs.length = (askRooms o.toNat).length := by have := congrArg List.length hxm; rwa [List.length_map, List.length_map] at this
        have hxne : av xs ≠ [] := fun h => harne (by omega) (List.length_eq_zero_iff.mp (by rw [← hxl]; simpa using h))
        have hall : al.length ≤ 60 := by
          have := congrArg List.length hal
          rw [List.length_map] at this
          have := asksUpTo_len hods i
          have := (List.getElem?_eq_some_iff.mp ho).1
          omega
        have hxz : (av al).length + (av xs).length ≤ 1000 := by
          rw [List.length_map, List.length_map]
          omega
        have hDla : D' ≠ la := Ne.symm (off₆ (la, _) (List.mem_append_right nt (.tail _ (.head _))))
        refine comp_out G₆ M₆ hNs offC fun h' F' N' => ?_
        have M₇ := news_sub N' sub_asks
        have hoff7 : ∀ p ∈ (D', listOf (av xs).toArray (av xs).length) :: (L' + 1 + 1, oT') :: (nt ++ (own ++ rest)), p.1 ≠ la := off_cons hDla (off_cons (Ne.symm hlaT) fun p hp => by
          rcases List.mem_append.mp hp with hp | hp
          · exact (hntoff p hp).1
          · exact hoffo p hp)
        clear N' M₆
        have hav := av_app al xs
        (repeat' ((fail_if_success ((with_reducible show wpAny _ _ (storeName _ (Str.ofString "rooms") _) _ _ _))); (fail_if_success ((with_reducible show wpAny _ _ (call (Value.type "enumerate") _) _ _ _))); (fail_if_success ((with_reducible show wpAny _ _ (pyIter (Value.ref _)) _ _ _))); (first | (with_reducible ((k_here; (with_reducible show wpAny _ _ (inplaceOp _ (Value.ref _) (Value.ref _)) _ _ _); k_dflt (refine iadd_lists (by k_asm) (by k_asm) (by assumption) (by exact .head _) (by assumption) (by assumption) ?_; k_whole); intro h' F' N'))) | ((k_here; (with_reducible show wpAny _ _ (call (Value.builtin _) [Value.str _ _, Value.str _ _]) _ _ _); (refine KSpl.split1 (by k_asm) (by k_asm) (by decide) ?_ (by assumption)); intro Dw lw hw kw ew aw G₅ M₅ l5; (try k_lt l5))) | (with_reducible (((with_reducible show wpAny _ _ (eval (PySem.Expr.ListComp _ _ _ _) _) _ _ _); (k_here; k_dflt (refine ListComp_open (by with_unfolding_all rfl) (by rfl) (by decide) ?_ (by intro _; rfl)))))) | (with_reducible ((k_here; (with_reducible show wpAny _ _ (call (Value.ref 57) _) _ _ _); k_dflt (refine flags_call (by k_asm) (by k_asm) (by k_asm) (by k_asm) (by k_asm) rfl (by ktr_room) (by ktr_units) (by omega) (by omega) ?_); intro t' h' tk' F' N'))) | (((with_reducible show wpAny _ _ (exec (PySem.Stmt.For _ _ _ _ _) _) _ _ _); (k_here; (refine wpAny_For ?_ (by intro _; rfl))))) | (k_unfold; (try dsimp only)) | (k_end; wrow_close) | walk1 | (dsimp only; walk1) | (leave1; walk_say "STEP leave1"; try dsimp only) | fail "no step")))
        (rename Fr _ _ _ _ => G₇)
        (rename News _ _ _ _ => M₈)
        rw [hav] at M₈
        refine hZ1 _ _ ⟨_, _, _, _, _, rfl, G₇, M₈, sub_asks2, fun p hp => by rw [List.mem_singleton.mp hp]; exact .tail _ (.tail _ (List.mem_append_right nt (hsub _ (.tail _ (.tail _ hax))))), ?_, al ++ xs, la, _, _, _, nt ++ rest, rfl, rfl, dT', fun p hp => List.mem_append_right nt (hsub p hp), hlaT, ?_, ?_, ?_⟩
        · exact fun p hp => by
            rcases List.mem_cons.mp hp with rfl | hp
            · exact hoffw (la, listOf (av al).toArray e) (.head _)
            rcases List.mem_cons.mp hp with rfl | hp
            · exact hoffw (_, oT) (.tail _ (.head _))
            rcases List.mem_append.mp hp with hp | hp
            · exact (hntoff p hp).2.2
            · exact hoffw p (.tail _ (.tail _ hp))
        · intro p hp
          rcases List.mem_append.mp hp with hp | hp
          · exact ⟨(hntoff p hp).1, (hntoff p hp).2.1⟩
          · exact hoffr p hp
        · intro x hx
          rcases List.mem_append.mp hx with hx | hx
          · exact (hain x hx).mono fun p hp => List.mem_append_right nt hp
          · exact (hxs x hx).mono fun p hp => List.mem_append_left rest hp
        · rw [List.map_append, hal, hxm, asksUpTo_succ ho]
    · (repeat' ((fail_if_success ((with_reducible show wpAny _ _ (storeName _ (Str.ofString "rooms") _) _ _ _))); (fail_if_success ((with_reducible show wpAny _ _ (call (Value.type "enumerate") _) _ _ _))); (fail_if_success ((with_reducible show wpAny _ _ (pyIter (Value.ref _)) _ _ _))); (first | (with_reducible ((k_here; (with_reducible show wpAny _ _ (inplaceOp _ (Value.ref _) (Value.ref _)) _ _ _); k_dflt (refine iadd_lists (by k_asm) (by k_asm) (by assumption) (by exact .head _) (by assumption) (by assumption) ?_; k_whole); intro h' F' N'))) | ((k_here; (with_reducible show wpAny _ _ (call (Value.builtin _) [Value.str _ _, Value.str _ _]) _ _ _); (refine KSpl.split1 (by k_asm) (by k_asm) (by decide) ?_ (by assumption)); intro Dw lw hw kw ew aw G₅ M₅ l5; (try k_lt l5))) | (with_reducible (((with_reducible show wpAny _ _ (eval (PySem.Expr.ListComp _ _ _ _) _) _ _ _); (k_here; k_dflt (refine ListComp_open (by with_unfolding_all rfl) (by rfl) (by decide) ?_ (by intro _; rfl)))))) | (with_reducible ((k_here; (with_reducible show wpAny _ _ (call (Value.ref 57) _) _ _ _); k_dflt (refine flags_call (by k_asm) (by k_asm) (by k_asm) (by k_asm) (by k_asm) rfl (by ktr_room) (by ktr_units) (by omega) (by omega) ?_); intro t' h' tk' F' N'))) | (((with_reducible show wpAny _ _ (exec (PySem.Stmt.For _ _ _ _ _) _) _ _ _); (k_here; (refine wpAny_For ?_ (by intro _; rfl))))) | (k_unfold; (try dsimp only)) | (k_end; wrow_close) | walk1 | (dsimp only; walk1) | (leave1; walk_say "STEP leave1"; try dsimp only) | fail "no step")))
      (rename Fr _ _ _ _ => G₃)
      (rename News _ _ _ _ => M₃)
      refine hZ1 _ _ ⟨_, _, _, _, _, rfl, G₃, M₃, sub_else, fun p hp => by rw [List.mem_singleton.mp hp]; exact .tail _ (.tail _ (hsub _ (.tail _ (.tail _ hax)))), ?_, al, la, e, _, _, rest, rfl, rfl, by assumption, hsub, hlaT, hoffr, hain, ?_⟩
      · exact fun p hp => by
          rcases List.mem_cons.mp hp with rfl | hp
          · exact hoffw _ (.head _)
          rcases List.mem_cons.mp hp with rfl | hp
          · exact hoffw (_, oT) (.tail _ (.head _))
          · exact hoffw p (.tail _ (.tail _ hp))
      · have h0' : o.toNat = 0 := by omega
        rw [asksUpTo_succ ho, h0', askRooms_zero, hal]
        simp
  · rintro m₁ news₁ h₁ tk₁ ⟨al, la, e, oT, vT, rest, m1, rfl, dT, hsub, hlaT, hoffr, hain, hal⟩ hm G₁ M₁
    have G₂ := fr_chain [(Str.ofString "asks", .ref la)] G₁ (allc m1 alln)
    clear G₁ m1
    rw [hol] at hal
    (repeat' ((fail_if_success ((with_reducible show wpAny _ _ (storeName _ (Str.ofString "rooms") _) _ _ _))); (fail_if_success ((with_reducible show wpAny _ _ (call (Value.type "enumerate") _) _ _ _))); (fail_if_success ((with_reducible show wpAny _ _ (pyIter (Value.ref _)) _ _ _))); (first | (with_reducible ((k_here; (with_reducible show wpAny _ _ (inplaceOp _ (Value.ref _) (Value.ref _)) _ _ _); k_dflt (refine iadd_lists (by k_asm) (by k_asm) (by assumption) (by exact .head _) (by assumption) (by assumption) ?_; k_whole); intro h' F' N'))) | ((k_here; (with_reducible show wpAny _ _ (call (Value.builtin _) [Value.str _ _, Value.str _ _]) _ _ _); (refine KSpl.split1 (by k_asm) (by k_asm) (by decide) ?_ (by assumption)); intro Dw lw hw kw ew aw G₅ M₅ l5; (try k_lt l5))) | (with_reducible (((with_reducible show wpAny _ _ (eval (PySem.Expr.ListComp _ _ _ _) _) _ _ _); (k_here; k_dflt (refine ListComp_open (by with_unfolding_all rfl) (by rfl) (by decide) ?_ (by intro _; rfl)))))) | (with_reducible ((k_here; (with_reducible show wpAny _ _ (call (Value.ref 57) _) _ _ _); k_dflt (refine flags_call (by k_asm) (by k_asm) (by k_asm) (by k_asm) (by k_asm) rfl (by ktr_room) (by ktr_units) (by omega) (by omega) ?_); intro t' h' tk' F' N'))) | (((with_reducible show wpAny _ _ (exec (PySem.Stmt.For _ _ _ _ _) _) _ _ _); (k_here; (refine wpAny_For ?_ (by intro _; rfl))))) | (k_unfold; (try dsimp only)) | (k_end; wrow_close) | walk1 | (dsimp only; walk1) | (leave1; walk_say "STEP leave1"; try dsimp only) | fail "no step")))
    exact hret la al e _ _ (_ :: rest) hal (fun p hp => .tail _ (hsub _ (.tail _ (.tail _ hp)))) (fun x hx => (hain x hx).mono fun p hp => .tail _ hp) (off_cons (Ne.symm hlaT) fun p hp => (hoffr p hp).1) (by k_asm) (by k_asm)
end
end Mine
end

/-! ## L20 -/
section
open PySem PySem.W PyProof.Rows PySem.Calls PySem.Spec PySem.SeqAt
set_option maxRecDepth 100000
namespace Mine
def valOf (l : List Bool) : Nat := l.foldl (fun a b => 2 * a + (if b then 1 else 0)) 0
theorem valOf_aux (l : List Bool) : ∀ a, l.foldl (fun a b => 2 * a + (if b then 1 else 0)) a = a * 2 ^ l.length + valOf l := by
  induction l with
  | nil => intro a; simp [valOf]
  | cons b r ih =>
    intro a
    simp only [List.foldl_cons, valOf, List.length_cons]
    rw [ih, ih]
    simp only [valOf]
    rw [Nat.pow_succ]
    generalize 2 ^ r.length = q
    cases b <;> grind
theorem valOf_cons (b : Bool) (l : List Bool) : valOf (b :: l) = (if b then 2 ^ l.length else 0) + valOf l := by
  show List.foldl _ _ l = _
  rw [valOf_aux]
  cases b <;> simp
theorem path_nil : pathStr [] = Str.ofString "/" := by decide +kernel
theorem path_ne {l : List Bool} (h : l.length ≤ 5) (h0 : l ≠ []) : (pathStr l != Str.ofString "/") = true := by
  have : ∀ l ∈ upTo 5, l ≠ [] → (pathStr l != Str.ofString "/") = true := by decide +kernel
  exact this l (mem_upTo h) h0
theorem path_eq : (pathStr [] != Str.ofString "/") = false := by decide +kernel
theorem pow_int (n : Nat) : ((2 ^ n : Nat) : Int) * 2 = ((2 ^ (n + 1) : Nat) : Int) := by
  rw [Nat.pow_succ]; omega
theorem div_pow {n : Nat} (h : n ≤ 5) : (32 : Int).fdiv ((2 ^ n : Nat) : Int) = ((2 ^ (5 - n) : Nat) : Int) ∧ ((2 ^ n : Nat) : Int) ≠ 0 ∧ 2 ^ (5 - n) ≤ 32 := by
  have : ∀ n ∈ List.range 6, (32 : Int).fdiv ((2 ^ n : Nat) : Int) = ((2 ^ (5 - n) : Nat) : Int) ∧ ((2 ^ n : Nat) : Int) ≠ 0 ∧ 2 ^ (5 - n) ≤ 32 := by decide
  exact this n (List.mem_range.mpr (by omega))
theorem intsAre_snoc {vs : List Value} {ns : List Int} {n : Int} {t : Tok} (h : IntsAre vs ns) : IntsAre (vs ++ [.int n t]) (ns ++ [n]) := by
  induction h with
  | nil => exact .cons n t .nil
  | cons k t h ih => exact .cons k t ih
theorem intsAre_len {vs : List Value} {ns : List Int} (h : IntsAre vs ns) : vs.length = ns.length := by
  induction h with
  | nil => rfl
  | cons n t h ih => simp [ih]
theorem intsAre_get {vs : List Value} {ns : List Int} (h : IntsAre vs ns) : ∀ (i : Nat) v, vs[i]? = some v → ∃ n t, ns[i]? = some n ∧ v = .int n t := by
  induction h with
  | nil => intro i v hv; simp at hv
  | cons n t h ih =>
    intro i v hv
    cases i with
    | zero => simp at hv; exact ⟨n, t, by simp, hv.symm⟩
    | succ i => simp only [List.getElem?_cons_succ] at hv ⊢; exact ih i v hv
def rowsUpTo (l : List Bool) (n : Nat) : List Int := (List.range n).map fun (r : Nat) => ((2 ^ (5 - l.length) : Nat) : Int) * ((valOf l : Nat) : Int) + (r : Int)
theorem rowsUpTo_succ (l : List Bool) (n : Nat) : rowsUpTo l (n + 1) = rowsUpTo l n ++ [((2 ^ (5 - l.length) : Nat) : Int) * ((valOf l : Nat) : Int) + (n : Int)] := by
  unfold rowsUpTo
  rw [List.range_succ, List.map_append]
  rfl
theorem rowsUpTo_all (l : List Bool) : rowsUpTo l (2 ^ (5 - l.length)) = (rowsOf l).map fun (n : Nat) => (n : Int) := by
  unfold rowsUpTo rowsOf
  rw [List.map_map]
  apply List.map_congr_left
  intro r _
  simp only [Function.comp, valOf]
  push_cast
  rfl
end Mine
namespace Mine
section
variable {prog : Program} {w : World} {A : Around} {E : Value → Shared → Prop} {s : Shared}
theorem fdiv_pow {n : Nat} {t u : Tok} {Q : Value → Shared → Prop} (hn : n ≤ 5) (h : Q (.int ((2 ^ (5 - n) : Nat) : Int) s.toks) { s with toks := s.toks + 1 }) : wpAny (model prog w) A (binaryOp .FloorDiv (.int 32 t) (.int ((2 ^ n : Nat) : Int) u)) Q E s := by
  obtain ⟨h1, h2, _⟩ := div_pow hn
  refine floordiv_int h2 (by rw [h1]; exact h) (Or.inl (PyProof.noPylong_of_log2 ?_))
  have : ∀ n ∈ List.range 6, ((2 ^ n : Nat) : Int).natAbs.log2 < 9000 := by decide +kernel
  exact this n (List.mem_range.mpr (by omega))
end
end Mine
namespace Mine
theorem range_pow {n : Nat} (hn : n ≤ 5) : Builtin.Range.small 0 ((2 ^ (5 - n) : Nat) : Int) 1 = true ∧ Builtin.Range.rangeSize 0 ((2 ^ (5 - n) : Nat) : Int) 1 = ((2 ^ (5 - n) : Nat) : Int) := by
  have : ∀ n ∈ List.range 6, Builtin.Range.small 0 ((2 ^ (5 - n) : Nat) : Int) 1 = true ∧ Builtin.Range.rangeSize 0 ((2 ^ (5 - n) : Nat) : Int) 1 = ((2 ^ (5 - n) : Nat) : Int) := by decide +kernel
  exact this n (List.mem_range.mpr (by omega))
end Mine
end

/-! ## P13 -/
section
open PySem PySem.W PyProof.Rows PySem.Calls PySem.Spec PySem.SeqAt
set_option maxRecDepth 100000
namespace Mine
theorem fill_P13 (w : World) : PySem.Challenge.rw_ik0178_01 = PySem.Challenge.rw_ik0178_01 ∧ heapK w.params = heapK w.params := by
  k_fill
  exact ⟨rfl, rfl⟩
section
variable {prog : Program} {w : World} {loose : List Str} {mean : ExcName → Option Value} {mg mb : Str → Option Value}
variable {dp un : Nat} {gd : Option (List Code)} {cn : Str} {cs : Scope} {a : Addr} {ccd : Value} {cl : List (Str × Addr)} {outer : List Env} {A₀ : Around} {base h₀ : Heap} {L : Addr} {m : Str → Option Value} {news : List (Addr × Obj)} {s : Shared} {Q E : Value → Shared → Prop}


local macro_rules | `(tactic| k_all) => `(tactic| assumption)
local macro_rules | `(tactic| k_mem) => `(tactic| assumption)
set_option maxHeartbeats 4000000 in
theorem begun_spec (B : Below A₀ base outer h₀) (F : Fr h₀ L s.heap m) (X : (heapK w.params).In h₀) (T : Top viewQ loose mean mg mb h₀) (hk : cs.kind = .function)
  (hdp : dp + 6 < recursionLimit) (hun : un + 48 < cLine) {bits : List Bool} {tp : Tok} (hbl : bits.length ≤ 5)
  (N : News h₀ L s.heap news)
  (hret : ∀ l vs e h' tk', IntsAre vs ((rowsOf bits).map fun (n : Nat) => (n : Int)) → Fr h₀ L h' m → News h₀ L h' ((l, listOf vs.toArray e) :: news) → (∀ p ∈ news, p.1 ≠ l) → Q (.ref l) { s with heap := h', toks := tk' }) :
  wpAny (model prog w) (ktrTop dp un gd cn cs L a ccd cl outer) (call (.ref 180) [.str (pathStr bits) tp]) Q E s := by
  refine wpAny_call ?_
  k_dflt (refine' code_defC ?k1 ?k2 ?k3 ?k4 ?k5 ?kA ?kF ?kK ?k6 ?k7 ?k8 ?k9 ?kB ?kD ?_ ?c2 ?c3 ?c4; (case kA => exact rfl); (case kF => exact rfl); (case kK => assumption); (case k1 => k_asm); (case k2 => k_asm); (case k3 => k_asm); (case k4 => k_asm); (case k5 => k_asm); (case k6 => k_is); (case k7 => k_is); (case k8 => ktr_room); (case k9 => exact BindsTo.of_eq rfl); (case kB => exact rfl); (case kD => decide +kernel); (case c2 => exact rfl); (case c3 => exact rfl); (case c4 => exact rfl); k_whole; intro g' L' h' tk' cells' FG' F' N' Y' B' X' T' l1; (try k_lt l1); k_cells Y'; (try simp only [List.cons_append, List.nil_append] at N'); (try dsimp only); (try k_lift B'); (try k_fold))

  replace F' : Fr g' L' h' (chain [(Str.ofString "path", Value.str (pathStr bits) tp)] fun _ => none) := F'
  rename_i o1 o2 d1 d2
  replace d1 : o1.data = Data.cell none := d1
  replace d2 : o2.data = Data.cell none := d2
  have hoffC : ∀ p ∈ news, p.1 ≠ L' + 1 := fun p hp => Nat.ne_of_lt (Nat.lt_of_lt_of_le (l1 p hp) (Nat.le_succ _))
  have hoffC2 : ∀ p ∈ news, p.1 ≠ L' + 1 + 1 := fun p hp => Nat.ne_of_lt (Nat.lt_of_lt_of_le (l1 p hp) (Nat.le_add_right _ 2))
  (repeat' ((fail_if_success ((with_reducible show wpAny _ _ (exec (PySem.Stmt.While _ _ _ _) _) _ _ _))); (fail_if_success ((with_reducible show wpAny _ _ (pyIter (Value.ref _)) _ _ _))); (first | (with_reducible ((k_here; (with_reducible show wpAny _ _ (binaryOp Operator.Mult (Value.int _ _) (Value.int _ _)) _ _ _); k_dflt (refine PyProof.Rows.mul_int ?_ (by assumption); k_whole)))) | (with_reducible ((k_here; (with_reducible show wpAny _ _ (binaryOp Operator.FloorDiv (Value.int _ _) (Value.int _ _)) _ _ _); k_dflt (refine fdiv_pow (by assumption) ?_; k_whole)))) | (with_reducible (((with_reducible show wpAny _ _ (eval (PySem.Expr.ListComp _ _ _ _) _) _ _ _); (k_here; k_dflt (refine ListComp_open (by with_unfolding_all rfl) (by rfl) (by decide) ?_ (by intro _; rfl)))))) | (with_reducible ((k_here; (with_reducible show wpAny _ _ (call (Value.ref 158) _) _ _ _); k_dflt (refine split_spec (by k_asm) (by k_asm) (by k_asm) (by k_asm) (by k_asm) rfl (by ktr_room) (by ktr_units) (by assumption) (by assumption) ?_); intro D' t' u' h' tk' F' N' l1; (try k_lt l1)))) | (((with_reducible show wpAny _ _ (exec (PySem.Stmt.For _ _ _ _ _) _) _ _ _); (k_here; (refine wpAny_For ?_ (by intro _; rfl))))) | (k_unfold; (try dsimp only)) | (k_end; wrow_close) | walk1 | (dsimp only; walk1) | (leave1; walk_say "STEP leave1"; try dsimp only) | fail "no step")))
  skip
  (rename Fr _ _ _ _ => F₁)
  (rename News _ _ _ _ => N₁)
  refine While_brk (fun k m₁ news₁ => ∃ pre suf oP oW tP tl tw, bits = pre ++ suf ∧ pre.length = k ∧ m₁ (Str.ofString "path") = some (.str (pathStr pre) tP) ∧ news₁ = (L' + 1 + 1, oW) :: (L' + 1, oP) :: news ∧
    oP.data = Data.cell (some (.int ((valOf suf : Nat) : Int) tl)) ∧ oW.data = Data.cell (some (.int ((2 ^ suf.length : Nat) : Int) tw))) (n₀ := bits.length) F₁ (news_tail N₁) ?_ ?_
  · exact ⟨bits, [], _, _, _, _, _, (List.append_nil _).symm, rfl, rfl, rfl, by assumption, by assumption⟩
  · rintro k m₁ news₁ h₁ tk₁ F₂ N₂ ⟨pre, suf, oP, oW, tP, tl, tw, hbits, rfl, m1, rfl, dP, dW⟩
    refine hideW fun Z1 hZ1 => ?_
    have F₃ := fr_chain [(Str.ofString "path", .str (pathStr pre) tP)] F₂ (allc m1 alln)
    clear F₂ m1 F₁ N₁
    have hpl : pre.length ≤ 5 := by have := congrArg List.length hbits; rw [List.length_append] at this; omega
    obtain ⟨hx0, hx1⟩ := path_pos hpl
    by_cases hpe : pre = []
    · subst hpe
      have hcmp := path_eq
      rw [List.nil_append] at hbits
      subst hbits
      (repeat' ((fail_if_success ((with_reducible show wpAny _ _ (exec (PySem.Stmt.While _ _ _ _) _) _ _ _))); (fail_if_success ((with_reducible show wpAny _ _ (pyIter (Value.ref _)) _ _ _))); (first | (with_reducible ((k_here; (with_reducible show wpAny _ _ (binaryOp Operator.Mult (Value.int _ _) (Value.int _ _)) _ _ _); k_dflt (refine PyProof.Rows.mul_int ?_ (by assumption); k_whole)))) | (with_reducible ((k_here; (with_reducible show wpAny _ _ (binaryOp Operator.FloorDiv (Value.int _ _) (Value.int _ _)) _ _ _); k_dflt (refine fdiv_pow (by assumption) ?_; k_whole)))) | (with_reducible (((with_reducible show wpAny _ _ (eval (PySem.Expr.ListComp _ _ _ _) _) _ _ _); (k_here; k_dflt (refine ListComp_open (by with_unfolding_all rfl) (by rfl) (by decide) ?_ (by intro _; rfl)))))) | (with_reducible ((k_here; (with_reducible show wpAny _ _ (call (Value.ref 158) _) _ _ _); k_dflt (refine split_spec (by k_asm) (by k_asm) (by k_asm) (by k_asm) (by k_asm) rfl (by ktr_room) (by ktr_units) (by assumption) (by assumption) ?_); intro D' t' u' h' tk' F' N' l1; (try k_lt l1)))) | (((with_reducible show wpAny _ _ (exec (PySem.Stmt.For _ _ _ _ _) _) _ _ _); (k_here; (refine wpAny_For ?_ (by intro _; rfl))))) | (k_unfold; (try dsimp only)) | (k_end; wrow_close) | walk1 | (dsimp only; walk1) | (leave1; walk_say "STEP leave1"; try dsimp only) | fail "no step")))
      skip
      rename_i hA tkA t₁ u₁ v₁ hR F₄ N₄ hkA
      obtain ⟨hr1, hr2⟩ := range_pow hbl
      refine comp_range (n := 2 ^ (5 - bits.length)) rfl F₄ N₄ hR hr1 hr2 (by intro _ _; rfl) (by have := (div_pow hbl).2.2; omega) (by decide) rfl (fun i m'' => ∃ t, m'' (Str.ofString "row") = some (.int (i : Nat) t)) (fun i ys news₁ => news₁ = (L' + 1 + 1, oW) :: (L' + 1, oP) :: news ∧ IntsAre ys (rowsUpTo bits i)) ⟨rfl, .nil⟩ ?_ ?_ ?_
      · rintro i v C ys news₁ s' m' Q' ⟨t, rfl⟩ _ _ hn hq
        exact asg_name rfl rfl hn fun h' tk hn' hk => hq h' tk _ hn' ⟨t, show some _ = some _ by rw [show (0 + (i : Int) * 1) = i by omega]⟩ hk
      · rintro i v ys news₁ I oI C oC D' m₂ h₄ tk₄ hi ⟨t, rfl⟩ ⟨rfl, hys⟩ ⟨t', hBd⟩ hNs F₅ N₅ off₅ ne₅
        refine wpAny_tests_nil ?_
        simp only [if_true]
        have hmo : IntMulOk ((2 ^ (5 - bits.length) : Nat) : Int) ((valOf bits : Nat) : Int) := PySem.IntMulOk.of_left (PySem.intBits_le_64 (by omega) (by have := (div_pow hbl).2.2; omega))
        have hnext : ∀ t, IntsAre (ys ++ [.int (((2 ^ (5 - bits.length) : Nat) : Int) * ((valOf bits : Nat) : Int) + (i : Int)) t]) (rowsUpTo bits (i + 1)) := fun t => by
          rw [rowsUpTo_succ]
          exact intsAre_snoc hys
        refine hideQ fun Z2 E2 hZ2 => ?_
        (repeat' ((fail_if_success ((with_reducible show wpAny _ _ (exec (PySem.Stmt.While _ _ _ _) _) _ _ _))); (fail_if_success ((with_reducible show wpAny _ _ (pyIter (Value.ref _)) _ _ _))); (first | (with_reducible ((k_here; (with_reducible show wpAny _ _ (binaryOp Operator.Mult (Value.int _ _) (Value.int _ _)) _ _ _); k_dflt (refine PyProof.Rows.mul_int ?_ (by assumption); k_whole)))) | (with_reducible ((k_here; (with_reducible show wpAny _ _ (binaryOp Operator.FloorDiv (Value.int _ _) (Value.int _ _)) _ _ _); k_dflt (refine fdiv_pow (by assumption) ?_; k_whole)))) | (with_reducible (((with_reducible show wpAny _ _ (eval (PySem.Expr.ListComp _ _ _ _) _) _ _ _); (k_here; k_dflt (refine ListComp_open (by with_unfolding_all rfl) (by rfl) (by decide) ?_ (by intro _; rfl)))))) | (with_reducible ((k_here; (with_reducible show wpAny _ _ (call (Value.ref 158) _) _ _ _); k_dflt (refine split_spec (by k_asm) (by k_asm) (by k_asm) (by k_asm) (by k_asm) rfl (by ktr_room) (by ktr_units) (by assumption) (by assumption) ?_); intro D' t' u' h' tk' F' N' l1; (try k_lt l1)))) | (((with_reducible show wpAny _ _ (exec (PySem.Stmt.For _ _ _ _ _) _) _ _ _); (k_here; (refine wpAny_For ?_ (by intro _; rfl))))) | (k_unfold; (try dsimp only)) | (k_end; wrow_close) | walk1 | (dsimp only; walk1) | (leave1; walk_say "STEP leave1"; try dsimp only) | fail "no step")))
        exact hZ2 _ _ ⟨_, _, _, _, rfl, F₅, N₅, fun p hp => hp, List.forall_mem_nil _, off₅, rfl, hnext _⟩
      · rintro D' C oC m' ys news₁ h₄ tk₄ ⟨rfl, hys⟩ F₅ N₅ hNs off5 offC
        rw [rowsUpTo_all] at hys
        refine comp_out F₅ N₅ hNs offC fun h' F' N' => ?_
        (repeat' ((fail_if_success ((with_reducible show wpAny _ _ (exec (PySem.Stmt.While _ _ _ _) _) _ _ _))); (fail_if_success ((with_reducible show wpAny _ _ (pyIter (Value.ref _)) _ _ _))); (first | (with_reducible ((k_here; (with_reducible show wpAny _ _ (binaryOp Operator.Mult (Value.int _ _) (Value.int _ _)) _ _ _); k_dflt (refine PyProof.Rows.mul_int ?_ (by assumption); k_whole)))) | (with_reducible ((k_here; (with_reducible show wpAny _ _ (binaryOp Operator.FloorDiv (Value.int _ _) (Value.int _ _)) _ _ _); k_dflt (refine fdiv_pow (by assumption) ?_; k_whole)))) | (with_reducible (((with_reducible show wpAny _ _ (eval (PySem.Expr.ListComp _ _ _ _) _) _ _ _); (k_here; k_dflt (refine ListComp_open (by with_unfolding_all rfl) (by rfl) (by decide) ?_ (by intro _; rfl)))))) | (with_reducible ((k_here; (with_reducible show wpAny _ _ (call (Value.ref 158) _) _ _ _); k_dflt (refine split_spec (by k_asm) (by k_asm) (by k_asm) (by k_asm) (by k_asm) rfl (by ktr_room) (by ktr_units) (by assumption) (by assumption) ?_); intro D' t' u' h' tk' F' N' l1; (try k_lt l1)))) | (((with_reducible show wpAny _ _ (exec (PySem.Stmt.For _ _ _ _ _) _) _ _ _); (k_here; (refine wpAny_For ?_ (by intro _; rfl))))) | (k_unfold; (try dsimp only)) | (k_end; wrow_close) | walk1 | (dsimp only; walk1) | (leave1; walk_say "STEP leave1"; try dsimp only) | fail "no step")))
        exact hret _ _ _ _ _ hys (by k_asm) (news_skip (news_skip (by k_asm))) (fun p hp => off5 p (.tail _ (.tail _ hp)))
    · have hcmp := path_ne hpl hpe
      obtain ⟨ini, b, rfl⟩ : ∃ ini b, pre = ini ++ [b] := ⟨pre.dropLast, pre.getLast hpe, (List.dropLast_concat_getLast hpe).symm⟩
      have hil : ini.length ≤ 4 := by rw [List.length_append] at hpl; simp at hpl; omega
      obtain ⟨hs1, hs2⟩ := split_path hil b
      cases b
      · have htt : (spTail (pathStr (ini ++ [false])) == Str.ofString "t") = false := by rw [hs2]; exact side_t false
        (repeat' ((fail_if_success ((with_reducible show wpAny _ _ (exec (PySem.Stmt.While _ _ _ _) _) _ _ _))); (fail_if_success ((with_reducible show wpAny _ _ (pyIter (Value.ref _)) _ _ _))); (first | (with_reducible ((k_here; (with_reducible show wpAny _ _ (binaryOp Operator.Mult (Value.int _ _) (Value.int _ _)) _ _ _); k_dflt (refine PyProof.Rows.mul_int ?_ (by assumption); k_whole)))) | (with_reducible ((k_here; (with_reducible show wpAny _ _ (binaryOp Operator.FloorDiv (Value.int _ _) (Value.int _ _)) _ _ _); k_dflt (refine fdiv_pow (by assumption) ?_; k_whole)))) | (with_reducible (((with_reducible show wpAny _ _ (eval (PySem.Expr.ListComp _ _ _ _) _) _ _ _); (k_here; k_dflt (refine ListComp_open (by with_unfolding_all rfl) (by rfl) (by decide) ?_ (by intro _; rfl)))))) | (with_reducible ((k_here; (with_reducible show wpAny _ _ (call (Value.ref 158) _) _ _ _); k_dflt (refine split_spec (by k_asm) (by k_asm) (by k_asm) (by k_asm) (by k_asm) rfl (by ktr_room) (by ktr_units) (by assumption) (by assumption) ?_); intro D' t' u' h' tk' F' N' l1; (try k_lt l1)))) | (((with_reducible show wpAny _ _ (exec (PySem.Stmt.For _ _ _ _ _) _) _ _ _); (k_here; (refine wpAny_For ?_ (by intro _; rfl))))) | (k_unfold; (try dsimp only)) | (k_end; wrow_close) | walk1 | (dsimp only; walk1) | (leave1; walk_say "STEP leave1"; try dsimp only) | fail "no step")))
        rename_i o₆ F₆ N₆ d₆
        rw [hs1] at F₆
        rw [pow_int] at d₆
        have dP' : oP.data = Data.cell (some (.int ((valOf (false :: suf) : Nat) : Int) tl)) := by rw [valOf_cons]; simpa using dP
        exact hZ1 _ _ ⟨_, _, _, _, ini.length, rfl, F₆, news_tail N₆, by simp, ini, false :: suf, oP, o₆, _, tl, _, by rw [hbits, List.append_assoc]; rfl, rfl, rfl, rfl, dP', d₆⟩
      · have htt : (spTail (pathStr (ini ++ [true])) == Str.ofString "t") = true := by rw [hs2]; exact side_t true
        (repeat' ((fail_if_success ((with_reducible show wpAny _ _ (exec (PySem.Stmt.While _ _ _ _) _) _ _ _))); (fail_if_success ((with_reducible show wpAny _ _ (pyIter (Value.ref _)) _ _ _))); (first | (with_reducible ((k_here; (with_reducible show wpAny _ _ (binaryOp Operator.Mult (Value.int _ _) (Value.int _ _)) _ _ _); k_dflt (refine PyProof.Rows.mul_int ?_ (by assumption); k_whole)))) | (with_reducible ((k_here; (with_reducible show wpAny _ _ (binaryOp Operator.FloorDiv (Value.int _ _) (Value.int _ _)) _ _ _); k_dflt (refine fdiv_pow (by assumption) ?_; k_whole)))) | (with_reducible (((with_reducible show wpAny _ _ (eval (PySem.Expr.ListComp _ _ _ _) _) _ _ _); (k_here; k_dflt (refine ListComp_open (by with_unfolding_all rfl) (by rfl) (by decide) ?_ (by intro _; rfl)))))) | (with_reducible ((k_here; (with_reducible show wpAny _ _ (call (Value.ref 158) _) _ _ _); k_dflt (refine split_spec (by k_asm) (by k_asm) (by k_asm) (by k_asm) (by k_asm) rfl (by ktr_room) (by ktr_units) (by assumption) (by assumption) ?_); intro D' t' u' h' tk' F' N' l1; (try k_lt l1)))) | (((with_reducible show wpAny _ _ (exec (PySem.Stmt.For _ _ _ _ _) _) _ _ _); (k_here; (refine wpAny_For ?_ (by intro _; rfl))))) | (k_unfold; (try dsimp only)) | (k_end; wrow_close) | walk1 | (dsimp only; walk1) | (leave1; walk_say "STEP leave1"; try dsimp only) | fail "no step")))
        rename_i o₅ d₅ h₆ o₆ F₆ N₆ d₆
        rw [hs1] at F₆
        rw [pow_int] at d₆
        have ev : ((valOf suf : Nat) : Int) + ((2 ^ suf.length : Nat) : Int) = ((valOf (true :: suf) : Nat) : Int) := by rw [valOf_cons, if_pos rfl, Nat.add_comm, Int.natCast_add]
        rw [ev] at d₅
        exact hZ1 _ _ ⟨_, _, _, _, ini.length, rfl, F₆, news_tail N₆, by simp, ini, true :: suf, o₅, o₆, _, _, _, by rw [hbits, List.append_assoc]; rfl, rfl, rfl, rfl, d₅, d₆⟩
end
end Mine
end

/-! ## L21 -/
section
open PySem PySem.W PyProof.Rows PySem.Calls PySem.Spec PySem.SeqAt
set_option maxRecDepth 100000
namespace Mine
def halvesL : List (Int × Int) := [(1, 5), (2, 4), (4, 3), (8, 2), (16, 1), (32, 0)]
def fwTab : List Int := [0, 5, 8, 13, 12, 17, 20, 25, 16, 21, 24, 29, 28, 33, 36, 41, 16, 21, 24, 29, 28, 33, 36, 41, 32, 37, 40, 45, 44, 49, 52, 57, 0]
def cand (odd : Nat) (j : Nat) : List Int := ((halvesL.take j).filter fun p => decide (p.1 ≤ (odd : Int))).map fun p => fwTab.getD (odd - p.1.toNat) 0 + p.1 * p.2
theorem cand_min : ∀ i ∈ List.range 32, fwTab.getD (i + 1) 0 ∈ cand (i + 1) 6 ∧ (∀ a ∈ cand (i + 1) 6, fwTab.getD (i + 1) 0 ≤ a) ∧ 0 < (cand (i + 1) 6).length := by decide +kernel
theorem fwTab_small : ∀ x ∈ fwTab, 0 ≤ x ∧ x ≤ 1000 := by decide
theorem fw_take_succ : ∀ i ∈ List.range 32, fwTab.take (i + 1) ++ [fwTab.getD (i + 1) 0] = fwTab.take (i + 1 + 1) := by decide +kernel
end Mine
namespace Mine
theorem sub_far {a o : Addr × Obj} {pre post : List (Addr × Obj)} : ∀ x ∈ a :: o :: (pre ++ post), x ∈ a :: (pre ++ o :: post) := fun x hx => by
  simp only [List.mem_cons, List.mem_append] at hx ⊢
  rcases hx with h | h | h | h <;> simp [h]
def TupIn (base : List (Addr × Obj)) (hvs : List Value) : Prop := ∀ (j : Nat) v, hvs[j]? = some v → ∃ T r d t t', v = .ref T ∧ halvesL[j]? = some (r, d) ∧ (T, ({ cls := .type "tuple", data := .seq #[.int r t, .int d t'] } : Obj)) ∈ base
theorem tupIn6 {base : List (Addr × Obj)} {a b c d e f : Addr} {t1 t2 t3 t4 t5 t6 u1 u2 u3 u4 u5 u6 : Tok}
    (h1 : (a, ({ cls := .type "tuple", data := .seq #[.int 1 t1, .int 5 u1] } : Obj)) ∈ base) (h2 : (b, ({ cls := .type "tuple", data := .seq #[.int 2 t2, .int 4 u2] } : Obj)) ∈ base) (h3 : (c, ({ cls := .type "tuple", data := .seq #[.int 4 t3, .int 3 u3] } : Obj)) ∈ base)
    (h4 : (d, ({ cls := .type "tuple", data := .seq #[.int 8 t4, .int 2 u4] } : Obj)) ∈ base) (h5 : (e, ({ cls := .type "tuple", data := .seq #[.int 16 t5, .int 1 u5] } : Obj)) ∈ base) (h6 : (f, ({ cls := .type "tuple", data := .seq #[.int 32 t6, .int 0 u6] } : Obj)) ∈ base) :
    TupIn base [.ref a, .ref b, .ref c, .ref d, .ref e, .ref f] := by
  intro j v hv
  match j, hv with
  | 0, hv => simp at hv; exact ⟨a, 1, 5, t1, u1, hv.symm, rfl, h1⟩
  | 1, hv => simp at hv; exact ⟨b, 2, 4, t2, u2, hv.symm, rfl, h2⟩
  | 2, hv => simp at hv; exact ⟨c, 4, 3, t3, u3, hv.symm, rfl, h3⟩
  | 3, hv => simp at hv; exact ⟨d, 8, 2, t4, u4, hv.symm, rfl, h4⟩
  | 4, hv => simp at hv; exact ⟨e, 16, 1, t5, u5, hv.symm, rfl, h5⟩
  | 5, hv => simp at hv; exact ⟨f, 32, 0, t6, u6, hv.symm, rfl, h6⟩
  | j + 6, hv => simp at hv
end Mine
namespace Mine
theorem cand_succ {odd j : Nat} {r d : Int} (h : halvesL[j]? = some (r, d)) : cand odd (j + 1) = cand odd j ++ if r ≤ (odd : Int) then [fwTab.getD (odd - r.toNat) 0 + r * d] else [] := by
  unfold cand
  rw [List.take_add_one, h]
  simp only [Option.toList_some, List.filter_append, List.map_append]
  congr 1
  by_cases hr : r ≤ (odd : Int) <;> simp [hr]
theorem halves_small {j : Nat} {r d : Int} (h : halvesL[j]? = some (r, d)) : 1 ≤ r ∧ r ≤ 32 ∧ 0 ≤ d ∧ d ≤ 5 := by
  have : ∀ p ∈ halvesL, 1 ≤ p.1 ∧ p.1 ≤ 32 ∧ 0 ≤ p.2 ∧ p.2 ≤ 5 := by decide
  exact this _ (List.mem_of_getElem? h)
theorem few_get {vs : List Value} {i : Nat} (hi : i < 32) (h : IntsAre vs (fwTab.take (i + 1))) {k : Int} (h0 : 0 ≤ k) (h1 : k ≤ i) : ∃ t, vs[k.toNat]? = some (.int (fwTab.getD k.toNat 0) t) := by
  have hl := intsAre_len h
  have hfl : fwTab.length = 33 := rfl
  rw [List.length_take, hfl] at hl
  have hlt : k.toNat < vs.length := by omega
  obtain ⟨n, t, hn, hv⟩ := intsAre_get h k.toNat vs[k.toNat] (List.getElem?_eq_getElem hlt)
  rw [List.getElem?_take, if_pos (by omega)] at hn
  refine ⟨t, ?_⟩
  rw [List.getElem?_eq_getElem hlt, hv, List.getD_eq_getElem?_getD, hn]
  rfl
theorem few_full {vs : List Value} (h : IntsAre vs fwTab) {k : Int} (h0 : 0 ≤ k) (h1 : k ≤ 32) : ∃ t, vs[k.toNat]? = some (.int (fwTab.getD k.toNat 0) t) := by
  have hl := intsAre_len h
  have hfl : fwTab.length = 33 := rfl
  have hlt : k.toNat < vs.length := by omega
  obtain ⟨n, t, hn, hv⟩ := intsAre_get h k.toNat vs[k.toNat] (List.getElem?_eq_getElem hlt)
  refine ⟨t, ?_⟩
  rw [List.getElem?_eq_getElem hlt, hv, List.getD_eq_getElem?_getD, hn]
  rfl
theorem few_next {i : Nat} (hi : i < 32) {M : Int} (h1 : M ∈ cand (i + 1) 6) (h2 : ∀ a ∈ cand (i + 1) 6, M ≤ a) : M = fwTab.getD (i + 1) 0 := by
  obtain ⟨a, b, _⟩ := cand_min i (List.mem_range.mpr hi)
  exact Int.le_antisymm (h2 _ a) (b _ h1)
end Mine
namespace Mine
theorem sub_min {D I F O : Addr × Obj} {r : List (Addr × Obj)} : ∀ x ∈ F :: I :: O :: r, x ∈ D :: I :: F :: O :: r := fun x hx => by
  simp only [List.mem_cons] at hx ⊢
  rcases hx with h | h | h | h <;> simp [h]
end Mine
end

/-! ## P14 -/
section
open PySem PySem.W PyProof.Rows PySem.Calls PySem.Spec PySem.SeqAt
set_option maxRecDepth 100000
namespace Mine
theorem fill_P14 (w : World) : PySem.Challenge.rw_ik0178_01 = PySem.Challenge.rw_ik0178_01 ∧ heapK w.params = heapK w.params := by
  k_fill
  exact ⟨rfl, rfl⟩
section
variable {prog : Program} {w : World} {loose : List Str} {mean : ExcName → Option Value} {mg mb : Str → Option Value}
variable {dp un : Nat} {gd : Option (List Code)} {cn : Str} {cs : Scope} {a : Addr} {ccd : Value} {cl : List (Str × Addr)} {outer : List Env} {A₀ : Around} {base h₀ : Heap} {L : Addr} {m : Str → Option Value} {news : List (Addr × Obj)} {s : Shared} {Q E : Value → Shared → Prop}



local macro_rules | `(tactic| k_all) => `(tactic| assumption)
local macro_rules | `(tactic| k_mem) => `(tactic| assumption)
set_option maxHeartbeats 4000000 in
theorem fewest_spec (B : Below A₀ base outer h₀) (F : Fr h₀ L s.heap m) (X : (heapK w.params).In h₀) (T : Top viewQ loose mean mg mb h₀) (hk : cs.kind = .function)
  (hdp : dp + 6 < recursionLimit) (hun : un + 48 < cLine) {ox : Addr} {ovs : List Value} {ods : List Int} {e0 : Nat}
  (N : News h₀ L s.heap news) (hax : (ox, listOf ovs.toArray e0) ∈ news) (hov : IntsAre ovs ods) (hods : ∀ o ∈ ods, 0 ≤ o ∧ o ≤ 32) (hlen : ods.length ≤ 10)
  (hret : ∀ t h' tk', Fr h₀ L h' m → News h₀ L h' news → Q (.int ((ods.map fun o => fwTab.getD o.toNat 0).sum) t) { s with heap := h', toks := tk' }) :
  wpAny (model prog w) (ktrTop dp un gd cn cs L a ccd cl outer) (call (.ref 185) [.ref ox]) Q E s := by
  refine wpAny_call ?_
  k_dflt (refine' code_defC ?k1 ?k2 ?k3 ?k4 ?k5 ?kA ?kF ?kK ?k6 ?k7 ?k8 ?k9 ?kB ?kD ?_ ?c2 ?c3 ?c4; (case kA => exact rfl); (case kF => exact rfl); (case kK => assumption); (case k1 => k_asm); (case k2 => k_asm); (case k3 => k_asm); (case k4 => k_asm); (case k5 => k_asm); (case k6 => k_is); (case k7 => k_is); (case k8 => ktr_room); (case k9 => exact BindsTo.of_eq rfl); (case kB => exact rfl); (case kD => decide +kernel); (case c2 => exact rfl); (case c3 => exact rfl); (case c4 => exact rfl); k_whole; intro g' L' h' tk' cells' FG' F' N' Y' B' X' T' l1; (try k_lt l1); k_cells Y'; (try simp only [List.cons_append, List.nil_append] at N'); (try dsimp only); (try k_lift B'); (try k_fold))

  replace F' : Fr g' L' h' (chain [(Str.ofString "odds", Value.ref ox)] fun _ => none) := F'
  rename_i o1 o2 d1 d2
  replace d1 : o1.data = Data.cell none := d1
  replace d2 : o2.data = Data.cell none := d2
  have hoffC : ∀ p ∈ news, p.1 ≠ L' + 1 := fun p hp => Nat.ne_of_lt (Nat.lt_of_lt_of_le (l1 p hp) (Nat.le_succ _))
  have hoffC2 : ∀ p ∈ news, p.1 ≠ L' + 1 + 1 := fun p hp => Nat.ne_of_lt (Nat.lt_of_lt_of_le (l1 p hp) (Nat.le_add_right _ 2))
  (repeat' ((fail_if_success ((with_reducible show wpAny _ _ (call (Value.builtin "sum") _) _ _ _))); (fail_if_success ((with_reducible show wpAny _ _ (call (Value.builtin "min") _) _ _ _))); (fail_if_success ((with_reducible show wpAny _ _ (pyIter (Value.ref _)) _ _ _))); (first | (with_reducible ((k_here; (with_reducible show wpAny _ _ (subscriptTail _ _ (Value.ref _) (Value.int _ _)) _ _ _); k_dflt (refine kim_list (by k_asm) (by k_mem) rfl rfl (by omega) (by omega) (by assumption) ?_ (by with_unfolding_all rfl) (by (intro _; with_unfolding_all rfl)); k_whole)))) | (with_reducible ((k_here; (with_reducible show wpAny _ _ (binaryOp Operator.Mult (Value.int _ _) (Value.int _ _)) _ _ _); k_dflt (refine PyProof.Rows.mul_int ?_ (by assumption); k_whole)))) | (with_reducible (((with_reducible show wpAny _ _ (eval (PySem.Expr.ListComp _ _ _ _) _) _ _ _); (k_here; k_dflt (refine ListComp_open (by with_unfolding_all rfl) (by rfl) (by decide) ?_ (by intro _; rfl)))))) | (with_reducible ((k_here; (with_reducible show wpAny _ _ (call (Value.builtin "str.join") [Value.str _ _, Value.ref _]) _ _ _); k_dflt (refine join_strs (by k_asm) (by k_mem) (by first | assumption | exact (by assumption : ∀ t, StrsAre (_ ++ [Value.str _ t]) _) _) (by decide) (by assumption) ?_; k_whole); intro t' k'))) | (with_reducible ((k_here; (with_reducible show wpAny _ _ (call (Value.builtin "list.append") [Value.ref _, _]) _ _ _); k_dflt (refine append_val (by k_asm) (by k_asm) (by assumption) (by assumption) ?_; k_whole); intro h' F' N'))) | (((with_reducible show wpAny _ _ (exec (PySem.Stmt.For _ _ _ _ _) _) _ _ _); (k_here; (refine wpAny_For ?_ (by intro _; rfl))))) | (k_unfold; (try dsimp only)) | (k_end; wrow_close) | walk1 | (dsimp only; walk1) | (leave1; walk_say "STEP leave1"; try dsimp only) | fail "no step")))
  skip
  rename_i D5 hq5 q5 D4 hq4 q4 D3 hq3 q3 D2 hq2 q2 D1 hq1 q1 D0 hq0 q0 lH hqH qH hqa tk₁ lF hqF qF hqb oF F₁ N₁ dF hc tkc t₁ u₁ v₁ hR F₂ N₂ hkA
  obtain ⟨base, hvs, N₃, hbH, hbT, hbF, hbn, hboff, hvl⟩ : ∃ base hvs, News g' L' hc ((lF, listOf #[.int 0 tk₁] 0) :: (L' + 1 + 1, o1) :: base) ∧ (lH, listOf (List.toArray hvs) 0) ∈ base ∧ TupIn base hvs ∧ (L' + 1, oF) ∈ base ∧ (∀ p ∈ news, p ∈ base) ∧ (∀ p ∈ base, p.1 ≠ lF ∧ p.1 ≠ L' + 1 + 1) ∧ hvs.length = 6 := by
    refine ⟨_, [.ref D5, .ref D4, .ref D3, .ref D2, .ref D1, .ref D0], news_sub N₂ (sub_far (pre := [_, _, _, _, _, _, _])), .head _, ?_, ?_, ?_, ?_, rfl⟩
    · exact tupIn6 (.tail _ (.tail _ (.tail _ (.tail _ (.tail _ (.tail _ (.head _))))))) (.tail _ (.tail _ (.tail _ (.tail _ (.tail _ (.head _)))))) (.tail _ (.tail _ (.tail _ (.tail _ (.head _))))) (.tail _ (.tail _ (.tail _ (.head _)))) (.tail _ (.tail _ (.head _))) (.tail _ (.head _))
    · exact .tail _ (.tail _ (.tail _ (.tail _ (.tail _ (.tail _ (.tail _ (.head _)))))))
    · exact fun p hp => .tail _ (.tail _ (.tail _ (.tail _ (.tail _ (.tail _ (.tail _ (.tail _ hp)))))))
    · obtain ⟨a1, a2, a3, a4, a5, a6, a7, a8, a9, a10⟩ := qF
      refine off2_cons (by k_ne) (by k_ne) (off2_cons (by k_ne) (by k_ne) (off2_cons (by k_ne) (by k_ne) (off2_cons (by k_ne) (by k_ne) (off2_cons (by k_ne) (by k_ne) (off2_cons (by k_ne) (by k_ne) (off2_cons (by k_ne) (by k_ne) (off2_cons (by k_ne) (by k_ne) fun p hp => ⟨Nat.ne_of_lt (allLt_mem a10 p hp), hoffC2 p hp⟩)))))))
  clear N₂ N₁ F₁
  have hb2 : ∀ p ∈ base, p.1 ≠ L' + 1 + 1 := fun p hp => (hboff p hp).2
  have hbl : ∀ p ∈ base, p.1 ≠ lF := fun p hp => (hboff p hp).1
  have hlF : @Ne Nat lF (L' + 1 + 1) := by k_ne
  refine iter_range_J (n := 32) rfl F₂ N₃ hR (by decide) (by decide) (by intro _ _; rfl) (fun i m₁ news₁ => ∃ vs e oO vO, m₁ (Str.ofString "halves") = some (.ref lH) ∧ m₁ (Str.ofString "odds") = some (.ref ox) ∧ news₁ = (lF, listOf (List.toArray vs) e) :: (L' + 1 + 1, oO) :: base ∧ oO.data = Data.cell vO ∧ IntsAre vs (fwTab.take (i + 1)))
    ⟨[.int 0 tk₁], 0, o1, _, rfl, rfl, rfl, d1, .cons 0 _ .nil⟩ ?_ ?_
  · rintro i v m₁ news₁ I oI h₁ tk₀ hi ⟨t, rfl⟩ ⟨vs, e, oO, vO, m1, m2, rfl, dO, hfv⟩ hoffI G₁ M₁
    refine hideB fun Z1 hZ1 => ?_
    have G₂ := fr_chain [(Str.ofString "halves", .ref lH), (Str.ofString "odds", .ref ox)] G₁ (allc (by assumption) (allc (by assumption) alln))
    clear G₁ m1 m2 N₃ F₂
    have hIF : @Ne Nat I lF := Ne.symm (hoffI _ (.head _))
    have hIO : @Ne Nat I (L' + 1 + 1) := Ne.symm (hoffI _ (.tail _ (.head _)))
    have hii : 1 + (i : Int) * 1 = ((i + 1 : Nat) : Int) := by omega
    rw [hii]
    have hvsl : vs.length = i + 1 := by rw [intsAre_len hfv, List.length_take]; have : fwTab.length = 33 := rfl; omega
    have hvz : vs.length < 1000 := by omega
    (repeat' ((fail_if_success ((with_reducible show wpAny _ _ (call (Value.builtin "sum") _) _ _ _))); (fail_if_success ((with_reducible show wpAny _ _ (call (Value.builtin "min") _) _ _ _))); (fail_if_success ((with_reducible show wpAny _ _ (pyIter (Value.ref _)) _ _ _))); (first | (with_reducible ((k_here; (with_reducible show wpAny _ _ (subscriptTail _ _ (Value.ref _) (Value.int _ _)) _ _ _); k_dflt (refine kim_list (by k_asm) (by k_mem) rfl rfl (by omega) (by omega) (by assumption) ?_ (by with_unfolding_all rfl) (by (intro _; with_unfolding_all rfl)); k_whole)))) | (with_reducible ((k_here; (with_reducible show wpAny _ _ (binaryOp Operator.Mult (Value.int _ _) (Value.int _ _)) _ _ _); k_dflt (refine PyProof.Rows.mul_int ?_ (by assumption); k_whole)))) | (with_reducible (((with_reducible show wpAny _ _ (eval (PySem.Expr.ListComp _ _ _ _) _) _ _ _); (k_here; k_dflt (refine ListComp_open (by with_unfolding_all rfl) (by rfl) (by decide) ?_ (by intro _; rfl)))))) | (with_reducible ((k_here; (with_reducible show wpAny _ _ (call (Value.builtin "str.join") [Value.str _ _, Value.ref _]) _ _ _); k_dflt (refine join_strs (by k_asm) (by k_mem) (by first | assumption | exact (by assumption : ∀ t, StrsAre (_ ++ [Value.str _ t]) _) _) (by decide) (by assumption) ?_; k_whole); intro t' k'))) | (with_reducible ((k_here; (with_reducible show wpAny _ _ (call (Value.builtin "list.append") [Value.ref _, _]) _ _ _); k_dflt (refine append_val (by k_asm) (by k_asm) (by assumption) (by assumption) ?_; k_whole); intro h' F' N'))) | (((with_reducible show wpAny _ _ (exec (PySem.Stmt.For _ _ _ _ _) _) _ _ _); (k_here; (refine wpAny_For ?_ (by intro _; rfl))))) | (k_unfold; (try dsimp only)) | (k_end; wrow_close) | walk1 | (dsimp only; walk1) | (leave1; walk_say "STEP leave1"; try dsimp only) | fail "no step")))
    skip
    rename_i hd4 oO' G₃ M₃ dO'
    refine comp_list (vs := hvs) rfl G₃ M₃ (.tail _ (.tail _ (.tail _ hbH))) (by omega) (by decide) rfl (fun j m'' => ∃ r d t t', halvesL[j]? = some (r, d) ∧ m'' (Str.ofString "room") = some (.int r t) ∧ m'' (Str.ofString "deep") = some (.int d t'))
      (fun j ys news₂ => news₂ = (I, oI) :: (lF, listOf (List.toArray vs) e) :: (L' + 1 + 1, oO') :: base ∧ IntsAre ys (cand (i + 1) j)) ⟨rfl, .nil⟩ ?_ ?_ ?_
    · rintro j v C ys news₂ s' m' Q' hv ⟨rfl, _⟩ hn2 hn hq
      obtain ⟨T, r, d, t, t', rfl, hrd, hmT⟩ := hbT j v hv
      refine asg_pair rfl ⟨_, hn2 _ (.tail _ (.tail _ (.tail _ hmT))), rfl, 0, rfl⟩ rfl rfl rfl hn fun h' tk hn' hk => hq h' tk _ hn' ⟨r, d, t, t', hrd, rfl, rfl⟩ hk
    · rintro j v ys news₂ I' oI' C oC D' m₂ h₄ tk₄ hvj ⟨rfl, hys⟩ hm₂ ⟨r, d, t, t', hrd, b1, b2⟩ hNs G₆ M₆ off₆ ne₆
      refine wpAny_tests_one ?_
      refine hideW fun Z2 hZ2 => ?_
      obtain ⟨hr1, hr2, hd1, hd2⟩ := halves_small hrd
      have hcs := cand_succ (odd := i + 1) hrd
      by_cases hle : r ≤ ((i + 1 : Nat) : Int)
      · rw [if_pos hle] at hcs
        have hmo : IntMulOk r d := PySem.IntMulOk.of_left (PySem.intBits_le_64 (by omega) (by omega))
        obtain ⟨tq, hq⟩ := few_get hi hfv (k := ((i + 1 : Nat) : Int) - r) (by omega) (by omega)
        have eq1 : (((i + 1 : Nat) : Int) - r).toNat = i + 1 - r.toNat := by omega
        rw [eq1] at hq
        have hq' : vs[(((i + 1 : Nat) : Int) - r).toNat]? = some (.int (fwTab.getD (i + 1 - r.toNat) 0) tq) := by rw [eq1]; exact hq
        have hnext : ∀ t, IntsAre (ys ++ [.int (fwTab.getD (i + 1 - r.toNat) 0 + r * d) t]) (cand (i + 1) (j + 1)) := fun t => by
          rw [hcs]
          exact intsAre_snoc hys
        (repeat' ((fail_if_success ((with_reducible show wpAny _ _ (call (Value.builtin "sum") _) _ _ _))); (fail_if_success ((with_reducible show wpAny _ _ (call (Value.builtin "min") _) _ _ _))); (fail_if_success ((with_reducible show wpAny _ _ (pyIter (Value.ref _)) _ _ _))); (first | (with_reducible ((k_here; (with_reducible show wpAny _ _ (subscriptTail _ _ (Value.ref _) (Value.int _ _)) _ _ _); k_dflt (refine kim_list (by k_asm) (by k_mem) rfl rfl (by omega) (by omega) (by assumption) ?_ (by with_unfolding_all rfl) (by (intro _; with_unfolding_all rfl)); k_whole)))) | (with_reducible ((k_here; (with_reducible show wpAny _ _ (binaryOp Operator.Mult (Value.int _ _) (Value.int _ _)) _ _ _); k_dflt (refine PyProof.Rows.mul_int ?_ (by assumption); k_whole)))) | (with_reducible (((with_reducible show wpAny _ _ (eval (PySem.Expr.ListComp _ _ _ _) _) _ _ _); (k_here; k_dflt (refine ListComp_open (by with_unfolding_all rfl) (by rfl) (by decide) ?_ (by intro _; rfl)))))) | (with_reducible ((k_here; (with_reducible show wpAny _ _ (call (Value.builtin "str.join") [Value.str _ _, Value.ref _]) _ _ _); k_dflt (refine join_strs (by k_asm) (by k_mem) (by first | assumption | exact (by assumption : ∀ t, StrsAre (_ ++ [Value.str _ t]) _) _) (by decide) (by assumption) ?_; k_whole); intro t' k'))) | (with_reducible ((k_here; (with_reducible show wpAny _ _ (call (Value.builtin "list.append") [Value.ref _, _]) _ _ _); k_dflt (refine append_val (by k_asm) (by k_asm) (by assumption) (by assumption) ?_; k_whole); intro h' F' N'))) | (((with_reducible show wpAny _ _ (exec (PySem.Stmt.For _ _ _ _ _) _) _ _ _); (k_here; (refine wpAny_For ?_ (by intro _; rfl))))) | (k_unfold; (try dsimp only)) | (k_end; wrow_close) | walk1 | (dsimp only; walk1) | (leave1; walk_say "STEP leave1"; try dsimp only) | fail "no step")))
        exact hZ2 _ _ ⟨_, _, _, _, rfl, G₆, M₆, fun p hp => hp, fun p hp => by rw [List.mem_singleton.mp hp]; exact hm₂, off₆, rfl, hnext _⟩
      · rw [if_neg hle, List.append_nil] at hcs
        (repeat' ((fail_if_success ((with_reducible show wpAny _ _ (call (Value.builtin "sum") _) _ _ _))); (fail_if_success ((with_reducible show wpAny _ _ (call (Value.builtin "min") _) _ _ _))); (fail_if_success ((with_reducible show wpAny _ _ (pyIter (Value.ref _)) _ _ _))); (first | (with_reducible ((k_here; (with_reducible show wpAny _ _ (subscriptTail _ _ (Value.ref _) (Value.int _ _)) _ _ _); k_dflt (refine kim_list (by k_asm) (by k_mem) rfl rfl (by omega) (by omega) (by assumption) ?_ (by with_unfolding_all rfl) (by (intro _; with_unfolding_all rfl)); k_whole)))) | (with_reducible ((k_here; (with_reducible show wpAny _ _ (binaryOp Operator.Mult (Value.int _ _) (Value.int _ _)) _ _ _); k_dflt (refine PyProof.Rows.mul_int ?_ (by assumption); k_whole)))) | (with_reducible (((with_reducible show wpAny _ _ (eval (PySem.Expr.ListComp _ _ _ _) _) _ _ _); (k_here; k_dflt (refine ListComp_open (by with_unfolding_all rfl) (by rfl) (by decide) ?_ (by intro _; rfl)))))) | (with_reducible ((k_here; (with_reducible show wpAny _ _ (call (Value.builtin "str.join") [Value.str _ _, Value.ref _]) _ _ _); k_dflt (refine join_strs (by k_asm) (by k_mem) (by first | assumption | exact (by assumption : ∀ t, StrsAre (_ ++ [Value.str _ t]) _) _) (by decide) (by assumption) ?_; k_whole); intro t' k'))) | (with_reducible ((k_here; (with_reducible show wpAny _ _ (call (Value.builtin "list.append") [Value.ref _, _]) _ _ _); k_dflt (refine append_val (by k_asm) (by k_asm) (by assumption) (by assumption) ?_; k_whole); intro h' F' N'))) | (((with_reducible show wpAny _ _ (exec (PySem.Stmt.For _ _ _ _ _) _) _ _ _); (k_here; (refine wpAny_For ?_ (by intro _; rfl))))) | (k_unfold; (try dsimp only)) | (k_end; wrow_close) | walk1 | (dsimp only; walk1) | (leave1; walk_say "STEP leave1"; try dsimp only) | fail "no step")))
        exact ⟨_, _, _, _, rfl, G₆, M₆, fun p hp => hp, fun p hp => by rw [List.mem_singleton.mp hp]; exact hm₂, off₆, rfl, by rw [hcs]; exact hys⟩
    · rintro D' C oC m' ys news₂ h₄ tk₄ ⟨rfl, hys⟩ hm₂ G₆ M₆ hNs off6 offC
      rw [hvl] at hys
      refine comp_out G₆ M₆ hNs offC fun h' F' N' => ?_
      (repeat' ((fail_if_success ((with_reducible show wpAny _ _ (call (Value.builtin "sum") _) _ _ _))); (fail_if_success ((with_reducible show wpAny _ _ (call (Value.builtin "min") _) _ _ _))); (fail_if_success ((with_reducible show wpAny _ _ (pyIter (Value.ref _)) _ _ _))); (first | (with_reducible ((k_here; (with_reducible show wpAny _ _ (subscriptTail _ _ (Value.ref _) (Value.int _ _)) _ _ _); k_dflt (refine kim_list (by k_asm) (by k_mem) rfl rfl (by omega) (by omega) (by assumption) ?_ (by with_unfolding_all rfl) (by (intro _; with_unfolding_all rfl)); k_whole)))) | (with_reducible ((k_here; (with_reducible show wpAny _ _ (binaryOp Operator.Mult (Value.int _ _) (Value.int _ _)) _ _ _); k_dflt (refine PyProof.Rows.mul_int ?_ (by assumption); k_whole)))) | (with_reducible (((with_reducible show wpAny _ _ (eval (PySem.Expr.ListComp _ _ _ _) _) _ _ _); (k_here; k_dflt (refine ListComp_open (by with_unfolding_all rfl) (by rfl) (by decide) ?_ (by intro _; rfl)))))) | (with_reducible ((k_here; (with_reducible show wpAny _ _ (call (Value.builtin "str.join") [Value.str _ _, Value.ref _]) _ _ _); k_dflt (refine join_strs (by k_asm) (by k_mem) (by first | assumption | exact (by assumption : ∀ t, StrsAre (_ ++ [Value.str _ t]) _) _) (by decide) (by assumption) ?_; k_whole); intro t' k'))) | (with_reducible ((k_here; (with_reducible show wpAny _ _ (call (Value.builtin "list.append") [Value.ref _, _]) _ _ _); k_dflt (refine append_val (by k_asm) (by k_asm) (by assumption) (by assumption) ?_; k_whole); intro h' F' N'))) | (((with_reducible show wpAny _ _ (exec (PySem.Stmt.For _ _ _ _ _) _) _ _ _); (k_here; (refine wpAny_For ?_ (by intro _; rfl))))) | (k_unfold; (try dsimp only)) | (k_end; wrow_close) | walk1 | (dsimp only; walk1) | (leave1; walk_say "STEP leave1"; try dsimp only) | fail "no step")))
      skip
      have hcm := cand_min i (List.mem_range.mpr hi)
      refine kso_min F' N' (News.isList N' (.head _)) hys hcm.2.2 rfl ?_
      intro h' Mv tM kM F₈ N₈ hin hle
      obtain rfl := few_next hi hin hle
      have N₉ := news_sub N₈ sub_min
      have hoff9 : ∀ p ∈ (I, oI) :: (L' + 1 + 1, oO') :: base, p.1 ≠ lF := off_cons hIF (off_cons (Ne.symm hlF) hbl)
      clear N₈ N' F'
      (repeat' ((fail_if_success ((with_reducible show wpAny _ _ (call (Value.builtin "sum") _) _ _ _))); (fail_if_success ((with_reducible show wpAny _ _ (call (Value.builtin "min") _) _ _ _))); (fail_if_success ((with_reducible show wpAny _ _ (pyIter (Value.ref _)) _ _ _))); (first | (with_reducible ((k_here; (with_reducible show wpAny _ _ (subscriptTail _ _ (Value.ref _) (Value.int _ _)) _ _ _); k_dflt (refine kim_list (by k_asm) (by k_mem) rfl rfl (by omega) (by omega) (by assumption) ?_ (by with_unfolding_all rfl) (by (intro _; with_unfolding_all rfl)); k_whole)))) | (with_reducible ((k_here; (with_reducible show wpAny _ _ (binaryOp Operator.Mult (Value.int _ _) (Value.int _ _)) _ _ _); k_dflt (refine PyProof.Rows.mul_int ?_ (by assumption); k_whole)))) | (with_reducible (((with_reducible show wpAny _ _ (eval (PySem.Expr.ListComp _ _ _ _) _) _ _ _); (k_here; k_dflt (refine ListComp_open (by with_unfolding_all rfl) (by rfl) (by decide) ?_ (by intro _; rfl)))))) | (with_reducible ((k_here; (with_reducible show wpAny _ _ (call (Value.builtin "str.join") [Value.str _ _, Value.ref _]) _ _ _); k_dflt (refine join_strs (by k_asm) (by k_mem) (by first | assumption | exact (by assumption : ∀ t, StrsAre (_ ++ [Value.str _ t]) _) _) (by decide) (by assumption) ?_; k_whole); intro t' k'))) | (with_reducible ((k_here; (with_reducible show wpAny _ _ (call (Value.builtin "list.append") [Value.ref _, _]) _ _ _); k_dflt (refine append_val (by k_asm) (by k_asm) (by assumption) (by assumption) ?_; k_whole); intro h' F' N'))) | (((with_reducible show wpAny _ _ (exec (PySem.Stmt.For _ _ _ _ _) _) _ _ _); (k_here; (refine wpAny_For ?_ (by intro _; rfl))))) | (k_unfold; (try dsimp only)) | (k_end; wrow_close) | walk1 | (dsimp only; walk1) | (leave1; walk_say "STEP leave1"; try dsimp only) | fail "no step")))
      (rename Fr _ _ _ _ => G₉)
      (rename News _ _ _ _ => M₉)
      refine hZ1 _ _ ⟨_, _, _, _, (lF, _) :: (L' + 1 + 1, oO') :: base, rfl, G₉, M₉, sub_swap, List.forall_mem_nil _, ?_, vs ++ [.int (fwTab.getD (i + 1) 0) tM], e + 1, oO', _, rfl, rfl, rfl, dO', ?_⟩
      · exact off_cons (Ne.symm hIF) (off_cons (Ne.symm hIO) fun p hp => hoffI p (.tail _ (.tail _ hp)))
      · rw [← fw_take_succ i (List.mem_range.mpr hi)]
        exact intsAre_snoc hfv
  · rintro m₁ news₁ h₁ tk₀ ⟨vs, e, oO, vO, m1, m2, rfl, dO, hfv⟩ G₁ M₁
    have G₂ := fr_chain [(Str.ofString "halves", .ref lH), (Str.ofString "odds", .ref ox)] G₁ (allc (by assumption) (allc (by assumption) alln))
    clear G₁ m1 m2 N₃ F₂
    rw [show fwTab.take (32 + 1) = fwTab from rfl] at hfv
    have hvsl : vs.length = 33 := intsAre_len hfv
    have hol := intsAre_len hov
    (repeat' ((fail_if_success ((with_reducible show wpAny _ _ (call (Value.builtin "sum") _) _ _ _))); (fail_if_success ((with_reducible show wpAny _ _ (call (Value.builtin "min") _) _ _ _))); (fail_if_success ((with_reducible show wpAny _ _ (pyIter (Value.ref _)) _ _ _))); (first | (with_reducible ((k_here; (with_reducible show wpAny _ _ (subscriptTail _ _ (Value.ref _) (Value.int _ _)) _ _ _); k_dflt (refine kim_list (by k_asm) (by k_mem) rfl rfl (by omega) (by omega) (by assumption) ?_ (by with_unfolding_all rfl) (by (intro _; with_unfolding_all rfl)); k_whole)))) | (with_reducible ((k_here; (with_reducible show wpAny _ _ (binaryOp Operator.Mult (Value.int _ _) (Value.int _ _)) _ _ _); k_dflt (refine PyProof.Rows.mul_int ?_ (by assumption); k_whole)))) | (with_reducible (((with_reducible show wpAny _ _ (eval (PySem.Expr.ListComp _ _ _ _) _) _ _ _); (k_here; k_dflt (refine ListComp_open (by with_unfolding_all rfl) (by rfl) (by decide) ?_ (by intro _; rfl)))))) | (with_reducible ((k_here; (with_reducible show wpAny _ _ (call (Value.builtin "str.join") [Value.str _ _, Value.ref _]) _ _ _); k_dflt (refine join_strs (by k_asm) (by k_mem) (by first | assumption | exact (by assumption : ∀ t, StrsAre (_ ++ [Value.str _ t]) _) _) (by decide) (by assumption) ?_; k_whole); intro t' k'))) | (with_reducible ((k_here; (with_reducible show wpAny _ _ (call (Value.builtin "list.append") [Value.ref _, _]) _ _ _); k_dflt (refine append_val (by k_asm) (by k_asm) (by assumption) (by assumption) ?_; k_whole); intro h' F' N'))) | (((with_reducible show wpAny _ _ (exec (PySem.Stmt.For _ _ _ _ _) _) _ _ _); (k_here; (refine wpAny_For ?_ (by intro _; rfl))))) | (k_unfold; (try dsimp only)) | (k_end; wrow_close) | walk1 | (dsimp only; walk1) | (leave1; walk_say "STEP leave1"; try dsimp only) | fail "no step")))
    skip
    refine comp_list (vs := ovs) rfl G₂ M₁ (.tail _ (.tail _ (hbn _ hax))) (by omega) (by decide) rfl (fun j m'' => ∀ v, ovs[j]? = some v → m'' (Str.ofString "odd") = some v)
      (fun j ys news₂ => news₂ = (lF, listOf (List.toArray vs) e) :: (L' + 1 + 1, oO) :: base ∧ IntsAre ys ((ods.take j).map fun o => fwTab.getD o.toNat 0)) ⟨rfl, .nil⟩ ?_ ?_ ?_
    · intro j v C ys news₂ s' m' Q' hv hJ _ hn hq
      exact asg_name rfl rfl hn fun h' tk hn' hk => hq h' tk _ hn' (fun v' hv' => by rw [hv] at hv'; cases hv'; rfl) hk
    · rintro j v ys news₂ I' oI' C oC D' m₂ h₄ tk₄ hvj ⟨rfl, hys⟩ hm₂ hBd hNs G₆ M₆ off₆ ne₆
      refine wpAny_tests_nil ?_
      simp only [if_true]
      obtain ⟨o, to, ho, rfl⟩ := intsAre_get hov j v hvj
      have hbv := hBd _ hvj
      have ho32 := hods o (List.mem_of_getElem? ho)
      obtain ⟨tq, hq⟩ := few_full hfv ho32.1 ho32.2
      refine hideQ fun Z3 E3 hZ3 => ?_
      (repeat' ((fail_if_success ((with_reducible show wpAny _ _ (call (Value.builtin "sum") _) _ _ _))); (fail_if_success ((with_reducible show wpAny _ _ (call (Value.builtin "min") _) _ _ _))); (fail_if_success ((with_reducible show wpAny _ _ (pyIter (Value.ref _)) _ _ _))); (first | (with_reducible ((k_here; (with_reducible show wpAny _ _ (subscriptTail _ _ (Value.ref _) (Value.int _ _)) _ _ _); k_dflt (refine kim_list (by k_asm) (by k_mem) rfl rfl (by omega) (by omega) (by assumption) ?_ (by with_unfolding_all rfl) (by (intro _; with_unfolding_all rfl)); k_whole)))) | (with_reducible ((k_here; (with_reducible show wpAny _ _ (binaryOp Operator.Mult (Value.int _ _) (Value.int _ _)) _ _ _); k_dflt (refine PyProof.Rows.mul_int ?_ (by assumption); k_whole)))) | (with_reducible (((with_reducible show wpAny _ _ (eval (PySem.Expr.ListComp _ _ _ _) _) _ _ _); (k_here; k_dflt (refine ListComp_open (by with_unfolding_all rfl) (by rfl) (by decide) ?_ (by intro _; rfl)))))) | (with_reducible ((k_here; (with_reducible show wpAny _ _ (call (Value.builtin "str.join") [Value.str _ _, Value.ref _]) _ _ _); k_dflt (refine join_strs (by k_asm) (by k_mem) (by first | assumption | exact (by assumption : ∀ t, StrsAre (_ ++ [Value.str _ t]) _) _) (by decide) (by assumption) ?_; k_whole); intro t' k'))) | (with_reducible ((k_here; (with_reducible show wpAny _ _ (call (Value.builtin "list.append") [Value.ref _, _]) _ _ _); k_dflt (refine append_val (by k_asm) (by k_asm) (by assumption) (by assumption) ?_; k_whole); intro h' F' N'))) | (((with_reducible show wpAny _ _ (exec (PySem.Stmt.For _ _ _ _ _) _) _ _ _); (k_here; (refine wpAny_For ?_ (by intro _; rfl))))) | (k_unfold; (try dsimp only)) | (k_end; wrow_close) | walk1 | (dsimp only; walk1) | (leave1; walk_say "STEP leave1"; try dsimp only) | fail "no step")))
      exact hZ3 _ _ ⟨_, _, _, _, rfl, G₆, M₆, fun p hp => hp, fun p hp => by rw [List.mem_singleton.mp hp]; exact hm₂, off₆, rfl, by rw [List.take_add_one, ho, List.map_append]; exact intsAre_snoc hys⟩
    · rintro D' C oC m' ys news₂ h₄ tk₄ ⟨rfl, hys⟩ hm₂ G₆ M₆ hNs off6 offC
      rw [hol, List.take_length] at hys
      refine comp_out G₆ M₆ hNs offC fun h' F' N' => ?_
      (repeat' ((fail_if_success ((with_reducible show wpAny _ _ (call (Value.builtin "sum") _) _ _ _))); (fail_if_success ((with_reducible show wpAny _ _ (call (Value.builtin "min") _) _ _ _))); (fail_if_success ((with_reducible show wpAny _ _ (pyIter (Value.ref _)) _ _ _))); (first | (with_reducible ((k_here; (with_reducible show wpAny _ _ (subscriptTail _ _ (Value.ref _) (Value.int _ _)) _ _ _); k_dflt (refine kim_list (by k_asm) (by k_mem) rfl rfl (by omega) (by omega) (by assumption) ?_ (by with_unfolding_all rfl) (by (intro _; with_unfolding_all rfl)); k_whole)))) | (with_reducible ((k_here; (with_reducible show wpAny _ _ (binaryOp Operator.Mult (Value.int _ _) (Value.int _ _)) _ _ _); k_dflt (refine PyProof.Rows.mul_int ?_ (by assumption); k_whole)))) | (with_reducible (((with_reducible show wpAny _ _ (eval (PySem.Expr.ListComp _ _ _ _) _) _ _ _); (k_here; k_dflt (refine ListComp_open (by with_unfolding_all rfl) (by rfl) (by decide) ?_ (by intro _; rfl)))))) | (with_reducible ((k_here; (with_reducible show wpAny _ _ (call (Value.builtin "str.join") [Value.str _ _, Value.ref _]) _ _ _); k_dflt (refine join_strs (by k_asm) (by k_mem) (by first | assumption | exact (by assumption : ∀ t, StrsAre (_ ++ [Value.str _ t]) _) _) (by decide) (by assumption) ?_; k_whole); intro t' k'))) | (with_reducible ((k_here; (with_reducible show wpAny _ _ (call (Value.builtin "list.append") [Value.ref _, _]) _ _ _); k_dflt (refine append_val (by k_asm) (by k_asm) (by assumption) (by assumption) ?_; k_whole); intro h' F' N'))) | (((with_reducible show wpAny _ _ (exec (PySem.Stmt.For _ _ _ _ _) _) _ _ _); (k_here; (refine wpAny_For ?_ (by intro _; rfl))))) | (k_unfold; (try dsimp only)) | (k_end; wrow_close) | walk1 | (dsimp only; walk1) | (leave1; walk_say "STEP leave1"; try dsimp only) | fail "no step")))
      skip
      refine sumK rfl F' N' (News.isList N' (.head _)) hys ?_
      intro h' tk tS F₈ N₈
      clear N' F'
      (repeat' ((fail_if_success ((with_reducible show wpAny _ _ (call (Value.builtin "sum") _) _ _ _))); (fail_if_success ((with_reducible show wpAny _ _ (call (Value.builtin "min") _) _ _ _))); (fail_if_success ((with_reducible show wpAny _ _ (pyIter (Value.ref _)) _ _ _))); (first | (with_reducible ((k_here; (with_reducible show wpAny _ _ (subscriptTail _ _ (Value.ref _) (Value.int _ _)) _ _ _); k_dflt (refine kim_list (by k_asm) (by k_mem) rfl rfl (by omega) (by omega) (by assumption) ?_ (by with_unfolding_all rfl) (by (intro _; with_unfolding_all rfl)); k_whole)))) | (with_reducible ((k_here; (with_reducible show wpAny _ _ (binaryOp Operator.Mult (Value.int _ _) (Value.int _ _)) _ _ _); k_dflt (refine PyProof.Rows.mul_int ?_ (by assumption); k_whole)))) | (with_reducible (((with_reducible show wpAny _ _ (eval (PySem.Expr.ListComp _ _ _ _) _) _ _ _); (k_here; k_dflt (refine ListComp_open (by with_unfolding_all rfl) (by rfl) (by decide) ?_ (by intro _; rfl)))))) | (with_reducible ((k_here; (with_reducible show wpAny _ _ (call (Value.builtin "str.join") [Value.str _ _, Value.ref _]) _ _ _); k_dflt (refine join_strs (by k_asm) (by k_mem) (by first | assumption | exact (by assumption : ∀ t, StrsAre (_ ++ [Value.str _ t]) _) _) (by decide) (by assumption) ?_; k_whole); intro t' k'))) | (with_reducible ((k_here; (with_reducible show wpAny _ _ (call (Value.builtin "list.append") [Value.ref _, _]) _ _ _); k_dflt (refine append_val (by k_asm) (by k_asm) (by assumption) (by assumption) ?_; k_whole); intro h' F' N'))) | (((with_reducible show wpAny _ _ (exec (PySem.Stmt.For _ _ _ _ _) _) _ _ _); (k_here; (refine wpAny_For ?_ (by intro _; rfl))))) | (k_unfold; (try dsimp only)) | (k_end; wrow_close) | walk1 | (dsimp only; walk1) | (leave1; walk_say "STEP leave1"; try dsimp only) | fail "no step")))
      exact hret _ _ _ (by k_asm) (fun p hp => (by k_asm : News _ _ _ _) p (.tail _ (.tail _ (.tail _ (hbn p hp)))))
end
end Mine
end

/-! ## L22 -/
section
open PySem PySem.W PyProof.Rows PySem.Calls PySem.Spec PySem.SeqAt
set_option maxRecDepth 100000
namespace Mine
theorem mod33 (a : Int) : 0 ≤ a.fmod 33 ∧ a.fmod 33 ≤ 32 := by
  have h1 := Int.fmod_nonneg_of_pos a (b := 33) (by decide)
  have h2 := Int.fmod_lt_of_pos a (b := 33) (by decide)
  omega
end Mine
namespace Mine
theorem sub_back {own r : List (Addr × Obj)} : ∀ x ∈ r ++ own, x ∈ own ++ r := fun x hx => by
  rcases List.mem_append.mp hx with h | h
  · exact List.mem_append_right _ h
  · exact List.mem_append_left _ h
theorem sub_comp {own r : List (Addr × Obj)} {c d g : Addr × Obj} : ∀ x ∈ (own ++ [c, d]) ++ r, x ∈ g :: c :: d :: (r ++ own) := fun x hx => by
  simp only [List.mem_append, List.mem_cons, List.not_mem_nil, or_false] at hx ⊢
  rcases hx with (h | h | h) | h <;> simp [h]
theorem sub_comp0 {own r : List (Addr × Obj)} {c d : Addr × Obj} : ∀ x ∈ (own ++ [c, d]) ++ r, x ∈ c :: d :: (r ++ own) := fun x hx => by
  simp only [List.mem_append, List.mem_cons, List.not_mem_nil, or_false] at hx ⊢
  rcases hx with (h | h | h) | h <;> simp [h]
end Mine
namespace Mine
section
variable {prog : Program} {w : World} {A : Around} {E : Value → Shared → Prop} {s : Shared} {h₀ : Heap} {L : Addr} {m : Str → Option Value} {news : List (Addr × Obj)}
/-- the sum of what a slice picked -/
theorem sum_pick {S : Addr} {ys : List Value} {ds : List Int} {a b c : Option Int} {Q : Value → Shared → Prop} (hh : A.handled = none) (F : Fr h₀ L s.heap m) (N : News h₀ L s.heap ((S, ({ cls := .type "list", data := .seq (slicePick ys.toArray a b c) } : Obj)) :: news)) (hy : IntsAre ys ds)
    (h : ∀ h' tk t' z, Fr h₀ L h' m → News h₀ L h' news → Q (.int z t') { s with heap := h', toks := tk }) :
    wpAny (model prog w) A (call (.builtin "sum") [.ref S]) Q E s := by
  refine sumK (vs := (slicePick ys.toArray a b c).toList) hh F N ⟨_, (N _ (.head _)).1, rfl, 0, by rw [Array.toArray_toList]⟩ (IntsAre.pick hy a b c) ?_
  intro h' tk t' F' N'
  exact h h' tk t' _ F' (news_tail N')
theorem sum_any {l : Addr} {ys : List Value} {ds : List Int} {n : Nat} {Q : Value → Shared → Prop} (hh : A.handled = none) (F : Fr h₀ L s.heap m) (N : News h₀ L s.heap news) (hm : (l, listOf ys.toArray n) ∈ news) (hy : IntsAre ys ds)
    (h : ∀ h' tk t', Fr h₀ L h' m → News h₀ L h' news → Q (.int ds.sum t') { s with heap := h', toks := tk }) :
    wpAny (model prog w) A (call (.builtin "sum") [.ref l]) Q E s := sumK hh F N (News.isList N hm) hy h
end
end Mine
namespace Mine
theorem ints3 {vs : List Value} {ns : List Int} (h : IntsAre vs ns) (hl : ns.length = 3) : ∃ a b c ta tb tc, ns = [a, b, c] ∧ vs = [.int a ta, .int b tb, .int c tc] := by
  cases h with
  | nil => simp at hl
  | cons a ta h =>
    cases h with
    | nil => simp at hl
    | cons b tb h =>
      cases h with
      | nil => simp at hl
      | cons c tc h =>
        cases h with
        | nil => exact ⟨a, b, c, ta, tb, tc, rfl, rfl⟩
        | cons d td h => simp at hl
theorem cuts_facts {ns cs : List Int} {a b c : Int} (hp : ns.Perm cs) (hpw : ns.Pairwise (· ≤ ·)) (hb : ∀ x ∈ cs, 0 ≤ x ∧ x ≤ 32) (e : ns = [a, b, c]) : 0 ≤ a ∧ a ≤ b ∧ b ≤ c ∧ c ≤ 32 := by
  subst e
  have h1 := hb a (hp.mem_iff.mp (by simp))
  have h2 := hb c (hp.mem_iff.mp (by simp))
  simp only [List.pairwise_cons, List.mem_cons, List.not_mem_nil, or_false, forall_eq_or_imp, forall_eq] at hpw
  omega
end Mine
namespace Mine
theorem odds_step {a b c x y : Int} {i : Nat} (h1 : ([0, a, b, c] : List Int)[i]? = some x) (h2 : ([a, b, c, 32] : List Int)[i]? = some y) : [a - 0, b - a, c - b, 32 - c].take (i + 1) = [a - 0, b - a, c - b, 32 - c].take i ++ [y - x] := by
  match i, h1, h2 with
  | 0, h1, h2 => simp at h1 h2; subst h1; subst h2; simp
  | 1, h1, h2 => simp at h1 h2; subst h1; subst h2; simp
  | 2, h1, h2 => simp at h1 h2; subst h1; subst h2; simp
  | 3, h1, h2 => simp at h1 h2; subst h1; subst h2; simp
  | i + 4, h1, h2 => simp at h1
end Mine
end

/-! ## L23 -/
section
open PySem PySem.W PyProof.Rows PySem.Calls PySem.Spec PySem.SeqAt
set_option maxRecDepth 100000
namespace Mine
/-! ### comprehensions with two generators, or whose target is a cell -/
theorem compTurn_out2 (elt t0 i0 t1 i1 : Expr) (f0 f1 : List Expr) (scope : Scope) (pos : Pos) (it acc : Value) (env : Env) :
    compTurn (.ListComp elt [⟨t0, i0, f0, 0⟩, ⟨t1, i1, f1, 0⟩] scope pos) 0 it acc env = (do
      standAt i0.pos
      match ← pyNext it with
      | none => pure (.done .next)
      | some v =>
        letOwnedTupleGo t0 it v
        assign t0 env v
        let mut ok := true
        for c in f0 do
          if ok then ok ← isTrue c env (eval c env)
        if ok then
          let x ← eval i1 env
          standAt i1.pos
          let x ← foldedSetIterable i1 env x
          let _ ← runOwn (.compStart (.ListComp elt [⟨t0, i0, f0, 0⟩, ⟨t1, i1, f1, 0⟩] scope pos) 1 (← holding [x] (pyIter x)) acc env) env
        again (.compLoop (.ListComp elt [⟨t0, i0, f0, 0⟩, ⟨t1, i1, f1, 0⟩] scope pos) 0 it acc env)) := by rfl
theorem compTurn_in2 (elt t0 i0 t1 i1 : Expr) (f0 f1 : List Expr) (scope : Scope) (pos : Pos) (it acc : Value) (env : Env) :
    compTurn (.ListComp elt [⟨t0, i0, f0, 0⟩, ⟨t1, i1, f1, 0⟩] scope pos) 1 it acc env = (do
      standAt i1.pos
      match ← pyNext it with
      | none => pure (.done .next)
      | some v =>
        letOwnedTupleGo t1 it v
        assign t1 env v
        let mut ok := true
        for c in f1 do
          if ok then ok ← isTrue c env (eval c env)
        if ok then
          (do let _ ← call (.builtin "list.append") [acc, ← eval elt env])
        again (.compLoop (.ListComp elt [⟨t0, i0, f0, 0⟩, ⟨t1, i1, f1, 0⟩] scope pos) 1 it acc env)) := by rfl
section
variable {prog : Program} {w : World} {A : Around} {E : Value → Shared → Prop} {s : Shared} {env : Env} {h₀ : Heap} {L : Addr} {m : Str → Option Value} {news : List (Addr × Obj)} {R : Result → Shared → Prop}
def LoopRule (prog : Program) (w : World) (A : Around) (e : Expr) (d : Nat) (it acc : Value) (cenv : Env) (target : Expr) (ifs : List Expr) (BP : (Shared → Prop) → Shared → Prop) (R : Result → Shared → Prop) : Prop :=
  ∀ (I : Nat → Shared → Prop), (∀ n s, I n s → wpAny (model prog w) A (pyNext it) (fun r s₁ => match r with
      | none => R (.ok .next) s₁
      | some v => wpAny (model prog w) A (letOwnedTupleGo target it v) (fun _ s₁' => wpAny (model prog w) A (assign target cenv v) (fun _ s₂ =>
          wpAny (model prog w) A (testsOf ifs cenv) (fun ok s₃ =>
            if ok = true then BP (fun s₅ => ∃ m, m < n ∧ I m s₅) s₃
            else ∃ m, m < n ∧ I m s₃) (fun _ _ => False) s₂) (fun _ _ => False) s₁') (fun _ _ => False) s₁) (fun _ _ => False) s) →
    ∀ n s, I n s → codeAny (model prog w) A (.compLoop e d it acc cenv) R s
abbrev emitP (prog : Program) (w : World) (A : Around) (elt : Expr) (acc : Value) (cenv : Env) (K : Shared → Prop) (s : Shared) : Prop :=
  wpAny (model prog w) A (eval elt cenv) (fun x s₄ => wpAny (model prog w) A (call (.builtin "list.append") [acc, x]) (fun _ s₅ => K s₅) (fun _ _ => False) s₄) (fun _ _ => False) s
abbrev innerP (prog : Program) (w : World) (A : Around) (e i1 : Expr) (acc : Value) (cenv : Env) (K : Shared → Prop) (s : Shared) : Prop :=
  wpAny (model prog w) A (eval i1 cenv) (fun x s₄ => wpAny (model prog w) A (pyIter x) (fun it s₅ => codeAny (model prog w) A (.compStart e 1 it acc cenv) (fun r s₆ => match r with | .ok _ => K s₆ | .error _ => False) s₅) (fun _ _ => False) s₄) (fun _ _ => False) s
theorem emitP_mono {elt : Expr} {acc : Value} {cenv : Env} (K K' : Shared → Prop) (s : Shared) (h : ∀ s, K s → K' s) (x : emitP prog w A elt acc cenv K s) : emitP prog w A elt acc cenv K' s :=
  wpAny_mono x (fun _ _ x => wpAny_mono x (fun _ _ x => h _ x) fun _ _ x => x) fun _ _ x => x
theorem innerP_mono {e i1 : Expr} {acc : Value} {cenv : Env} (K K' : Shared → Prop) (s : Shared) (h : ∀ s, K s → K' s) (x : innerP prog w A e i1 acc cenv K s) : innerP prog w A e i1 acc cenv K' s :=
  wpAny_mono x (fun _ _ x => wpAny_mono x (fun _ _ x => codeAny_mono x fun r _ x => by cases r with | ok _ => exact h _ x | error _ => exact x) fun _ _ x => x) fun _ _ x => x
theorem rule_one {elt target iter : Expr} {ifs : List Expr} {scope : Scope} {pos : Pos} {it acc : Value} {cenv : Env} :
    LoopRule prog w A (.ListComp elt [⟨target, iter, ifs, 0⟩] scope pos) 0 it acc cenv target ifs (emitP prog w A elt acc cenv) R :=
  fun I turn n s h => compLoop_gen I turn n h
theorem rule_in2 {elt t0 i0 t1 i1 : Expr} {f0 f1 : List Expr} {scope : Scope} {pos : Pos} {it acc : Value} {cenv : Env} :
    LoopRule prog w A (.ListComp elt [⟨t0, i0, f0, 0⟩, ⟨t1, i1, f1, 0⟩] scope pos) 1 it acc cenv t1 f1 (emitP prog w A elt acc cenv) R := by
  intro I turn n s h
  refine codeAny_loop rfl I (fun n s hI => ?_) n h
  show wpAny _ A ((compTurn (.ListComp elt [⟨t0, i0, f0, 0⟩, ⟨t1, i1, f1, 0⟩] scope pos) 1 it acc cenv).onRaise (fun x => do noteFrame x cenv; theTreesLotGoes x)) _ _ s
  refine wpAny_noted ?_
  rw [compTurn_in2]
  refine wpAny_mono (E := fun _ _ => False) ?_ (fun _ _ x => x) (fun _ _ x => x.elim)
  refine wpAny_bind (wpAny_standAt (wpAny_bind (wpAny_mono (turn n s hI) (fun r s₁ h₁ => ?_) fun _ _ h' => h')))
  cases r with
  | none => exact wpAny_pure h₁
  | some v =>
    refine wpAny_bind (wpAny_mono h₁ (fun _ s₁' h₁' => ?_) fun _ _ h' => h')
    refine wpAny_bind (wpAny_mono h₁' (fun _ s₂ h₂ => ?_) fun _ _ h' => h')
    refine wpAny_bind (wpAny_mono h₂ (fun ok s₃ h₃ => ?_) fun _ _ h' => h')
    cases ok with
    | true =>
      simp only [if_true] at h₃ ⊢
      exact wpAny_bind (wpAny_bind (wpAny_mono h₃ (fun x s₄ h₄ => wpAny_bind (wpAny_mono h₄ (fun _ s₅ h₅ => wpAny_pure (wpAny_pure ⟨rfl, h₅⟩)) fun _ _ h' => h')) fun _ _ h' => h'))
    | false =>
      simp only [Bool.false_eq_true, if_false] at h₃ ⊢
      exact wpAny_pure ⟨rfl, h₃⟩
theorem rule_out2 {elt t0 i0 t1 i1 : Expr} {f0 f1 : List Expr} {scope : Scope} {pos : Pos} {it acc : Value} {cenv : Env} (hs : ∀ x, foldedSetIterable i1 cenv x = pure x) :
    LoopRule prog w A (.ListComp elt [⟨t0, i0, f0, 0⟩, ⟨t1, i1, f1, 0⟩] scope pos) 0 it acc cenv t0 f0 (innerP prog w A (.ListComp elt [⟨t0, i0, f0, 0⟩, ⟨t1, i1, f1, 0⟩] scope pos) i1 acc cenv) R := by
  intro I turn n s h
  refine codeAny_loop rfl I (fun n s hI => ?_) n h
  show wpAny _ A ((compTurn (.ListComp elt [⟨t0, i0, f0, 0⟩, ⟨t1, i1, f1, 0⟩] scope pos) 0 it acc cenv).onRaise (fun x => do noteFrame x cenv; theTreesLotGoes x)) _ _ s
  refine wpAny_noted ?_
  rw [compTurn_out2]
  refine wpAny_mono (E := fun _ _ => False) ?_ (fun _ _ x => x) (fun _ _ x => x.elim)
  refine wpAny_bind (wpAny_standAt (wpAny_bind (wpAny_mono (turn n s hI) (fun r s₁ h₁ => ?_) fun _ _ h' => h')))
  cases r with
  | none => exact wpAny_pure h₁
  | some v =>
    refine wpAny_bind (wpAny_mono h₁ (fun _ s₁' h₁' => ?_) fun _ _ h' => h')
    refine wpAny_bind (wpAny_mono h₁' (fun _ s₂ h₂ => ?_) fun _ _ h' => h')
    refine wpAny_bind (wpAny_mono h₂ (fun ok s₃ h₃ => ?_) fun _ _ h' => h')
    cases ok with
    | true =>
      simp only [if_true] at h₃ ⊢
      refine wpAny_bind (wpAny_mono h₃ (fun x s₄ h₄ => ?_) fun _ _ h' => h')
      refine wpAny_bind (wpAny_standAt (wpAny_bind (wpAny_of_eq (hs x) (wpAny_bind (wpAny_holding (wpAny_mono h₄ (fun it' s₅ h₅ => ?_) fun _ _ h' => h'))))))
      refine wpAny_bind (wpAny_runOwn (codeAny_mono h₅ fun r s₆ h₆ => ?_))
      cases r with
      | ok _ => exact wpAny_pure ⟨rfl, h₆⟩
      | error _ => exact h₆.elim
    | false =>
      simp only [Bool.false_eq_true, if_false] at h₃ ⊢
      exact wpAny_pure ⟨rfl, h₃⟩
theorem start_in2 {elt t0 i0 t1 i1 : Expr} {f0 f1 : List Expr} {scope : Scope} {pos : Pos} {it acc : Value} {env : Env}
    (h0 : codeAny (model prog w) A (.compLoop (.ListComp elt [⟨t0, i0, f0, 0⟩, ⟨t1, i1, f1, 0⟩] scope pos) 1 it acc env) R s)
    (h : wpAny (model prog w) A (pyIter it) (fun it' s' => codeAny (model prog w) A (.compLoop (.ListComp elt [⟨t0, i0, f0, 0⟩, ⟨t1, i1, f1, 0⟩] scope pos) 1 it' acc env) R s')
      (notedBy (model prog w) A env fun x s' => R (.error x) s') s) :
    codeAny (model prog w) A (.compStart (.ListComp elt [⟨t0, i0, f0, 0⟩, ⟨t1, i1, f1, 0⟩] scope pos) 1 it acc env) R s := by
  refine codeAny_of_tree ?_
  show wpAny _ _ ((compStart (.ListComp elt [⟨t0, i0, f0, 0⟩, ⟨t1, i1, f1, 0⟩] scope pos) 1 it acc env).onRaise (fun x => do noteFrame x env; standAt theWindowsPlace)) _ _ s
  refine wpAny_notedAt ?_
  unfold compStart
  show wpAny _ _ (ask >>= _) _ _ s
  refine wpAny_bind (wpAny_askSetting (wpAny_ite ?_))
  split
  · first
      | exact wpAny_bind (wpAny_pure (wpAny_pure (And.intro rfl h0)))
      | exact wpAny_pure (And.intro rfl h0)
  · first
      | exact wpAny_bind (wpAny_rule (wpAny_bind (wpAny_standAt (wpAny_bind (wpAny_mono h (fun it' s' h' => wpAny_pure (And.intro rfl h')) fun _ _ x => x)))))
      | (refine wpAny_bind (wpAny_rule ?_); show wpAny _ _ (standAt i1.pos >>= _) _ _ s; exact wpAny_bind (wpAny_standAt (wpAny_bind (wpAny_mono h (fun it' s' h' => wpAny_pure (And.intro rfl h')) fun _ _ x => x))))

/-- what a turn must leave -/
def LEnd (h₀ : Heap) (L : Addr) (m : Str → Option Value) (s : Shared) (I : Addr) (oI : Obj) (C : Addr) (srcs : List (Addr × Obj)) (K : (Str → Option Value) → List (Addr × Obj) → Prop) (s₄ : Shared) : Prop :=
  ∃ h' tk m₂ oC all news₂, s₄ = { s with heap := h', toks := tk } ∧ Fr h₀ L h' m ∧ LCg.NsObj oC m₂ ∧ News h₀ L h' all ∧ (∀ p ∈ (I, oI) :: (C, oC) :: news₂, p ∈ all) ∧ (∀ p ∈ srcs, p ∈ news₂) ∧ (∀ p ∈ news₂, p.1 ≠ I ∧ p.1 ≠ C) ∧ K m₂ news₂

theorem cloop_G {e : Expr} {d : Nat} {acc : Value} {cenv : Env} {target : Expr} {ifs : List Expr} {BP : (Shared → Prop) → Shared → Prop} {I C : Addr} {fp : List Addr} {n : Nat} {P : Nat → Value → Prop} {St : Nat → Heap → Prop} {srcs : List (Addr × Obj)} {oC : Obj} {mC : Str → Option Value}
    (hr : LoopRule prog w A e d (.ref I) acc cenv target ifs BP R) (hmono : ∀ (K K' : Shared → Prop) s, (∀ s, K s → K' s) → BP K s → BP K' s)
    (W : Walks prog w A I fp [I] n P St)
    (hfp : ∀ b ∈ fp, b = I ∨ ∃ o, (b, o) ∈ srcs) (hIo : ∀ i h, St i h → ∃ o, h.get? I = some o) (hIL : L ≠ I) (hI₀ : h₀.get? I = none) (hIC : I ≠ C)
    (hgo : ∀ i (s' : Shared) v (Q' : Unit → Shared → Prop), St i s'.heap → Q' () s' → wpAny (model prog w) A (letOwnedTupleGo target (.ref I) v) Q' (fun _ _ => False) s')
    (hst : St 0 s.heap) (F : Fr h₀ L s.heap m) (hoC : LCg.NsObj oC mC) (N : News h₀ L s.heap ((C, oC) :: news)) (hsrc : ∀ p ∈ srcs, p ∈ news) (hoff : ∀ p ∈ news, p.1 ≠ I ∧ p.1 ≠ C)
    (J : Nat → (Str → Option Value) → List (Addr × Obj) → Prop) (h0 : J 0 mC news)
    (step : ∀ i v m₁ oC news₁ oI h₁ tk₁, i < n → P i v → J i m₁ news₁ → (∀ p ∈ srcs, p ∈ news₁) → LCg.NsObj oC m₁ → Fr h₀ L h₁ m → News h₀ L h₁ ((I, oI) :: (C, oC) :: news₁) → (∀ p ∈ news₁, p.1 ≠ I ∧ p.1 ≠ C) →
      wpAny (model prog w) A (assign target cenv v) (fun _ s₂ => wpAny (model prog w) A (testsOf ifs cenv) (fun ok s₃ =>
        if ok = true then BP (LEnd h₀ L m s I oI C srcs (J (i + 1))) s₃ else LEnd h₀ L m s I oI C srcs (J (i + 1)) s₃) (fun _ _ => False) s₂) (fun _ _ => False) { s with heap := h₁, toks := tk₁ })
    (hfin : ∀ m' oC news' h tk, J n m' news' → (∀ p ∈ srcs, p ∈ news') → Fr h₀ L h m → LCg.NsObj oC m' → News h₀ L h ((C, oC) :: news') → (∀ p ∈ news', p.1 ≠ C) → R (.ok .next) { s with heap := h, toks := tk }) :
    codeAny (model prog w) A (.compLoop e d (.ref I) acc cenv) R s := by
  refine hr (fun k s' => ∃ h' tk i m' oC news', s' = { s with heap := h', toks := tk } ∧ i ≤ n ∧ k = n + 1 - i ∧ St i h' ∧ Fr h₀ L h' m ∧ LCg.NsObj oC m' ∧ News h₀ L h' ((C, oC) :: news') ∧ (∀ p ∈ news', p.1 ≠ I ∧ p.1 ≠ C) ∧ (∀ p ∈ srcs, p ∈ news') ∧ J i m' news') ?_ (n + 1) s
    ⟨s.heap, s.toks, 0, mC, oC, news, rfl, Nat.zero_le _, rfl, hst, F, hoC, N, hoff, hsrc, h0⟩
  rintro k s' ⟨h', tk, i, m', oC', news', rfl, hi, rfl, hst', F', hoC', N', off', hsrc', hJ⟩
  have keep : ∀ h₂ : Heap, (∀ b o, b ∉ [I] → h'.get? b = some o → h₂.get? b = some o) → Fr h₀ L h₂ m ∧ News h₀ L h₂ ((C, oC') :: news') := fun h₂ hk₂ => by
    have hk₂' : ∀ b o, b ≠ I → h'.get? b = some o → h₂.get? b = some o := fun b o hb e => hk₂ b o (by simpa using hb) e
    refine ⟨⟨F'.ns.at' fun o e => hk₂' _ o hIL e, fun b o e => hk₂' b o (fun hb => by rw [hb, hI₀] at e; cases e) (F'.keep b o e), F'.above⟩, fun p hp => ⟨hk₂' _ _ ?_ (N' p hp).1, (N' p hp).2⟩⟩
    rcases List.mem_cons.mp hp with rfl | hp
    · exact Ne.symm hIC
    · exact (off' p hp).1
  by_cases hlt : i < n
  · refine W.item i _ _ _ hlt hst' fun v h₂ tk₂ hPv hst₂ hk₂ => ?_
    obtain ⟨F₂, N₂⟩ := keep h₂ hk₂
    obtain ⟨oI, heI⟩ := hIo _ _ hst₂
    have N₃ : News h₀ L h₂ ((I, oI) :: (C, oC') :: news') := fun p hp => by
      rcases List.mem_cons.mp hp with rfl | hp
      · exact ⟨heI, Ne.symm hIL, hI₀⟩
      · exact N₂ p hp
    refine hgo (i + 1) { s with heap := h₂, toks := tk₂ } v (fun _ s₁' => wpAny (model prog w) A (assign target cenv v) _ (fun _ _ => False) s₁') hst₂ ?_
    have fin : ∀ s₄, LEnd h₀ L m s I oI C srcs (J (i + 1)) s₄ → ∃ k', k' < n + 1 - i ∧ ∃ h' tk i m' oC news', s₄ = { s with heap := h', toks := tk } ∧ i ≤ n ∧ k' = n + 1 - i ∧ St i h' ∧ Fr h₀ L h' m ∧ LCg.NsObj oC m' ∧ News h₀ L h' ((C, oC) :: news') ∧ (∀ p ∈ news', p.1 ≠ I ∧ p.1 ≠ C) ∧ (∀ p ∈ srcs, p ∈ news') ∧ J i m' news' := by
      rintro s₄ ⟨h₄, tk₄, m₂, oC₂, all, news₄, rfl, F₄, hoC₄, N₄, hall, hs₄, off₄, hJ₄⟩
      have zI := (N₄ (I, oI) (hall _ (.head _))).1
      refine ⟨n + 1 - (i + 1), by omega, h₄, tk₄, i + 1, m₂, oC₂, news₄, rfl, hlt, rfl, W.frame _ _ _ hst₂ fun b hb o e => ?_, F₄, hoC₄, fun p hp => N₄ p (hall p (.tail _ hp)), off₄, hs₄, hJ₄⟩
      rcases hfp b hb with rfl | ⟨ob, hob⟩
      · rw [heI] at e; cases e; exact zI
      · have e' := (N₃ _ (.tail _ (.tail _ (hsrc' _ hob)))).1
        rw [e'] at e; cases e
        exact (N₄ _ (hall _ (.tail _ (.tail _ (hs₄ _ hob))))).1
    refine wpAny_mono (step i v m' oC' news' oI h₂ tk₂ hlt hPv hJ hsrc' hoC' F₂ N₃ off') (fun _ s₂ h₂' => wpAny_mono h₂' (fun ok s₃ h₃' => ?_) (fun _ _ x => x)) (fun _ _ x => x)
    cases ok with
    | false =>
      simp only [Bool.false_eq_true, if_false] at h₃' ⊢
      exact fin _ h₃'
    | true =>
      simp only [if_true] at h₃' ⊢
      exact hmono _ _ _ fin h₃'
  · obtain rfl : i = n := Nat.le_antisymm hi (Nat.not_lt.mp hlt)
    refine W.done _ _ _ hst' fun h₂ tk₂ hk₂ => ?_
    obtain ⟨F₂, N₂⟩ := keep h₂ hk₂
    exact hfin m' oC' news' h₂ tk₂ hJ hsrc' F₂ hoC' N₂ fun p hp => (off' p hp).2
end
end Mine
end

/-! ## L24 -/
section
open PySem PySem.W PyProof.Rows PySem.Calls PySem.Spec PySem.SeqAt
set_option maxRecDepth 100000
namespace Mine
/-! ### the plain law -/
theorem asks_rooms (ods : List Int) (n : Nat) : (asksUpTo ods n).map (·.1) = (List.range n).flatMap fun (j : Nat) => askRooms (ods[j]?.getD 0).toNat := by
  unfold asksUpTo
  rw [List.map_flatMap]
  congr 1
  funext j
  rw [List.map_map]
  exact List.map_id' _
theorem toNat33 {ods : List Int} (h : ∀ o ∈ ods, 0 ≤ o ∧ o ≤ 32) (j : Nat) : (ods[j]?.getD 0).toNat ∈ List.range 33 := by
  rw [List.mem_range]
  cases e : ods[j]? with
  | none => simp
  | some o =>
    have := h o (List.mem_of_getElem? e)
    simp
    omega
theorem asks_sum {ods : List Int} (h : ∀ o ∈ ods, 0 ≤ o ∧ o ≤ 32) : ∀ n, n ≤ ods.length → ((asksUpTo ods n).map (·.1)).sum = (ods.take n).sum
  | 0, _ => by simp [asksUpTo]
  | n + 1, hn => by
    have ih := asks_sum h n (by omega)
    have e : ods[n]? = some ods[n] := List.getElem?_eq_getElem (by omega)
    have h0 := h ods[n] (List.getElem_mem (by omega))
    rw [asks_rooms] at ih ⊢
    rw [List.range_succ, List.flatMap_append, List.flatMap_singleton, List.sum_append, ih, List.take_add_one, List.sum_append, (askRooms_facts _ (toNat33 h n)).1, e]
    simp
    omega
structure AskFacts (ods : List Int) (al : List Ask) : Prop where
  sum : (al.map (·.room)).sum = ods.sum
  pow : ∀ x ∈ al, x.room ∈ pows
  len : al.length ≤ 6 * ods.length
theorem askFacts {ods : List Int} {al : List Ask} (h : ∀ o ∈ ods, 0 ≤ o ∧ o ≤ 32) (hal : al.map (fun x => (x.room, x.thing)) = asksUpTo ods ods.length) : AskFacts ods al := by
  have hr : al.map (·.room) = (asksUpTo ods ods.length).map (·.1) := by
    rw [← hal, List.map_map]
    rfl
  refine ⟨?_, ?_, ?_⟩
  · rw [hr, asks_sum h _ (Nat.le_refl _), List.take_length]
  · intro x hx
    have : x.room ∈ al.map (·.room) := List.mem_map_of_mem hx
    rw [hr, asks_rooms] at this
    obtain ⟨j, _, hj⟩ := List.mem_flatMap.mp this
    exact (askRooms_facts _ (toNat33 h j)).2.2.1 _ hj
  · have := asksUpTo_len h ods.length
    have e := congrArg List.length hal
    rw [List.length_map] at e
    omega
end Mine
namespace Mine
theorem pick_from {al : List Ask} {n : Nat} (h : n ≤ al.length) : (slicePick (av al).toArray (some (n : Int)) none none).toList = av (al.drop n) := by
  rw [slicePick_from _ _ (by simpa using h)]
  simp [av, List.map_drop]
theorem pick_upto {al : List Ask} {n : Nat} (h : n ≤ al.length) : (slicePick (av al).toArray none (some (n : Int)) none).toList = av (al.take n) := by
  rw [slicePick_upto _ _ (by simpa using h)]
  simp [av, List.map_take]
theorem av_rev {al : List Ask} : (av al).toArray.toList.reverse = av al.reverse := by simp [av]
end Mine
namespace Mine
theorem perm_sum {a b : List Int} (h : a.Perm b) : a.sum = b.sum := by
  induction h with
  | nil => rfl
  | cons x _ ih => rw [List.sum_cons, List.sum_cons, ih]
  | swap x y l => simp only [List.sum_cons]; omega
  | trans _ _ ih1 ih2 => exact ih1.trans ih2
end Mine
end

/-! ## L25 -/
section
open PySem PySem.W PyProof.Rows PySem.Calls PySem.Spec PySem.SeqAt
set_option maxRecDepth 100000
namespace Mine
section
variable {prog : Program} {w : World} {A : Around} {E : Value → Shared → Prop} {s : Shared} {env : Env} {h₀ : Heap} {L : Addr} {m : Str → Option Value} {news : List (Addr × Obj)} {R : Result → Shared → Prop}

/-- the inner generator of two: over a list of the ledger -/
theorem inner_list {elt t0 i0 t1 i1 : Expr} {f0 f1 : List Expr} {scope : Scope} {pos : Pos} {acc : Value} {cenv : Env} {C l : Addr} {oC : Obj} {mC : Str → Option Value} {vs : List Value} {nn : Nat}
    (hh : A.handled = none) (F : Fr h₀ L s.heap m) (hoC : LCg.NsObj oC mC) (N : News h₀ L s.heap ((C, oC) :: news)) (hm : (l, listOf vs.toArray nn) ∈ news) (hoff : ∀ p ∈ news, p.1 ≠ C)
    (J : Nat → (Str → Option Value) → List (Addr × Obj) → Prop) (h0 : J 0 mC news)
    (step : ∀ I i v m₁ oC news₁ oI h₁ tk₁, vs[i]? = some v → J i m₁ news₁ → (l, listOf vs.toArray nn) ∈ news₁ → LCg.NsObj oC m₁ → Fr h₀ L h₁ m → News h₀ L h₁ ((I, oI) :: (C, oC) :: news₁) → (∀ p ∈ news₁, p.1 ≠ I ∧ p.1 ≠ C) → I ≠ C →
      wpAny (model prog w) A (assign t1 cenv v) (fun _ s₂ => wpAny (model prog w) A (testsOf f1 cenv) (fun ok s₃ =>
        if ok = true then emitP prog w A elt acc cenv (LEnd h₀ L m s I oI C [(l, listOf vs.toArray nn)] (J (i + 1))) s₃ else LEnd h₀ L m s I oI C [(l, listOf vs.toArray nn)] (J (i + 1)) s₃) (fun _ _ => False) s₂) (fun _ _ => False) { s with heap := h₁, toks := tk₁ })
    (hfin : ∀ m' oC news' h tk, J vs.length m' news' → (l, listOf vs.toArray nn) ∈ news' → Fr h₀ L h m → LCg.NsObj oC m' → News h₀ L h ((C, oC) :: news') → (∀ p ∈ news', p.1 ≠ C) → R (.ok .next) { s with heap := h, toks := tk }) :
    wpAny (model prog w) A (pyIter (.ref l)) (fun it s₅ => codeAny (model prog w) A (.compStart (.ListComp elt [⟨t0, i0, f0, 0⟩, ⟨t1, i1, f1, 0⟩] scope pos) 1 it acc cenv) R s₅) E s := by
  have hls : s.heap.IsList l vs.toArray := PySem.IsL.isList (n := nn) (N _ (.tail _ hm)).1
  obtain ⟨ol, hol, _⟩ := id hls
  have hlt := Heap.lt_size hol
  have hCl := Heap.lt_size (N (C, oC) (.head _)).1
  refine wpAny_pyIter_list hls ?_
  have W := Walks.list (prog := prog) (w := w) hh s.heap.objs.size l (Nat.ne_of_lt hlt) vs.toArray
  have hst : (fun i h => Heap.IsListIter h s.heap.objs.size l i ∧ h.IsList l vs.toArray) 0 (s.heap.push { cls := .type "list_iterator", data := .fields #[.ref l, .int 0 0] }) := ⟨⟨_, Heap.get?_push_size _ rfl, rfl, rfl⟩, hls.at fun o e => Heap.get?_push_of_some _ e⟩
  have loop : codeAny (model prog w) A (.compLoop (.ListComp elt [⟨t0, i0, f0, 0⟩, ⟨t1, i1, f1, 0⟩] scope pos) 1 (.ref s.heap.objs.size) acc cenv) R { s with heap := s.heap.push { cls := .type "list_iterator", data := .fields #[.ref l, .int 0 0] } } := by
    refine cloop_G (s := { s with heap := s.heap.push _ }) (C := C) (srcs := [(l, listOf vs.toArray nn)]) rule_in2 (fun K K' s h x => emitP_mono K K' s h x) W (fun b hb => ?_) (fun i h st => ?_) (Nat.ne_of_lt F.ns.lt) (next_is_new F) (Ne.symm (Nat.ne_of_lt hCl)) (fun i s' v Q' st hQ' => letGo_listiter st.1 hQ')
      hst (F.push _) hoC (fun p hp => ⟨Heap.get?_push_of_some _ (N p hp).1, (N p hp).2⟩) (fun p hp => by rw [List.mem_singleton.mp hp]; exact hm) (fun p hp => ⟨Nat.ne_of_lt (Heap.lt_size (N p (.tail _ hp)).1), hoff p hp⟩) J h0 ?_ ?_
    · rcases List.mem_cons.mp hb with rfl | hb
      · exact .inl rfl
      · exact .inr ⟨_, by rw [List.mem_singleton.mp hb]; exact .head _⟩
    · obtain ⟨o, ho, _⟩ := st.1
      exact ⟨o, ho⟩
    · intro i v m₁ oC news₁ oI h₁ tk₁ _ hP hJ hs hoC' F' N' off'
      exact step _ i v m₁ oC news₁ oI h₁ tk₁ (by simpa using hP) hJ (hs _ (.head _)) hoC' F' N' off' (Ne.symm (Nat.ne_of_lt hCl))
    · intro m' oC news' h tk hJ hs
      exact hfin m' oC news' h tk (by simpa using hJ) (hs _ (.head _))
  exact start_in2 loop (W.self 0 _ _ _ hst loop)

/-- a comprehension over a list of the ledger; what a turn does is left open -/
theorem comp_list_G {elt target iter : Expr} {ifs : List Expr} {gs : List Comprehension} {scope : Scope} {cl : List (Str × Addr)} {pos : Pos} {ax : Addr} {vs : List Value} {nn : Nat} {RR : Value → Addr → Result → Shared → Prop} {BP : Addr → Addr → (Shared → Prop) → Shared → Prop}
    (hh : A.handled = none) (F : Fr h₀ L s.heap m) (N : News h₀ L s.heap news) (hm : (ax, listOf vs.toArray nn) ∈ news)
    (hcell : ∀ y ∈ scope.names, y.2 ≠ .cell) (hkind : scope.kind = .function)
    (hr : ∀ I C D, LoopRule prog w A (.ListComp elt (⟨target, iter, ifs, 0⟩ :: gs) scope pos) 0 (.ref I) (.ref D) (compEnvC scope cl C env) target ifs (BP C D) (RR (.ref D) C))
    (hmono : ∀ C D (K K' : Shared → Prop) s, (∀ s, K s → K' s) → BP C D K s → BP C D K' s)
    (J : Addr → Nat → (Str → Option Value) → List (Addr × Obj) → Prop) (h0 : ∀ D, (∀ p ∈ news, p.1 ≠ D) → J D 0 (fun _ => none) ((D, listOf ([] : List Value).toArray ([] : List Value).length) :: news))
    (step : ∀ I C D i v m₁ oC news₁ oI h₁ tk₁, vs[i]? = some v → J D i m₁ news₁ → (ax, listOf vs.toArray nn) ∈ news₁ → LCg.NsObj oC m₁ → Fr h₀ L h₁ m → News h₀ L h₁ ((I, oI) :: (C, oC) :: news₁) → (∀ p ∈ news₁, p.1 ≠ I ∧ p.1 ≠ C) → I ≠ C →
      wpAny (model prog w) A (assign target (compEnvC scope cl C env) v) (fun _ s₂ => wpAny (model prog w) A (testsOf ifs (compEnvC scope cl C env)) (fun ok s₃ =>
        if ok = true then BP C D (LEnd h₀ L m s I oI C [(ax, listOf vs.toArray nn)] (J D (i + 1))) s₃ else LEnd h₀ L m s I oI C [(ax, listOf vs.toArray nn)] (J D (i + 1)) s₃) (fun _ _ => False) s₂) (fun _ _ => False) { s with heap := h₁, toks := tk₁ })
    (hfin : ∀ C D m' oC news' h tk, J D vs.length m' news' → (ax, listOf vs.toArray nn) ∈ news' → Fr h₀ L h m → LCg.NsObj oC m' → News h₀ L h ((C, oC) :: news') → (∀ p ∈ news', p.1 ≠ C) → RR (.ref D) C (.ok .next) { s with heap := h, toks := tk }) :
    wpAny (model prog w) A (pyIter (.ref ax)) (fun it s₂ => wpAny (model prog w) A (newList []) (fun acc s₃ => wpAny (model prog w) A (newFunctionEnv scope env.globals cl [] env.qual none .none (some env)) (fun cenv s₄ =>
      codeAny (model prog w) A (.compStart (.ListComp elt (⟨target, iter, ifs, 0⟩ :: gs) scope pos) 0 it acc { cenv with scope := relabel scope env }) (RR acc cenv.locals) s₄) E s₃) E s₂) E s := by
  have hls : s.heap.IsList ax vs.toArray := PySem.IsL.isList (n := nn) (N _ hm).1
  obtain ⟨ol, hol, _⟩ := id hls
  have hlt := Heap.lt_size hol
  refine wpAny_pyIter_list hls ?_
  have W := Walks.list (prog := prog) (w := w) hh s.heap.objs.size ax (Nat.ne_of_lt hlt) vs.toArray
  generalize hIe : s.heap.objs.size = I at W ⊢
  have hI₀ : h₀.get? I = none := hIe ▸ next_is_new F
  have hLI : L < I := hIe ▸ F.ns.lt
  generalize hs1 : s.heap.push { cls := .type "list_iterator", data := .fields #[.ref ax, .int 0 0] } = H1
  have up1 : ∀ b o, s.heap.get? b = some o → H1.get? b = some o := fun b o e => hs1 ▸ Heap.get?_push_of_some _ e
  have hst₀ : H1.IsListIter I ax 0 ∧ H1.IsList ax vs.toArray := ⟨⟨_, by rw [← hs1, ← hIe]; exact Heap.get?_push_size _ rfl, rfl, rfl⟩, hls.at fun o e => up1 _ o e⟩
  have hsz1 : H1.objs.size = I + 1 := by rw [← hs1, Heap.size_push, hIe]
  refine wpAny_newObj_type (wpAny_newFunctionEnv hcell (by intro y hy; simp at hy) (fun h₁ hns₁ hsb₁ => ?_) hkind)
  dsimp only at hns₁ hsb₁ ⊢
  generalize hH2 : H1.push { cls := .type "list", dict := none, data := .seq ([] : List Value).toArray } = H2 at hns₁ hsb₁ ⊢
  have hC : H2.objs.size = I + 1 + 1 := by rw [← hH2, Heap.size_push, hsz1]
  rw [hsz1]
  generalize hCe : H2.objs.size = C at hns₁ hsb₁ hC ⊢
  generalize hDe : I + 1 = D at hC
  have hID : @LT.lt Nat _ I D := hDe ▸ Nat.lt_succ_self I
  have hDC : @LT.lt Nat _ D C := hC ▸ Nat.lt_succ_self D
  have hLD : L < D := Nat.lt_trans hLI hID
  have hLC : L < C := Nat.lt_trans hLD hDC
  have below : ∀ b o, s.heap.get? b = some o → b < I := fun b o e => hIe ▸ Heap.lt_size e
  have fresh₀ : ∀ a, I ≤ a → h₀.get? a = none := fun a ha => by
    cases e : h₀.get? a with
    | none => rfl
    | some o' => exact absurd (below _ _ (F.keep a o' e)) (Nat.not_lt.mpr ha)
  have old : ∀ b o, b ≠ C → H1.get? b = some o → h₁.get? b = some o := fun b o hb e =>
    hsb₁.extBut b o hb (Heap.get?_push_of_some _ (hH2 ▸ Heap.get?_push_of_some _ e))
  have old₀ : ∀ b o, s.heap.get? b = some o → h₁.get? b = some o := fun b o e => old b o (Nat.ne_of_lt (Nat.lt_trans (below _ _ e) (Nat.lt_trans hID hDC))) (up1 _ _ e)
  have hacc : h₁.get? D = some (listOf ([] : List Value).toArray ([] : List Value).length) := hsb₁.extBut _ _ (Nat.ne_of_lt hDC) (Heap.get?_push_of_some _ (by rw [← hH2, ← hDe, ← hsz1]; exact Heap.get?_push_size _ rfl))
  have hst₁ : h₁.IsListIter I ax 0 ∧ h₁.IsList ax vs.toArray := ⟨hst₀.1.at fun o e => old _ o (Nat.ne_of_lt (Nat.lt_trans hID hDC)) e, hls.at fun o e => old₀ _ o e⟩
  obtain ⟨oC, heC, hoC⟩ := LCg.ns_obj hns₁
  have off₀ : ∀ p ∈ news, p.1 ≠ I ∧ p.1 ≠ C ∧ p.1 ≠ D := fun p hp => ⟨Nat.ne_of_lt (below _ _ (N p hp).1), Nat.ne_of_lt (Nat.lt_trans (below _ _ (N p hp).1) (Nat.lt_trans hID hDC)), Nat.ne_of_lt (Nat.lt_trans (below _ _ (N p hp).1) hID)⟩
  have loop : ∀ s₃ : Shared, (∃ tk, s₃ = { s with heap := h₁, toks := tk }) →
      codeAny (model prog w) A (.compLoop (.ListComp elt (⟨target, iter, ifs, 0⟩ :: gs) scope pos) 0 (.ref I) (.ref D) (compEnvC scope cl C env)) (RR (.ref D) C) s₃ := by
    rintro s₃ ⟨tk₀, rfl⟩
    refine cloop_G (s := { s with heap := h₁, toks := tk₀ }) (C := C) (oC := oC) (mC := fun _ => none) (srcs := [(ax, listOf vs.toArray nn)]) (hr I C D) (hmono C D) W (fun b hb => ?_) (fun i h st => ?_) (Nat.ne_of_lt hLI) hI₀ (Nat.ne_of_lt (Nat.lt_trans hID hDC)) (fun i s' v Q' st hQ' => letGo_listiter st.1 hQ')
      hst₁ (F.keeps old₀) hoC (fun p hp => ?_) (fun p hp => by rw [List.mem_singleton.mp hp]; exact .tail _ hm) (fun p hp => ?_) (J D) (h0 D fun p hp => (off₀ p hp).2.2) ?_ ?_
    · rcases List.mem_cons.mp hb with rfl | hb
      · exact .inl rfl
      · exact .inr ⟨_, by rw [List.mem_singleton.mp hb]; exact .head _⟩
    · obtain ⟨o, ho, _⟩ := st.1
      exact ⟨o, ho⟩
    · rcases List.mem_cons.mp hp with rfl | hp
      · exact ⟨heC, Ne.symm (Nat.ne_of_lt hLC), fresh₀ C (Nat.le_of_lt (Nat.lt_trans hID hDC))⟩
      · rcases List.mem_cons.mp hp with rfl | hp
        · exact ⟨hacc, Ne.symm (Nat.ne_of_lt hLD), fresh₀ D (Nat.le_of_lt hID)⟩
        · exact ⟨old₀ _ _ (N p hp).1, (N p hp).2⟩
    · rcases List.mem_cons.mp hp with rfl | hp
      · exact ⟨Ne.symm (Nat.ne_of_lt hID), Nat.ne_of_lt hDC⟩
      · exact ⟨(off₀ p hp).1, (off₀ p hp).2.1⟩
    · intro i v m₁ oC news₁ oI h₁ tk₁ _ hP hJ hs hoC' F' N' off'
      exact step I C D i v m₁ oC news₁ oI h₁ tk₁ (by simpa using hP) hJ (hs _ (.head _)) hoC' F' N' off' (Nat.ne_of_lt (Nat.lt_trans hID hDC))
    · intro m' oC news' h tk hJ hs
      exact hfin C D m' oC news' h tk (by simpa using hJ) (hs _ (.head _))
  exact codeAny_compStart_list (loop _ ⟨_, rfl⟩) (W.self 0 _ _ _ hst₁ (loop _ ⟨_, rfl⟩))
end
end Mine
end

/-! ## L26 -/
section
open PySem PySem.W PyProof.Rows PySem.Calls PySem.Spec PySem.SeqAt
set_option maxRecDepth 100000
namespace Mine
section
variable {prog : Program} {w : World} {A : Around} {E : Value → Shared → Prop} {s : Shared} {env : Env} {h₀ : Heap} {L : Addr} {m : Str → Option Value} {news : List (Addr × Obj)} {R : Result → Shared → Prop}
theorem newEnv_one {scope : Scope} {globals : Addr} {cl : List (Str × Addr)} {x : Str} {qual : Str} {outer : Env} {Q : Env → Shared → Prop}
    (hcells : ∀ n, cellsFrom n scope.names cl = (x, n) :: cl) (hpush : ∀ h, pushCells h scope.names = h.push { cls := .type "cell", data := .cell none })
    (hQ : Q (newEnv scope s.heap.objs.size globals ((x, s.heap.objs.size + 1) :: cl) qual none .none (some outer) builtinsNs) { s with heap := (s.heap.push { cls := .type "dict", data := .dict #[] }).push { cls := .type "cell", data := .cell none } }) :
    wpAny (model prog w) A (newFunctionEnv scope globals cl [] qual none .none (some outer)) Q E s := by
  simp only [newFunctionEnv, Option.isSome_some, if_true]
  refine wpAny_bind (wpAny_alloc ?_)
  refine wpAny_bind (wpAny_layCells _ (fun name kind cells => by cases hkc : kind == NameKind.cell <;> simp [hkc]) _ _ _ _ ?_)
  rw [show ({ s with heap := s.heap.push { cls := .type "dict", data := .dict #[] } } : Shared).heap.objs.size = s.heap.objs.size + 1 from Heap.size_push .., hcells, hpush]
  exact wpAny_bind (wpAny_pure (wpAny_pure hQ))
/-- a comprehension over a range whose target is a cell of its own -/
theorem comp_range_cell {elt iter : Expr} {ifs : List Expr} {scope : Scope} {cl : List (Str × Addr)} {pos px : Pos} {x : Str} {r : Addr} {a b : Int} {t u v : Tok} {n : Nat} {RR : Value → Addr → Result → Shared → Prop}
    (hh : A.handled = none) (F : Fr h₀ L s.heap m) (N : News h₀ L s.heap news) (hr : IsRange s.heap r a b 1 t u v)
    (hsmall : Builtin.Range.small a b 1 = true) (hn : Builtin.Range.rangeSize a b 1 = (n : Int)) (hgo : ∀ it v, letOwnedTupleGo (.Name x px) it v = pure ())
    (hcells : ∀ n, cellsFrom n scope.names cl = (x, n) :: cl) (hpush : ∀ h, pushCells h scope.names = h.push { cls := .type "cell", data := .cell none })
    (J : Addr → Addr → Nat → (Str → Option Value) → List (Addr × Obj) → Prop) (h0 : ∀ X D oX, (∀ p ∈ news, p.1 ≠ D ∧ p.1 ≠ X) → D ≠ X → oX.data = .cell none → J X D 0 (fun _ => none) ((X, oX) :: (D, listOf ([] : List Value).toArray ([] : List Value).length) :: news))
    (step : ∀ I C D X (i : Nat) (v : Value) m₁ oC news₁ oI h₁ tk₁, i < n → (∃ t, v = Value.int (a + i * 1) t) → J X D i m₁ news₁ → LCg.NsObj oC m₁ → Fr h₀ L h₁ m → News h₀ L h₁ ((I, oI) :: (C, oC) :: news₁) → (∀ p ∈ news₁, p.1 ≠ I ∧ p.1 ≠ C) → I ≠ C →
      wpAny (model prog w) A (assign (.Name x px) (compEnvC scope ((x, X) :: cl) C env) v) (fun _ s₂ => wpAny (model prog w) A (testsOf ifs (compEnvC scope ((x, X) :: cl) C env)) (fun ok s₃ =>
        if ok = true then emitP prog w A elt (.ref D) (compEnvC scope ((x, X) :: cl) C env) (LEnd h₀ L m s I oI C [] (J X D (i + 1))) s₃ else LEnd h₀ L m s I oI C [] (J X D (i + 1)) s₃) (fun _ _ => False) s₂) (fun _ _ => False) { s with heap := h₁, toks := tk₁ })
    (hfin : ∀ C D X m' oC news' h tk, J X D n m' news' → Fr h₀ L h m → LCg.NsObj oC m' → News h₀ L h ((C, oC) :: news') → (∀ p ∈ news', p.1 ≠ C) → RR (.ref D) C (.ok .next) { s with heap := h, toks := tk }) :
    wpAny (model prog w) A (pyIter (.ref r)) (fun it s₂ => wpAny (model prog w) A (newList []) (fun acc s₃ => wpAny (model prog w) A (newFunctionEnv scope env.globals cl [] env.qual none .none (some env)) (fun cenv s₄ =>
      codeAny (model prog w) A (.compStart (.ListComp elt [⟨.Name x px, iter, ifs, 0⟩] scope pos) 0 it acc { cenv with scope := relabel scope env }) (RR acc cenv.locals) s₄) E s₃) E s₂) E s := by
  refine wpAny_pyIter_range hr hsmall ?_
  have W := Walks.range (prog := prog) (w := w) hh s.heap.objs.size a 1 n
  generalize hIe : s.heap.objs.size = I at W ⊢
  have hI₀ : h₀.get? I = none := hIe ▸ next_is_new F
  have hLI : L < I := hIe ▸ F.ns.lt
  generalize hs1 : s.heap.push { cls := .type "range_iterator", data := .fields #[rawInt a, rawInt (Builtin.Range.rangeSize a b 1), rawInt 1] } = H1
  have up1 : ∀ b o, s.heap.get? b = some o → H1.get? b = some o := fun b o e => hs1 ▸ Heap.get?_push_of_some _ e
  have hst₀ : IsRangeIter H1 I (a + (0 : Nat) * 1) ((n : Int) - (0 : Nat)) 1 := by
    have := Heap.get?_push_size s.heap (o := { cls := .type "range_iterator", data := .fields #[rawInt a, rawInt (Builtin.Range.rangeSize a b 1), rawInt 1] }) rfl
    rw [hs1, hIe, hn] at this
    simpa using this
  have hsz1 : H1.objs.size = I + 1 := by rw [← hs1, Heap.size_push, hIe]
  refine wpAny_newObj_type ?_
  rw [hsz1]
  refine newEnv_one hcells hpush ?_
  dsimp only
  generalize hH2 : H1.push { cls := .type "list", dict := none, data := .seq ([] : List Value).toArray } = H2
  have hC : H2.objs.size = I + 1 + 1 := by rw [← hH2, Heap.size_push, hsz1]
  rw [hC]
  generalize hH3 : (H2.push { cls := .type "dict", data := .dict #[] }) = H3
  have hX : H3.objs.size = I + 1 + 1 + 1 := by rw [← hH3, Heap.size_push, hC]
  generalize hH4 : H3.push { cls := .type "cell", data := .cell none } = h₁
  have e4 : ∀ b o, H3.get? b = some o → h₁.get? b = some o := fun b o e => hH4 ▸ Heap.get?_push_of_some _ e
  have e3 : ∀ b o, H2.get? b = some o → H3.get? b = some o := fun b o e => hH3 ▸ Heap.get?_push_of_some _ e
  have e2 : ∀ b o, H1.get? b = some o → H2.get? b = some o := fun b o e => hH2 ▸ Heap.get?_push_of_some _ e
  have old₁ : ∀ b o, H1.get? b = some o → h₁.get? b = some o := fun b o e => e4 _ _ (e3 _ _ (e2 _ _ e))
  have old₀ : ∀ b o, s.heap.get? b = some o → h₁.get? b = some o := fun b o e => old₁ b o (up1 _ _ e)
  have hacc : h₁.get? (I + 1) = some (listOf ([] : List Value).toArray ([] : List Value).length) := e4 _ _ (e3 _ _ (by rw [← hH2, ← hsz1]; exact Heap.get?_push_size _ rfl))
  have hns₁ : h₁.Ns (I + 1 + 1) fun _ => none := by
    have := Heap.Ns.new H2 (.type "dict")
    rw [hH3, hC] at this
    exact this.at' fun o e => e4 _ _ e
  have hcel : h₁.get? (I + 1 + 1 + 1) = some { cls := .type "cell", data := .cell none } := by rw [← hH4, ← hX]; exact Heap.get?_push_size _ rfl
  obtain ⟨oC, heC, hoC⟩ := LCg.ns_obj hns₁
  have hst₁ := W.frame 0 _ _ hst₀ fun b _ o e => old₁ b o e
  generalize hDe : I + 1 = D at hacc heC hcel hns₁
  generalize hCe : D + 1 = C at heC hcel hns₁
  generalize hXe : C + 1 = X at hcel
  have hID : @LT.lt Nat _ I D := hDe ▸ Nat.lt_succ_self I
  have hDC : @LT.lt Nat _ D C := hCe ▸ Nat.lt_succ_self D
  have hCX : @LT.lt Nat _ C X := hXe ▸ Nat.lt_succ_self C
  have hIC := Nat.lt_trans hID hDC
  have hDX := Nat.lt_trans hDC hCX
  have hIX := Nat.lt_trans hIC hCX
  have hLD : L < D := Nat.lt_trans hLI hID
  have hLC : L < C := Nat.lt_trans hLD hDC
  have hLX : L < X := Nat.lt_trans hLC hCX
  have below : ∀ b o, s.heap.get? b = some o → b < I := fun b o e => hIe ▸ Heap.lt_size e
  have fresh₀ : ∀ a, I ≤ a → h₀.get? a = none := fun a ha => by
    cases e : h₀.get? a with
    | none => rfl
    | some o' => exact absurd (below _ _ (F.keep a o' e)) (Nat.not_lt.mpr ha)
  have off₀ : ∀ p ∈ news, p.1 < I := fun p hp => below _ _ (N p hp).1
  have loop : ∀ s₃ : Shared, (∃ tk, s₃ = { s with heap := h₁, toks := tk }) →
      codeAny (model prog w) A (.compLoop (.ListComp elt [⟨.Name x px, iter, ifs, 0⟩] scope pos) 0 (.ref I) (.ref D) (compEnvC scope ((x, X) :: cl) C env)) (RR (.ref D) C) s₃ := by
    rintro s₃ ⟨tk₀, rfl⟩
    refine cloop_G (s := { s with heap := h₁, toks := tk₀ }) (C := C) (oC := oC) (mC := fun _ => none) (srcs := []) rule_one (fun K K' s h x => emitP_mono K K' s h x) W (fun b hb => .inl (List.mem_singleton.mp hb)) (fun i h st => ⟨_, st⟩) (Nat.ne_of_lt hLI) hI₀ (Nat.ne_of_lt hIC) (fun i s' v Q' st hQ' => wpAny_of_eq (hgo _ _) hQ')
      hst₁ (F.keeps old₀) hoC (fun p hp => ?_) (fun p hp => nomatch hp) (fun p hp => ?_) (J X D) (h0 X D { cls := .type "cell", data := .cell none } (fun p hp => ⟨Nat.ne_of_lt (Nat.lt_trans (off₀ p hp) hID), Nat.ne_of_lt (Nat.lt_trans (off₀ p hp) hIX)⟩) (Nat.ne_of_lt hDX) rfl) ?_ ?_
    · rcases List.mem_cons.mp hp with rfl | hp
      · exact ⟨heC, Ne.symm (Nat.ne_of_lt hLC), fresh₀ C (Nat.le_of_lt hIC)⟩
      rcases List.mem_cons.mp hp with rfl | hp
      · exact ⟨hcel, Ne.symm (Nat.ne_of_lt hLX), fresh₀ X (Nat.le_of_lt hIX)⟩
      rcases List.mem_cons.mp hp with rfl | hp
      · exact ⟨hacc, Ne.symm (Nat.ne_of_lt hLD), fresh₀ D (Nat.le_of_lt hID)⟩
      · exact ⟨old₀ _ _ (N p hp).1, (N p hp).2⟩
    · rcases List.mem_cons.mp hp with rfl | hp
      · exact ⟨Ne.symm (Nat.ne_of_lt hIX), Ne.symm (Nat.ne_of_lt hCX)⟩
      rcases List.mem_cons.mp hp with rfl | hp
      · exact ⟨Ne.symm (Nat.ne_of_lt hID), Nat.ne_of_lt hDC⟩
      · exact ⟨Nat.ne_of_lt (off₀ p hp), Nat.ne_of_lt (Nat.lt_trans (off₀ p hp) hIC)⟩
    · intro i v m₁ oC news₁ oI h₁ tk₁ hi hP hJ hs hoC' F' N' off'
      exact step I C D X i v m₁ oC news₁ oI h₁ tk₁ hi hP hJ hoC' F' N' off' (Nat.ne_of_lt hIC)
    · intro m' oC news' h tk hJ hs
      exact hfin C D X m' oC news' h tk hJ
  subst hXe hCe hDe
  exact codeAny_compStart_list (loop _ ⟨_, rfl⟩) (W.self 0 _ _ _ hst₁ (loop _ ⟨_, rfl⟩))
/-- a store to a cell of a comprehension's own -/
theorem asg_cell {cenv : Env} {x : Str} {px : Pos} {X : Addr} {oX : Obj} {w₀ : Option Value} {v : Value} {Q : Unit → Shared → Prop} (hk : cenv.scope.kind = .function) (hl : cenv.kindOf x = some .cell) (hc : cenv.cells.lookup x = some X) (F : Fr h₀ L s.heap m) (N : News h₀ L s.heap ((X, oX) :: news)) (hd : oX.data = .cell w₀) (off : ∀ p ∈ news, p.1 ≠ X)
    (h : ∀ h' oX', oX'.data = .cell (some v) → Fr h₀ L h' m → News h₀ L h' ((X, oX') :: news) → Q () { s with heap := h' }) :
    wpAny (model prog w) A (assign (.Name x px) cenv v) Q E s := by
  have z := N _ (.head _)
  refine wpAny_assign_Name (wpAny_storeName_cell hk hl hc ⟨_, z.1, hd⟩ fun h' hc' hs' => ?_)
  obtain ⟨o', ho', hd'⟩ := hc'
  refine h h' o' hd' (F.change hs' z.2.1 z.2.2) fun p hp => ?_
  rcases List.mem_cons.mp hp with rfl | hp
  · exact ⟨ho', z.2⟩
  · have y := N p (.tail _ hp)
    exact ⟨hs'.extBut _ _ (off p hp) y.1, y.2⟩
end
end Mine
end

/-! ## L27 -/
section
open PySem PySem.W PyProof.Rows PySem.Calls PySem.Spec PySem.SeqAt
set_option maxRecDepth 100000
namespace Mine
section
variable {prog : Program} {w : World} {A : Around} {E : Value → Shared → Prop} {s : Shared} {env : Env} {h₀ : Heap} {L : Addr} {m : Str → Option Value} {news : List (Addr × Obj)}
theorem keep_C {h h' : Heap} {C I : Addr} {oI oC : Obj} {m₁ m₂ : Str → Option Value} (F : Fr h₀ L h m) (N : News h₀ L h ((I, oI) :: (C, oC) :: news)) (off : ∀ p ∈ news, p.1 ≠ I ∧ p.1 ≠ C) (hIC : I ≠ C) (hn : h'.Ns C m₂)
    (hk : ∀ c o, c ≠ C → h.get? c = some o → h'.get? c = some o) : ∃ oC', LCg.NsObj oC' m₂ ∧ Fr h₀ L h' m ∧ News h₀ L h' ((I, oI) :: (C, oC') :: news) := by
  obtain ⟨oC', heC, hoC⟩ := LCg.ns_obj hn
  have zC := (N (C, oC) (.tail _ (.head _))).2
  refine ⟨oC', hoC, ⟨F.ns.at' fun o e => hk _ o (Ne.symm zC.1) e, fun b o e => hk b o (fun hb => by rw [hb, zC.2] at e; cases e) (F.keep b o e), F.above⟩, fun p hp => ?_⟩
  rcases List.mem_cons.mp hp with rfl | hp
  · have z := N _ (.head _)
    exact ⟨hk _ _ hIC z.1, z.2⟩
  rcases List.mem_cons.mp hp with rfl | hp
  · exact ⟨heC, zC⟩
  · have z := N _ (.tail _ (.tail _ hp))
    exact ⟨hk _ _ (off p hp).2 z.1, z.2⟩
theorem asg_name_G {scope : Scope} {cl : List (Str × Addr)} {I C : Addr} {oI oC : Obj} {x : Str} {px : Pos} {v : Value} {m₁ : Str → Option Value} {Q : Unit → Shared → Prop} (F : Fr h₀ L s.heap m) (N : News h₀ L s.heap ((I, oI) :: (C, oC) :: news)) (hoC : LCg.NsObj oC m₁) (off : ∀ p ∈ news, p.1 ≠ I ∧ p.1 ≠ C) (hIC : I ≠ C)
    (hx : scope.names.lookup x = some .local) (hk : scope.kind = .function)
    (h : ∀ h' tk oC' m₂, LCg.NsObj oC' m₂ → m₂ x = some v → (∀ y, y ≠ x → m₂ y = m₁ y) → Fr h₀ L h' m → News h₀ L h' ((I, oI) :: (C, oC') :: news) → Q () { s with heap := h', toks := tk }) :
    wpAny (model prog w) A (assign (.Name x px) (compEnvC scope cl C env) v) Q E s := by
  refine asg_name hx hk (hoC.ns (N _ (.tail _ (.head _))).1) fun h' tk hn hks => ?_
  obtain ⟨oC', hoC', F', N'⟩ := keep_C (m₁ := m₁) F N off hIC hn hks
  exact h h' tk oC' _ hoC' (if_pos rfl) (fun y hy => if_neg hy) F' N'
theorem asg_pair_G {scope : Scope} {cl : List (Str × Addr)} {I C : Addr} {oI oC : Obj} {a b : Str} {pa pb tp : Pos} {kk n : Nat} {T : Addr} {x y : Value} {m₁ : Str → Option Value} {Q : Unit → Shared → Prop} (hh : A.handled = none) (F : Fr h₀ L s.heap m) (N : News h₀ L s.heap ((I, oI) :: (C, oC) :: news)) (hoC : LCg.NsObj oC m₁) (off : ∀ p ∈ news, p.1 ≠ I ∧ p.1 ≠ C) (hIC : I ≠ C)
    (hT : (T, ({ cls := .type "tuple", data := .seq #[x, y] n } : Obj)) ∈ news)
    (ha : scope.names.lookup a = some .local) (hb : scope.names.lookup b = some .local) (hk : scope.kind = .function) (hab : a ≠ b)
    (h : ∀ h' tk oC' m₂, LCg.NsObj oC' m₂ → m₂ a = some x → m₂ b = some y → Fr h₀ L h' m → News h₀ L h' ((I, oI) :: (C, oC') :: news) → Q () { s with heap := h', toks := tk }) :
    wpAny (model prog w) A (assign (.Tuple [.Name a pa, .Name b pb] kk tp) (compEnvC scope cl C env) (.ref T)) Q E s := by
  refine asg_pair hh ⟨_, (N _ (.tail _ (.tail _ hT))).1, rfl, n, rfl⟩ ha hb hk (hoC.ns (N _ (.tail _ (.head _))).1) fun h' tk hn hks => ?_
  obtain ⟨oC', hoC', F', N'⟩ := keep_C (m₁ := m₁) F N off hIC hn hks
  exact h h' tk oC' _ hoC' ((if_neg hab).trans (if_pos rfl)) (if_pos rfl) F' N'
theorem asg_triple_G {scope : Scope} {cl : List (Str × Addr)} {I C : Addr} {oI oC : Obj} {a b c : Str} {pa pb pc tp : Pos} {kk n : Nat} {T : Addr} {x y z : Value} {m₁ : Str → Option Value} {Q : Unit → Shared → Prop} (hh : A.handled = none) (F : Fr h₀ L s.heap m) (N : News h₀ L s.heap ((I, oI) :: (C, oC) :: news)) (hoC : LCg.NsObj oC m₁) (off : ∀ p ∈ news, p.1 ≠ I ∧ p.1 ≠ C) (hIC : I ≠ C)
    (hT : (T, ({ cls := .type "tuple", data := .seq #[x, y, z] n } : Obj)) ∈ news)
    (ha : scope.names.lookup a = some .local) (hb : scope.names.lookup b = some .local) (hc : scope.names.lookup c = some .local) (hk : scope.kind = .function) (hab : a ≠ b) (hac : a ≠ c) (hbc : b ≠ c)
    (h : ∀ h' tk oC' m₂, LCg.NsObj oC' m₂ → m₂ a = some x → m₂ b = some y → m₂ c = some z → Fr h₀ L h' m → News h₀ L h' ((I, oI) :: (C, oC') :: news) → Q () { s with heap := h', toks := tk }) :
    wpAny (model prog w) A (assign (.Tuple [.Name a pa, .Name b pb, .Name c pc] kk tp) (compEnvC scope cl C env) (.ref T)) Q E s := by
  refine asg_triple hh ⟨_, (N _ (.tail _ (.tail _ hT))).1, rfl, n, rfl⟩ ha hb hc hk (hoC.ns (N _ (.tail _ (.head _))).1) fun h' tk hn hks => ?_
  obtain ⟨oC', hoC', F', N'⟩ := keep_C (m₁ := m₁) F N off hIC hn hks
  exact h h' tk oC' _ hoC' ((if_neg hac).trans ((if_neg hab).trans (if_pos rfl))) ((if_neg hbc).trans (if_pos rfl)) (if_pos rfl) F' N'
end
/-! ### rows -/
def pairsOf (gb : List Giv) : List (Int × Int) := gb.flatMap fun g => (rowsOf g.bits).map fun (r : Nat) => ((r : Int), g.thing)
theorem pairsOf_snoc (gb : List Giv) (g : Giv) : pairsOf (gb ++ [g]) = pairsOf gb ++ (rowsOf g.bits).map fun (r : Nat) => ((r : Int), g.thing) := by
  unfold pairsOf
  rw [List.flatMap_append, List.flatMap_singleton]
theorem pairsOf_take {gb : List Giv} {i : Nat} {g : Giv} (h : gb[i]? = some g) : pairsOf (gb.take (i + 1)) = pairsOf (gb.take i) ++ (rowsOf g.bits).map fun (r : Nat) => ((r : Int), g.thing) := by
  rw [List.take_add_one, h]
  exact pairsOf_snoc _ _
theorem rows_len (l : List Bool) : (rowsOf l).length = 2 ^ (5 - l.length) := by simp [rowsOf]
theorem rows_le (l : List Bool) : (rowsOf l).length ≤ 32 := by
  rw [rows_len]
  exact Nat.pow_le_pow_right (n := 2) (by decide) (Nat.sub_le 5 _)
theorem pairs_len : ∀ gb : List Giv, (pairsOf gb).length ≤ 32 * gb.length
  | [] => Nat.le_refl _
  | g :: r => by
    have := pairs_len r
    have := rows_le g.bits
    unfold pairsOf at *
    rw [List.flatMap_cons, List.length_append, List.length_map, List.length_cons]
    omega
end Mine
end

/-! ## L28 -/
section
open PySem PySem.W PyProof.Rows PySem.Calls PySem.Spec PySem.SeqAt
set_option maxRecDepth 100000
namespace Mine
abbrev offX (X : Addr) (l : List (Addr × Obj)) : List (Addr × Obj) := l.filter fun p => decide (p.1 ≠ X)
theorem mem_offX {X : Addr} {l : List (Addr × Obj)} {p : Addr × Obj} (h : p ∈ l) (hp : p.1 ≠ X) : p ∈ offX X l := List.mem_filter.mpr ⟨h, decide_eq_true hp⟩
theorem offX_ne {X : Addr} {l : List (Addr × Obj)} : ∀ p ∈ offX X l, p.1 ≠ X := fun _ hp => of_decide_eq_true (List.mem_filter.mp hp).2
theorem data_apart {h₀ h : Heap} {L : Addr} {l : List (Addr × Obj)} {a X : Addr} {o oX : Obj} (N : News h₀ L h l) (h1 : (a, o) ∈ l) (h2 : (X, oX) ∈ l) (hd : o.data ≠ oX.data) : a ≠ X := fun e => by
  have z1 := (N _ h1).1
  have z2 := (N _ h2).1
  dsimp only at z1 z2
  rw [e, z2] at z1
  exact hd (congrArg Obj.data (Option.some.inj z1)).symm
section
variable {prog : Program} {w : World} {A : Around} {E : Value → Shared → Prop} {s : Shared} {h₀ : Heap} {L : Addr} {m : Str → Option Value} {news : List (Addr × Obj)}
theorem store_cell {env : Env} {x : Str} {X : Addr} {oX : Obj} {w₀ : Option Value} {v : Value} {Q : Unit → Shared → Prop} (hk : env.scope.kind = .function) (hl : env.kindOf x = some .cell) (hc : env.cells.lookup x = some X) (F : Fr h₀ L s.heap m) (N : News h₀ L s.heap news) (hX : (X, oX) ∈ news) (hd : oX.data = .cell w₀)
    (h : ∀ h' oX', oX'.data = .cell (some v) → Fr h₀ L h' m → News h₀ L h' ((X, oX') :: offX X news) → Q () { s with heap := h' }) :
    wpAny (model prog w) A (storeName env x v) Q E s := by
  have z := N _ hX
  refine wpAny_storeName_cell hk hl hc ⟨_, z.1, hd⟩ fun h' hc' hs' => ?_
  obtain ⟨o', ho', hd'⟩ := hc'
  refine h h' o' hd' (F.change hs' z.2.1 z.2.2) fun p hp => ?_
  rcases List.mem_cons.mp hp with rfl | hp
  · exact ⟨ho', z.2⟩
  · have y := N p (List.mem_filter.mp hp).1
    exact ⟨hs'.extBut _ _ (offX_ne p hp) y.1, y.2⟩
end
theorem askIn_offX {h₀ h : Heap} {L X : Addr} {l : List (Addr × Obj)} {oX : Obj} {v : Option Value} {x : Ask} (N : News h₀ L h l) (hX : (X, oX) ∈ l) (hd : oX.data = .cell v) (hx : AskIn l x) : AskIn (offX X l) x := by
  obtain ⟨t, t', n, hm⟩ := hx
  exact ⟨t, t', n, mem_offX hm (data_apart N hm hX (by rw [hd]; intro e; cases e))⟩
theorem givIn_offX {h₀ h : Heap} {L X : Addr} {l : List (Addr × Obj)} {oX : Obj} {v : Option Value} {x : Giv} (N : News h₀ L h l) (hX : (X, oX) ∈ l) (hd : oX.data = .cell v) (hx : GivIn l x) : GivIn (offX X l) x := by
  obtain ⟨t, t', t'', n, hm⟩ := hx
  exact ⟨t, t', t'', n, mem_offX hm (data_apart N hm hX (by rw [hd]; intro e; cases e))⟩
theorem list_offX {h₀ h : Heap} {L X a : Addr} {l : List (Addr × Obj)} {oX : Obj} {v : Option Value} {its : Array Value} {n : Nat} (N : News h₀ L h l) (hX : (X, oX) ∈ l) (hd : oX.data = .cell v) (hx : (a, listOf its n) ∈ l) : (a, listOf its n) ∈ offX X l :=
  mem_offX hx (data_apart N hx hX (by rw [hd]; intro e; cases e))
/-! ### the rows are all there -/
theorem intsAre_av {rs : List Ask} {n : Nat} {vs : List Value} {t : Tok} {x : Ask} (hx : rs[n]? = some x) (h : IntsAre vs ((rs.take n).map (·.room))) : IntsAre (vs ++ [.int x.room t]) ((rs.take (n + 1)).map (·.room)) := by
  rw [List.take_add_one, hx, List.map_append]
  exact intsAre_snoc h
theorem rows_firsts {rs : List Ask} {gb : List Giv} (h : rs.map (fun x => (x.room, x.thing)) = pairsOf gb) : rs.map (·.room) = (gb.flatMap fun g => rowsOf g.bits).map fun (r : Nat) => (r : Int) := by
  have e : rs.map (·.room) = (pairsOf gb).map (·.1) := by rw [← h, List.map_map]; rfl
  rw [e]
  unfold pairsOf
  rw [List.map_flatMap, List.map_flatMap]
  congr 1
  funext g
  rw [List.map_map]
  rfl
theorem sorted_range {ns : List Int} {al : List Ask} {gb : List Giv} {rs : List Ask} (GI : GInv [] gb al) (h : rs.map (fun x => (x.room, x.thing)) = pairsOf gb) (hp : ns.Perm (rs.map (·.room))) (hs : ns.Pairwise (· ≤ ·)) : ns = (List.range 32).map fun (r : Nat) => (r : Int) := by
  have h1 : (gb.flatMap fun g => rowsOf g.bits).Perm (List.range 32) := GI.rows
  have h2 : ns.Perm ((List.range 32).map fun (r : Nat) => (r : Int)) := hp.trans (by rw [rows_firsts h]; exact h1.map _)
  have h3 : ((List.range 32).map fun (r : Nat) => (r : Int)).Pairwise (· ≤ ·) := by decide +kernel
  exact h2.eq_of_pairwise (fun a b _ _ h1 h2 => Int.le_antisymm h1 h2) hs h3
theorem rows32 {al : List Ask} {gb : List Giv} {rs : List Ask} (GI : GInv [] gb al) (h : rs.map (fun x => (x.room, x.thing)) = pairsOf gb) : rs.length = 32 := by
  have h1 : (gb.flatMap fun g => rowsOf g.bits).Perm (List.range 32) := GI.rows
  have e := congrArg List.length (rows_firsts h)
  rw [List.length_map, List.length_map, h1.length_eq, List.length_range] at e
  exact e
end Mine
end

/-! ## L29 -/
section
open PySem PySem.W PyProof.Rows PySem.Calls PySem.Spec PySem.SeqAt
set_option maxRecDepth 100000
namespace Mine
theorem av_get {rs : List Ask} {j : Nat} {v : Value} (h : (av rs)[j]? = some v) : ∃ x, rs[j]? = some x ∧ v = .ref x.a := by
  rw [List.getElem?_map] at h
  cases hgi : rs[j]? with
  | none => rw [hgi] at h; cases h
  | some x => rw [hgi] at h; exact ⟨x, rfl, (Option.some.inj h).symm⟩
theorem gv_get {rs : List Giv} {j : Nat} {v : Value} (h : (gv rs)[j]? = some v) : ∃ x, rs[j]? = some x ∧ v = .ref x.a := by
  rw [List.getElem?_map] at h
  cases hgi : rs[j]? with
  | none => rw [hgi] at h; cases h
  | some x => rw [hgi] at h; exact ⟨x, rfl, (Option.some.inj h).symm⟩
theorem tup_of {h : Heap} {a : Addr} {its : Array Value} {n : Nat} (e : h.get? a = some { cls := .type "tuple", data := .seq its n }) : h.IsTuple a its := ⟨_, e, rfl, n, rfl⟩
theorem filter_all {α : Type} (l : List α) : (l.filter fun _ => true) = l := by induction l with | nil => rfl | cons x r ih => rw [List.filter_cons, if_pos rfl, ih]
theorem filter_none {α : Type} (l : List α) : (l.filter fun _ => false) = [] := by induction l with | nil => rfl | cons x r ih => rw [List.filter_cons, if_neg Bool.false_ne_true, ih]
/-! ### the ends -/
def counts (rs : List Ask) (n : Nat) : List Int := (List.range n).map fun (t : Nat) => (((rs.filter fun x => decide (x.thing = (t : Int))).length : Nat) : Int)
theorem counts_succ (rs : List Ask) (n : Nat) : counts rs (n + 1) = counts rs n ++ [(((rs.filter fun x => decide (x.thing = (n : Int))).length : Nat) : Int)] := by
  unfold counts
  rw [List.range_succ, List.map_append]
  rfl
theorem filter_pairs (l : List (Int × Int)) (rs : List Ask) (t : Int) (h : rs.map (fun x => (x.room, x.thing)) = l) : (rs.filter fun x => decide (x.thing = t)).length = (l.filter fun p => decide (p.2 = t)).length := by
  subst h
  rw [List.filter_map, List.length_map]
  rfl
theorem pairs_count (t : Int) : ∀ gb : List Giv, (∀ g ∈ gb, g.bits.length ≤ 5 ∧ g.room = ((2 ^ (5 - g.bits.length) : Nat) : Int)) →
    ((((pairsOf gb).filter fun p => decide (p.2 = t)).length : Nat) : Int) = ((gb.filter fun g => decide (g.thing = t)).map (·.room)).sum
  | [], _ => rfl
  | g :: r, h => by
    have ih := pairs_count t r fun x hx => h x (List.mem_cons_of_mem _ hx)
    have h0 := (h g (List.mem_cons_self ..)).2
    have e : pairsOf (g :: r) = ((rowsOf g.bits).map fun (r : Nat) => ((r : Int), g.thing)) ++ pairsOf r := by unfold pairsOf; rw [List.flatMap_cons]
    rw [e, List.filter_append, List.length_append, List.filter_map, List.length_map, List.filter_cons]
    by_cases ht : g.thing = t
    · have e1 : ((fun p : Int × Int => decide (p.2 = t)) ∘ fun (r : Nat) => ((r : Int), g.thing)) = fun _ => true := by funext x; simp [ht]
      rw [e1, filter_all, rows_len]
      simp only [ht, decide_true, if_true, List.map_cons, List.sum_cons]
      omega
    · have e1 : ((fun p : Int × Int => decide (p.2 = t)) ∘ fun (r : Nat) => ((r : Int), g.thing)) = fun _ => false := by funext x; simp [ht]
      rw [e1, filter_none]
      simp only [ht, decide_false, Bool.false_eq_true, if_false, List.length_nil]
      omega
/-- what a thing has been given is what was asked for it -/
theorem room_sum (l : List (Int × Int)) (t : Int) (gb : List Giv) (h : gb.map (fun g => (g.room, g.thing)) = l) : (gb.filter fun g => decide (g.thing = t)).map (·.room) = (l.filter fun p => decide (p.2 = t)).map (·.1) := by
  subst h
  rw [List.filter_map, List.map_map]
  rfl
theorem asks_of (ods : List Int) (h : ∀ o ∈ ods, 0 ≤ o ∧ o ≤ 32) (t : Nat) : ∀ n, (((asksUpTo ods n).filter fun p => decide (p.2 = (t : Int))).map (·.1)).sum = if t < n then ((ods[t]?.getD 0).toNat : Int) else 0
  | 0 => by simp [asksUpTo]
  | n + 1 => by
    have ih := asks_of ods h t n
    have e : asksUpTo ods (n + 1) = asksUpTo ods n ++ (askRooms (ods[n]?.getD 0).toNat).map fun r => (r, (n : Int)) := by
      unfold asksUpTo
      rw [List.range_succ, List.flatMap_append, List.flatMap_singleton]
    rw [e, List.filter_append, List.map_append, List.sum_append, ih, List.filter_map]
    have hs := (askRooms_facts _ (toNat33 h n)).1
    by_cases ht : t = n
    · have e1 : ((fun p : Int × Int => decide (p.2 = (t : Int))) ∘ fun r : Int => (r, (n : Int))) = fun _ => true := by funext x; simp [ht]
      rw [e1, filter_all, List.map_map]
      have e2 : ((fun p : Int × Int => p.1) ∘ fun r : Int => (r, (n : Int))) = id := rfl
      rw [e2, List.map_id, hs, if_neg (by omega), if_pos (by omega), ht]
      omega
    · have e1 : ((fun p : Int × Int => decide (p.2 = (t : Int))) ∘ fun r : Int => (r, (n : Int))) = fun _ => false := by funext x; simp; omega
      rw [e1, filter_none]
      by_cases hl : t < n
      · rw [if_pos hl, if_pos (by omega)]; simp
      · rw [if_neg hl, if_neg (by omega)]; simp
theorem counts_odds {ods : List Int} {al al' : List Ask} {gb : List Giv} {rs : List Ask} (hods : ∀ o ∈ ods, 0 ≤ o ∧ o ≤ 32) (GI : GInv [] gb al') (hp : al'.Perm al) (hal : al.map (fun x => (x.room, x.thing)) = asksUpTo ods ods.length) (h : rs.map (fun x => (x.room, x.thing)) = pairsOf gb) : counts rs ods.length = ods := by
  apply List.ext_getElem
  · simp [counts]
  · intro t h1 h2
    have e0 : (counts rs ods.length)[t] = (((rs.filter fun x => decide (x.thing = (t : Int))).length : Nat) : Int) := by simp [counts]
    rw [e0, filter_pairs _ rs _ h, pairs_count _ gb GI.len, room_sum _ _ gb GI.same]
    have p1 : ((al'.map fun x => (x.room, x.thing)).filter fun p => decide (p.2 = (t : Int))).Perm ((asksUpTo ods ods.length).filter fun p => decide (p.2 = (t : Int))) := hal ▸ (hp.map _).filter _
    rw [perm_sum (p1.map (·.1)), asks_of ods hods t, if_pos h2, List.getElem?_eq_getElem h2]
    have := hods ods[t] (List.getElem_mem h2)
    simp
    omega
/-- the throws -/
def deepR (r : Int) : Int := match r with
  | 1 => 5
  | 2 => 4
  | 4 => 3
  | 8 => 2
  | 16 => 1
  | _ => 0
theorem deep_len {n : Nat} (h : n ≤ 5) : deepR ((2 ^ (5 - n) : Nat) : Int) = (n : Int) := by
  have : ∀ n ∈ List.range 6, deepR ((2 ^ (5 - n) : Nat) : Int) = (n : Int) := by decide
  exact this n (List.mem_range.mpr (by omega))
theorem few_sum : ∀ n ∈ List.range 33, fwTab.getD n 0 = ((askRooms n).map fun r => r * deepR r).sum := by decide +kernel
theorem path_half {l : List Bool} (h : l.length ≤ 5) : (((pathStr l).length : Nat) : Int).fdiv 2 = (l.length : Int) := by
  have : ∀ l ∈ upTo 5, (((pathStr l).length : Nat) : Int).fdiv 2 = (l.length : Int) := by decide +kernel
  exact this l (mem_upTo h)
def throws (gb : List Giv) : List Int := gb.map fun g => g.room * (((pathStr g.bits).length : Nat) : Int).fdiv 2
theorem throws_eq {gb : List Giv} (h : ∀ g ∈ gb, g.bits.length ≤ 5 ∧ g.room = ((2 ^ (5 - g.bits.length) : Nat) : Int)) : throws gb = gb.map fun g => g.room * deepR g.room := by
  unfold throws
  apply List.map_congr_left
  intro g hg
  rw [path_half (h g hg).1]
  conv => rhs; rw [(h g hg).2, deep_len (h g hg).1]
  rw [(h g hg).2]
theorem few_asks (ods : List Int) (h : ∀ o ∈ ods, 0 ≤ o ∧ o ≤ 32) : ∀ n, n ≤ ods.length → ((asksUpTo ods n).map fun p => p.1 * deepR p.1).sum = ((ods.take n).map fun o => fwTab.getD o.toNat 0).sum
  | 0, _ => by simp [asksUpTo]
  | n + 1, hn => by
    have ih := few_asks ods h n (by omega)
    have e : asksUpTo ods (n + 1) = asksUpTo ods n ++ (askRooms (ods[n]?.getD 0).toNat).map fun r => (r, (n : Int)) := by
      unfold asksUpTo
      rw [List.range_succ, List.flatMap_append, List.flatMap_singleton]
    have e0 : ods[n]? = some ods[n] := List.getElem?_eq_getElem (by omega)
    rw [e, List.map_append, List.sum_append, ih, List.map_map, List.take_add_one, List.map_append, List.sum_append, few_sum_at h e0]
    rfl
where few_sum_at {ods : List Int} {n : Nat} {o : Int} (h : ∀ o ∈ ods, 0 ≤ o ∧ o ≤ 32) (e0 : ods[n]? = some o) : ((ods[n]?.toList).map fun o => fwTab.getD o.toNat 0).sum = ((askRooms (ods[n]?.getD 0).toNat).map fun r => r * deepR r).sum := by
        rw [e0]
        have := few_sum o.toNat (by have := h o (List.mem_of_getElem? e0); rw [List.mem_range]; omega)
        show ([fwTab.getD o.toNat 0]).sum = _
        rw [this]
        simp
theorem throws_few {ods : List Int} {al al' : List Ask} {gb : List Giv} (hods : ∀ o ∈ ods, 0 ≤ o ∧ o ≤ 32) (GI : GInv [] gb al') (hp : al'.Perm al) (hal : al.map (fun x => (x.room, x.thing)) = asksUpTo ods ods.length) : (throws gb).sum = (ods.map fun o => fwTab.getD o.toNat 0).sum := by
  rw [throws_eq GI.len]
  have e : (gb.map fun g => g.room * deepR g.room) = (gb.map fun g => (g.room, g.thing)).map fun p => p.1 * deepR p.1 := by rw [List.map_map]; rfl
  have p1 : (al'.map fun x => (x.room, x.thing)).Perm (asksUpTo ods ods.length) := hal ▸ hp.map _
  rw [e, GI.same, perm_sum (p1.map fun p => p.1 * deepR p.1), few_asks ods hods _ (Nat.le_refl _), List.take_length]
end Mine
end

/-! ## L30 -/
section
open PySem PySem.W PyProof.Rows PySem.Calls PySem.Spec PySem.SeqAt
set_option maxRecDepth 100000
namespace Mine
theorem filt_in {rs : List Ask} {j : Nat} {x : Ask} {t : Int} (h : rs[j]? = some x) (ht : x.thing = t) {n : Nat} (e : n = ((rs.take j).filter fun x => decide (x.thing = t)).length) : n + 1 = ((rs.take (j + 1)).filter fun x => decide (x.thing = t)).length := by
  rw [List.take_add_one, h, List.filter_append, List.length_append, e]
  simp [ht]
theorem filt_out {rs : List Ask} {j : Nat} {x : Ask} {t : Int} (h : rs[j]? = some x) (ht : ¬ x.thing = t) {n : Nat} (e : n = ((rs.take j).filter fun x => decide (x.thing = t)).length) : n = ((rs.take (j + 1)).filter fun x => decide (x.thing = t)).length := by
  rw [List.take_add_one, h, List.filter_append, List.length_append, e]
  simp [ht]
theorem filt_le (rs : List Ask) (t : Int) : (rs.filter fun x => decide (x.thing = t)).length ≤ rs.length := List.length_filter_le _ _
end Mine
namespace Mine
theorem throws_snoc {gb : List Giv} {j : Nat} {g : Giv} {vs : List Value} {t : Tok} (h : gb[j]? = some g) (hv : IntsAre vs (throws (gb.take j))) : IntsAre (vs ++ [.int (g.room * (((pathStr g.bits).length : Nat) : Int).fdiv 2) t]) (throws (gb.take (j + 1))) := by
  rw [List.take_add_one, h]
  unfold throws at *
  rw [List.map_append]
  exact intsAre_snoc hv
theorem giv_room {g : Giv} (h : g.bits.length ≤ 5 ∧ g.room = ((2 ^ (5 - g.bits.length) : Nat) : Int)) : 1 ≤ g.room ∧ g.room ≤ 32 := by
  rw [h.2]
  exact pows_pos _ pow_mem
end Mine
namespace Mine
theorem sub_l4 {c d e i x : Addr × Obj} {nt base : List (Addr × Obj)} (h : x ∈ e :: i :: base) : x ∈ e :: i :: c :: d :: (nt ++ base) := by
  rcases List.mem_cons.mp h with rfl | h
  · exact .head _
  rcases List.mem_cons.mp h with rfl | h
  · exact .tail _ (.head _)
  · exact .tail _ (.tail _ (.tail _ (.tail _ (List.mem_append_right _ h))))
theorem sub_i4 {I C D T : Addr × Obj} {nt r : List (Addr × Obj)} : ∀ x ∈ I :: C :: D :: ((T :: nt) ++ r), x ∈ D :: T :: I :: C :: (nt ++ r) := fun x hx => by
  rcases List.mem_cons.mp hx with rfl | hx
  · exact .tail _ (.tail _ (.head _))
  rcases List.mem_cons.mp hx with rfl | hx
  · exact .tail _ (.tail _ (.tail _ (.head _)))
  rcases List.mem_cons.mp hx with rfl | hx
  · exact .head _
  rcases List.mem_cons.mp hx with rfl | hx
  · exact .tail _ (.head _)
  · exact .tail _ (.tail _ (.tail _ (.tail _ hx)))
theorem sub_o6 {I C D lR : Addr × Obj} {nt base : List (Addr × Obj)} : ∀ x ∈ I :: C :: D :: ((nt ++ [lR]) ++ base), x ∈ C :: D :: (nt ++ lR :: I :: base) := fun x hx => by
  rcases List.mem_cons.mp hx with rfl | hx
  · exact .tail _ (.tail _ (List.mem_append_right _ (.tail _ (.head _))))
  rcases List.mem_cons.mp hx with rfl | hx
  · exact .head _
  rcases List.mem_cons.mp hx with rfl | hx
  · exact .tail _ (.head _)
  rcases List.mem_append.mp hx with hx | hx
  · rcases List.mem_append.mp hx with hx | hx
    · exact .tail _ (.tail _ (List.mem_append_left _ hx))
    · rw [List.mem_singleton.mp hx]; exact .tail _ (.tail _ (List.mem_append_right _ (.head _)))
  · exact .tail _ (.tail _ (List.mem_append_right _ (.tail _ (.tail _ hx))))
theorem sub_t3 {I C X : Addr × Obj} {r : List (Addr × Obj)} : ∀ x ∈ I :: C :: X :: r, x ∈ X :: I :: C :: r := fun x hx => by
  rcases List.mem_cons.mp hx with rfl | hx
  · exact .tail _ (.head _)
  rcases List.mem_cons.mp hx with rfl | hx
  · exact .tail _ (.tail _ (.head _))
  rcases List.mem_cons.mp hx with rfl | hx
  · exact .head _
  · exact .tail _ (.tail _ (.tail _ hx))
theorem sub_d4 {DI I C X D : Addr × Obj} {r : List (Addr × Obj)} : ∀ x ∈ D :: I :: C :: X :: r, x ∈ DI :: I :: C :: X :: D :: r := fun x hx => by
  rcases List.mem_cons.mp hx with rfl | hx
  · exact .tail _ (.tail _ (.tail _ (.tail _ (.head _))))
  rcases List.mem_cons.mp hx with rfl | hx
  · exact .tail _ (.head _)
  rcases List.mem_cons.mp hx with rfl | hx
  · exact .tail _ (.tail _ (.head _))
  rcases List.mem_cons.mp hx with rfl | hx
  · exact .tail _ (.tail _ (.tail _ (.head _)))
  · exact .tail _ (.tail _ (.tail _ (.tail _ (.tail _ hx))))
theorem sub_e4 {I C X D : Addr × Obj} {r : List (Addr × Obj)} : ∀ x ∈ I :: C :: X :: D :: r, x ∈ D :: I :: C :: X :: r := fun x hx => by
  rcases List.mem_cons.mp hx with rfl | hx
  · exact .tail _ (.head _)
  rcases List.mem_cons.mp hx with rfl | hx
  · exact .tail _ (.tail _ (.head _))
  rcases List.mem_cons.mp hx with rfl | hx
  · exact .tail _ (.tail _ (.tail _ (.head _)))
  rcases List.mem_cons.mp hx with rfl | hx
  · exact .head _
  · exact .tail _ (.tail _ (.tail _ (.tail _ hx)))
theorem sub_drop2 {C X D : Addr × Obj} {r : List (Addr × Obj)} : ∀ x ∈ C :: D :: r, x ∈ C :: X :: D :: r := fun x hx => by
  rcases List.mem_cons.mp hx with rfl | hx
  · exact .head _
  · exact .tail _ (.tail _ hx)
end Mine
end

/-! ## W15 -/
section
open PySem PySem.W PyProof.Rows PySem.Calls PySem.Spec PySem.SeqAt
set_option maxRecDepth 100000
namespace Mine

local macro_rules | `(tactic| k_all) => `(tactic| assumption)
local macro_rules | `(tactic| k_mem) => `(tactic| assumption)
set_option maxHeartbeats 8000000 in
theorem law_holds : PySem.Challenge.rw_ik0178_01.Holds := by
  w_on
  o_law
  rename_i said
  rw [rowC_eq] at said ⊢
  refine holds_open (q := viewQ) (loose := [Str.ofString "COMPILER_FLAG_NAMES"]) (Xt := fun s => xlAt viewQ [] s && recOk (RowW.records rowC.toRowW) s) (XP := XL viewQ []) (Yf := HK.obs) (Ya := HK.val) (YP := HK.says) (N := 2762)
    left1 HK.of HK.keeps (fun s e => xl_of s (Bool.and_eq_true_iff.mp e).1) XL.keeps (by rfl) (by rfl) (by rfl) (fun s e => recFacts_of (Bool.and_eq_true_iff.mp e).2) (by rfl) said (by decide +kernel) ⟨rfl, rfl, rfl, rfl, rfl, by decide +kernel⟩ ?hw ?hc
  (case hw => w_witness2)
  clear said
  delta HK
  k_go0
  rename_i s₀ s₁ mg mb GG YY fa oo pm doc ho hg KX XX VV GL TT BB TE TW w11 w10 MM w9 w8 hcd scr hs hlay0 hL0 hr0 hl2 w6 w5 aS vsS w2 hL ra w1 r0 hI hr hc1 hc2 K0 hD h₁ tk₁ F₀ o1 o2 d1 d2 N₀ X₀
  replace F₀ : Fr _ _ h₁ (chain [(Str.ofString "script", Value.ref aS)] fun _ => none) := F₀
  replace d1 : o1.data = Data.cell none := d1
  replace d2 : o2.data = Data.cell none := d2
  clear X₀
  refine hideQ fun QL EL hQL => ?_
  (repeat' ((fail_if_success ((with_reducible show wpAny _ _ (exec (PySem.Stmt.If _ _ _ _) _) _ _ _); (fail_if_success (fail_if_success (with_reducible rename AskFacts _ _ => af'))))); (fail_if_success ((with_reducible show wpAny _ _ (compareOp CmpOp.NotEq (Value.ref _) (Value.ref _)) _ _ _); (fail_if_success (fail_if_success (with_reducible rename AskFacts _ _ => af'))))); (fail_if_success ((with_reducible show wpAny _ _ (call (Value.type "list") _) _ _ _); (fail_if_success (fail_if_success (with_reducible rename AskFacts _ _ => af'))))); (fail_if_success ((with_reducible show wpAny _ _ (call (Value.builtin "list.append") _) _ _ _); (fail_if_success (fail_if_success (with_reducible rename AskFacts _ _ => af'))))); (fail_if_success ((with_reducible show wpAny _ _ (binaryOp Operator.Add (Value.ref _) (Value.ref _)) _ _ _); (fail_if_success (fail_if_success (with_reducible rename AskFacts _ _ => af'))))); (fail_if_success ((with_reducible show wpAny _ _ (subscriptTail _ (PySem.Expr.Slice _ _ _ _) (Value.ref _) (Value.ref _)) _ _ _); (fail_if_success (fail_if_success (with_reducible rename AskFacts _ _ => af'))))); (fail_if_success ((with_reducible show wpAny _ _ (binaryOp Operator.Mod (Value.int _ _) (Value.int _ _)) _ _ _); (fail_if_success (fail_if_success (with_reducible rename AskFacts _ _ => af'))))); (fail_if_success ((with_reducible show wpAny _ _ (call (Value.builtin "len") [Value.ref _]) _ _ _); (fail_if_success (fail_if_success (with_reducible rename AskFacts _ _ => af'))))); (fail_if_success ((with_reducible show wpAny _ _ (call (Value.ref 185) _) _ _ _))); (fail_if_success ((with_reducible show wpAny _ _ (call (Value.ref 180) _) _ _ _))); (fail_if_success ((with_reducible show wpAny _ _ (call (Value.ref 175) _) _ _ _))); (fail_if_success ((with_reducible show wpAny _ _ (call (Value.ref 163) _) _ _ _))); (fail_if_success ((with_reducible show wpAny _ _ (call (Value.builtin "sorted") _) _ _ _))); (fail_if_success ((with_reducible show wpAny _ _ (call (Value.builtin "sum") _) _ _ _))); (fail_if_success ((with_reducible show wpAny _ _ (call (Value.type "zip") _) _ _ _))); (fail_if_success ((with_reducible show wpAny _ _ (call (Value.type "enumerate") _) _ _ _))); (fail_if_success ((with_reducible show wpAny _ _ (pyIter (Value.ref _)) _ _ _))); (first | (with_reducible (((with_reducible show wpAny _ _ (eval (PySem.Expr.ListComp _ _ _ _) _) _ _ _); (k_here; k_dflt (refine ListComp_open (by with_unfolding_all rfl) (by rfl) (by decide) ?_ (by intro _; rfl)))))) | (with_reducible ((k_here; (with_reducible show wpAny _ _ (exec (Stmt.Assign [Expr.Name (Str.ofString "odds") _] _ _) _) _ _ _); k_dflt (refine AssignComp_open (by with_unfolding_all rfl) (by with_unfolding_all rfl) (by rfl) (by decide) ?_ (by intro _; rfl))))) | (((with_reducible show wpAny _ _ (exec (PySem.Stmt.For _ _ _ _ _) _) _ _ _); (k_here; (refine wpAny_For ?_ (by intro _; rfl))))) | (k_unfold; (try dsimp only)) | (k_end; wrow_close) | walk1 | (dsimp only; walk1) | (leave1; walk_say "STEP leave1"; try dsimp only) | fail "no step")))
  skip
  rename_i aD wsD hB F₁ N₁ hID _ hlD l1
  have hwl : wsD.length ≤ 12 := by rw [intsAre_len hID, List.length_take]; omega
  refine comp_list (vs := wsD) rfl F₁ N₁ (.head _) (by omega) (by decide) rfl (fun j m'' => ∀ v, wsD[j]? = some v → m'' (Str.ofString "cell") = some v)
    (fun j ys news₂ => news₂ = _ ∧ ∃ ds, IntsAre ys ds ∧ ds.length = j) ⟨rfl, [], .nil, rfl⟩ ?_ ?_ ?_
  · intro j v C ys news₂ s' m' Q' hv hJ _ hn hq
    exact asg_name rfl rfl hn fun h' tk hn' hk => hq h' tk _ hn' (fun v' hv' => by rw [hv] at hv'; cases hv'; rfl) hk
  · rintro j v ys news₂ I' oI' C oC D' m₂ h₄ tk₄ hvj ⟨rfl, ds, hys, hdl⟩ hm₂ hBd hNs G₆ M₆ off₆ ne₆
    refine wpAny_tests_nil ?_
    simp only [if_true]
    obtain ⟨o, to, ho, rfl⟩ := intsAre_get hID j v hvj
    have hbv := hBd _ hvj
    refine hideQ fun Z1 E1 hZ1 => ?_
    (repeat' ((fail_if_success ((with_reducible show wpAny _ _ (exec (PySem.Stmt.If _ _ _ _) _) _ _ _); (fail_if_success (fail_if_success (with_reducible rename AskFacts _ _ => af'))))); (fail_if_success ((with_reducible show wpAny _ _ (compareOp CmpOp.NotEq (Value.ref _) (Value.ref _)) _ _ _); (fail_if_success (fail_if_success (with_reducible rename AskFacts _ _ => af'))))); (fail_if_success ((with_reducible show wpAny _ _ (call (Value.type "list") _) _ _ _); (fail_if_success (fail_if_success (with_reducible rename AskFacts _ _ => af'))))); (fail_if_success ((with_reducible show wpAny _ _ (call (Value.builtin "list.append") _) _ _ _); (fail_if_success (fail_if_success (with_reducible rename AskFacts _ _ => af'))))); (fail_if_success ((with_reducible show wpAny _ _ (binaryOp Operator.Add (Value.ref _) (Value.ref _)) _ _ _); (fail_if_success (fail_if_success (with_reducible rename AskFacts _ _ => af'))))); (fail_if_success ((with_reducible show wpAny _ _ (subscriptTail _ (PySem.Expr.Slice _ _ _ _) (Value.ref _) (Value.ref _)) _ _ _); (fail_if_success (fail_if_success (with_reducible rename AskFacts _ _ => af'))))); (fail_if_success ((with_reducible show wpAny _ _ (binaryOp Operator.Mod (Value.int _ _) (Value.int _ _)) _ _ _); (fail_if_success (fail_if_success (with_reducible rename AskFacts _ _ => af'))))); (fail_if_success ((with_reducible show wpAny _ _ (call (Value.builtin "len") [Value.ref _]) _ _ _); (fail_if_success (fail_if_success (with_reducible rename AskFacts _ _ => af'))))); (fail_if_success ((with_reducible show wpAny _ _ (call (Value.ref 185) _) _ _ _))); (fail_if_success ((with_reducible show wpAny _ _ (call (Value.ref 180) _) _ _ _))); (fail_if_success ((with_reducible show wpAny _ _ (call (Value.ref 175) _) _ _ _))); (fail_if_success ((with_reducible show wpAny _ _ (call (Value.ref 163) _) _ _ _))); (fail_if_success ((with_reducible show wpAny _ _ (call (Value.builtin "sorted") _) _ _ _))); (fail_if_success ((with_reducible show wpAny _ _ (call (Value.builtin "sum") _) _ _ _))); (fail_if_success ((with_reducible show wpAny _ _ (call (Value.type "zip") _) _ _ _))); (fail_if_success ((with_reducible show wpAny _ _ (call (Value.type "enumerate") _) _ _ _))); (fail_if_success ((with_reducible show wpAny _ _ (pyIter (Value.ref _)) _ _ _))); (first | (with_reducible (((with_reducible show wpAny _ _ (eval (PySem.Expr.ListComp _ _ _ _) _) _ _ _); (k_here; k_dflt (refine ListComp_open (by with_unfolding_all rfl) (by rfl) (by decide) ?_ (by intro _; rfl)))))) | (with_reducible ((k_here; (with_reducible show wpAny _ _ (exec (Stmt.Assign [Expr.Name (Str.ofString "odds") _] _ _) _) _ _ _); k_dflt (refine AssignComp_open (by with_unfolding_all rfl) (by with_unfolding_all rfl) (by rfl) (by decide) ?_ (by intro _; rfl))))) | (((with_reducible show wpAny _ _ (exec (PySem.Stmt.For _ _ _ _ _) _) _ _ _); (k_here; (refine wpAny_For ?_ (by intro _; rfl))))) | (k_unfold; (try dsimp only)) | (k_end; wrow_close) | walk1 | (dsimp only; walk1) | (leave1; walk_say "STEP leave1"; try dsimp only) | fail "no step")))
    exact hZ1 _ _ ⟨_, _, _, _, rfl, G₆, M₆, fun p hp => hp, fun p hp => by rw [List.mem_singleton.mp hp]; exact hm₂, off₆, rfl, _, intsAre_snoc hys, by rw [List.length_append, hdl]; rfl⟩
  rintro D' C oC m' ys news₂ h₄ tk₄ ⟨rfl, ds, hys, hdl⟩ hm₂ G₆ M₆ hNs off6 offC
  refine comp_out G₆ M₆ hNs offC fun h' F' N' => ?_
  (repeat' ((fail_if_success ((with_reducible show wpAny _ _ (exec (PySem.Stmt.If _ _ _ _) _) _ _ _); (fail_if_success (fail_if_success (with_reducible rename AskFacts _ _ => af'))))); (fail_if_success ((with_reducible show wpAny _ _ (compareOp CmpOp.NotEq (Value.ref _) (Value.ref _)) _ _ _); (fail_if_success (fail_if_success (with_reducible rename AskFacts _ _ => af'))))); (fail_if_success ((with_reducible show wpAny _ _ (call (Value.type "list") _) _ _ _); (fail_if_success (fail_if_success (with_reducible rename AskFacts _ _ => af'))))); (fail_if_success ((with_reducible show wpAny _ _ (call (Value.builtin "list.append") _) _ _ _); (fail_if_success (fail_if_success (with_reducible rename AskFacts _ _ => af'))))); (fail_if_success ((with_reducible show wpAny _ _ (binaryOp Operator.Add (Value.ref _) (Value.ref _)) _ _ _); (fail_if_success (fail_if_success (with_reducible rename AskFacts _ _ => af'))))); (fail_if_success ((with_reducible show wpAny _ _ (subscriptTail _ (PySem.Expr.Slice _ _ _ _) (Value.ref _) (Value.ref _)) _ _ _); (fail_if_success (fail_if_success (with_reducible rename AskFacts _ _ => af'))))); (fail_if_success ((with_reducible show wpAny _ _ (binaryOp Operator.Mod (Value.int _ _) (Value.int _ _)) _ _ _); (fail_if_success (fail_if_success (with_reducible rename AskFacts _ _ => af'))))); (fail_if_success ((with_reducible show wpAny _ _ (call (Value.builtin "len") [Value.ref _]) _ _ _); (fail_if_success (fail_if_success (with_reducible rename AskFacts _ _ => af'))))); (fail_if_success ((with_reducible show wpAny _ _ (call (Value.ref 185) _) _ _ _))); (fail_if_success ((with_reducible show wpAny _ _ (call (Value.ref 180) _) _ _ _))); (fail_if_success ((with_reducible show wpAny _ _ (call (Value.ref 175) _) _ _ _))); (fail_if_success ((with_reducible show wpAny _ _ (call (Value.ref 163) _) _ _ _))); (fail_if_success ((with_reducible show wpAny _ _ (call (Value.builtin "sorted") _) _ _ _))); (fail_if_success ((with_reducible show wpAny _ _ (call (Value.builtin "sum") _) _ _ _))); (fail_if_success ((with_reducible show wpAny _ _ (call (Value.type "zip") _) _ _ _))); (fail_if_success ((with_reducible show wpAny _ _ (call (Value.type "enumerate") _) _ _ _))); (fail_if_success ((with_reducible show wpAny _ _ (pyIter (Value.ref _)) _ _ _))); (first | (with_reducible (((with_reducible show wpAny _ _ (eval (PySem.Expr.ListComp _ _ _ _) _) _ _ _); (k_here; k_dflt (refine ListComp_open (by with_unfolding_all rfl) (by rfl) (by decide) ?_ (by intro _; rfl)))))) | (with_reducible ((k_here; (with_reducible show wpAny _ _ (exec (Stmt.Assign [Expr.Name (Str.ofString "odds") _] _ _) _) _ _ _); k_dflt (refine AssignComp_open (by with_unfolding_all rfl) (by with_unfolding_all rfl) (by rfl) (by decide) ?_ (by intro _; rfl))))) | (((with_reducible show wpAny _ _ (exec (PySem.Stmt.For _ _ _ _ _) _) _ _ _); (k_here; (refine wpAny_For ?_ (by intro _; rfl))))) | (k_unfold; (try dsimp only)) | (k_end; wrow_close) | walk1 | (dsimp only; walk1) | (leave1; walk_say "STEP leave1"; try dsimp only) | fail "no step")))
  skip
  rename_i hZ oD dD lE hE F₂ N₂ l2
  simp only [List.cons_append, List.nil_append] at N₂ l2
  refine comp_enum (vs := [_, _, _]) rfl F₂ N₂ (.head _) (Nat.le_of_ble_eq_true rfl) (by decide) rfl (fun i m'' => ∃ sd t t', m'' (Str.ofString "k") = some (.int (i : Nat) t) ∧ m'' (Str.ofString "seed") = some (.int sd t'))
    (fun i ys' news₂ => news₂ = _ ∧ ∃ cs, IntsAre ys' cs ∧ cs.length = i ∧ ∀ c ∈ cs, 0 ≤ c ∧ c ≤ 32) ⟨rfl, [], .nil, rfl, List.forall_mem_nil _⟩ ?_ ?_ ?_
  · rintro i x T t C ys' news₂ s' m' Q' hx hT ⟨rfl, _⟩ hn2 hn hq
    refine asg_pair rfl hT rfl rfl rfl hn fun h' tk hn' hk => hq h' tk _ hn' ?_ hk
    match i, hx with
    | 0, hx => simp at hx; exact ⟨5, t, _, rfl, by rw [← hx]; rfl⟩
    | 1, hx => simp at hx; exact ⟨16, t, _, rfl, by rw [← hx]; rfl⟩
    | 2, hx => simp at hx; exact ⟨19, t, _, rfl, by rw [← hx]; rfl⟩
    | i + 3, hx => simp at hx
  · rintro i ys' news₂ wr own C oC Dc m₂ h₅ tk₅ hi ⟨rfl, cs, hcs, hcl, hcb⟩ hm₅ ⟨sd, t, t', hbk, hbs⟩ hNs G₆ M₆ hown off₆ ne₆
    refine wpAny_tests_nil ?_
    simp only [if_true]
    have M₇ := news_sub M₆ sub_back
    simp only [List.cons_append, List.nil_append] at M₇
    clear M₆
    refine hideQ fun Z2 E2 hZ2 => ?_
    (repeat' ((fail_if_success ((with_reducible show wpAny _ _ (exec (PySem.Stmt.If _ _ _ _) _) _ _ _); (fail_if_success (fail_if_success (with_reducible rename AskFacts _ _ => af'))))); (fail_if_success ((with_reducible show wpAny _ _ (compareOp CmpOp.NotEq (Value.ref _) (Value.ref _)) _ _ _); (fail_if_success (fail_if_success (with_reducible rename AskFacts _ _ => af'))))); (fail_if_success ((with_reducible show wpAny _ _ (call (Value.type "list") _) _ _ _); (fail_if_success (fail_if_success (with_reducible rename AskFacts _ _ => af'))))); (fail_if_success ((with_reducible show wpAny _ _ (call (Value.builtin "list.append") _) _ _ _); (fail_if_success (fail_if_success (with_reducible rename AskFacts _ _ => af'))))); (fail_if_success ((with_reducible show wpAny _ _ (binaryOp Operator.Add (Value.ref _) (Value.ref _)) _ _ _); (fail_if_success (fail_if_success (with_reducible rename AskFacts _ _ => af'))))); (fail_if_success ((with_reducible show wpAny _ _ (subscriptTail _ (PySem.Expr.Slice _ _ _ _) (Value.ref _) (Value.ref _)) _ _ _); (fail_if_success (fail_if_success (with_reducible rename AskFacts _ _ => af'))))); (fail_if_success ((with_reducible show wpAny _ _ (binaryOp Operator.Mod (Value.int _ _) (Value.int _ _)) _ _ _); (fail_if_success (fail_if_success (with_reducible rename AskFacts _ _ => af'))))); (fail_if_success ((with_reducible show wpAny _ _ (call (Value.builtin "len") [Value.ref _]) _ _ _); (fail_if_success (fail_if_success (with_reducible rename AskFacts _ _ => af'))))); (fail_if_success ((with_reducible show wpAny _ _ (call (Value.ref 185) _) _ _ _))); (fail_if_success ((with_reducible show wpAny _ _ (call (Value.ref 180) _) _ _ _))); (fail_if_success ((with_reducible show wpAny _ _ (call (Value.ref 175) _) _ _ _))); (fail_if_success ((with_reducible show wpAny _ _ (call (Value.ref 163) _) _ _ _))); (fail_if_success ((with_reducible show wpAny _ _ (call (Value.builtin "sorted") _) _ _ _))); (fail_if_success ((with_reducible show wpAny _ _ (call (Value.builtin "sum") _) _ _ _))); (fail_if_success ((with_reducible show wpAny _ _ (call (Value.type "zip") _) _ _ _))); (fail_if_success ((with_reducible show wpAny _ _ (call (Value.type "enumerate") _) _ _ _))); (fail_if_success ((with_reducible show wpAny _ _ (pyIter (Value.ref _)) _ _ _))); (first | (with_reducible (((with_reducible show wpAny _ _ (eval (PySem.Expr.ListComp _ _ _ _) _) _ _ _); (k_here; k_dflt (refine ListComp_open (by with_unfolding_all rfl) (by rfl) (by decide) ?_ (by intro _; rfl)))))) | (with_reducible ((k_here; (with_reducible show wpAny _ _ (exec (Stmt.Assign [Expr.Name (Str.ofString "odds") _] _ _) _) _ _ _); k_dflt (refine AssignComp_open (by with_unfolding_all rfl) (by with_unfolding_all rfl) (by rfl) (by decide) ?_ (by intro _; rfl))))) | (((with_reducible show wpAny _ _ (exec (PySem.Stmt.For _ _ _ _ _) _) _ _ _); (k_here; (refine wpAny_For ?_ (by intro _; rfl))))) | (k_unfold; (try dsimp only)) | (k_end; wrow_close) | walk1 | (dsimp only; walk1) | (leave1; walk_say "STEP leave1"; try dsimp only) | fail "no step")))
    skip
    (rename Fr _ _ _ _ => G₇)
    (rename News _ _ _ _ => M₈)
    refine sum_pick rfl G₇ M₈ hys ?_
    intro h₆ tk₆ t₆ z₆ G₈ M₉
    have hmz := mod33 (sd + z₆)
    (repeat' ((fail_if_success ((with_reducible show wpAny _ _ (exec (PySem.Stmt.If _ _ _ _) _) _ _ _); (fail_if_success (fail_if_success (with_reducible rename AskFacts _ _ => af'))))); (fail_if_success ((with_reducible show wpAny _ _ (compareOp CmpOp.NotEq (Value.ref _) (Value.ref _)) _ _ _); (fail_if_success (fail_if_success (with_reducible rename AskFacts _ _ => af'))))); (fail_if_success ((with_reducible show wpAny _ _ (call (Value.type "list") _) _ _ _); (fail_if_success (fail_if_success (with_reducible rename AskFacts _ _ => af'))))); (fail_if_success ((with_reducible show wpAny _ _ (call (Value.builtin "list.append") _) _ _ _); (fail_if_success (fail_if_success (with_reducible rename AskFacts _ _ => af'))))); (fail_if_success ((with_reducible show wpAny _ _ (binaryOp Operator.Add (Value.ref _) (Value.ref _)) _ _ _); (fail_if_success (fail_if_success (with_reducible rename AskFacts _ _ => af'))))); (fail_if_success ((with_reducible show wpAny _ _ (subscriptTail _ (PySem.Expr.Slice _ _ _ _) (Value.ref _) (Value.ref _)) _ _ _); (fail_if_success (fail_if_success (with_reducible rename AskFacts _ _ => af'))))); (fail_if_success ((with_reducible show wpAny _ _ (binaryOp Operator.Mod (Value.int _ _) (Value.int _ _)) _ _ _); (fail_if_success (fail_if_success (with_reducible rename AskFacts _ _ => af'))))); (fail_if_success ((with_reducible show wpAny _ _ (call (Value.builtin "len") [Value.ref _]) _ _ _); (fail_if_success (fail_if_success (with_reducible rename AskFacts _ _ => af'))))); (fail_if_success ((with_reducible show wpAny _ _ (call (Value.ref 185) _) _ _ _))); (fail_if_success ((with_reducible show wpAny _ _ (call (Value.ref 180) _) _ _ _))); (fail_if_success ((with_reducible show wpAny _ _ (call (Value.ref 175) _) _ _ _))); (fail_if_success ((with_reducible show wpAny _ _ (call (Value.ref 163) _) _ _ _))); (fail_if_success ((with_reducible show wpAny _ _ (call (Value.builtin "sorted") _) _ _ _))); (fail_if_success ((with_reducible show wpAny _ _ (call (Value.builtin "sum") _) _ _ _))); (fail_if_success ((with_reducible show wpAny _ _ (call (Value.type "zip") _) _ _ _))); (fail_if_success ((with_reducible show wpAny _ _ (call (Value.type "enumerate") _) _ _ _))); (fail_if_success ((with_reducible show wpAny _ _ (pyIter (Value.ref _)) _ _ _))); (first | (with_reducible (((with_reducible show wpAny _ _ (eval (PySem.Expr.ListComp _ _ _ _) _) _ _ _); (k_here; k_dflt (refine ListComp_open (by with_unfolding_all rfl) (by rfl) (by decide) ?_ (by intro _; rfl)))))) | (with_reducible ((k_here; (with_reducible show wpAny _ _ (exec (Stmt.Assign [Expr.Name (Str.ofString "odds") _] _ _) _) _ _ _); k_dflt (refine AssignComp_open (by with_unfolding_all rfl) (by with_unfolding_all rfl) (by rfl) (by decide) ?_ (by intro _; rfl))))) | (((with_reducible show wpAny _ _ (exec (PySem.Stmt.For _ _ _ _ _) _) _ _ _); (k_here; (refine wpAny_For ?_ (by intro _; rfl))))) | (k_unfold; (try dsimp only)) | (k_end; wrow_close) | walk1 | (dsimp only; walk1) | (leave1; walk_say "STEP leave1"; try dsimp only) | fail "no step")))
    (rename Fr _ _ _ _ => G₉)
    (rename News _ _ _ _ => M₁₀)
    exact hZ2 _ _ ⟨_, _, _, _, rfl, G₉, news_sub M₁₀ (sub_comp0 (r := [_, _, _, _, _])), fun p hp => hp, fun p hp => by rw [List.mem_singleton.mp hp]; exact .head _, off₆, rfl, _, intsAre_snoc hcs, by rw [List.length_append, hcl]; rfl, fun c hc => by
      rcases List.mem_append.mp hc with hc | hc
      · exact hcb c hc
      · rw [List.mem_singleton.mp hc]; exact hmz⟩
  rintro D₂ C₂ oC₂ m'₂ ys₂ news₂ h₅ tk₅ ⟨rfl, cs, hcs, hcl, hcb⟩ hm₅ G₆ M₆ hNs₂ off₂ offC₂
  refine comp_out G₆ M₆ hNs₂ offC₂ fun h' F' N' => ?_
  (repeat' ((fail_if_success ((with_reducible show wpAny _ _ (exec (PySem.Stmt.If _ _ _ _) _) _ _ _); (fail_if_success (fail_if_success (with_reducible rename AskFacts _ _ => af'))))); (fail_if_success ((with_reducible show wpAny _ _ (compareOp CmpOp.NotEq (Value.ref _) (Value.ref _)) _ _ _); (fail_if_success (fail_if_success (with_reducible rename AskFacts _ _ => af'))))); (fail_if_success ((with_reducible show wpAny _ _ (call (Value.type "list") _) _ _ _); (fail_if_success (fail_if_success (with_reducible rename AskFacts _ _ => af'))))); (fail_if_success ((with_reducible show wpAny _ _ (call (Value.builtin "list.append") _) _ _ _); (fail_if_success (fail_if_success (with_reducible rename AskFacts _ _ => af'))))); (fail_if_success ((with_reducible show wpAny _ _ (binaryOp Operator.Add (Value.ref _) (Value.ref _)) _ _ _); (fail_if_success (fail_if_success (with_reducible rename AskFacts _ _ => af'))))); (fail_if_success ((with_reducible show wpAny _ _ (subscriptTail _ (PySem.Expr.Slice _ _ _ _) (Value.ref _) (Value.ref _)) _ _ _); (fail_if_success (fail_if_success (with_reducible rename AskFacts _ _ => af'))))); (fail_if_success ((with_reducible show wpAny _ _ (binaryOp Operator.Mod (Value.int _ _) (Value.int _ _)) _ _ _); (fail_if_success (fail_if_success (with_reducible rename AskFacts _ _ => af'))))); (fail_if_success ((with_reducible show wpAny _ _ (call (Value.builtin "len") [Value.ref _]) _ _ _); (fail_if_success (fail_if_success (with_reducible rename AskFacts _ _ => af'))))); (fail_if_success ((with_reducible show wpAny _ _ (call (Value.ref 185) _) _ _ _))); (fail_if_success ((with_reducible show wpAny _ _ (call (Value.ref 180) _) _ _ _))); (fail_if_success ((with_reducible show wpAny _ _ (call (Value.ref 175) _) _ _ _))); (fail_if_success ((with_reducible show wpAny _ _ (call (Value.ref 163) _) _ _ _))); (fail_if_success ((with_reducible show wpAny _ _ (call (Value.builtin "sorted") _) _ _ _))); (fail_if_success ((with_reducible show wpAny _ _ (call (Value.builtin "sum") _) _ _ _))); (fail_if_success ((with_reducible show wpAny _ _ (call (Value.type "zip") _) _ _ _))); (fail_if_success ((with_reducible show wpAny _ _ (call (Value.type "enumerate") _) _ _ _))); (fail_if_success ((with_reducible show wpAny _ _ (pyIter (Value.ref _)) _ _ _))); (first | (with_reducible (((with_reducible show wpAny _ _ (eval (PySem.Expr.ListComp _ _ _ _) _) _ _ _); (k_here; k_dflt (refine ListComp_open (by with_unfolding_all rfl) (by rfl) (by decide) ?_ (by intro _; rfl)))))) | (with_reducible ((k_here; (with_reducible show wpAny _ _ (exec (Stmt.Assign [Expr.Name (Str.ofString "odds") _] _ _) _) _ _ _); k_dflt (refine AssignComp_open (by with_unfolding_all rfl) (by with_unfolding_all rfl) (by rfl) (by decide) ?_ (by intro _; rfl))))) | (((with_reducible show wpAny _ _ (exec (PySem.Stmt.For _ _ _ _ _) _) _ _ _); (k_here; (refine wpAny_For ?_ (by intro _; rfl))))) | (k_unfold; (try dsimp only)) | (k_end; wrow_close) | walk1 | (dsimp only; walk1) | (leave1; walk_say "STEP leave1"; try dsimp only) | fail "no step")))
  skip
  refine kso_sorted F' N' (News.isList N' (.head _)) hcs (by rw [hcl]; exact Nat.lt_of_lt_of_le (Nat.lt_succ_self 3) (by decide)) fun aC vsC nsC cC hC F₃ N₃ l3 hIC hlC hpC hwC _ => ?_
  obtain ⟨a, b, c, ta, tb, tc, e1, rfl⟩ := ints3 hIC (by rw [hlC, hcl]; rfl)
  obtain ⟨ha0, hab, hbc, hc32⟩ := cuts_facts hpC hwC hcb e1
  have N₄ := news_skip (news_skip N₃)
  simp only [List.forall_mem_cons] at l3
  clear N₃ N' F' G₆ M₆ hIC hlC hpC hwC e1
  (repeat' ((fail_if_success ((with_reducible show wpAny _ _ (exec (PySem.Stmt.If _ _ _ _) _) _ _ _); (fail_if_success (fail_if_success (with_reducible rename AskFacts _ _ => af'))))); (fail_if_success ((with_reducible show wpAny _ _ (compareOp CmpOp.NotEq (Value.ref _) (Value.ref _)) _ _ _); (fail_if_success (fail_if_success (with_reducible rename AskFacts _ _ => af'))))); (fail_if_success ((with_reducible show wpAny _ _ (call (Value.type "list") _) _ _ _); (fail_if_success (fail_if_success (with_reducible rename AskFacts _ _ => af'))))); (fail_if_success ((with_reducible show wpAny _ _ (call (Value.builtin "list.append") _) _ _ _); (fail_if_success (fail_if_success (with_reducible rename AskFacts _ _ => af'))))); (fail_if_success ((with_reducible show wpAny _ _ (binaryOp Operator.Add (Value.ref _) (Value.ref _)) _ _ _); (fail_if_success (fail_if_success (with_reducible rename AskFacts _ _ => af'))))); (fail_if_success ((with_reducible show wpAny _ _ (subscriptTail _ (PySem.Expr.Slice _ _ _ _) (Value.ref _) (Value.ref _)) _ _ _); (fail_if_success (fail_if_success (with_reducible rename AskFacts _ _ => af'))))); (fail_if_success ((with_reducible show wpAny _ _ (binaryOp Operator.Mod (Value.int _ _) (Value.int _ _)) _ _ _); (fail_if_success (fail_if_success (with_reducible rename AskFacts _ _ => af'))))); (fail_if_success ((with_reducible show wpAny _ _ (call (Value.builtin "len") [Value.ref _]) _ _ _); (fail_if_success (fail_if_success (with_reducible rename AskFacts _ _ => af'))))); (fail_if_success ((with_reducible show wpAny _ _ (call (Value.ref 185) _) _ _ _))); (fail_if_success ((with_reducible show wpAny _ _ (call (Value.ref 180) _) _ _ _))); (fail_if_success ((with_reducible show wpAny _ _ (call (Value.ref 175) _) _ _ _))); (fail_if_success ((with_reducible show wpAny _ _ (call (Value.ref 163) _) _ _ _))); (fail_if_success ((with_reducible show wpAny _ _ (call (Value.builtin "sorted") _) _ _ _))); (fail_if_success ((with_reducible show wpAny _ _ (call (Value.builtin "sum") _) _ _ _))); (fail_if_success ((with_reducible show wpAny _ _ (call (Value.type "zip") _) _ _ _))); (fail_if_success ((with_reducible show wpAny _ _ (call (Value.type "enumerate") _) _ _ _))); (fail_if_success ((with_reducible show wpAny _ _ (pyIter (Value.ref _)) _ _ _))); (first | (with_reducible (((with_reducible show wpAny _ _ (eval (PySem.Expr.ListComp _ _ _ _) _) _ _ _); (k_here; k_dflt (refine ListComp_open (by with_unfolding_all rfl) (by rfl) (by decide) ?_ (by intro _; rfl)))))) | (with_reducible ((k_here; (with_reducible show wpAny _ _ (exec (Stmt.Assign [Expr.Name (Str.ofString "odds") _] _ _) _) _ _ _); k_dflt (refine AssignComp_open (by with_unfolding_all rfl) (by with_unfolding_all rfl) (by rfl) (by decide) ?_ (by intro _; rfl))))) | (((with_reducible show wpAny _ _ (exec (PySem.Stmt.For _ _ _ _ _) _) _ _ _); (k_here; (refine wpAny_For ?_ (by intro _; rfl))))) | (k_unfold; (try dsimp only)) | (k_end; wrow_close) | walk1 | (dsimp only; walk1) | (leave1; walk_say "STEP leave1"; try dsimp only) | fail "no step")))
  skip
  rename_i lz1 hz1 qz1 aX hz2 qz2 lz2 hz3 qz3 aY hz4 F₅ N₅ qz4
  have hxs : IntsAre [.int 0 _, .int a ta, .int b tb, .int c tc] [0, a, b, c] := .cons _ tk (.cons _ _ (.cons _ _ (.cons _ _ .nil)))
  have hys₀ : IntsAre [.int a ta, .int b tb, .int c tc, .int 32 (tk + 1)] [a, b, c, 32] := .cons _ _ (.cons _ _ (.cons _ _ (.cons _ _ .nil)))
  refine comp_zip (xs := [_, _, _, _]) (ys₀ := [_, _, _, _]) rfl F₅ N₅ (.tail _ (.tail _ (.head _))) (.head _) (Nat.le_of_ble_eq_true rfl) rfl (by decide) rfl
    (fun i m'' => ∃ x y t t', ([0, a, b, c] : List Int)[i]? = some x ∧ ([a, b, c, 32] : List Int)[i]? = some y ∧ m'' (Str.ofString "ahead") = some (.int x t) ∧ m'' (Str.ofString "behind") = some (.int y t'))
    (fun i ys' news₂ => news₂ = _ ∧ IntsAre ys' ([a - 0, b - a, c - b, 32 - c].take i)) ⟨rfl, .nil⟩ ?_ ?_ ?_
  · rintro i x y T C ys' news₂ s' m' Q' hx hy hT ⟨rfl, _⟩ hn2 hn hq
    obtain ⟨x', t, h1, rfl⟩ := intsAre_get hxs i x hx
    obtain ⟨y', t', h2, rfl⟩ := intsAre_get hys₀ i y hy
    exact asg_pair rfl hT rfl rfl rfl hn fun h' tk hn' hk => hq h' tk _ hn' ⟨x', y', t, t', h1, h2, rfl, rfl⟩ hk
  · rintro i ys' news₂ wr own C oC Dc m₂ h₅ tk₅ hi ⟨rfl, hcs⟩ hm₅ ⟨x, y, t, t', h1, h2, hb1, hb2⟩ hNs G₆ M₆ hown off₆ ne₆
    refine wpAny_tests_nil ?_
    simp only [if_true]
    have M₇ := news_sub M₆ sub_back
    simp only [List.cons_append, List.nil_append] at M₇
    clear M₆
    have hst := odds_step h1 h2
    refine hideQ fun Z3 E3 hZ3 => ?_
    (repeat' ((fail_if_success ((with_reducible show wpAny _ _ (exec (PySem.Stmt.If _ _ _ _) _) _ _ _); (fail_if_success (fail_if_success (with_reducible rename AskFacts _ _ => af'))))); (fail_if_success ((with_reducible show wpAny _ _ (compareOp CmpOp.NotEq (Value.ref _) (Value.ref _)) _ _ _); (fail_if_success (fail_if_success (with_reducible rename AskFacts _ _ => af'))))); (fail_if_success ((with_reducible show wpAny _ _ (call (Value.type "list") _) _ _ _); (fail_if_success (fail_if_success (with_reducible rename AskFacts _ _ => af'))))); (fail_if_success ((with_reducible show wpAny _ _ (call (Value.builtin "list.append") _) _ _ _); (fail_if_success (fail_if_success (with_reducible rename AskFacts _ _ => af'))))); (fail_if_success ((with_reducible show wpAny _ _ (binaryOp Operator.Add (Value.ref _) (Value.ref _)) _ _ _); (fail_if_success (fail_if_success (with_reducible rename AskFacts _ _ => af'))))); (fail_if_success ((with_reducible show wpAny _ _ (subscriptTail _ (PySem.Expr.Slice _ _ _ _) (Value.ref _) (Value.ref _)) _ _ _); (fail_if_success (fail_if_success (with_reducible rename AskFacts _ _ => af'))))); (fail_if_success ((with_reducible show wpAny _ _ (binaryOp Operator.Mod (Value.int _ _) (Value.int _ _)) _ _ _); (fail_if_success (fail_if_success (with_reducible rename AskFacts _ _ => af'))))); (fail_if_success ((with_reducible show wpAny _ _ (call (Value.builtin "len") [Value.ref _]) _ _ _); (fail_if_success (fail_if_success (with_reducible rename AskFacts _ _ => af'))))); (fail_if_success ((with_reducible show wpAny _ _ (call (Value.ref 185) _) _ _ _))); (fail_if_success ((with_reducible show wpAny _ _ (call (Value.ref 180) _) _ _ _))); (fail_if_success ((with_reducible show wpAny _ _ (call (Value.ref 175) _) _ _ _))); (fail_if_success ((with_reducible show wpAny _ _ (call (Value.ref 163) _) _ _ _))); (fail_if_success ((with_reducible show wpAny _ _ (call (Value.builtin "sorted") _) _ _ _))); (fail_if_success ((with_reducible show wpAny _ _ (call (Value.builtin "sum") _) _ _ _))); (fail_if_success ((with_reducible show wpAny _ _ (call (Value.type "zip") _) _ _ _))); (fail_if_success ((with_reducible show wpAny _ _ (call (Value.type "enumerate") _) _ _ _))); (fail_if_success ((with_reducible show wpAny _ _ (pyIter (Value.ref _)) _ _ _))); (first | (with_reducible (((with_reducible show wpAny _ _ (eval (PySem.Expr.ListComp _ _ _ _) _) _ _ _); (k_here; k_dflt (refine ListComp_open (by with_unfolding_all rfl) (by rfl) (by decide) ?_ (by intro _; rfl)))))) | (with_reducible ((k_here; (with_reducible show wpAny _ _ (exec (Stmt.Assign [Expr.Name (Str.ofString "odds") _] _ _) _) _ _ _); k_dflt (refine AssignComp_open (by with_unfolding_all rfl) (by with_unfolding_all rfl) (by rfl) (by decide) ?_ (by intro _; rfl))))) | (((with_reducible show wpAny _ _ (exec (PySem.Stmt.For _ _ _ _ _) _) _ _ _); (k_here; (refine wpAny_For ?_ (by intro _; rfl))))) | (k_unfold; (try dsimp only)) | (k_end; wrow_close) | walk1 | (dsimp only; walk1) | (leave1; walk_say "STEP leave1"; try dsimp only) | fail "no step")))
    exact hZ3 _ _ ⟨_, _, _, _, rfl, G₆, news_sub M₇ (sub_comp0 (r := [_, _, _, _, _, _, _, _, _])), fun p hp => hp, hm₅, off₆, rfl, by rw [hst]; exact intsAre_snoc hcs⟩
  rintro D₃ C₃ oC₃ m'₃ ys₃ news₃ h₅ tk₅ ⟨rfl, hcs₃⟩ G₆ M₆ hNs₃ off₃ offC₃
  refine comp_use (h₀ := s₁.heap) (L := s₁.heap.objs.size) ?_
  (repeat' ((fail_if_success ((with_reducible show wpAny _ _ (exec (PySem.Stmt.If _ _ _ _) _) _ _ _); (fail_if_success (fail_if_success (with_reducible rename AskFacts _ _ => af'))))); (fail_if_success ((with_reducible show wpAny _ _ (compareOp CmpOp.NotEq (Value.ref _) (Value.ref _)) _ _ _); (fail_if_success (fail_if_success (with_reducible rename AskFacts _ _ => af'))))); (fail_if_success ((with_reducible show wpAny _ _ (call (Value.type "list") _) _ _ _); (fail_if_success (fail_if_success (with_reducible rename AskFacts _ _ => af'))))); (fail_if_success ((with_reducible show wpAny _ _ (call (Value.builtin "list.append") _) _ _ _); (fail_if_success (fail_if_success (with_reducible rename AskFacts _ _ => af'))))); (fail_if_success ((with_reducible show wpAny _ _ (binaryOp Operator.Add (Value.ref _) (Value.ref _)) _ _ _); (fail_if_success (fail_if_success (with_reducible rename AskFacts _ _ => af'))))); (fail_if_success ((with_reducible show wpAny _ _ (subscriptTail _ (PySem.Expr.Slice _ _ _ _) (Value.ref _) (Value.ref _)) _ _ _); (fail_if_success (fail_if_success (with_reducible rename AskFacts _ _ => af'))))); (fail_if_success ((with_reducible show wpAny _ _ (binaryOp Operator.Mod (Value.int _ _) (Value.int _ _)) _ _ _); (fail_if_success (fail_if_success (with_reducible rename AskFacts _ _ => af'))))); (fail_if_success ((with_reducible show wpAny _ _ (call (Value.builtin "len") [Value.ref _]) _ _ _); (fail_if_success (fail_if_success (with_reducible rename AskFacts _ _ => af'))))); (fail_if_success ((with_reducible show wpAny _ _ (call (Value.ref 185) _) _ _ _))); (fail_if_success ((with_reducible show wpAny _ _ (call (Value.ref 180) _) _ _ _))); (fail_if_success ((with_reducible show wpAny _ _ (call (Value.ref 175) _) _ _ _))); (fail_if_success ((with_reducible show wpAny _ _ (call (Value.ref 163) _) _ _ _))); (fail_if_success ((with_reducible show wpAny _ _ (call (Value.builtin "sorted") _) _ _ _))); (fail_if_success ((with_reducible show wpAny _ _ (call (Value.builtin "sum") _) _ _ _))); (fail_if_success ((with_reducible show wpAny _ _ (call (Value.type "zip") _) _ _ _))); (fail_if_success ((with_reducible show wpAny _ _ (call (Value.type "enumerate") _) _ _ _))); (fail_if_success ((with_reducible show wpAny _ _ (pyIter (Value.ref _)) _ _ _))); (first | (with_reducible (((with_reducible show wpAny _ _ (eval (PySem.Expr.ListComp _ _ _ _) _) _ _ _); (k_here; k_dflt (refine ListComp_open (by with_unfolding_all rfl) (by rfl) (by decide) ?_ (by intro _; rfl)))))) | (with_reducible ((k_here; (with_reducible show wpAny _ _ (exec (Stmt.Assign [Expr.Name (Str.ofString "odds") _] _ _) _) _ _ _); k_dflt (refine AssignComp_open (by with_unfolding_all rfl) (by with_unfolding_all rfl) (by rfl) (by decide) ?_ (by intro _; rfl))))) | (((with_reducible show wpAny _ _ (exec (PySem.Stmt.For _ _ _ _ _) _) _ _ _); (k_here; (refine wpAny_For ?_ (by intro _; rfl))))) | (k_unfold; (try dsimp only)) | (k_end; wrow_close) | walk1 | (dsimp only; walk1) | (leave1; walk_say "STEP leave1"; try dsimp only) | fail "no step")))
  rename_i hS F₆ N₆
  refine ⟨_, _, _, oC₃, _, _, rfl, F₆, N₆, hNs₃, offC₃, fun h₇ F₇ N₇ => ?_⟩
  have hcs₄ : IntsAre ys₃ [a - 0, b - a, c - b, 32 - c] := hcs₃
  have N₈ := news_skip (news_skip (news_skip (news_skip (news_skip N₇))))
  have F₈ := fr_chain [(Str.ofString "script", .ref aS), (Str.ofString "odds", .ref D₃)] F₇ (allc rfl (allc rfl alln))
  clear F₆ N₆ F₇ N₇
  (repeat' ((fail_if_success ((with_reducible show wpAny _ _ (exec (PySem.Stmt.If _ _ _ _) _) _ _ _); (fail_if_success (fail_if_success (with_reducible rename AskFacts _ _ => af'))))); (fail_if_success ((with_reducible show wpAny _ _ (compareOp CmpOp.NotEq (Value.ref _) (Value.ref _)) _ _ _); (fail_if_success (fail_if_success (with_reducible rename AskFacts _ _ => af'))))); (fail_if_success ((with_reducible show wpAny _ _ (call (Value.type "list") _) _ _ _); (fail_if_success (fail_if_success (with_reducible rename AskFacts _ _ => af'))))); (fail_if_success ((with_reducible show wpAny _ _ (call (Value.builtin "list.append") _) _ _ _); (fail_if_success (fail_if_success (with_reducible rename AskFacts _ _ => af'))))); (fail_if_success ((with_reducible show wpAny _ _ (binaryOp Operator.Add (Value.ref _) (Value.ref _)) _ _ _); (fail_if_success (fail_if_success (with_reducible rename AskFacts _ _ => af'))))); (fail_if_success ((with_reducible show wpAny _ _ (subscriptTail _ (PySem.Expr.Slice _ _ _ _) (Value.ref _) (Value.ref _)) _ _ _); (fail_if_success (fail_if_success (with_reducible rename AskFacts _ _ => af'))))); (fail_if_success ((with_reducible show wpAny _ _ (binaryOp Operator.Mod (Value.int _ _) (Value.int _ _)) _ _ _); (fail_if_success (fail_if_success (with_reducible rename AskFacts _ _ => af'))))); (fail_if_success ((with_reducible show wpAny _ _ (call (Value.builtin "len") [Value.ref _]) _ _ _); (fail_if_success (fail_if_success (with_reducible rename AskFacts _ _ => af'))))); (fail_if_success ((with_reducible show wpAny _ _ (call (Value.ref 185) _) _ _ _))); (fail_if_success ((with_reducible show wpAny _ _ (call (Value.ref 180) _) _ _ _))); (fail_if_success ((with_reducible show wpAny _ _ (call (Value.ref 175) _) _ _ _))); (fail_if_success ((with_reducible show wpAny _ _ (call (Value.ref 163) _) _ _ _))); (fail_if_success ((with_reducible show wpAny _ _ (call (Value.builtin "sorted") _) _ _ _))); (fail_if_success ((with_reducible show wpAny _ _ (call (Value.builtin "sum") _) _ _ _))); (fail_if_success ((with_reducible show wpAny _ _ (call (Value.type "zip") _) _ _ _))); (fail_if_success ((with_reducible show wpAny _ _ (call (Value.type "enumerate") _) _ _ _))); (fail_if_success ((with_reducible show wpAny _ _ (pyIter (Value.ref _)) _ _ _))); (first | (with_reducible (((with_reducible show wpAny _ _ (eval (PySem.Expr.ListComp _ _ _ _) _) _ _ _); (k_here; k_dflt (refine ListComp_open (by with_unfolding_all rfl) (by rfl) (by decide) ?_ (by intro _; rfl)))))) | (with_reducible ((k_here; (with_reducible show wpAny _ _ (exec (Stmt.Assign [Expr.Name (Str.ofString "odds") _] _ _) _) _ _ _); k_dflt (refine AssignComp_open (by with_unfolding_all rfl) (by with_unfolding_all rfl) (by rfl) (by decide) ?_ (by intro _; rfl))))) | (((with_reducible show wpAny _ _ (exec (PySem.Stmt.For _ _ _ _ _) _) _ _ _); (k_here; (refine wpAny_For ?_ (by intro _; rfl))))) | (k_unfold; (try dsimp only)) | (k_end; wrow_close) | walk1 | (dsimp only; walk1) | (leave1; walk_say "STEP leave1"; try dsimp only) | fail "no step")))
  skip
  have hods : ∀ o ∈ [a - 0, b - a, c - b, 32 - c], 0 ≤ o ∧ o ≤ 32 := by
    intro o ho
    simp only [List.mem_cons, List.not_mem_nil, or_false] at ho
    omega
  k_dflt (refine' asks_spec (ovs := ys₃) (ods := [a - 0, b - a, c - b, 32 - c]) ?B ?F ?X ?T ?hk ?hdp ?hun ?NL ?hax ?hov ?hol ?hods ?hlen ?_; (case B => k_asm); (case F => k_asm); (case X => k_asm); (case T => k_asm); (case hk => exact rfl); (case hdp => ktr_room); (case hun => ktr_units); (case NL => k_asm); (case hax => exact .head _); (case hov => exact fun i v hv => intsAre_get hcs₄ i v hv); (case hol => exact intsAre_len hcs₄); (case hods => exact hods); (case hlen => exact Nat.le_of_ble_eq_true rfl))
  intro la al e₉ h₉ tk₉ rest hal hsub hain hoffla F₉ N₉
  have N₁₀ : News s₁.heap s₁.heap.objs.size h₉ ([(la, listOf (av al).toArray e₉), (D₃, listOf ys₃.toArray ys₃.length), (D', listOf ys.toArray ys.length), (s₁.heap.objs.size + 1 + 1, o1), (s₁.heap.objs.size + 1, oD)] ++ rest) := by
    exact news_put N₉ (.head _) (news_put N₉ (.tail _ (hsub _ (.head _))) (news_put N₉ (.tail _ (hsub _ (.tail _ (.head _)))) (news_put N₉ (.tail _ (hsub _ (.tail _ (.tail _ (.tail _ (.head _)))))) (news_put N₉ (.tail _ (hsub _ (.tail _ (.tail _ (.tail _ (.tail _ (.head _))))))) (news_in N₉ fun x hx => .tail _ hx)))))
  simp only [List.cons_append, List.nil_append] at N₁₀
  clear N₉ N₈ F₈
  have AF := askFacts hods hal
  have hods32 : [a - 0, b - a, c - b, 32 - c].sum = 32 := by simp; omega
  have hal24 : al.length ≤ 24 := AF.len
  have hal32 : (al.map (·.room)).sum = 32 := AF.sum.trans hods32
  have hal0 : 0 < al.length := by
    cases al with
    | nil => simp at hal32
    | cons _ _ => simp
  (repeat' ((fail_if_success ((with_reducible show wpAny _ _ (exec (PySem.Stmt.If _ _ _ _) _) _ _ _); (fail_if_success (fail_if_success (with_reducible rename AskFacts _ _ => af'))))); (fail_if_success ((with_reducible show wpAny _ _ (compareOp CmpOp.NotEq (Value.ref _) (Value.ref _)) _ _ _); (fail_if_success (fail_if_success (with_reducible rename AskFacts _ _ => af'))))); (fail_if_success ((with_reducible show wpAny _ _ (call (Value.type "list") _) _ _ _); (fail_if_success (fail_if_success (with_reducible rename AskFacts _ _ => af'))))); (fail_if_success ((with_reducible show wpAny _ _ (call (Value.builtin "list.append") _) _ _ _); (fail_if_success (fail_if_success (with_reducible rename AskFacts _ _ => af'))))); (fail_if_success ((with_reducible show wpAny _ _ (binaryOp Operator.Add (Value.ref _) (Value.ref _)) _ _ _); (fail_if_success (fail_if_success (with_reducible rename AskFacts _ _ => af'))))); (fail_if_success ((with_reducible show wpAny _ _ (subscriptTail _ (PySem.Expr.Slice _ _ _ _) (Value.ref _) (Value.ref _)) _ _ _); (fail_if_success (fail_if_success (with_reducible rename AskFacts _ _ => af'))))); (fail_if_success ((with_reducible show wpAny _ _ (binaryOp Operator.Mod (Value.int _ _) (Value.int _ _)) _ _ _); (fail_if_success (fail_if_success (with_reducible rename AskFacts _ _ => af'))))); (fail_if_success ((with_reducible show wpAny _ _ (call (Value.builtin "len") [Value.ref _]) _ _ _); (fail_if_success (fail_if_success (with_reducible rename AskFacts _ _ => af'))))); (fail_if_success ((with_reducible show wpAny _ _ (call (Value.ref 185) _) _ _ _))); (fail_if_success ((with_reducible show wpAny _ _ (call (Value.ref 180) _) _ _ _))); (fail_if_success ((with_reducible show wpAny _ _ (call (Value.ref 175) _) _ _ _))); (fail_if_success ((with_reducible show wpAny _ _ (call (Value.ref 163) _) _ _ _))); (fail_if_success ((with_reducible show wpAny _ _ (call (Value.builtin "sorted") _) _ _ _))); (fail_if_success ((with_reducible show wpAny _ _ (call (Value.builtin "sum") _) _ _ _))); (fail_if_success ((with_reducible show wpAny _ _ (call (Value.type "zip") _) _ _ _))); (fail_if_success ((with_reducible show wpAny _ _ (call (Value.type "enumerate") _) _ _ _))); (fail_if_success ((with_reducible show wpAny _ _ (pyIter (Value.ref _)) _ _ _))); (first | (with_reducible (((with_reducible show wpAny _ _ (eval (PySem.Expr.ListComp _ _ _ _) _) _ _ _); (k_here; k_dflt (refine ListComp_open (by with_unfolding_all rfl) (by rfl) (by decide) ?_ (by intro _; rfl)))))) | (with_reducible ((k_here; (with_reducible show wpAny _ _ (exec (Stmt.Assign [Expr.Name (Str.ofString "odds") _] _ _) _) _ _ _); k_dflt (refine AssignComp_open (by with_unfolding_all rfl) (by with_unfolding_all rfl) (by rfl) (by decide) ?_ (by intro _; rfl))))) | (((with_reducible show wpAny _ _ (exec (PySem.Stmt.For _ _ _ _ _) _) _ _ _); (k_here; (refine wpAny_For ?_ (by intro _; rfl))))) | (k_unfold; (try dsimp only)) | (k_end; wrow_close) | walk1 | (dsimp only; walk1) | (leave1; walk_say "STEP leave1"; try dsimp only) | fail "no step")))
  skip
  (rename Fr _ _ _ _ => F₁₁)
  (rename News _ _ _ _ => N₁₁)
  refine sum_any rfl F₁₁ N₁₁ (.tail _ (.tail _ (.head _))) hys ?_
  intro h₁₂ tk₁₂ t₁₂ F₁₂ N₁₂
  clear F₁₁ N₁₁ N₁₀
  have hav0 : ((al.length : Nat) : Int) ≠ 0 := by omega
  (repeat' ((fail_if_success ((with_reducible show wpAny _ _ (exec (PySem.Stmt.If _ _ _ _) _) _ _ _); (fail_if_success (fail_if_success (with_reducible rename AskFacts _ _ => af'))))); (fail_if_success ((with_reducible show wpAny _ _ (compareOp CmpOp.NotEq (Value.ref _) (Value.ref _)) _ _ _); (fail_if_success (fail_if_success (with_reducible rename AskFacts _ _ => af'))))); (fail_if_success ((with_reducible show wpAny _ _ (call (Value.type "list") _) _ _ _); (fail_if_success (fail_if_success (with_reducible rename AskFacts _ _ => af'))))); (fail_if_success ((with_reducible show wpAny _ _ (call (Value.builtin "list.append") _) _ _ _); (fail_if_success (fail_if_success (with_reducible rename AskFacts _ _ => af'))))); (fail_if_success ((with_reducible show wpAny _ _ (binaryOp Operator.Add (Value.ref _) (Value.ref _)) _ _ _); (fail_if_success (fail_if_success (with_reducible rename AskFacts _ _ => af'))))); (fail_if_success ((with_reducible show wpAny _ _ (subscriptTail _ (PySem.Expr.Slice _ _ _ _) (Value.ref _) (Value.ref _)) _ _ _); (fail_if_success (fail_if_success (with_reducible rename AskFacts _ _ => af'))))); (fail_if_success ((with_reducible show wpAny _ _ (binaryOp Operator.Mod (Value.int _ _) (Value.int _ _)) _ _ _); (fail_if_success (fail_if_success (with_reducible rename AskFacts _ _ => af'))))); (fail_if_success ((with_reducible show wpAny _ _ (call (Value.builtin "len") [Value.ref _]) _ _ _); (fail_if_success (fail_if_success (with_reducible rename AskFacts _ _ => af'))))); (fail_if_success ((with_reducible show wpAny _ _ (call (Value.ref 185) _) _ _ _))); (fail_if_success ((with_reducible show wpAny _ _ (call (Value.ref 180) _) _ _ _))); (fail_if_success ((with_reducible show wpAny _ _ (call (Value.ref 175) _) _ _ _))); (fail_if_success ((with_reducible show wpAny _ _ (call (Value.ref 163) _) _ _ _))); (fail_if_success ((with_reducible show wpAny _ _ (call (Value.builtin "sorted") _) _ _ _))); (fail_if_success ((with_reducible show wpAny _ _ (call (Value.builtin "sum") _) _ _ _))); (fail_if_success ((with_reducible show wpAny _ _ (call (Value.type "zip") _) _ _ _))); (fail_if_success ((with_reducible show wpAny _ _ (call (Value.type "enumerate") _) _ _ _))); (fail_if_success ((with_reducible show wpAny _ _ (pyIter (Value.ref _)) _ _ _))); (first | (with_reducible (((with_reducible show wpAny _ _ (eval (PySem.Expr.ListComp _ _ _ _) _) _ _ _); (k_here; k_dflt (refine ListComp_open (by with_unfolding_all rfl) (by rfl) (by decide) ?_ (by intro _; rfl)))))) | (with_reducible ((k_here; (with_reducible show wpAny _ _ (exec (Stmt.Assign [Expr.Name (Str.ofString "odds") _] _ _) _) _ _ _); k_dflt (refine AssignComp_open (by with_unfolding_all rfl) (by with_unfolding_all rfl) (by rfl) (by decide) ?_ (by intro _; rfl))))) | (((with_reducible show wpAny _ _ (exec (PySem.Stmt.For _ _ _ _ _) _) _ _ _); (k_here; (refine wpAny_For ?_ (by intro _; rfl))))) | (k_unfold; (try dsimp only)) | (k_end; wrow_close) | walk1 | (dsimp only; walk1) | (leave1; walk_say "STEP leave1"; try dsimp only) | fail "no step")))
  skip
  refine kun_lenL (k := ((al.length : Nat) : Int)) (News.isList N₁₂ (.head _)) (by simp) (by omega) ?_
  (repeat' ((fail_if_success ((with_reducible show wpAny _ _ (exec (PySem.Stmt.If _ _ _ _) _) _ _ _); (fail_if_success (fail_if_success (with_reducible rename AskFacts _ _ => af'))))); (fail_if_success ((with_reducible show wpAny _ _ (compareOp CmpOp.NotEq (Value.ref _) (Value.ref _)) _ _ _); (fail_if_success (fail_if_success (with_reducible rename AskFacts _ _ => af'))))); (fail_if_success ((with_reducible show wpAny _ _ (call (Value.type "list") _) _ _ _); (fail_if_success (fail_if_success (with_reducible rename AskFacts _ _ => af'))))); (fail_if_success ((with_reducible show wpAny _ _ (call (Value.builtin "list.append") _) _ _ _); (fail_if_success (fail_if_success (with_reducible rename AskFacts _ _ => af'))))); (fail_if_success ((with_reducible show wpAny _ _ (binaryOp Operator.Add (Value.ref _) (Value.ref _)) _ _ _); (fail_if_success (fail_if_success (with_reducible rename AskFacts _ _ => af'))))); (fail_if_success ((with_reducible show wpAny _ _ (subscriptTail _ (PySem.Expr.Slice _ _ _ _) (Value.ref _) (Value.ref _)) _ _ _); (fail_if_success (fail_if_success (with_reducible rename AskFacts _ _ => af'))))); (fail_if_success ((with_reducible show wpAny _ _ (binaryOp Operator.Mod (Value.int _ _) (Value.int _ _)) _ _ _); (fail_if_success (fail_if_success (with_reducible rename AskFacts _ _ => af'))))); (fail_if_success ((with_reducible show wpAny _ _ (call (Value.builtin "len") [Value.ref _]) _ _ _); (fail_if_success (fail_if_success (with_reducible rename AskFacts _ _ => af'))))); (fail_if_success ((with_reducible show wpAny _ _ (call (Value.ref 185) _) _ _ _))); (fail_if_success ((with_reducible show wpAny _ _ (call (Value.ref 180) _) _ _ _))); (fail_if_success ((with_reducible show wpAny _ _ (call (Value.ref 175) _) _ _ _))); (fail_if_success ((with_reducible show wpAny _ _ (call (Value.ref 163) _) _ _ _))); (fail_if_success ((with_reducible show wpAny _ _ (call (Value.builtin "sorted") _) _ _ _))); (fail_if_success ((with_reducible show wpAny _ _ (call (Value.builtin "sum") _) _ _ _))); (fail_if_success ((with_reducible show wpAny _ _ (call (Value.type "zip") _) _ _ _))); (fail_if_success ((with_reducible show wpAny _ _ (call (Value.type "enumerate") _) _ _ _))); (fail_if_success ((with_reducible show wpAny _ _ (pyIter (Value.ref _)) _ _ _))); (first | (with_reducible (((with_reducible show wpAny _ _ (eval (PySem.Expr.ListComp _ _ _ _) _) _ _ _); (k_here; k_dflt (refine ListComp_open (by with_unfolding_all rfl) (by rfl) (by decide) ?_ (by intro _; rfl)))))) | (with_reducible ((k_here; (with_reducible show wpAny _ _ (exec (Stmt.Assign [Expr.Name (Str.ofString "odds") _] _ _) _) _ _ _); k_dflt (refine AssignComp_open (by with_unfolding_all rfl) (by with_unfolding_all rfl) (by rfl) (by decide) ?_ (by intro _; rfl))))) | (((with_reducible show wpAny _ _ (exec (PySem.Stmt.For _ _ _ _ _) _) _ _ _); (k_here; (refine wpAny_For ?_ (by intro _; rfl))))) | (k_unfold; (try dsimp only)) | (k_end; wrow_close) | walk1 | (dsimp only; walk1) | (leave1; walk_say "STEP leave1"; try dsimp only) | fail "no step")))
  skip
  refine mod_int hav0 ?_
  obtain ⟨tn, htn, htl⟩ : ∃ tn : Nat, ds.sum.fmod ((al.length : Nat) : Int) = (tn : Int) ∧ tn < al.length := by
    have h1 := Int.fmod_nonneg_of_pos ds.sum (b := ((al.length : Nat) : Int)) (by omega)
    have h2 := Int.fmod_lt_of_pos ds.sum (b := ((al.length : Nat) : Int)) (by omega)
    exact ⟨(ds.sum.fmod ((al.length : Nat) : Int)).toNat, by omega, by omega⟩
  rw [htn]
  dsimp only
  (repeat' ((fail_if_success ((with_reducible show wpAny _ _ (exec (PySem.Stmt.If _ _ _ _) _) _ _ _); (fail_if_success (fail_if_success (with_reducible rename AskFacts _ _ => af'))))); (fail_if_success ((with_reducible show wpAny _ _ (compareOp CmpOp.NotEq (Value.ref _) (Value.ref _)) _ _ _); (fail_if_success (fail_if_success (with_reducible rename AskFacts _ _ => af'))))); (fail_if_success ((with_reducible show wpAny _ _ (call (Value.type "list") _) _ _ _); (fail_if_success (fail_if_success (with_reducible rename AskFacts _ _ => af'))))); (fail_if_success ((with_reducible show wpAny _ _ (call (Value.builtin "list.append") _) _ _ _); (fail_if_success (fail_if_success (with_reducible rename AskFacts _ _ => af'))))); (fail_if_success ((with_reducible show wpAny _ _ (binaryOp Operator.Add (Value.ref _) (Value.ref _)) _ _ _); (fail_if_success (fail_if_success (with_reducible rename AskFacts _ _ => af'))))); (fail_if_success ((with_reducible show wpAny _ _ (subscriptTail _ (PySem.Expr.Slice _ _ _ _) (Value.ref _) (Value.ref _)) _ _ _); (fail_if_success (fail_if_success (with_reducible rename AskFacts _ _ => af'))))); (fail_if_success ((with_reducible show wpAny _ _ (binaryOp Operator.Mod (Value.int _ _) (Value.int _ _)) _ _ _); (fail_if_success (fail_if_success (with_reducible rename AskFacts _ _ => af'))))); (fail_if_success ((with_reducible show wpAny _ _ (call (Value.builtin "len") [Value.ref _]) _ _ _); (fail_if_success (fail_if_success (with_reducible rename AskFacts _ _ => af'))))); (fail_if_success ((with_reducible show wpAny _ _ (call (Value.ref 185) _) _ _ _))); (fail_if_success ((with_reducible show wpAny _ _ (call (Value.ref 180) _) _ _ _))); (fail_if_success ((with_reducible show wpAny _ _ (call (Value.ref 175) _) _ _ _))); (fail_if_success ((with_reducible show wpAny _ _ (call (Value.ref 163) _) _ _ _))); (fail_if_success ((with_reducible show wpAny _ _ (call (Value.builtin "sorted") _) _ _ _))); (fail_if_success ((with_reducible show wpAny _ _ (call (Value.builtin "sum") _) _ _ _))); (fail_if_success ((with_reducible show wpAny _ _ (call (Value.type "zip") _) _ _ _))); (fail_if_success ((with_reducible show wpAny _ _ (call (Value.type "enumerate") _) _ _ _))); (fail_if_success ((with_reducible show wpAny _ _ (pyIter (Value.ref _)) _ _ _))); (first | (with_reducible (((with_reducible show wpAny _ _ (eval (PySem.Expr.ListComp _ _ _ _) _) _ _ _); (k_here; k_dflt (refine ListComp_open (by with_unfolding_all rfl) (by rfl) (by decide) ?_ (by intro _; rfl)))))) | (with_reducible ((k_here; (with_reducible show wpAny _ _ (exec (Stmt.Assign [Expr.Name (Str.ofString "odds") _] _ _) _) _ _ _); k_dflt (refine AssignComp_open (by with_unfolding_all rfl) (by with_unfolding_all rfl) (by rfl) (by decide) ?_ (by intro _; rfl))))) | (((with_reducible show wpAny _ _ (exec (PySem.Stmt.For _ _ _ _ _) _) _ _ _); (k_here; (refine wpAny_For ?_ (by intro _; rfl))))) | (k_unfold; (try dsimp only)) | (k_end; wrow_close) | walk1 | (dsimp only; walk1) | (leave1; walk_say "STEP leave1"; try dsimp only) | fail "no step")))
  skip
  (rename Fr _ _ _ _ => F₁₃)
  (rename News _ _ _ _ => N₁₃)
  have F₁₄ := fr_chain [(Str.ofString "script", .ref aS), (Str.ofString "odds", .ref D₃), (Str.ofString "asks", .ref la), (Str.ofString "turn", .int (tn : Int) _)] F₁₃ (allc rfl (allc rfl (allc rfl (allc rfl alln))))
  k_dflt (refine' kmk_slice_lit (zs := av (al.drop tn)) F₁₄ N₁₃ (News.isList N₁₃ (.head _)) (IsPart.int _ _) IsPart.none ?slE ?_ ?slS ?slT ?slZ; (case slE => exact pick_from (Nat.le_of_lt htl)); (case slS => with_unfolding_all rfl); (case slT => kmk_pure); (case slZ => (have := sizeLine_eq; simp; omega)))
  intro aE hE₁ F₁₅ N₁₅ l₁₅
  (repeat' ((fail_if_success ((with_reducible show wpAny _ _ (exec (PySem.Stmt.If _ _ _ _) _) _ _ _); (fail_if_success (fail_if_success (with_reducible rename AskFacts _ _ => af'))))); (fail_if_success ((with_reducible show wpAny _ _ (compareOp CmpOp.NotEq (Value.ref _) (Value.ref _)) _ _ _); (fail_if_success (fail_if_success (with_reducible rename AskFacts _ _ => af'))))); (fail_if_success ((with_reducible show wpAny _ _ (call (Value.type "list") _) _ _ _); (fail_if_success (fail_if_success (with_reducible rename AskFacts _ _ => af'))))); (fail_if_success ((with_reducible show wpAny _ _ (call (Value.builtin "list.append") _) _ _ _); (fail_if_success (fail_if_success (with_reducible rename AskFacts _ _ => af'))))); (fail_if_success ((with_reducible show wpAny _ _ (binaryOp Operator.Add (Value.ref _) (Value.ref _)) _ _ _); (fail_if_success (fail_if_success (with_reducible rename AskFacts _ _ => af'))))); (fail_if_success ((with_reducible show wpAny _ _ (subscriptTail _ (PySem.Expr.Slice _ _ _ _) (Value.ref _) (Value.ref _)) _ _ _); (fail_if_success (fail_if_success (with_reducible rename AskFacts _ _ => af'))))); (fail_if_success ((with_reducible show wpAny _ _ (binaryOp Operator.Mod (Value.int _ _) (Value.int _ _)) _ _ _); (fail_if_success (fail_if_success (with_reducible rename AskFacts _ _ => af'))))); (fail_if_success ((with_reducible show wpAny _ _ (call (Value.builtin "len") [Value.ref _]) _ _ _); (fail_if_success (fail_if_success (with_reducible rename AskFacts _ _ => af'))))); (fail_if_success ((with_reducible show wpAny _ _ (call (Value.ref 185) _) _ _ _))); (fail_if_success ((with_reducible show wpAny _ _ (call (Value.ref 180) _) _ _ _))); (fail_if_success ((with_reducible show wpAny _ _ (call (Value.ref 175) _) _ _ _))); (fail_if_success ((with_reducible show wpAny _ _ (call (Value.ref 163) _) _ _ _))); (fail_if_success ((with_reducible show wpAny _ _ (call (Value.builtin "sorted") _) _ _ _))); (fail_if_success ((with_reducible show wpAny _ _ (call (Value.builtin "sum") _) _ _ _))); (fail_if_success ((with_reducible show wpAny _ _ (call (Value.type "zip") _) _ _ _))); (fail_if_success ((with_reducible show wpAny _ _ (call (Value.type "enumerate") _) _ _ _))); (fail_if_success ((with_reducible show wpAny _ _ (pyIter (Value.ref _)) _ _ _))); (first | (with_reducible (((with_reducible show wpAny _ _ (eval (PySem.Expr.ListComp _ _ _ _) _) _ _ _); (k_here; k_dflt (refine ListComp_open (by with_unfolding_all rfl) (by rfl) (by decide) ?_ (by intro _; rfl)))))) | (with_reducible ((k_here; (with_reducible show wpAny _ _ (exec (Stmt.Assign [Expr.Name (Str.ofString "odds") _] _ _) _) _ _ _); k_dflt (refine AssignComp_open (by with_unfolding_all rfl) (by with_unfolding_all rfl) (by rfl) (by decide) ?_ (by intro _; rfl))))) | (((with_reducible show wpAny _ _ (exec (PySem.Stmt.For _ _ _ _ _) _) _ _ _); (k_here; (refine wpAny_For ?_ (by intro _; rfl))))) | (k_unfold; (try dsimp only)) | (k_end; wrow_close) | walk1 | (dsimp only; walk1) | (leave1; walk_say "STEP leave1"; try dsimp only) | fail "no step")))
  skip
  (rename Fr _ _ _ _ => F₁₆)
  (rename News _ _ _ _ => N₁₆)
  k_dflt (refine' kmk_slice_lit (zs := av (al.take tn)) F₁₆ N₁₆ (News.isList N₁₆ (.tail _ (.head _))) IsPart.none (IsPart.int _ _) ?slE ?_ ?slS ?slT ?slZ; (case slE => exact pick_upto (Nat.le_of_lt htl)); (case slS => with_unfolding_all rfl); (case slT => kmk_pure); (case slZ => (have := sizeLine_eq; simp; omega)))
  intro aF hE₂ F₁₇ N₁₇ l₁₇
  (repeat' ((fail_if_success ((with_reducible show wpAny _ _ (exec (PySem.Stmt.If _ _ _ _) _) _ _ _); (fail_if_success (fail_if_success (with_reducible rename AskFacts _ _ => af'))))); (fail_if_success ((with_reducible show wpAny _ _ (compareOp CmpOp.NotEq (Value.ref _) (Value.ref _)) _ _ _); (fail_if_success (fail_if_success (with_reducible rename AskFacts _ _ => af'))))); (fail_if_success ((with_reducible show wpAny _ _ (call (Value.type "list") _) _ _ _); (fail_if_success (fail_if_success (with_reducible rename AskFacts _ _ => af'))))); (fail_if_success ((with_reducible show wpAny _ _ (call (Value.builtin "list.append") _) _ _ _); (fail_if_success (fail_if_success (with_reducible rename AskFacts _ _ => af'))))); (fail_if_success ((with_reducible show wpAny _ _ (binaryOp Operator.Add (Value.ref _) (Value.ref _)) _ _ _); (fail_if_success (fail_if_success (with_reducible rename AskFacts _ _ => af'))))); (fail_if_success ((with_reducible show wpAny _ _ (subscriptTail _ (PySem.Expr.Slice _ _ _ _) (Value.ref _) (Value.ref _)) _ _ _); (fail_if_success (fail_if_success (with_reducible rename AskFacts _ _ => af'))))); (fail_if_success ((with_reducible show wpAny _ _ (binaryOp Operator.Mod (Value.int _ _) (Value.int _ _)) _ _ _); (fail_if_success (fail_if_success (with_reducible rename AskFacts _ _ => af'))))); (fail_if_success ((with_reducible show wpAny _ _ (call (Value.builtin "len") [Value.ref _]) _ _ _); (fail_if_success (fail_if_success (with_reducible rename AskFacts _ _ => af'))))); (fail_if_success ((with_reducible show wpAny _ _ (call (Value.ref 185) _) _ _ _))); (fail_if_success ((with_reducible show wpAny _ _ (call (Value.ref 180) _) _ _ _))); (fail_if_success ((with_reducible show wpAny _ _ (call (Value.ref 175) _) _ _ _))); (fail_if_success ((with_reducible show wpAny _ _ (call (Value.ref 163) _) _ _ _))); (fail_if_success ((with_reducible show wpAny _ _ (call (Value.builtin "sorted") _) _ _ _))); (fail_if_success ((with_reducible show wpAny _ _ (call (Value.builtin "sum") _) _ _ _))); (fail_if_success ((with_reducible show wpAny _ _ (call (Value.type "zip") _) _ _ _))); (fail_if_success ((with_reducible show wpAny _ _ (call (Value.type "enumerate") _) _ _ _))); (fail_if_success ((with_reducible show wpAny _ _ (pyIter (Value.ref _)) _ _ _))); (first | (with_reducible (((with_reducible show wpAny _ _ (eval (PySem.Expr.ListComp _ _ _ _) _) _ _ _); (k_here; k_dflt (refine ListComp_open (by with_unfolding_all rfl) (by rfl) (by decide) ?_ (by intro _; rfl)))))) | (with_reducible ((k_here; (with_reducible show wpAny _ _ (exec (Stmt.Assign [Expr.Name (Str.ofString "odds") _] _ _) _) _ _ _); k_dflt (refine AssignComp_open (by with_unfolding_all rfl) (by with_unfolding_all rfl) (by rfl) (by decide) ?_ (by intro _; rfl))))) | (((with_reducible show wpAny _ _ (exec (PySem.Stmt.For _ _ _ _ _) _) _ _ _); (k_here; (refine wpAny_For ?_ (by intro _; rfl))))) | (k_unfold; (try dsimp only)) | (k_end; wrow_close) | walk1 | (dsimp only; walk1) | (leave1; walk_say "STEP leave1"; try dsimp only) | fail "no step")))
  skip
  refine add_lists (vs := av (al.drop tn)) (ws := av (al.take tn)) F₁₇ N₁₇ (News.isList N₁₇ (.tail _ (.head _))) (News.isList N₁₇ (.head _)) (fun h' F' N' => ?_) (by have := sizeLine_eq; simp; omega)
  dsimp only at F' N' ⊢
  rw [av_app] at N'
  (repeat' ((fail_if_success ((with_reducible show wpAny _ _ (exec (PySem.Stmt.If _ _ _ _) _) _ _ _); (fail_if_success (fail_if_success (with_reducible rename AskFacts _ _ => af'))))); (fail_if_success ((with_reducible show wpAny _ _ (compareOp CmpOp.NotEq (Value.ref _) (Value.ref _)) _ _ _); (fail_if_success (fail_if_success (with_reducible rename AskFacts _ _ => af'))))); (fail_if_success ((with_reducible show wpAny _ _ (call (Value.type "list") _) _ _ _); (fail_if_success (fail_if_success (with_reducible rename AskFacts _ _ => af'))))); (fail_if_success ((with_reducible show wpAny _ _ (call (Value.builtin "list.append") _) _ _ _); (fail_if_success (fail_if_success (with_reducible rename AskFacts _ _ => af'))))); (fail_if_success ((with_reducible show wpAny _ _ (binaryOp Operator.Add (Value.ref _) (Value.ref _)) _ _ _); (fail_if_success (fail_if_success (with_reducible rename AskFacts _ _ => af'))))); (fail_if_success ((with_reducible show wpAny _ _ (subscriptTail _ (PySem.Expr.Slice _ _ _ _) (Value.ref _) (Value.ref _)) _ _ _); (fail_if_success (fail_if_success (with_reducible rename AskFacts _ _ => af'))))); (fail_if_success ((with_reducible show wpAny _ _ (binaryOp Operator.Mod (Value.int _ _) (Value.int _ _)) _ _ _); (fail_if_success (fail_if_success (with_reducible rename AskFacts _ _ => af'))))); (fail_if_success ((with_reducible show wpAny _ _ (call (Value.builtin "len") [Value.ref _]) _ _ _); (fail_if_success (fail_if_success (with_reducible rename AskFacts _ _ => af'))))); (fail_if_success ((with_reducible show wpAny _ _ (call (Value.ref 185) _) _ _ _))); (fail_if_success ((with_reducible show wpAny _ _ (call (Value.ref 180) _) _ _ _))); (fail_if_success ((with_reducible show wpAny _ _ (call (Value.ref 175) _) _ _ _))); (fail_if_success ((with_reducible show wpAny _ _ (call (Value.ref 163) _) _ _ _))); (fail_if_success ((with_reducible show wpAny _ _ (call (Value.builtin "sorted") _) _ _ _))); (fail_if_success ((with_reducible show wpAny _ _ (call (Value.builtin "sum") _) _ _ _))); (fail_if_success ((with_reducible show wpAny _ _ (call (Value.type "zip") _) _ _ _))); (fail_if_success ((with_reducible show wpAny _ _ (call (Value.type "enumerate") _) _ _ _))); (fail_if_success ((with_reducible show wpAny _ _ (pyIter (Value.ref _)) _ _ _))); (first | (with_reducible (((with_reducible show wpAny _ _ (eval (PySem.Expr.ListComp _ _ _ _) _) _ _ _); (k_here; k_dflt (refine ListComp_open (by with_unfolding_all rfl) (by rfl) (by decide) ?_ (by intro _; rfl)))))) | (with_reducible ((k_here; (with_reducible show wpAny _ _ (exec (Stmt.Assign [Expr.Name (Str.ofString "odds") _] _ _) _) _ _ _); k_dflt (refine AssignComp_open (by with_unfolding_all rfl) (by with_unfolding_all rfl) (by rfl) (by decide) ?_ (by intro _; rfl))))) | (((with_reducible show wpAny _ _ (exec (PySem.Stmt.For _ _ _ _ _) _) _ _ _); (k_here; (refine wpAny_For ?_ (by intro _; rfl))))) | (k_unfold; (try dsimp only)) | (k_end; wrow_close) | walk1 | (dsimp only; walk1) | (leave1; walk_say "STEP leave1"; try dsimp only) | fail "no step")))
  skip
  (rename Fr _ _ _ _ => F₁₈)
  (rename News _ _ _ _ => N₁₈)
  have hp₁ : (al.drop tn ++ al.take tn).Perm al := List.perm_append_comm.trans (by rw [List.take_append_drop])
  generalize al.drop tn ++ al.take tn = al₁ at hp₁ N₁₈
  generalize hE₂.objs.size = aG at F₁₈ N₁₈
  have N₁₉ : News TT.heap s₁.heap.objs.size _ ((aG, listOf (av al₁).toArray 0) :: (D₃, listOf ys₃.toArray ys₃.length) :: (D', listOf ys.toArray ys.length) :: (s₁.heap.objs.size + 1 + 1, o1) :: (s₁.heap.objs.size + 1, oD) :: rest) := news_sub N₁₈ fun x hx => by
    rcases List.mem_cons.mp hx with rfl | hx
    · exact .head _
    · exact .tail _ (.tail _ (.tail _ (.tail _ hx)))
  have F₁₉ := fr_chain [(Str.ofString "script", .ref aS), (Str.ofString "odds", .ref D₃), (Str.ofString "asks", .ref aG)] F₁₈ (allc rfl (allc rfl (allc rfl alln)))
  clear F₁₈ N₁₈
  have hal₁ : al₁.length = al.length := hp₁.length_eq
  obtain ⟨Qx, hQx⟩ : ∃ Qx : Flow → Shared → Prop, ∀ f s', Qx f s' ↔ (f = Flow.next ∧ ∃ la' al' e' h' tk' m', s' = { s₁ with heap := h', toks := tk' } ∧ al'.Perm al ∧ Fr TT.heap s₁.heap.objs.size h' (chain [(Str.ofString "script", .ref aS), (Str.ofString "odds", .ref D₃), (Str.ofString "asks", .ref la')] m') ∧ News TT.heap s₁.heap.objs.size h' ((la', listOf (av al').toArray e') :: (D₃, listOf ys₃.toArray ys₃.length) :: (D', listOf ys.toArray ys.length) :: (s₁.heap.objs.size + 1 + 1, o1) :: (s₁.heap.objs.size + 1, oD) :: rest)) := ⟨_, fun _ _ => Iff.rfl⟩
  refine wpAny_mono (Q := Qx) (E := fun _ _ => False) ?_ ?_ (fun _ _ x => x.elim)
  · refine wpAny_If ?_
    (repeat' ((fail_if_success ((with_reducible show wpAny _ _ (exec (PySem.Stmt.If _ _ _ _) _) _ _ _); (fail_if_success (fail_if_success (with_reducible rename AskFacts _ _ => af'))))); (fail_if_success ((with_reducible show wpAny _ _ (compareOp CmpOp.NotEq (Value.ref _) (Value.ref _)) _ _ _); (fail_if_success (fail_if_success (with_reducible rename AskFacts _ _ => af'))))); (fail_if_success ((with_reducible show wpAny _ _ (call (Value.type "list") _) _ _ _); (fail_if_success (fail_if_success (with_reducible rename AskFacts _ _ => af'))))); (fail_if_success ((with_reducible show wpAny _ _ (call (Value.builtin "list.append") _) _ _ _); (fail_if_success (fail_if_success (with_reducible rename AskFacts _ _ => af'))))); (fail_if_success ((with_reducible show wpAny _ _ (binaryOp Operator.Add (Value.ref _) (Value.ref _)) _ _ _); (fail_if_success (fail_if_success (with_reducible rename AskFacts _ _ => af'))))); (fail_if_success ((with_reducible show wpAny _ _ (subscriptTail _ (PySem.Expr.Slice _ _ _ _) (Value.ref _) (Value.ref _)) _ _ _); (fail_if_success (fail_if_success (with_reducible rename AskFacts _ _ => af'))))); (fail_if_success ((with_reducible show wpAny _ _ (binaryOp Operator.Mod (Value.int _ _) (Value.int _ _)) _ _ _); (fail_if_success (fail_if_success (with_reducible rename AskFacts _ _ => af'))))); (fail_if_success ((with_reducible show wpAny _ _ (call (Value.builtin "len") [Value.ref _]) _ _ _); (fail_if_success (fail_if_success (with_reducible rename AskFacts _ _ => af'))))); (fail_if_success ((with_reducible show wpAny _ _ (call (Value.ref 185) _) _ _ _))); (fail_if_success ((with_reducible show wpAny _ _ (call (Value.ref 180) _) _ _ _))); (fail_if_success ((with_reducible show wpAny _ _ (call (Value.ref 175) _) _ _ _))); (fail_if_success ((with_reducible show wpAny _ _ (call (Value.ref 163) _) _ _ _))); (fail_if_success ((with_reducible show wpAny _ _ (call (Value.builtin "sorted") _) _ _ _))); (fail_if_success ((with_reducible show wpAny _ _ (call (Value.builtin "sum") _) _ _ _))); (fail_if_success ((with_reducible show wpAny _ _ (call (Value.type "zip") _) _ _ _))); (fail_if_success ((with_reducible show wpAny _ _ (call (Value.type "enumerate") _) _ _ _))); (fail_if_success ((with_reducible show wpAny _ _ (pyIter (Value.ref _)) _ _ _))); (first | (with_reducible (((with_reducible show wpAny _ _ (eval (PySem.Expr.ListComp _ _ _ _) _) _ _ _); (k_here; k_dflt (refine ListComp_open (by with_unfolding_all rfl) (by rfl) (by decide) ?_ (by intro _; rfl)))))) | (with_reducible ((k_here; (with_reducible show wpAny _ _ (exec (Stmt.Assign [Expr.Name (Str.ofString "odds") _] _ _) _) _ _ _); k_dflt (refine AssignComp_open (by with_unfolding_all rfl) (by with_unfolding_all rfl) (by rfl) (by decide) ?_ (by intro _; rfl))))) | (((with_reducible show wpAny _ _ (exec (PySem.Stmt.For _ _ _ _ _) _) _ _ _); (k_here; (refine wpAny_For ?_ (by intro _; rfl))))) | (k_unfold; (try dsimp only)) | (k_end; wrow_close) | walk1 | (dsimp only; walk1) | (leave1; walk_say "STEP leave1"; try dsimp only) | fail "no step")))
    skip
    refine sum_any rfl F₁₉ N₁₉ (.tail _ (.tail _ (.head _))) hys ?_
    intro h₂₀ tk₂₀ t₂₀ F₂₀ N₂₀
    (repeat' ((fail_if_success ((with_reducible show wpAny _ _ (exec (PySem.Stmt.If _ _ _ _) _) _ _ _); (fail_if_success (fail_if_success (with_reducible rename AskFacts _ _ => af'))))); (fail_if_success ((with_reducible show wpAny _ _ (compareOp CmpOp.NotEq (Value.ref _) (Value.ref _)) _ _ _); (fail_if_success (fail_if_success (with_reducible rename AskFacts _ _ => af'))))); (fail_if_success ((with_reducible show wpAny _ _ (call (Value.type "list") _) _ _ _); (fail_if_success (fail_if_success (with_reducible rename AskFacts _ _ => af'))))); (fail_if_success ((with_reducible show wpAny _ _ (call (Value.builtin "list.append") _) _ _ _); (fail_if_success (fail_if_success (with_reducible rename AskFacts _ _ => af'))))); (fail_if_success ((with_reducible show wpAny _ _ (binaryOp Operator.Add (Value.ref _) (Value.ref _)) _ _ _); (fail_if_success (fail_if_success (with_reducible rename AskFacts _ _ => af'))))); (fail_if_success ((with_reducible show wpAny _ _ (subscriptTail _ (PySem.Expr.Slice _ _ _ _) (Value.ref _) (Value.ref _)) _ _ _); (fail_if_success (fail_if_success (with_reducible rename AskFacts _ _ => af'))))); (fail_if_success ((with_reducible show wpAny _ _ (binaryOp Operator.Mod (Value.int _ _) (Value.int _ _)) _ _ _); (fail_if_success (fail_if_success (with_reducible rename AskFacts _ _ => af'))))); (fail_if_success ((with_reducible show wpAny _ _ (call (Value.builtin "len") [Value.ref _]) _ _ _); (fail_if_success (fail_if_success (with_reducible rename AskFacts _ _ => af'))))); (fail_if_success ((with_reducible show wpAny _ _ (call (Value.ref 185) _) _ _ _))); (fail_if_success ((with_reducible show wpAny _ _ (call (Value.ref 180) _) _ _ _))); (fail_if_success ((with_reducible show wpAny _ _ (call (Value.ref 175) _) _ _ _))); (fail_if_success ((with_reducible show wpAny _ _ (call (Value.ref 163) _) _ _ _))); (fail_if_success ((with_reducible show wpAny _ _ (call (Value.builtin "sorted") _) _ _ _))); (fail_if_success ((with_reducible show wpAny _ _ (call (Value.builtin "sum") _) _ _ _))); (fail_if_success ((with_reducible show wpAny _ _ (call (Value.type "zip") _) _ _ _))); (fail_if_success ((with_reducible show wpAny _ _ (call (Value.type "enumerate") _) _ _ _))); (fail_if_success ((with_reducible show wpAny _ _ (pyIter (Value.ref _)) _ _ _))); (first | (with_reducible (((with_reducible show wpAny _ _ (eval (PySem.Expr.ListComp _ _ _ _) _) _ _ _); (k_here; k_dflt (refine ListComp_open (by with_unfolding_all rfl) (by rfl) (by decide) ?_ (by intro _; rfl)))))) | (with_reducible ((k_here; (with_reducible show wpAny _ _ (exec (Stmt.Assign [Expr.Name (Str.ofString "odds") _] _ _) _) _ _ _); k_dflt (refine AssignComp_open (by with_unfolding_all rfl) (by with_unfolding_all rfl) (by rfl) (by decide) ?_ (by intro _; rfl))))) | (((with_reducible show wpAny _ _ (exec (PySem.Stmt.For _ _ _ _ _) _) _ _ _); (k_here; (refine wpAny_For ?_ (by intro _; rfl))))) | (k_unfold; (try dsimp only)) | (k_end; wrow_close) | walk1 | (dsimp only; walk1) | (leave1; walk_say "STEP leave1"; try dsimp only) | fail "no step")))
    skip
    refine mod_int (by decide) ?_
    dsimp only
    (repeat' ((fail_if_success ((with_reducible show wpAny _ _ (exec (PySem.Stmt.If _ _ _ _) _) _ _ _); (fail_if_success (fail_if_success (with_reducible rename AskFacts _ _ => af'))))); (fail_if_success ((with_reducible show wpAny _ _ (compareOp CmpOp.NotEq (Value.ref _) (Value.ref _)) _ _ _); (fail_if_success (fail_if_success (with_reducible rename AskFacts _ _ => af'))))); (fail_if_success ((with_reducible show wpAny _ _ (call (Value.type "list") _) _ _ _); (fail_if_success (fail_if_success (with_reducible rename AskFacts _ _ => af'))))); (fail_if_success ((with_reducible show wpAny _ _ (call (Value.builtin "list.append") _) _ _ _); (fail_if_success (fail_if_success (with_reducible rename AskFacts _ _ => af'))))); (fail_if_success ((with_reducible show wpAny _ _ (binaryOp Operator.Add (Value.ref _) (Value.ref _)) _ _ _); (fail_if_success (fail_if_success (with_reducible rename AskFacts _ _ => af'))))); (fail_if_success ((with_reducible show wpAny _ _ (subscriptTail _ (PySem.Expr.Slice _ _ _ _) (Value.ref _) (Value.ref _)) _ _ _); (fail_if_success (fail_if_success (with_reducible rename AskFacts _ _ => af'))))); (fail_if_success ((with_reducible show wpAny _ _ (binaryOp Operator.Mod (Value.int _ _) (Value.int _ _)) _ _ _); (fail_if_success (fail_if_success (with_reducible rename AskFacts _ _ => af'))))); (fail_if_success ((with_reducible show wpAny _ _ (call (Value.builtin "len") [Value.ref _]) _ _ _); (fail_if_success (fail_if_success (with_reducible rename AskFacts _ _ => af'))))); (fail_if_success ((with_reducible show wpAny _ _ (call (Value.ref 185) _) _ _ _))); (fail_if_success ((with_reducible show wpAny _ _ (call (Value.ref 180) _) _ _ _))); (fail_if_success ((with_reducible show wpAny _ _ (call (Value.ref 175) _) _ _ _))); (fail_if_success ((with_reducible show wpAny _ _ (call (Value.ref 163) _) _ _ _))); (fail_if_success ((with_reducible show wpAny _ _ (call (Value.builtin "sorted") _) _ _ _))); (fail_if_success ((with_reducible show wpAny _ _ (call (Value.builtin "sum") _) _ _ _))); (fail_if_success ((with_reducible show wpAny _ _ (call (Value.type "zip") _) _ _ _))); (fail_if_success ((with_reducible show wpAny _ _ (call (Value.type "enumerate") _) _ _ _))); (fail_if_success ((with_reducible show wpAny _ _ (pyIter (Value.ref _)) _ _ _))); (first | (with_reducible (((with_reducible show wpAny _ _ (eval (PySem.Expr.ListComp _ _ _ _) _) _ _ _); (k_here; k_dflt (refine ListComp_open (by with_unfolding_all rfl) (by rfl) (by decide) ?_ (by intro _; rfl)))))) | (with_reducible ((k_here; (with_reducible show wpAny _ _ (exec (Stmt.Assign [Expr.Name (Str.ofString "odds") _] _ _) _) _ _ _); k_dflt (refine AssignComp_open (by with_unfolding_all rfl) (by with_unfolding_all rfl) (by rfl) (by decide) ?_ (by intro _; rfl))))) | (((with_reducible show wpAny _ _ (exec (PySem.Stmt.For _ _ _ _ _) _) _ _ _); (k_here; (refine wpAny_For ?_ (by intro _; rfl))))) | (k_unfold; (try dsimp only)) | (k_end; wrow_close) | walk1 | (dsimp only; walk1) | (leave1; walk_say "STEP leave1"; try dsimp only) | fail "no step")))
    · skip
      (rename Fr _ _ _ _ => F₂₁)
      (rename News _ _ _ _ => N₂₁)
      dsimp only
      k_dflt (refine' krv_lit (s := { s₁ with heap := h₂₀, toks := _ }) (zs := av al₁.reverse) ?slF ?slN ?slL ?slK ?slE ?_ ?slS ?slT ?slZ; (case slF => exact F₂₁); (case slN => exact N₂₁); (case slL => exact News.isList N₂₁ (.head _)); (case slK => exact IsPart.int _ _); (case slE => exact av_rev); (case slS => with_unfolding_all rfl); (case slT => kmk_pure); (case slZ => (have := sizeLine_eq; simp; omega)))
      intro aH hH₁ F₂₃ N₂₃ l₂₃
      (repeat' ((fail_if_success ((with_reducible show wpAny _ _ (exec (PySem.Stmt.If _ _ _ _) _) _ _ _); (fail_if_success (fail_if_success (with_reducible rename AskFacts _ _ => af'))))); (fail_if_success ((with_reducible show wpAny _ _ (compareOp CmpOp.NotEq (Value.ref _) (Value.ref _)) _ _ _); (fail_if_success (fail_if_success (with_reducible rename AskFacts _ _ => af'))))); (fail_if_success ((with_reducible show wpAny _ _ (call (Value.type "list") _) _ _ _); (fail_if_success (fail_if_success (with_reducible rename AskFacts _ _ => af'))))); (fail_if_success ((with_reducible show wpAny _ _ (call (Value.builtin "list.append") _) _ _ _); (fail_if_success (fail_if_success (with_reducible rename AskFacts _ _ => af'))))); (fail_if_success ((with_reducible show wpAny _ _ (binaryOp Operator.Add (Value.ref _) (Value.ref _)) _ _ _); (fail_if_success (fail_if_success (with_reducible rename AskFacts _ _ => af'))))); (fail_if_success ((with_reducible show wpAny _ _ (subscriptTail _ (PySem.Expr.Slice _ _ _ _) (Value.ref _) (Value.ref _)) _ _ _); (fail_if_success (fail_if_success (with_reducible rename AskFacts _ _ => af'))))); (fail_if_success ((with_reducible show wpAny _ _ (binaryOp Operator.Mod (Value.int _ _) (Value.int _ _)) _ _ _); (fail_if_success (fail_if_success (with_reducible rename AskFacts _ _ => af'))))); (fail_if_success ((with_reducible show wpAny _ _ (call (Value.builtin "len") [Value.ref _]) _ _ _); (fail_if_success (fail_if_success (with_reducible rename AskFacts _ _ => af'))))); (fail_if_success ((with_reducible show wpAny _ _ (call (Value.ref 185) _) _ _ _))); (fail_if_success ((with_reducible show wpAny _ _ (call (Value.ref 180) _) _ _ _))); (fail_if_success ((with_reducible show wpAny _ _ (call (Value.ref 175) _) _ _ _))); (fail_if_success ((with_reducible show wpAny _ _ (call (Value.ref 163) _) _ _ _))); (fail_if_success ((with_reducible show wpAny _ _ (call (Value.builtin "sorted") _) _ _ _))); (fail_if_success ((with_reducible show wpAny _ _ (call (Value.builtin "sum") _) _ _ _))); (fail_if_success ((with_reducible show wpAny _ _ (call (Value.type "zip") _) _ _ _))); (fail_if_success ((with_reducible show wpAny _ _ (call (Value.type "enumerate") _) _ _ _))); (fail_if_success ((with_reducible show wpAny _ _ (pyIter (Value.ref _)) _ _ _))); (first | (with_reducible (((with_reducible show wpAny _ _ (eval (PySem.Expr.ListComp _ _ _ _) _) _ _ _); (k_here; k_dflt (refine ListComp_open (by with_unfolding_all rfl) (by rfl) (by decide) ?_ (by intro _; rfl)))))) | (with_reducible ((k_here; (with_reducible show wpAny _ _ (exec (Stmt.Assign [Expr.Name (Str.ofString "odds") _] _ _) _) _ _ _); k_dflt (refine AssignComp_open (by with_unfolding_all rfl) (by with_unfolding_all rfl) (by rfl) (by decide) ?_ (by intro _; rfl))))) | (((with_reducible show wpAny _ _ (exec (PySem.Stmt.For _ _ _ _ _) _) _ _ _); (k_here; (refine wpAny_For ?_ (by intro _; rfl))))) | (k_unfold; (try dsimp only)) | (k_end; wrow_close) | walk1 | (dsimp only; walk1) | (leave1; walk_say "STEP leave1"; try dsimp only) | fail "no step")))
      (rename Fr _ _ _ _ => F₂₄)
      (rename News _ _ _ _ => N₂₄)
      have F₂₅ := fr_chain [(Str.ofString "script", .ref aS), (Str.ofString "odds", .ref D₃), (Str.ofString "asks", .ref aH)] F₂₄ (allc rfl (allc rfl (allc rfl alln)))
      exact (hQx _ _).mpr ⟨rfl, _, al₁.reverse, _, _, _, _, rfl, (List.reverse_perm al₁).trans hp₁, F₂₅, news_sub N₂₄ (fun x hx => by
        rcases List.mem_cons.mp hx with rfl | hx
        · exact .head _
        · exact .tail _ (.tail _ hx))⟩
    · exact (hQx _ _).mpr ⟨rfl, _, al₁, _, _, _, _, rfl, hp₁, F₂₀, N₂₀⟩
  · intro f s' hf
    obtain ⟨rfl, la', al₂, e', h', tk', m', rfl, hp₂, F₂₂, N₂₂⟩ := (hQx _ _).mp hf
    clear hf hQx Qx F₁₉ N₁₉ hp₁ hal₁
    (repeat' ((fail_if_success ((with_reducible show wpAny _ _ (exec (PySem.Stmt.If _ _ _ _) _) _ _ _); (fail_if_success (fail_if_success (with_reducible rename AskFacts _ _ => af'))))); (fail_if_success ((with_reducible show wpAny _ _ (compareOp CmpOp.NotEq (Value.ref _) (Value.ref _)) _ _ _); (fail_if_success (fail_if_success (with_reducible rename AskFacts _ _ => af'))))); (fail_if_success ((with_reducible show wpAny _ _ (call (Value.type "list") _) _ _ _); (fail_if_success (fail_if_success (with_reducible rename AskFacts _ _ => af'))))); (fail_if_success ((with_reducible show wpAny _ _ (call (Value.builtin "list.append") _) _ _ _); (fail_if_success (fail_if_success (with_reducible rename AskFacts _ _ => af'))))); (fail_if_success ((with_reducible show wpAny _ _ (binaryOp Operator.Add (Value.ref _) (Value.ref _)) _ _ _); (fail_if_success (fail_if_success (with_reducible rename AskFacts _ _ => af'))))); (fail_if_success ((with_reducible show wpAny _ _ (subscriptTail _ (PySem.Expr.Slice _ _ _ _) (Value.ref _) (Value.ref _)) _ _ _); (fail_if_success (fail_if_success (with_reducible rename AskFacts _ _ => af'))))); (fail_if_success ((with_reducible show wpAny _ _ (binaryOp Operator.Mod (Value.int _ _) (Value.int _ _)) _ _ _); (fail_if_success (fail_if_success (with_reducible rename AskFacts _ _ => af'))))); (fail_if_success ((with_reducible show wpAny _ _ (call (Value.builtin "len") [Value.ref _]) _ _ _); (fail_if_success (fail_if_success (with_reducible rename AskFacts _ _ => af'))))); (fail_if_success ((with_reducible show wpAny _ _ (call (Value.ref 185) _) _ _ _))); (fail_if_success ((with_reducible show wpAny _ _ (call (Value.ref 180) _) _ _ _))); (fail_if_success ((with_reducible show wpAny _ _ (call (Value.ref 175) _) _ _ _))); (fail_if_success ((with_reducible show wpAny _ _ (call (Value.ref 163) _) _ _ _))); (fail_if_success ((with_reducible show wpAny _ _ (call (Value.builtin "sorted") _) _ _ _))); (fail_if_success ((with_reducible show wpAny _ _ (call (Value.builtin "sum") _) _ _ _))); (fail_if_success ((with_reducible show wpAny _ _ (call (Value.type "zip") _) _ _ _))); (fail_if_success ((with_reducible show wpAny _ _ (call (Value.type "enumerate") _) _ _ _))); (fail_if_success ((with_reducible show wpAny _ _ (pyIter (Value.ref _)) _ _ _))); (first | (with_reducible (((with_reducible show wpAny _ _ (eval (PySem.Expr.ListComp _ _ _ _) _) _ _ _); (k_here; k_dflt (refine ListComp_open (by with_unfolding_all rfl) (by rfl) (by decide) ?_ (by intro _; rfl)))))) | (with_reducible ((k_here; (with_reducible show wpAny _ _ (exec (Stmt.Assign [Expr.Name (Str.ofString "odds") _] _ _) _) _ _ _); k_dflt (refine AssignComp_open (by with_unfolding_all rfl) (by with_unfolding_all rfl) (by rfl) (by decide) ?_ (by intro _; rfl))))) | (((with_reducible show wpAny _ _ (exec (PySem.Stmt.For _ _ _ _ _) _) _ _ _); (k_here; (refine wpAny_For ?_ (by intro _; rfl))))) | (k_unfold; (try dsimp only)) | (k_end; wrow_close) | walk1 | (dsimp only; walk1) | (leave1; walk_say "STEP leave1"; try dsimp only) | fail "no step")))
    skip
    have hlen₂ : al₂.length = al.length := hp₂.length_eq
    have hsum₂ : (al₂.map (·.room)).sum = 32 := (perm_sum (hp₂.map _)).trans hal32
    k_dflt (refine' given_spec (al := al₂) ?gvB ?gvF ?gvX ?gvT ?gvk ?gvd ?gvu ?gvN ?gva ?gvi ?gvl ?gvp hsum₂ ?_; (case gvB => k_asm); (case gvF => k_asm); (case gvX => k_asm); (case gvT => k_asm); (case gvk => exact rfl); (case gvd => ktr_room); (case gvu => ktr_units); (case gvN => exact N₂₂); (case gva => exact .head _); (case gvi => exact fun x hx => (hain x (hp₂.mem_iff.mp hx)).mono fun p hp => .tail _ (.tail _ (.tail _ (.tail _ (.tail _ hp))))); (case gvl => omega); (case gvp => exact fun x hx => AF.pow x (hp₂.mem_iff.mp hx)))
    intro ga gb e₂ h₂₆ tk₂₆ rest₂ GI hsub₂ hgin hoff₂ F₂₆ N₂₆
    have hg24 : gb.length = al.length := by
      have := congrArg List.length GI.same
      rwa [List.length_map, List.length_map, hlen₂] at this
    have hC2 : (s₁.heap.objs.size + 1 + 1, o1) ∈ rest₂ := hsub₂ _ (.tail _ (.tail _ (.tail _ (.head _))))
    -- the ledger without the cell of rows
    obtain ⟨rest₃, hr₃⟩ : ∃ r, r = rest₂.filter fun p => decide (p.1 ≠ s₁.heap.objs.size + 1 + 1) := ⟨_, rfl⟩
    have hgin₃ : ∀ g ∈ gb, GivIn rest₃ g := by
      intro g hg
      obtain ⟨t1, t2, t3, n, hm⟩ := hgin g hg
      refine ⟨t1, t2, t3, n, ?_⟩
      rw [hr₃, List.mem_filter]
      refine ⟨hm, ?_⟩
      simp only [decide_eq_true_eq]
      intro h
      have z1 := (N₂₆ _ (.tail _ hm)).1
      have z2 := (N₂₆ _ (.tail _ hC2)).1
      rw [show g.a = s₁.heap.objs.size + 1 + 1 from h, z2] at z1
      have z3 := congrArg Obj.data (Option.some.inj z1)
      have z4 := d1.symm.trans z3
      cases z4
    have hoff₃ : ∀ p ∈ rest₃, p.1 ≠ s₁.heap.objs.size + 1 + 1 := by
      intro p hp
      rw [hr₃, List.mem_filter] at hp
      simpa using hp.2
    have N₂₇ : News TT.heap s₁.heap.objs.size h₂₆ ((ga, listOf (gv gb).toArray e₂) :: (D₃, listOf ys₃.toArray ys₃.length) :: (s₁.heap.objs.size + 1 + 1, o1) :: rest₃) := by
      exact news_put N₂₆ (.head _) (news_put N₂₆ (.tail _ (hsub₂ _ (.tail _ (.head _)))) (news_put N₂₆ (.tail _ hC2) (news_in N₂₆ fun x hx => by
        rw [hr₃, List.mem_filter] at hx
        exact .tail _ hx.1)))
    clear N₂₆ N₂₂ hain hsub hoffla F₂₂ hsub₂ hgin
    (repeat' ((fail_if_success ((with_reducible show wpAny _ _ (exec (PySem.Stmt.If _ _ _ _) _) _ _ _); (fail_if_success (fail_if_success (with_reducible rename AskFacts _ _ => af'))))); (fail_if_success ((with_reducible show wpAny _ _ (compareOp CmpOp.NotEq (Value.ref _) (Value.ref _)) _ _ _); (fail_if_success (fail_if_success (with_reducible rename AskFacts _ _ => af'))))); (fail_if_success ((with_reducible show wpAny _ _ (call (Value.type "list") _) _ _ _); (fail_if_success (fail_if_success (with_reducible rename AskFacts _ _ => af'))))); (fail_if_success ((with_reducible show wpAny _ _ (call (Value.builtin "list.append") _) _ _ _); (fail_if_success (fail_if_success (with_reducible rename AskFacts _ _ => af'))))); (fail_if_success ((with_reducible show wpAny _ _ (binaryOp Operator.Add (Value.ref _) (Value.ref _)) _ _ _); (fail_if_success (fail_if_success (with_reducible rename AskFacts _ _ => af'))))); (fail_if_success ((with_reducible show wpAny _ _ (subscriptTail _ (PySem.Expr.Slice _ _ _ _) (Value.ref _) (Value.ref _)) _ _ _); (fail_if_success (fail_if_success (with_reducible rename AskFacts _ _ => af'))))); (fail_if_success ((with_reducible show wpAny _ _ (binaryOp Operator.Mod (Value.int _ _) (Value.int _ _)) _ _ _); (fail_if_success (fail_if_success (with_reducible rename AskFacts _ _ => af'))))); (fail_if_success ((with_reducible show wpAny _ _ (call (Value.builtin "len") [Value.ref _]) _ _ _); (fail_if_success (fail_if_success (with_reducible rename AskFacts _ _ => af'))))); (fail_if_success ((with_reducible show wpAny _ _ (call (Value.ref 185) _) _ _ _))); (fail_if_success ((with_reducible show wpAny _ _ (call (Value.ref 180) _) _ _ _))); (fail_if_success ((with_reducible show wpAny _ _ (call (Value.ref 175) _) _ _ _))); (fail_if_success ((with_reducible show wpAny _ _ (call (Value.ref 163) _) _ _ _))); (fail_if_success ((with_reducible show wpAny _ _ (call (Value.builtin "sorted") _) _ _ _))); (fail_if_success ((with_reducible show wpAny _ _ (call (Value.builtin "sum") _) _ _ _))); (fail_if_success ((with_reducible show wpAny _ _ (call (Value.type "zip") _) _ _ _))); (fail_if_success ((with_reducible show wpAny _ _ (call (Value.type "enumerate") _) _ _ _))); (fail_if_success ((with_reducible show wpAny _ _ (pyIter (Value.ref _)) _ _ _))); (first | (with_reducible (((with_reducible show wpAny _ _ (eval (PySem.Expr.ListComp _ _ _ _) _) _ _ _); (k_here; k_dflt (refine ListComp_open (by with_unfolding_all rfl) (by rfl) (by decide) ?_ (by intro _; rfl)))))) | (with_reducible ((k_here; (with_reducible show wpAny _ _ (exec (Stmt.Assign [Expr.Name (Str.ofString "odds") _] _ _) _) _ _ _); k_dflt (refine AssignComp_open (by with_unfolding_all rfl) (by with_unfolding_all rfl) (by rfl) (by decide) ?_ (by intro _; rfl))))) | (((with_reducible show wpAny _ _ (exec (PySem.Stmt.For _ _ _ _ _) _) _ _ _); (k_here; (refine wpAny_For ?_ (by intro _; rfl))))) | (k_unfold; (try dsimp only)) | (k_end; wrow_close) | walk1 | (dsimp only; walk1) | (leave1; walk_say "STEP leave1"; try dsimp only) | fail "no step")))
    skip
    (rename Fr _ _ _ _ => F₂₈)
    (rename News _ _ _ _ => N₂₈)
    have F₂₉ := fr_chain [(Str.ofString "script", .ref aS), (Str.ofString "odds", .ref D₃), (Str.ofString "given", .ref ga)] F₂₈ (allc rfl (allc rfl (allc rfl alln)))
    clear F₂₈
    obtain ⟨base, hbase⟩ : ∃ b, b = (ga, listOf (gv gb).toArray e₂) :: (D₃, listOf ys₃.toArray ys₃.length) :: (s₁.heap.objs.size + 1 + 1, o1) :: rest₃ := ⟨_, rfl⟩
    rw [← hbase] at N₂₈
    have hbga : (ga, listOf (gv gb).toArray e₂) ∈ base := hbase ▸ .head _
    have hginB : ∀ g ∈ gb, GivIn base g := fun g hg => (hgin₃ g hg).mono fun p hp => hbase ▸ .tail _ (.tail _ (.tail _ hp))
    refine comp_list_G (vs := gv gb) (BP := fun C D => innerP _ _ _ _ _ _ _) rfl F₂₉ N₂₈ hbga (by decide) rfl (fun I C D => rule_out2 (fun _ => rfl)) (fun C D K K' s h x => innerP_mono K K' s h x)
      (fun D i _ news' => ∃ (rs : List Ask) (e : Nat) (nt : List (Addr × Obj)), news' = (D, listOf (av rs).toArray e) :: (nt ++ base) ∧ (∀ p ∈ nt ++ base, p.1 ≠ D) ∧ (∀ x ∈ rs, AskIn nt x) ∧ rs.map (fun x => (x.room, x.thing)) = pairsOf (gb.take i)) ?_ ?_ ?_
    · intro D hD
      exact ⟨[], 0, [], rfl, hD, List.forall_mem_nil _, rfl⟩
    · rintro I C D i v m₁ oC news₁ oI h₁ tk₁ hv ⟨rs, e, nt, rfl, hoffD, hrs, hmap⟩ hsrc hoC G₁ M₁ hoff₁ hIC
      obtain ⟨g, hg, rfl⟩ : ∃ g, gb[i]? = some g ∧ v = .ref g.a := by
        rw [List.getElem?_map] at hv
        cases hgi : gb[i]? with
        | none => rw [hgi] at hv; cases hv
        | some g => rw [hgi] at hv; exact ⟨g, rfl, (Option.some.inj hv).symm⟩
      obtain ⟨t1, t2, t3, n, hgm⟩ := hginB g (List.mem_of_getElem? hg)
      refine asg_triple_G rfl G₁ M₁ hoC hoff₁ hIC (.tail _ (List.mem_append_right _ hgm)) rfl rfl rfl rfl (by decide) (by decide) (by decide) ?_
      intro h₂ tk₂ oC₂ m₂ hNs hb1 hb2 hb3 G₂ M₂
      refine wpAny_tests_nil ?_
      simp only [if_true]
      show wpAny _ _ (eval _ _) _ _ _
      refine hideQ fun Z4 E4 hZ4 => ?_
      (repeat' ((fail_if_success ((with_reducible show wpAny _ _ (exec (PySem.Stmt.If _ _ _ _) _) _ _ _); (fail_if_success (fail_if_success (with_reducible rename AskFacts _ _ => af'))))); (fail_if_success ((with_reducible show wpAny _ _ (compareOp CmpOp.NotEq (Value.ref _) (Value.ref _)) _ _ _); (fail_if_success (fail_if_success (with_reducible rename AskFacts _ _ => af'))))); (fail_if_success ((with_reducible show wpAny _ _ (call (Value.type "list") _) _ _ _); (fail_if_success (fail_if_success (with_reducible rename AskFacts _ _ => af'))))); (fail_if_success ((with_reducible show wpAny _ _ (call (Value.builtin "list.append") _) _ _ _); (fail_if_success (fail_if_success (with_reducible rename AskFacts _ _ => af'))))); (fail_if_success ((with_reducible show wpAny _ _ (binaryOp Operator.Add (Value.ref _) (Value.ref _)) _ _ _); (fail_if_success (fail_if_success (with_reducible rename AskFacts _ _ => af'))))); (fail_if_success ((with_reducible show wpAny _ _ (subscriptTail _ (PySem.Expr.Slice _ _ _ _) (Value.ref _) (Value.ref _)) _ _ _); (fail_if_success (fail_if_success (with_reducible rename AskFacts _ _ => af'))))); (fail_if_success ((with_reducible show wpAny _ _ (binaryOp Operator.Mod (Value.int _ _) (Value.int _ _)) _ _ _); (fail_if_success (fail_if_success (with_reducible rename AskFacts _ _ => af'))))); (fail_if_success ((with_reducible show wpAny _ _ (call (Value.builtin "len") [Value.ref _]) _ _ _); (fail_if_success (fail_if_success (with_reducible rename AskFacts _ _ => af'))))); (fail_if_success ((with_reducible show wpAny _ _ (call (Value.ref 185) _) _ _ _))); (fail_if_success ((with_reducible show wpAny _ _ (call (Value.ref 180) _) _ _ _))); (fail_if_success ((with_reducible show wpAny _ _ (call (Value.ref 175) _) _ _ _))); (fail_if_success ((with_reducible show wpAny _ _ (call (Value.ref 163) _) _ _ _))); (fail_if_success ((with_reducible show wpAny _ _ (call (Value.builtin "sorted") _) _ _ _))); (fail_if_success ((with_reducible show wpAny _ _ (call (Value.builtin "sum") _) _ _ _))); (fail_if_success ((with_reducible show wpAny _ _ (call (Value.type "zip") _) _ _ _))); (fail_if_success ((with_reducible show wpAny _ _ (call (Value.type "enumerate") _) _ _ _))); (fail_if_success ((with_reducible show wpAny _ _ (pyIter (Value.ref _)) _ _ _))); (first | (with_reducible (((with_reducible show wpAny _ _ (eval (PySem.Expr.ListComp _ _ _ _) _) _ _ _); (k_here; k_dflt (refine ListComp_open (by with_unfolding_all rfl) (by rfl) (by decide) ?_ (by intro _; rfl)))))) | (with_reducible ((k_here; (with_reducible show wpAny _ _ (exec (Stmt.Assign [Expr.Name (Str.ofString "odds") _] _ _) _) _ _ _); k_dflt (refine AssignComp_open (by with_unfolding_all rfl) (by with_unfolding_all rfl) (by rfl) (by decide) ?_ (by intro _; rfl))))) | (((with_reducible show wpAny _ _ (exec (PySem.Stmt.For _ _ _ _ _) _) _ _ _); (k_here; (refine wpAny_For ?_ (by intro _; rfl))))) | (k_unfold; (try dsimp only)) | (k_end; wrow_close) | walk1 | (dsimp only; walk1) | (leave1; walk_say "STEP leave1"; try dsimp only) | fail "no step")))
      skip
      have hgl := GI.len g (List.mem_of_getElem? hg)
      k_dflt (refine' begun_spec ?bgB ?bgF ?bgX ?bgT ?bgk ?bgd ?bgu hgl.1 ?bgN ?_; (case bgB => k_asm); (case bgF => exact G₂); (case bgX => k_asm); (case bgT => k_asm); (case bgk => exact rfl); (case bgd => ktr_room); (case bgu => ktr_units); (case bgN => exact M₂))
      intro lR vsR eR h₃ tk₃ hIR G₃ M₃ hoffR
      refine hZ4 _ _ ?_
      show wpAny _ _ (pyIter _) _ _ _
      have M₄ : News TT.heap s₁.heap.objs.size h₃ ((C, oC₂) :: (D, listOf (av rs).toArray e) :: (nt ++ ((lR, listOf vsR.toArray eR) :: (I, oI) :: base))) := by
        exact news_put M₃ (.tail _ (.tail _ (.head _))) (news_put M₃ (.tail _ (.tail _ (.tail _ (.head _)))) (news_in M₃ fun x hx => by
          rcases List.mem_append.mp hx with hx | hx
          · exact .tail _ (.tail _ (.tail _ (.tail _ (List.mem_append_left _ hx))))
          · exact sub_l4 hx))
      have hICD : I ≠ D := Ne.symm (hoff₁ _ (.head _)).1
      have hCD : C ≠ D := Ne.symm (hoff₁ _ (.head _)).2
      have hlRI : lR ≠ I := Ne.symm (hoffR (I, oI) (.head _))
      have hlRC : lR ≠ C := Ne.symm (hoffR (C, oC₂) (.tail _ (.head _)))
      have hlRD : lR ≠ D := Ne.symm (hoffR (D, _) (.tail _ (.tail _ (.head _))))
      have hrl : rs.length ≤ 768 := by
        have h1 := congrArg List.length hmap
        have h2 := pairs_len (gb.take i)
        rw [List.length_map] at h1
        rw [List.length_take] at h2
        omega
      refine inner_list (mC := m₂) (vs := vsR) (nn := eR) rfl G₃ hNs M₄ (.tail _ (List.mem_append_right _ (.head _))) ?_
        (fun j m₃ news₃ => m₃ (Str.ofString "thing") = some (.int g.thing t3) ∧ ∃ (rs' : List Ask) (e' : Nat) (nt' : List (Addr × Obj)), news₃ = (D, listOf (av rs').toArray e') :: (nt' ++ ((lR, listOf vsR.toArray eR) :: (I, oI) :: base)) ∧ (∀ p ∈ nt', p.1 ≠ D ∧ p.1 ≠ I) ∧ (∀ x ∈ rs', AskIn nt' x) ∧ rs'.map (fun x => (x.room, x.thing)) = pairsOf (gb.take i) ++ ((rowsOf g.bits).take j).map fun (r : Nat) => ((r : Int), g.thing)) ?_ ?_ ?_
      · intro p hp
        rcases List.mem_cons.mp hp with rfl | hp
        · exact Ne.symm hCD
        rcases List.mem_append.mp hp with hp | hp
        · exact (hoff₁ p (.tail _ (List.mem_append_left _ hp))).2
        rcases List.mem_cons.mp hp with rfl | hp
        · exact hlRC
        rcases List.mem_cons.mp hp with rfl | hp
        · exact hIC
        · exact (hoff₁ p (.tail _ (List.mem_append_right _ hp))).2
      · exact ⟨hb3, rs, e, nt, rfl, fun p hp => ⟨hoffD p (List.mem_append_left _ hp), (hoff₁ p (.tail _ (List.mem_append_left _ hp))).1⟩, hrs, by rw [hmap]; simp⟩
      · rintro I₂ j v m₃ oC₃ news₃ oI₂ h₄ tk₄ hvj ⟨hm3, rs', e', nt', rfl, hoffn, hrs', hmap'⟩ hsrc₃ hoC₃ G₄ M₄ hoff₄ hIC₂
        obtain ⟨rI, tR, hrI, rfl⟩ := intsAre_get hIR j v hvj
        obtain ⟨r, hr, rfl⟩ : ∃ r : Nat, (rowsOf g.bits)[j]? = some r ∧ rI = (r : Int) := by
          rw [List.getElem?_map] at hrI
          cases hgi : (rowsOf g.bits)[j]? with
          | none => rw [hgi] at hrI; cases hrI
          | some r => rw [hgi] at hrI; exact ⟨r, rfl, (Option.some.inj hrI).symm⟩
        refine asg_name_G G₄ M₄ hoC₃ hoff₄ hIC₂ rfl rfl ?_
        intro h₅ tk₅ oC₅ m₅ hoC₅ hm5 hm5' G₅ M₅
        have hm5t : m₅ (Str.ofString "thing") = some (.int g.thing t3) := (hm5' _ (by decide)).trans hm3
        refine wpAny_tests_nil ?_
        simp only [if_true]
        show wpAny _ _ (eval _ _) _ _ _
        refine hideQ fun Z5 E5 hZ5 => ?_
        (repeat' ((fail_if_success ((with_reducible show wpAny _ _ (exec (PySem.Stmt.If _ _ _ _) _) _ _ _); (fail_if_success (fail_if_success (with_reducible rename AskFacts _ _ => af'))))); (fail_if_success ((with_reducible show wpAny _ _ (compareOp CmpOp.NotEq (Value.ref _) (Value.ref _)) _ _ _); (fail_if_success (fail_if_success (with_reducible rename AskFacts _ _ => af'))))); (fail_if_success ((with_reducible show wpAny _ _ (call (Value.type "list") _) _ _ _); (fail_if_success (fail_if_success (with_reducible rename AskFacts _ _ => af'))))); (fail_if_success ((with_reducible show wpAny _ _ (call (Value.builtin "list.append") _) _ _ _); (fail_if_success (fail_if_success (with_reducible rename AskFacts _ _ => af'))))); (fail_if_success ((with_reducible show wpAny _ _ (binaryOp Operator.Add (Value.ref _) (Value.ref _)) _ _ _); (fail_if_success (fail_if_success (with_reducible rename AskFacts _ _ => af'))))); (fail_if_success ((with_reducible show wpAny _ _ (subscriptTail _ (PySem.Expr.Slice _ _ _ _) (Value.ref _) (Value.ref _)) _ _ _); (fail_if_success (fail_if_success (with_reducible rename AskFacts _ _ => af'))))); (fail_if_success ((with_reducible show wpAny _ _ (binaryOp Operator.Mod (Value.int _ _) (Value.int _ _)) _ _ _); (fail_if_success (fail_if_success (with_reducible rename AskFacts _ _ => af'))))); (fail_if_success ((with_reducible show wpAny _ _ (call (Value.builtin "len") [Value.ref _]) _ _ _); (fail_if_success (fail_if_success (with_reducible rename AskFacts _ _ => af'))))); (fail_if_success ((with_reducible show wpAny _ _ (call (Value.ref 185) _) _ _ _))); (fail_if_success ((with_reducible show wpAny _ _ (call (Value.ref 180) _) _ _ _))); (fail_if_success ((with_reducible show wpAny _ _ (call (Value.ref 175) _) _ _ _))); (fail_if_success ((with_reducible show wpAny _ _ (call (Value.ref 163) _) _ _ _))); (fail_if_success ((with_reducible show wpAny _ _ (call (Value.builtin "sorted") _) _ _ _))); (fail_if_success ((with_reducible show wpAny _ _ (call (Value.builtin "sum") _) _ _ _))); (fail_if_success ((with_reducible show wpAny _ _ (call (Value.type "zip") _) _ _ _))); (fail_if_success ((with_reducible show wpAny _ _ (call (Value.type "enumerate") _) _ _ _))); (fail_if_success ((with_reducible show wpAny _ _ (pyIter (Value.ref _)) _ _ _))); (first | (with_reducible (((with_reducible show wpAny _ _ (eval (PySem.Expr.ListComp _ _ _ _) _) _ _ _); (k_here; k_dflt (refine ListComp_open (by with_unfolding_all rfl) (by rfl) (by decide) ?_ (by intro _; rfl)))))) | (with_reducible ((k_here; (with_reducible show wpAny _ _ (exec (Stmt.Assign [Expr.Name (Str.ofString "odds") _] _ _) _) _ _ _); k_dflt (refine AssignComp_open (by with_unfolding_all rfl) (by with_unfolding_all rfl) (by rfl) (by decide) ?_ (by intro _; rfl))))) | (((with_reducible show wpAny _ _ (exec (PySem.Stmt.For _ _ _ _ _) _) _ _ _); (k_here; (refine wpAny_For ?_ (by intro _; rfl))))) | (k_unfold; (try dsimp only)) | (k_end; wrow_close) | walk1 | (dsimp only; walk1) | (leave1; walk_say "STEP leave1"; try dsimp only) | fail "no step")))
        refine hZ5 _ _ ?_
        (rename Fr _ _ _ _ => G₆)
        (rename News _ _ _ _ => M₆)
        (rename _ ∧ _ ∧ _ ∧ AllLt _ _ => l₆)
        (rename Addr => T₆)
        have hlr' : rs'.length ≤ 800 := by
          have h1 := congrArg List.length hmap'
          have h2 := pairs_len (gb.take i)
          have h3 := rows_le g.bits
          rw [List.length_map, List.length_append, List.length_map, List.length_take] at h1
          rw [List.length_take] at h2
          omega
        have hTlt := allLt_mem l₆.2.2.2
        have M₇ : News TT.heap s₁.heap.objs.size _ ((D, listOf (av rs').toArray e') :: (T₆, ({ cls := .type "tuple", data := .seq #[.int (r : Int) tR, .int g.thing t3] } : Obj)) :: (I₂, oI₂) :: (C, oC₅) :: (nt' ++ ((lR, listOf vsR.toArray eR) :: (I, oI) :: base))) := news_in M₆ sub_head4
        refine append_val (vs := av rs') G₆ M₇ ?_ (by rw [List.length_map]; omega) fun h' F' N' => ?_
        · intro p hp
          rcases List.mem_cons.mp hp with rfl | hp
          · exact Ne.symm (Nat.ne_of_lt l₆.2.2.1)
          rcases List.mem_cons.mp hp with rfl | hp
          · exact Ne.symm (hoff₄ _ (.head _)).1
          rcases List.mem_cons.mp hp with rfl | hp
          · exact hCD
          rcases List.mem_append.mp hp with hp | hp
          · exact (hoffn p hp).1
          rcases List.mem_cons.mp hp with rfl | hp
          · exact hlRD
          rcases List.mem_cons.mp hp with rfl | hp
          · exact hICD
          · exact hoffD p (List.mem_append_right _ hp)
        rw [av_snoc rs' T₆ r g.thing] at N'
        refine ⟨h', _, m₅, oC₅, _, (D, listOf (av (rs' ++ [⟨T₆, r, g.thing⟩])).toArray (e' + 1)) :: (((T₆, ({ cls := .type "tuple", data := .seq #[.int (r : Int) tR, .int g.thing t3] } : Obj)) :: nt') ++ ((lR, listOf vsR.toArray eR) :: (I, oI) :: base)), rfl, F', hoC₅, N', ?_, ?_, ?_, hm5t, rs' ++ [⟨T₆, r, g.thing⟩], e' + 1, _ :: nt', rfl, ?_, ?_, ?_⟩
        · exact sub_i4
        · intro p hp
          rw [List.mem_singleton.mp hp]
          exact .tail _ (List.mem_append_right _ (.head _))
        · intro p hp
          rcases List.mem_cons.mp hp with rfl | hp
          · exact hoff₄ (D, listOf (av rs').toArray e') (.head _)
          rcases List.mem_cons.mp hp with rfl | hp
          · exact ⟨Ne.symm (Nat.ne_of_lt l₆.1), Ne.symm (Nat.ne_of_lt l₆.2.1)⟩
          · exact hoff₄ p (.tail _ hp)
        · intro p hp
          rcases List.mem_cons.mp hp with rfl | hp
          · exact ⟨Ne.symm (Nat.ne_of_lt l₆.2.2.1), Ne.symm (Nat.ne_of_lt (hTlt (I, oI) (List.mem_append_right _ (.tail _ (.head _)))))⟩
          · exact hoffn p hp
        · intro x hx
          rcases List.mem_append.mp hx with hx | hx
          · exact (hrs' x hx).mono fun p hp => .tail _ hp
          · rw [List.mem_singleton.mp hx]
            exact ⟨_, _, _, .head _⟩
        · rw [List.map_append, hmap', List.take_add_one, hr, List.map_append, List.append_assoc]
          rfl
      · intro m₃ oC₃ news₃ h₄ tk₄ hJ hsrc₃ G₄ hoC₃ M₄ hoff₄
        obtain ⟨hm3, rs', e', nt', rfl, hoffn, hrs', hmap'⟩ := hJ
        have hvl : vsR.length = (rowsOf g.bits).length := by rw [intsAre_len hIR, List.length_map]
        rw [hvl, List.take_length, ← pairsOf_take hg] at hmap'
        refine ⟨h₄, tk₄, m₃, oC₃, _, (D, listOf (av rs').toArray e') :: ((nt' ++ [(lR, listOf vsR.toArray eR)]) ++ base), rfl, G₄, hoC₃, M₄, ?_, ?_, ?_, rs', e', nt' ++ [(lR, listOf vsR.toArray eR)], rfl, ?_, ?_, hmap'⟩
        · exact sub_o6
        · intro p hp
          rw [List.mem_singleton.mp hp]
          exact .tail _ (List.mem_append_right _ hbga)
        · intro p hp
          rcases List.mem_cons.mp hp with rfl | hp
          · exact ⟨Ne.symm hICD, Ne.symm hCD⟩
          rcases List.mem_append.mp hp with hp | hp
          · rcases List.mem_append.mp hp with hp | hp
            · exact ⟨(hoffn p hp).2, hoff₄ p (.tail _ (List.mem_append_left _ hp))⟩
            · rw [List.mem_singleton.mp hp]; exact ⟨hlRI, hlRC⟩
          · exact hoff₁ p (.tail _ (List.mem_append_right _ hp))
        · intro p hp
          rcases List.mem_append.mp hp with hp | hp
          · rcases List.mem_append.mp hp with hp | hp
            · exact (hoffn p hp).1
            · rw [List.mem_singleton.mp hp]; exact hlRD
          · exact hoffD p (List.mem_append_right _ hp)
        · exact fun x hx => (hrs' x hx).mono fun p hp => List.mem_append_left _ hp
    · intro C D m₁ oC news₁ h₁ tk₁ hJ hsrc G₁ hoC M₁ hoff₁
      obtain ⟨rs, e, nt, rfl, hoffD, hrs, hmap⟩ := hJ
      have hgvl : (gv gb).length = gb.length := List.length_map ..
      rw [hgvl, List.take_length] at hmap
      refine comp_out G₁ M₁ hoC hoff₁ fun h' F' N' => ?_
      (repeat' ((fail_if_success ((with_reducible show wpAny _ _ (exec (PySem.Stmt.If _ _ _ _) _) _ _ _); (fail_if_success (fail_if_success (with_reducible rename AskFacts _ _ => af'))))); (fail_if_success ((with_reducible show wpAny _ _ (compareOp CmpOp.NotEq (Value.ref _) (Value.ref _)) _ _ _); (fail_if_success (fail_if_success (with_reducible rename AskFacts _ _ => af'))))); (fail_if_success ((with_reducible show wpAny _ _ (call (Value.type "list") _) _ _ _); (fail_if_success (fail_if_success (with_reducible rename AskFacts _ _ => af'))))); (fail_if_success ((with_reducible show wpAny _ _ (call (Value.builtin "list.append") _) _ _ _); (fail_if_success (fail_if_success (with_reducible rename AskFacts _ _ => af'))))); (fail_if_success ((with_reducible show wpAny _ _ (binaryOp Operator.Add (Value.ref _) (Value.ref _)) _ _ _); (fail_if_success (fail_if_success (with_reducible rename AskFacts _ _ => af'))))); (fail_if_success ((with_reducible show wpAny _ _ (subscriptTail _ (PySem.Expr.Slice _ _ _ _) (Value.ref _) (Value.ref _)) _ _ _); (fail_if_success (fail_if_success (with_reducible rename AskFacts _ _ => af'))))); (fail_if_success ((with_reducible show wpAny _ _ (binaryOp Operator.Mod (Value.int _ _) (Value.int _ _)) _ _ _); (fail_if_success (fail_if_success (with_reducible rename AskFacts _ _ => af'))))); (fail_if_success ((with_reducible show wpAny _ _ (call (Value.builtin "len") [Value.ref _]) _ _ _); (fail_if_success (fail_if_success (with_reducible rename AskFacts _ _ => af'))))); (fail_if_success ((with_reducible show wpAny _ _ (call (Value.ref 185) _) _ _ _))); (fail_if_success ((with_reducible show wpAny _ _ (call (Value.ref 180) _) _ _ _))); (fail_if_success ((with_reducible show wpAny _ _ (call (Value.ref 175) _) _ _ _))); (fail_if_success ((with_reducible show wpAny _ _ (call (Value.ref 163) _) _ _ _))); (fail_if_success ((with_reducible show wpAny _ _ (call (Value.builtin "sorted") _) _ _ _))); (fail_if_success ((with_reducible show wpAny _ _ (call (Value.builtin "sum") _) _ _ _))); (fail_if_success ((with_reducible show wpAny _ _ (call (Value.type "zip") _) _ _ _))); (fail_if_success ((with_reducible show wpAny _ _ (call (Value.type "enumerate") _) _ _ _))); (fail_if_success ((with_reducible show wpAny _ _ (pyIter (Value.ref _)) _ _ _))); (first | (with_reducible (((with_reducible show wpAny _ _ (eval (PySem.Expr.ListComp _ _ _ _) _) _ _ _); (k_here; k_dflt (refine ListComp_open (by with_unfolding_all rfl) (by rfl) (by decide) ?_ (by intro _; rfl)))))) | (with_reducible ((k_here; (with_reducible show wpAny _ _ (exec (Stmt.Assign [Expr.Name (Str.ofString "odds") _] _ _) _) _ _ _); k_dflt (refine AssignComp_open (by with_unfolding_all rfl) (by with_unfolding_all rfl) (by rfl) (by decide) ?_ (by intro _; rfl))))) | (((with_reducible show wpAny _ _ (exec (PySem.Stmt.For _ _ _ _ _) _) _ _ _); (k_here; (refine wpAny_For ?_ (by intro _; rfl))))) | (k_unfold; (try dsimp only)) | (k_end; wrow_close) | walk1 | (dsimp only; walk1) | (leave1; walk_say "STEP leave1"; try dsimp only) | fail "no step")))
      have hXb : (s₁.heap.objs.size + 1 + 1, o1) ∈ base := hbase ▸ .tail _ (.tail _ (.head _))
      have hXm : (s₁.heap.objs.size + 1 + 1, o1) ∈ (D, listOf (av rs).toArray e) :: (nt ++ base) := .tail _ (List.mem_append_right _ hXb)
      refine store_cell rfl rfl rfl F' N' hXm d1 fun h₃₀ oX dX F₃₀ N₃₀ => ?_
      have N₃₁ : News TT.heap s₁.heap.objs.size h₃₀ ((D, listOf (av rs).toArray e) :: (ga, listOf (gv gb).toArray e₂) :: (D₃, listOf ys₃.toArray ys₃.length) :: (s₁.heap.objs.size + 1 + 1, oX) :: offX (s₁.heap.objs.size + 1 + 1) ((D, listOf (av rs).toArray e) :: (nt ++ base))) := by
        exact news_put N₃₀ (.tail _ (list_offX N' hXm d1 (.head _))) (news_put N₃₀ (.tail _ (list_offX N' hXm d1 (.tail _ (List.mem_append_right _ hbga)))) (news_put N₃₀ (.tail _ (list_offX N' hXm d1 (.tail _ (List.mem_append_right _ (hbase ▸ .tail _ (.head _)))))) (news_put N₃₀ (.head _) (news_in N₃₀ fun x hx => .tail _ hx))))
      have hrs₃ : ∀ x ∈ rs, AskIn (offX (s₁.heap.objs.size + 1 + 1) ((D, listOf (av rs).toArray e) :: (nt ++ base))) x := fun x hx => askIn_offX N' hXm d1 ((hrs x hx).mono fun p hp => .tail _ (List.mem_append_left _ hp))
      have hgb₃ : ∀ g ∈ gb, GivIn (offX (s₁.heap.objs.size + 1 + 1) ((D, listOf (av rs).toArray e) :: (nt ++ base))) g := fun x hx => givIn_offX N' hXm d1 ((hginB x hx).mono fun p hp => .tail _ (List.mem_append_right _ hp))
      generalize offX (s₁.heap.objs.size + 1 + 1) ((D, listOf (av rs).toArray e) :: (nt ++ base)) = rest₄ at N₃₁ hrs₃ hgb₃
      have hrs32 := rows32 GI hmap
      clear F' N' N₃₀ hXm hXb hbase hbga hginB hrs hoffD hgin₃ hoff₃ hr₃
      have F₃₁ := fr_chain [(Str.ofString "script", .ref aS), (Str.ofString "odds", .ref D₃), (Str.ofString "given", .ref ga)] F₃₀ (allc rfl (allc rfl (allc rfl alln)))
      clear F₃₀
      (repeat' ((fail_if_success ((with_reducible show wpAny _ _ (exec (PySem.Stmt.If _ _ _ _) _) _ _ _); (fail_if_success (fail_if_success (with_reducible rename AskFacts _ _ => af'))))); (fail_if_success ((with_reducible show wpAny _ _ (compareOp CmpOp.NotEq (Value.ref _) (Value.ref _)) _ _ _); (fail_if_success (fail_if_success (with_reducible rename AskFacts _ _ => af'))))); (fail_if_success ((with_reducible show wpAny _ _ (call (Value.type "list") _) _ _ _); (fail_if_success (fail_if_success (with_reducible rename AskFacts _ _ => af'))))); (fail_if_success ((with_reducible show wpAny _ _ (call (Value.builtin "list.append") _) _ _ _); (fail_if_success (fail_if_success (with_reducible rename AskFacts _ _ => af'))))); (fail_if_success ((with_reducible show wpAny _ _ (binaryOp Operator.Add (Value.ref _) (Value.ref _)) _ _ _); (fail_if_success (fail_if_success (with_reducible rename AskFacts _ _ => af'))))); (fail_if_success ((with_reducible show wpAny _ _ (subscriptTail _ (PySem.Expr.Slice _ _ _ _) (Value.ref _) (Value.ref _)) _ _ _); (fail_if_success (fail_if_success (with_reducible rename AskFacts _ _ => af'))))); (fail_if_success ((with_reducible show wpAny _ _ (binaryOp Operator.Mod (Value.int _ _) (Value.int _ _)) _ _ _); (fail_if_success (fail_if_success (with_reducible rename AskFacts _ _ => af'))))); (fail_if_success ((with_reducible show wpAny _ _ (call (Value.builtin "len") [Value.ref _]) _ _ _); (fail_if_success (fail_if_success (with_reducible rename AskFacts _ _ => af'))))); (fail_if_success ((with_reducible show wpAny _ _ (call (Value.ref 185) _) _ _ _))); (fail_if_success ((with_reducible show wpAny _ _ (call (Value.ref 180) _) _ _ _))); (fail_if_success ((with_reducible show wpAny _ _ (call (Value.ref 175) _) _ _ _))); (fail_if_success ((with_reducible show wpAny _ _ (call (Value.ref 163) _) _ _ _))); (fail_if_success ((with_reducible show wpAny _ _ (call (Value.builtin "sorted") _) _ _ _))); (fail_if_success ((with_reducible show wpAny _ _ (call (Value.builtin "sum") _) _ _ _))); (fail_if_success ((with_reducible show wpAny _ _ (call (Value.type "zip") _) _ _ _))); (fail_if_success ((with_reducible show wpAny _ _ (call (Value.type "enumerate") _) _ _ _))); (fail_if_success ((with_reducible show wpAny _ _ (pyIter (Value.ref _)) _ _ _))); (first | (with_reducible (((with_reducible show wpAny _ _ (eval (PySem.Expr.ListComp _ _ _ _) _) _ _ _); (k_here; k_dflt (refine ListComp_open (by with_unfolding_all rfl) (by rfl) (by decide) ?_ (by intro _; rfl)))))) | (with_reducible ((k_here; (with_reducible show wpAny _ _ (exec (Stmt.Assign [Expr.Name (Str.ofString "odds") _] _ _) _) _ _ _); k_dflt (refine AssignComp_open (by with_unfolding_all rfl) (by with_unfolding_all rfl) (by rfl) (by decide) ?_ (by intro _; rfl))))) | (((with_reducible show wpAny _ _ (exec (PySem.Stmt.For _ _ _ _ _) _) _ _ _); (k_here; (refine wpAny_For ?_ (by intro _; rfl))))) | (k_unfold; (try dsimp only)) | (k_end; wrow_close) | walk1 | (dsimp only; walk1) | (leave1; walk_say "STEP leave1"; try dsimp only) | fail "no step")))
      skip
      refine wpAny_If ?_
      (repeat' ((fail_if_success ((with_reducible show wpAny _ _ (exec (PySem.Stmt.If _ _ _ _) _) _ _ _); (fail_if_success (fail_if_success (with_reducible rename AskFacts _ _ => af'))))); (fail_if_success ((with_reducible show wpAny _ _ (compareOp CmpOp.NotEq (Value.ref _) (Value.ref _)) _ _ _); (fail_if_success (fail_if_success (with_reducible rename AskFacts _ _ => af'))))); (fail_if_success ((with_reducible show wpAny _ _ (call (Value.type "list") _) _ _ _); (fail_if_success (fail_if_success (with_reducible rename AskFacts _ _ => af'))))); (fail_if_success ((with_reducible show wpAny _ _ (call (Value.builtin "list.append") _) _ _ _); (fail_if_success (fail_if_success (with_reducible rename AskFacts _ _ => af'))))); (fail_if_success ((with_reducible show wpAny _ _ (binaryOp Operator.Add (Value.ref _) (Value.ref _)) _ _ _); (fail_if_success (fail_if_success (with_reducible rename AskFacts _ _ => af'))))); (fail_if_success ((with_reducible show wpAny _ _ (subscriptTail _ (PySem.Expr.Slice _ _ _ _) (Value.ref _) (Value.ref _)) _ _ _); (fail_if_success (fail_if_success (with_reducible rename AskFacts _ _ => af'))))); (fail_if_success ((with_reducible show wpAny _ _ (binaryOp Operator.Mod (Value.int _ _) (Value.int _ _)) _ _ _); (fail_if_success (fail_if_success (with_reducible rename AskFacts _ _ => af'))))); (fail_if_success ((with_reducible show wpAny _ _ (call (Value.builtin "len") [Value.ref _]) _ _ _); (fail_if_success (fail_if_success (with_reducible rename AskFacts _ _ => af'))))); (fail_if_success ((with_reducible show wpAny _ _ (call (Value.ref 185) _) _ _ _))); (fail_if_success ((with_reducible show wpAny _ _ (call (Value.ref 180) _) _ _ _))); (fail_if_success ((with_reducible show wpAny _ _ (call (Value.ref 175) _) _ _ _))); (fail_if_success ((with_reducible show wpAny _ _ (call (Value.ref 163) _) _ _ _))); (fail_if_success ((with_reducible show wpAny _ _ (call (Value.builtin "sorted") _) _ _ _))); (fail_if_success ((with_reducible show wpAny _ _ (call (Value.builtin "sum") _) _ _ _))); (fail_if_success ((with_reducible show wpAny _ _ (call (Value.type "zip") _) _ _ _))); (fail_if_success ((with_reducible show wpAny _ _ (call (Value.type "enumerate") _) _ _ _))); (fail_if_success ((with_reducible show wpAny _ _ (pyIter (Value.ref _)) _ _ _))); (first | (with_reducible (((with_reducible show wpAny _ _ (eval (PySem.Expr.ListComp _ _ _ _) _) _ _ _); (k_here; k_dflt (refine ListComp_open (by with_unfolding_all rfl) (by rfl) (by decide) ?_ (by intro _; rfl)))))) | (with_reducible ((k_here; (with_reducible show wpAny _ _ (exec (Stmt.Assign [Expr.Name (Str.ofString "odds") _] _ _) _) _ _ _); k_dflt (refine AssignComp_open (by with_unfolding_all rfl) (by with_unfolding_all rfl) (by rfl) (by decide) ?_ (by intro _; rfl))))) | (((with_reducible show wpAny _ _ (exec (PySem.Stmt.For _ _ _ _ _) _) _ _ _); (k_here; (refine wpAny_For ?_ (by intro _; rfl))))) | (k_unfold; (try dsimp only)) | (k_end; wrow_close) | walk1 | (dsimp only; walk1) | (leave1; walk_say "STEP leave1"; try dsimp only) | fail "no step")))
      skip
      refine comp_list (vs := av rs) rfl F₃₁ N₃₁ (.head _) (by rw [List.length_map]; omega) (by decide) rfl
        (fun j m'' => ∀ x, rs[j]? = some x → ∃ t, m'' (Str.ofString "row") = some (.int x.room t))
        (fun j ys' news₂ => news₂ = _ ∧ IntsAre ys' ((rs.take j).map (·.room))) ⟨rfl, .nil⟩ ?_ ?_ ?_
      · intro j v C ys' news₂ s' m'' Q' hv hJ hget hn hq
        obtain ⟨x, hx, rfl⟩ := av_get hv
        obtain ⟨t, t', n, hm⟩ := hrs₃ x (List.mem_of_getElem? hx)
        obtain ⟨rfl, _⟩ := hJ
        exact asg_pair rfl (tup_of (hget _ (.tail _ (.tail _ (.tail _ (.tail _ hm)))))) rfl rfl rfl hn fun h' tk hn' hk => hq h' tk _ hn' (fun x' hx' => ⟨t, by rw [hx] at hx'; cases hx'; exact (if_neg (by decide)).trans (if_pos rfl)⟩) hk
      · rintro j v ys' news₂ I' oI' C oC D' m₂ h₄ tk₄ hvj ⟨rfl, hys'⟩ hm₂ hBd hNs G₆ M₆ off₆ ne₆
        refine wpAny_tests_nil ?_
        simp only [if_true]
        obtain ⟨x, hx, rfl⟩ := av_get hvj
        obtain ⟨t, hbv⟩ := hBd x hx
        refine hideQ fun Z6 E6 hZ6 => ?_
        (repeat' ((fail_if_success ((with_reducible show wpAny _ _ (exec (PySem.Stmt.If _ _ _ _) _) _ _ _); (fail_if_success (fail_if_success (with_reducible rename AskFacts _ _ => af'))))); (fail_if_success ((with_reducible show wpAny _ _ (compareOp CmpOp.NotEq (Value.ref _) (Value.ref _)) _ _ _); (fail_if_success (fail_if_success (with_reducible rename AskFacts _ _ => af'))))); (fail_if_success ((with_reducible show wpAny _ _ (call (Value.type "list") _) _ _ _); (fail_if_success (fail_if_success (with_reducible rename AskFacts _ _ => af'))))); (fail_if_success ((with_reducible show wpAny _ _ (call (Value.builtin "list.append") _) _ _ _); (fail_if_success (fail_if_success (with_reducible rename AskFacts _ _ => af'))))); (fail_if_success ((with_reducible show wpAny _ _ (binaryOp Operator.Add (Value.ref _) (Value.ref _)) _ _ _); (fail_if_success (fail_if_success (with_reducible rename AskFacts _ _ => af'))))); (fail_if_success ((with_reducible show wpAny _ _ (subscriptTail _ (PySem.Expr.Slice _ _ _ _) (Value.ref _) (Value.ref _)) _ _ _); (fail_if_success (fail_if_success (with_reducible rename AskFacts _ _ => af'))))); (fail_if_success ((with_reducible show wpAny _ _ (binaryOp Operator.Mod (Value.int _ _) (Value.int _ _)) _ _ _); (fail_if_success (fail_if_success (with_reducible rename AskFacts _ _ => af'))))); (fail_if_success ((with_reducible show wpAny _ _ (call (Value.builtin "len") [Value.ref _]) _ _ _); (fail_if_success (fail_if_success (with_reducible rename AskFacts _ _ => af'))))); (fail_if_success ((with_reducible show wpAny _ _ (call (Value.ref 185) _) _ _ _))); (fail_if_success ((with_reducible show wpAny _ _ (call (Value.ref 180) _) _ _ _))); (fail_if_success ((with_reducible show wpAny _ _ (call (Value.ref 175) _) _ _ _))); (fail_if_success ((with_reducible show wpAny _ _ (call (Value.ref 163) _) _ _ _))); (fail_if_success ((with_reducible show wpAny _ _ (call (Value.builtin "sorted") _) _ _ _))); (fail_if_success ((with_reducible show wpAny _ _ (call (Value.builtin "sum") _) _ _ _))); (fail_if_success ((with_reducible show wpAny _ _ (call (Value.type "zip") _) _ _ _))); (fail_if_success ((with_reducible show wpAny _ _ (call (Value.type "enumerate") _) _ _ _))); (fail_if_success ((with_reducible show wpAny _ _ (pyIter (Value.ref _)) _ _ _))); (first | (with_reducible (((with_reducible show wpAny _ _ (eval (PySem.Expr.ListComp _ _ _ _) _) _ _ _); (k_here; k_dflt (refine ListComp_open (by with_unfolding_all rfl) (by rfl) (by decide) ?_ (by intro _; rfl)))))) | (with_reducible ((k_here; (with_reducible show wpAny _ _ (exec (Stmt.Assign [Expr.Name (Str.ofString "odds") _] _ _) _) _ _ _); k_dflt (refine AssignComp_open (by with_unfolding_all rfl) (by with_unfolding_all rfl) (by rfl) (by decide) ?_ (by intro _; rfl))))) | (((with_reducible show wpAny _ _ (exec (PySem.Stmt.For _ _ _ _ _) _) _ _ _); (k_here; (refine wpAny_For ?_ (by intro _; rfl))))) | (k_unfold; (try dsimp only)) | (k_end; wrow_close) | walk1 | (dsimp only; walk1) | (leave1; walk_say "STEP leave1"; try dsimp only) | fail "no step")))
        exact hZ6 _ _ ⟨_, _, _, _, rfl, G₆, M₆, fun p hp => hp, fun p hp => by rw [List.mem_singleton.mp hp]; exact hm₂, off₆, rfl, intsAre_av hx hys'⟩
      rintro DR C oC m'' ysR news₂ h₄ tk₄ ⟨rfl, hysR⟩ hm₂ G₆ M₆ hNs off6 offC
      rw [List.length_map, List.take_length] at hysR
      refine comp_out G₆ M₆ hNs offC fun h₃₂ F₃₂ N₃₂ => ?_
      (repeat' ((fail_if_success ((with_reducible show wpAny _ _ (exec (PySem.Stmt.If _ _ _ _) _) _ _ _); (fail_if_success (fail_if_success (with_reducible rename AskFacts _ _ => af'))))); (fail_if_success ((with_reducible show wpAny _ _ (compareOp CmpOp.NotEq (Value.ref _) (Value.ref _)) _ _ _); (fail_if_success (fail_if_success (with_reducible rename AskFacts _ _ => af'))))); (fail_if_success ((with_reducible show wpAny _ _ (call (Value.type "list") _) _ _ _); (fail_if_success (fail_if_success (with_reducible rename AskFacts _ _ => af'))))); (fail_if_success ((with_reducible show wpAny _ _ (call (Value.builtin "list.append") _) _ _ _); (fail_if_success (fail_if_success (with_reducible rename AskFacts _ _ => af'))))); (fail_if_success ((with_reducible show wpAny _ _ (binaryOp Operator.Add (Value.ref _) (Value.ref _)) _ _ _); (fail_if_success (fail_if_success (with_reducible rename AskFacts _ _ => af'))))); (fail_if_success ((with_reducible show wpAny _ _ (subscriptTail _ (PySem.Expr.Slice _ _ _ _) (Value.ref _) (Value.ref _)) _ _ _); (fail_if_success (fail_if_success (with_reducible rename AskFacts _ _ => af'))))); (fail_if_success ((with_reducible show wpAny _ _ (binaryOp Operator.Mod (Value.int _ _) (Value.int _ _)) _ _ _); (fail_if_success (fail_if_success (with_reducible rename AskFacts _ _ => af'))))); (fail_if_success ((with_reducible show wpAny _ _ (call (Value.builtin "len") [Value.ref _]) _ _ _); (fail_if_success (fail_if_success (with_reducible rename AskFacts _ _ => af'))))); (fail_if_success ((with_reducible show wpAny _ _ (call (Value.ref 185) _) _ _ _))); (fail_if_success ((with_reducible show wpAny _ _ (call (Value.ref 180) _) _ _ _))); (fail_if_success ((with_reducible show wpAny _ _ (call (Value.ref 175) _) _ _ _))); (fail_if_success ((with_reducible show wpAny _ _ (call (Value.ref 163) _) _ _ _))); (fail_if_success ((with_reducible show wpAny _ _ (call (Value.builtin "sorted") _) _ _ _))); (fail_if_success ((with_reducible show wpAny _ _ (call (Value.builtin "sum") _) _ _ _))); (fail_if_success ((with_reducible show wpAny _ _ (call (Value.type "zip") _) _ _ _))); (fail_if_success ((with_reducible show wpAny _ _ (call (Value.type "enumerate") _) _ _ _))); (fail_if_success ((with_reducible show wpAny _ _ (pyIter (Value.ref _)) _ _ _))); (first | (with_reducible (((with_reducible show wpAny _ _ (eval (PySem.Expr.ListComp _ _ _ _) _) _ _ _); (k_here; k_dflt (refine ListComp_open (by with_unfolding_all rfl) (by rfl) (by decide) ?_ (by intro _; rfl)))))) | (with_reducible ((k_here; (with_reducible show wpAny _ _ (exec (Stmt.Assign [Expr.Name (Str.ofString "odds") _] _ _) _) _ _ _); k_dflt (refine AssignComp_open (by with_unfolding_all rfl) (by with_unfolding_all rfl) (by rfl) (by decide) ?_ (by intro _; rfl))))) | (((with_reducible show wpAny _ _ (exec (PySem.Stmt.For _ _ _ _ _) _) _ _ _); (k_here; (refine wpAny_For ?_ (by intro _; rfl))))) | (k_unfold; (try dsimp only)) | (k_end; wrow_close) | walk1 | (dsimp only; walk1) | (leave1; walk_say "STEP leave1"; try dsimp only) | fail "no step")))
      skip
      refine kso_sorted F₃₂ N₃₂ (News.isList N₃₂ (.head _)) hysR (by rw [List.length_map, hrs32]; decide) fun aC₃ vsC₃ nsC₃ cC₃ hC₃ F₃₃ N₃₃ l₃₃ hIC₃ hlC₃ hpC₃ hwC₃ _ => ?_
      have hns := sorted_range GI hmap hpC₃ hwC₃
      subst hns
      have N₃₄ := news_sub N₃₃ (fun x hx => by
        rcases List.mem_cons.mp hx with rfl | hx
        · exact .head _
        · exact .tail _ (.tail _ hx))
      obtain ⟨R32, hR32⟩ : ∃ R, R = (List.range 32).map fun (r : Nat) => (r : Int) := ⟨_, rfl⟩
      rw [← hR32] at hIC₃
      clear N₃₁ F₃₁ G₆ M₆ hm₂ off6 offC N₃₂ F₃₂ N₃₃ hlC₃ hpC₃ hwC₃ l₃₃
      (repeat' ((fail_if_success ((with_reducible show wpAny _ _ (exec (PySem.Stmt.If _ _ _ _) _) _ _ _); (fail_if_success (fail_if_success (with_reducible rename AskFacts _ _ => af'))))); (fail_if_success ((with_reducible show wpAny _ _ (compareOp CmpOp.NotEq (Value.ref _) (Value.ref _)) _ _ _); (fail_if_success (fail_if_success (with_reducible rename AskFacts _ _ => af'))))); (fail_if_success ((with_reducible show wpAny _ _ (call (Value.type "list") _) _ _ _); (fail_if_success (fail_if_success (with_reducible rename AskFacts _ _ => af'))))); (fail_if_success ((with_reducible show wpAny _ _ (call (Value.builtin "list.append") _) _ _ _); (fail_if_success (fail_if_success (with_reducible rename AskFacts _ _ => af'))))); (fail_if_success ((with_reducible show wpAny _ _ (binaryOp Operator.Add (Value.ref _) (Value.ref _)) _ _ _); (fail_if_success (fail_if_success (with_reducible rename AskFacts _ _ => af'))))); (fail_if_success ((with_reducible show wpAny _ _ (subscriptTail _ (PySem.Expr.Slice _ _ _ _) (Value.ref _) (Value.ref _)) _ _ _); (fail_if_success (fail_if_success (with_reducible rename AskFacts _ _ => af'))))); (fail_if_success ((with_reducible show wpAny _ _ (binaryOp Operator.Mod (Value.int _ _) (Value.int _ _)) _ _ _); (fail_if_success (fail_if_success (with_reducible rename AskFacts _ _ => af'))))); (fail_if_success ((with_reducible show wpAny _ _ (call (Value.builtin "len") [Value.ref _]) _ _ _); (fail_if_success (fail_if_success (with_reducible rename AskFacts _ _ => af'))))); (fail_if_success ((with_reducible show wpAny _ _ (call (Value.ref 185) _) _ _ _))); (fail_if_success ((with_reducible show wpAny _ _ (call (Value.ref 180) _) _ _ _))); (fail_if_success ((with_reducible show wpAny _ _ (call (Value.ref 175) _) _ _ _))); (fail_if_success ((with_reducible show wpAny _ _ (call (Value.ref 163) _) _ _ _))); (fail_if_success ((with_reducible show wpAny _ _ (call (Value.builtin "sorted") _) _ _ _))); (fail_if_success ((with_reducible show wpAny _ _ (call (Value.builtin "sum") _) _ _ _))); (fail_if_success ((with_reducible show wpAny _ _ (call (Value.type "zip") _) _ _ _))); (fail_if_success ((with_reducible show wpAny _ _ (call (Value.type "enumerate") _) _ _ _))); (fail_if_success ((with_reducible show wpAny _ _ (pyIter (Value.ref _)) _ _ _))); (first | (with_reducible (((with_reducible show wpAny _ _ (eval (PySem.Expr.ListComp _ _ _ _) _) _ _ _); (k_here; k_dflt (refine ListComp_open (by with_unfolding_all rfl) (by rfl) (by decide) ?_ (by intro _; rfl)))))) | (with_reducible ((k_here; (with_reducible show wpAny _ _ (exec (Stmt.Assign [Expr.Name (Str.ofString "odds") _] _ _) _) _ _ _); k_dflt (refine AssignComp_open (by with_unfolding_all rfl) (by with_unfolding_all rfl) (by rfl) (by decide) ?_ (by intro _; rfl))))) | (((with_reducible show wpAny _ _ (exec (PySem.Stmt.For _ _ _ _ _) _) _ _ _); (k_here; (refine wpAny_For ?_ (by intro _; rfl))))) | (k_unfold; (try dsimp only)) | (k_end; wrow_close) | walk1 | (dsimp only; walk1) | (leave1; walk_say "STEP leave1"; try dsimp only) | fail "no step")))
      skip
      (rename Fr _ _ _ _ => F₃₅)
      (rename News _ _ _ _ => N₃₅)
      (rename IsRange _ _ _ _ _ _ _ _ => rg₃₅)
      refine kll_range rfl F₃₅ N₃₅ rg₃₅ rfl rfl (by decide) ?_
      intro aL usL cL hL₃ tkL F₃₆ N₃₆ l₃₆ hIL
      rw [show rangeKs 0 32 = R32 from by rw [hR32]; decide +kernel] at hIL
      clear F₃₅ N₃₅
      (repeat' ((fail_if_success ((with_reducible show wpAny _ _ (exec (PySem.Stmt.If _ _ _ _) _) _ _ _); (fail_if_success (fail_if_success (with_reducible rename AskFacts _ _ => af'))))); (fail_if_success ((with_reducible show wpAny _ _ (compareOp CmpOp.NotEq (Value.ref _) (Value.ref _)) _ _ _); (fail_if_success (fail_if_success (with_reducible rename AskFacts _ _ => af'))))); (fail_if_success ((with_reducible show wpAny _ _ (call (Value.type "list") _) _ _ _); (fail_if_success (fail_if_success (with_reducible rename AskFacts _ _ => af'))))); (fail_if_success ((with_reducible show wpAny _ _ (call (Value.builtin "list.append") _) _ _ _); (fail_if_success (fail_if_success (with_reducible rename AskFacts _ _ => af'))))); (fail_if_success ((with_reducible show wpAny _ _ (binaryOp Operator.Add (Value.ref _) (Value.ref _)) _ _ _); (fail_if_success (fail_if_success (with_reducible rename AskFacts _ _ => af'))))); (fail_if_success ((with_reducible show wpAny _ _ (subscriptTail _ (PySem.Expr.Slice _ _ _ _) (Value.ref _) (Value.ref _)) _ _ _); (fail_if_success (fail_if_success (with_reducible rename AskFacts _ _ => af'))))); (fail_if_success ((with_reducible show wpAny _ _ (binaryOp Operator.Mod (Value.int _ _) (Value.int _ _)) _ _ _); (fail_if_success (fail_if_success (with_reducible rename AskFacts _ _ => af'))))); (fail_if_success ((with_reducible show wpAny _ _ (call (Value.builtin "len") [Value.ref _]) _ _ _); (fail_if_success (fail_if_success (with_reducible rename AskFacts _ _ => af'))))); (fail_if_success ((with_reducible show wpAny _ _ (call (Value.ref 185) _) _ _ _))); (fail_if_success ((with_reducible show wpAny _ _ (call (Value.ref 180) _) _ _ _))); (fail_if_success ((with_reducible show wpAny _ _ (call (Value.ref 175) _) _ _ _))); (fail_if_success ((with_reducible show wpAny _ _ (call (Value.ref 163) _) _ _ _))); (fail_if_success ((with_reducible show wpAny _ _ (call (Value.builtin "sorted") _) _ _ _))); (fail_if_success ((with_reducible show wpAny _ _ (call (Value.builtin "sum") _) _ _ _))); (fail_if_success ((with_reducible show wpAny _ _ (call (Value.type "zip") _) _ _ _))); (fail_if_success ((with_reducible show wpAny _ _ (call (Value.type "enumerate") _) _ _ _))); (fail_if_success ((with_reducible show wpAny _ _ (pyIter (Value.ref _)) _ _ _))); (first | (with_reducible (((with_reducible show wpAny _ _ (eval (PySem.Expr.ListComp _ _ _ _) _) _ _ _); (k_here; k_dflt (refine ListComp_open (by with_unfolding_all rfl) (by rfl) (by decide) ?_ (by intro _; rfl)))))) | (with_reducible ((k_here; (with_reducible show wpAny _ _ (exec (Stmt.Assign [Expr.Name (Str.ofString "odds") _] _ _) _) _ _ _); k_dflt (refine AssignComp_open (by with_unfolding_all rfl) (by with_unfolding_all rfl) (by rfl) (by decide) ?_ (by intro _; rfl))))) | (((with_reducible show wpAny _ _ (exec (PySem.Stmt.For _ _ _ _ _) _) _ _ _); (k_here; (refine wpAny_For ?_ (by intro _; rfl))))) | (k_unfold; (try dsimp only)) | (k_end; wrow_close) | walk1 | (dsimp only; walk1) | (leave1; walk_say "STEP leave1"; try dsimp only) | fail "no step")))
      skip
      refine ne_intsK (News.isList N₃₆ (.tail _ (.head _))) hIC₃ (News.isList N₃₆ (.head _)) hIL (by ktr_units) ?_
      rw [show (!decide (R32 = R32)) = false from by simp]
      have N₃₈ := news_tail (news_tail N₃₆)
      obtain ⟨mZ, F₃₇⟩ : ∃ mZ, Fr TT.heap s₁.heap.objs.size hL₃ (chain [(Str.ofString "script", .ref aS), (Str.ofString "odds", .ref D₃), (Str.ofString "given", .ref ga)] mZ) := ⟨_, fr_chain [(Str.ofString "script", .ref aS), (Str.ofString "odds", .ref D₃), (Str.ofString "given", .ref ga)] F₃₆ (allc rfl (allc rfl (allc rfl alln)))⟩
      clear N₃₆ F₃₆ hIC₃ hIL rg₃₅ l₃₆ hR32
      (repeat' ((fail_if_success ((with_reducible show wpAny _ _ (exec (PySem.Stmt.If _ _ _ _) _) _ _ _); (fail_if_success (fail_if_success (with_reducible rename AskFacts _ _ => af'))))); (fail_if_success ((with_reducible show wpAny _ _ (compareOp CmpOp.NotEq (Value.ref _) (Value.ref _)) _ _ _); (fail_if_success (fail_if_success (with_reducible rename AskFacts _ _ => af'))))); (fail_if_success ((with_reducible show wpAny _ _ (call (Value.type "list") _) _ _ _); (fail_if_success (fail_if_success (with_reducible rename AskFacts _ _ => af'))))); (fail_if_success ((with_reducible show wpAny _ _ (call (Value.builtin "list.append") _) _ _ _); (fail_if_success (fail_if_success (with_reducible rename AskFacts _ _ => af'))))); (fail_if_success ((with_reducible show wpAny _ _ (binaryOp Operator.Add (Value.ref _) (Value.ref _)) _ _ _); (fail_if_success (fail_if_success (with_reducible rename AskFacts _ _ => af'))))); (fail_if_success ((with_reducible show wpAny _ _ (subscriptTail _ (PySem.Expr.Slice _ _ _ _) (Value.ref _) (Value.ref _)) _ _ _); (fail_if_success (fail_if_success (with_reducible rename AskFacts _ _ => af'))))); (fail_if_success ((with_reducible show wpAny _ _ (binaryOp Operator.Mod (Value.int _ _) (Value.int _ _)) _ _ _); (fail_if_success (fail_if_success (with_reducible rename AskFacts _ _ => af'))))); (fail_if_success ((with_reducible show wpAny _ _ (call (Value.builtin "len") [Value.ref _]) _ _ _); (fail_if_success (fail_if_success (with_reducible rename AskFacts _ _ => af'))))); (fail_if_success ((with_reducible show wpAny _ _ (call (Value.ref 185) _) _ _ _))); (fail_if_success ((with_reducible show wpAny _ _ (call (Value.ref 180) _) _ _ _))); (fail_if_success ((with_reducible show wpAny _ _ (call (Value.ref 175) _) _ _ _))); (fail_if_success ((with_reducible show wpAny _ _ (call (Value.ref 163) _) _ _ _))); (fail_if_success ((with_reducible show wpAny _ _ (call (Value.builtin "sorted") _) _ _ _))); (fail_if_success ((with_reducible show wpAny _ _ (call (Value.builtin "sum") _) _ _ _))); (fail_if_success ((with_reducible show wpAny _ _ (call (Value.type "zip") _) _ _ _))); (fail_if_success ((with_reducible show wpAny _ _ (call (Value.type "enumerate") _) _ _ _))); (fail_if_success ((with_reducible show wpAny _ _ (pyIter (Value.ref _)) _ _ _))); (first | (with_reducible (((with_reducible show wpAny _ _ (eval (PySem.Expr.ListComp _ _ _ _) _) _ _ _); (k_here; k_dflt (refine ListComp_open (by with_unfolding_all rfl) (by rfl) (by decide) ?_ (by intro _; rfl)))))) | (with_reducible ((k_here; (with_reducible show wpAny _ _ (exec (Stmt.Assign [Expr.Name (Str.ofString "odds") _] _ _) _) _ _ _); k_dflt (refine AssignComp_open (by with_unfolding_all rfl) (by with_unfolding_all rfl) (by rfl) (by decide) ?_ (by intro _; rfl))))) | (((with_reducible show wpAny _ _ (exec (PySem.Stmt.For _ _ _ _ _) _) _ _ _); (k_here; (refine wpAny_For ?_ (by intro _; rfl))))) | (k_unfold; (try dsimp only)) | (k_end; wrow_close) | walk1 | (dsimp only; walk1) | (leave1; walk_say "STEP leave1"; try dsimp only) | fail "no step")))
      skip
      refine wpAny_If ?_
      (repeat' ((fail_if_success ((with_reducible show wpAny _ _ (exec (PySem.Stmt.If _ _ _ _) _) _ _ _); (fail_if_success (fail_if_success (with_reducible rename AskFacts _ _ => af'))))); (fail_if_success ((with_reducible show wpAny _ _ (compareOp CmpOp.NotEq (Value.ref _) (Value.ref _)) _ _ _); (fail_if_success (fail_if_success (with_reducible rename AskFacts _ _ => af'))))); (fail_if_success ((with_reducible show wpAny _ _ (call (Value.type "list") _) _ _ _); (fail_if_success (fail_if_success (with_reducible rename AskFacts _ _ => af'))))); (fail_if_success ((with_reducible show wpAny _ _ (call (Value.builtin "list.append") _) _ _ _); (fail_if_success (fail_if_success (with_reducible rename AskFacts _ _ => af'))))); (fail_if_success ((with_reducible show wpAny _ _ (binaryOp Operator.Add (Value.ref _) (Value.ref _)) _ _ _); (fail_if_success (fail_if_success (with_reducible rename AskFacts _ _ => af'))))); (fail_if_success ((with_reducible show wpAny _ _ (subscriptTail _ (PySem.Expr.Slice _ _ _ _) (Value.ref _) (Value.ref _)) _ _ _); (fail_if_success (fail_if_success (with_reducible rename AskFacts _ _ => af'))))); (fail_if_success ((with_reducible show wpAny _ _ (binaryOp Operator.Mod (Value.int _ _) (Value.int _ _)) _ _ _); (fail_if_success (fail_if_success (with_reducible rename AskFacts _ _ => af'))))); (fail_if_success ((with_reducible show wpAny _ _ (call (Value.builtin "len") [Value.ref _]) _ _ _); (fail_if_success (fail_if_success (with_reducible rename AskFacts _ _ => af'))))); (fail_if_success ((with_reducible show wpAny _ _ (call (Value.ref 185) _) _ _ _))); (fail_if_success ((with_reducible show wpAny _ _ (call (Value.ref 180) _) _ _ _))); (fail_if_success ((with_reducible show wpAny _ _ (call (Value.ref 175) _) _ _ _))); (fail_if_success ((with_reducible show wpAny _ _ (call (Value.ref 163) _) _ _ _))); (fail_if_success ((with_reducible show wpAny _ _ (call (Value.builtin "sorted") _) _ _ _))); (fail_if_success ((with_reducible show wpAny _ _ (call (Value.builtin "sum") _) _ _ _))); (fail_if_success ((with_reducible show wpAny _ _ (call (Value.type "zip") _) _ _ _))); (fail_if_success ((with_reducible show wpAny _ _ (call (Value.type "enumerate") _) _ _ _))); (fail_if_success ((with_reducible show wpAny _ _ (pyIter (Value.ref _)) _ _ _))); (first | (with_reducible (((with_reducible show wpAny _ _ (eval (PySem.Expr.ListComp _ _ _ _) _) _ _ _); (k_here; k_dflt (refine ListComp_open (by with_unfolding_all rfl) (by rfl) (by decide) ?_ (by intro _; rfl)))))) | (with_reducible ((k_here; (with_reducible show wpAny _ _ (exec (Stmt.Assign [Expr.Name (Str.ofString "odds") _] _ _) _) _ _ _); k_dflt (refine AssignComp_open (by with_unfolding_all rfl) (by with_unfolding_all rfl) (by rfl) (by decide) ?_ (by intro _; rfl))))) | (((with_reducible show wpAny _ _ (exec (PySem.Stmt.For _ _ _ _ _) _) _ _ _); (k_here; (refine wpAny_For ?_ (by intro _; rfl))))) | (k_unfold; (try dsimp only)) | (k_end; wrow_close) | walk1 | (dsimp only; walk1) | (leave1; walk_say "STEP leave1"; try dsimp only) | fail "no step")))
      skip
      (rename Fr _ _ _ _ => F₃₉)
      (rename News _ _ _ _ => N₃₉)
      (rename IsRange _ _ _ _ _ _ _ _ => rg₃₉)
      refine comp_range_cell (n := 4) rfl F₃₉ N₃₉ rg₃₉ rfl rfl (fun _ _ => rfl) (fun _ => rfl) (fun _ => rfl)
        (fun X Dq i _ news' => ∃ (oX2 : Obj) (w₀ : Option Value) (e' : Nat) (ys' : List Value), news' = (X, oX2) :: (Dq, listOf ys'.toArray e') :: (D, listOf (av rs).toArray e) :: (ga, listOf (gv gb).toArray e₂) :: (D₃, listOf ys₃.toArray ys₃.length) :: (s₁.heap.objs.size + 1 + 1, oX) :: rest₄ ∧ oX2.data = .cell w₀ ∧ IntsAre ys' (counts rs i) ∧
          (∀ p ∈ (D, listOf (av rs).toArray e) :: (ga, listOf (gv gb).toArray e₂) :: (D₃, listOf ys₃.toArray ys₃.length) :: (s₁.heap.objs.size + 1 + 1, oX) :: rest₄, p.1 ≠ Dq ∧ p.1 ≠ X) ∧ Dq ≠ X) ?_ ?_ ?_
      · intro X Dq oX2 hoff hne hd
        exact ⟨oX2, _, 0, [], rfl, hd, .nil, hoff, hne⟩
      · rintro I C Dq X i v m₁ oC₁ news₁ oI h₁ tk₁ hi ⟨tv, rfl⟩ ⟨oX2, w₀, e', ys', rfl, dX2, hys', hoffb, hDX⟩ hoC G₁ M₁ hoff₁ hIC
        refine asg_cell (X := X) rfl rfl rfl G₁ (news_sub (l' := (X, oX2) :: (I, oI) :: (C, oC₁) :: (Dq, listOf ys'.toArray e') :: (D, listOf (av rs).toArray e) :: (ga, listOf (gv gb).toArray e₂) :: (D₃, listOf ys₃.toArray ys₃.length) :: (s₁.heap.objs.size + 1 + 1, oX) :: rest₄) M₁ sub_third) dX2 ?_ ?_
        · refine off_cons (Ne.symm (hoff₁ _ (.head _)).1) (off_cons (Ne.symm (hoff₁ _ (.head _)).2) (off_cons hDX fun p hp => (hoffb p hp).2))
        intro h₂ oX3 dX3 G₂ M₂
        have M₃ := news_sub (l' := (I, oI) :: (C, oC₁) :: (X, oX3) :: (Dq, listOf ys'.toArray e') :: (D, listOf (av rs).toArray e) :: (ga, listOf (gv gb).toArray e₂) :: (D₃, listOf ys₃.toArray ys₃.length) :: (s₁.heap.objs.size + 1 + 1, oX) :: rest₄) M₂ sub_t3
        clear M₂ M₁ G₁ F₃₉ N₃₉
        refine wpAny_tests_nil ?_
        simp only [if_true]
        show wpAny _ _ (eval _ _) _ _ _
        refine hideQ fun Z7 E7 hZ7 => ?_
        (repeat' ((fail_if_success ((with_reducible show wpAny _ _ (exec (PySem.Stmt.If _ _ _ _) _) _ _ _); (fail_if_success (fail_if_success (with_reducible rename AskFacts _ _ => af'))))); (fail_if_success ((with_reducible show wpAny _ _ (compareOp CmpOp.NotEq (Value.ref _) (Value.ref _)) _ _ _); (fail_if_success (fail_if_success (with_reducible rename AskFacts _ _ => af'))))); (fail_if_success ((with_reducible show wpAny _ _ (call (Value.type "list") _) _ _ _); (fail_if_success (fail_if_success (with_reducible rename AskFacts _ _ => af'))))); (fail_if_success ((with_reducible show wpAny _ _ (call (Value.builtin "list.append") _) _ _ _); (fail_if_success (fail_if_success (with_reducible rename AskFacts _ _ => af'))))); (fail_if_success ((with_reducible show wpAny _ _ (binaryOp Operator.Add (Value.ref _) (Value.ref _)) _ _ _); (fail_if_success (fail_if_success (with_reducible rename AskFacts _ _ => af'))))); (fail_if_success ((with_reducible show wpAny _ _ (subscriptTail _ (PySem.Expr.Slice _ _ _ _) (Value.ref _) (Value.ref _)) _ _ _); (fail_if_success (fail_if_success (with_reducible rename AskFacts _ _ => af'))))); (fail_if_success ((with_reducible show wpAny _ _ (binaryOp Operator.Mod (Value.int _ _) (Value.int _ _)) _ _ _); (fail_if_success (fail_if_success (with_reducible rename AskFacts _ _ => af'))))); (fail_if_success ((with_reducible show wpAny _ _ (call (Value.builtin "len") [Value.ref _]) _ _ _); (fail_if_success (fail_if_success (with_reducible rename AskFacts _ _ => af'))))); (fail_if_success ((with_reducible show wpAny _ _ (call (Value.ref 185) _) _ _ _))); (fail_if_success ((with_reducible show wpAny _ _ (call (Value.ref 180) _) _ _ _))); (fail_if_success ((with_reducible show wpAny _ _ (call (Value.ref 175) _) _ _ _))); (fail_if_success ((with_reducible show wpAny _ _ (call (Value.ref 163) _) _ _ _))); (fail_if_success ((with_reducible show wpAny _ _ (call (Value.builtin "sorted") _) _ _ _))); (fail_if_success ((with_reducible show wpAny _ _ (call (Value.builtin "sum") _) _ _ _))); (fail_if_success ((with_reducible show wpAny _ _ (call (Value.type "zip") _) _ _ _))); (fail_if_success ((with_reducible show wpAny _ _ (call (Value.type "enumerate") _) _ _ _))); (fail_if_success ((with_reducible show wpAny _ _ (pyIter (Value.ref _)) _ _ _))); (first | (with_reducible (((with_reducible show wpAny _ _ (eval (PySem.Expr.ListComp _ _ _ _) _) _ _ _); (k_here; k_dflt (refine ListComp_open (by with_unfolding_all rfl) (by rfl) (by decide) ?_ (by intro _; rfl)))))) | (with_reducible ((k_here; (with_reducible show wpAny _ _ (exec (Stmt.Assign [Expr.Name (Str.ofString "odds") _] _ _) _) _ _ _); k_dflt (refine AssignComp_open (by with_unfolding_all rfl) (by with_unfolding_all rfl) (by rfl) (by decide) ?_ (by intro _; rfl))))) | (((with_reducible show wpAny _ _ (exec (PySem.Stmt.For _ _ _ _ _) _) _ _ _); (k_here; (refine wpAny_For ?_ (by intro _; rfl))))) | (k_unfold; (try dsimp only)) | (k_end; wrow_close) | walk1 | (dsimp only; walk1) | (leave1; walk_say "STEP leave1"; try dsimp only) | fail "no step")))
        skip
        have dX4 : oX3.data = Data.cell (some (.int (i : Int) tv)) := by rw [dX3]; simp
        clear dX3 dX2
        refine comp_list (vs := av rs) rfl G₂ M₃ (.tail _ (.tail _ (.tail _ (.tail _ (.head _))))) (by rw [List.length_map]; omega) (by decide) rfl
          (fun j m'' => ∀ x, rs[j]? = some x → ∃ t t', m'' (Str.ofString "row") = some (.int x.room t) ∧ m'' (Str.ofString "owner") = some (.int x.thing t'))
          (fun j ys'' news₂ => news₂ = _ ∧ ys''.length = ((rs.take j).filter fun x => decide (x.thing = (i : Int))).length) ⟨rfl, rfl⟩ ?_ ?_ ?_
        · intro j v C ys'' news₂ s' m'' Q' hv hJ hget hn hq
          obtain ⟨x, hx, rfl⟩ := av_get hv
          obtain ⟨t, t', n, hm⟩ := hrs₃ x (List.mem_of_getElem? hx)
          obtain ⟨rfl, _⟩ := hJ
          exact asg_pair rfl (tup_of (hget _ (.tail _ (.tail _ (.tail _ (.tail _ (.tail _ (.tail _ (.tail _ (.tail _ hm)))))))))) rfl rfl rfl hn fun h' tk hn' hk => hq h' tk _ hn' (fun x' hx' => ⟨t, t', by rw [hx] at hx'; cases hx'; exact (if_neg (by decide)).trans (if_pos rfl), by rw [hx] at hx'; cases hx'; exact if_pos rfl⟩) hk
        · rintro j v ys'' news₂ I' oI' C' oC' D' m₂ h₄ tk₄ hvj ⟨rfl, hyl⟩ hm₂ hBd hNs G₆ M₆ off₆ ne₆
          refine wpAny_tests_one ?_
          refine hideW fun Z8 hZ8 => ?_
          obtain ⟨x, hx, rfl⟩ := av_get hvj
          obtain ⟨t, t', b1, b2⟩ := hBd x hx
          (repeat' ((fail_if_success ((with_reducible show wpAny _ _ (exec (PySem.Stmt.If _ _ _ _) _) _ _ _); (fail_if_success (fail_if_success (with_reducible rename AskFacts _ _ => af'))))); (fail_if_success ((with_reducible show wpAny _ _ (compareOp CmpOp.NotEq (Value.ref _) (Value.ref _)) _ _ _); (fail_if_success (fail_if_success (with_reducible rename AskFacts _ _ => af'))))); (fail_if_success ((with_reducible show wpAny _ _ (call (Value.type "list") _) _ _ _); (fail_if_success (fail_if_success (with_reducible rename AskFacts _ _ => af'))))); (fail_if_success ((with_reducible show wpAny _ _ (call (Value.builtin "list.append") _) _ _ _); (fail_if_success (fail_if_success (with_reducible rename AskFacts _ _ => af'))))); (fail_if_success ((with_reducible show wpAny _ _ (binaryOp Operator.Add (Value.ref _) (Value.ref _)) _ _ _); (fail_if_success (fail_if_success (with_reducible rename AskFacts _ _ => af'))))); (fail_if_success ((with_reducible show wpAny _ _ (subscriptTail _ (PySem.Expr.Slice _ _ _ _) (Value.ref _) (Value.ref _)) _ _ _); (fail_if_success (fail_if_success (with_reducible rename AskFacts _ _ => af'))))); (fail_if_success ((with_reducible show wpAny _ _ (binaryOp Operator.Mod (Value.int _ _) (Value.int _ _)) _ _ _); (fail_if_success (fail_if_success (with_reducible rename AskFacts _ _ => af'))))); (fail_if_success ((with_reducible show wpAny _ _ (call (Value.builtin "len") [Value.ref _]) _ _ _); (fail_if_success (fail_if_success (with_reducible rename AskFacts _ _ => af'))))); (fail_if_success ((with_reducible show wpAny _ _ (call (Value.ref 185) _) _ _ _))); (fail_if_success ((with_reducible show wpAny _ _ (call (Value.ref 180) _) _ _ _))); (fail_if_success ((with_reducible show wpAny _ _ (call (Value.ref 175) _) _ _ _))); (fail_if_success ((with_reducible show wpAny _ _ (call (Value.ref 163) _) _ _ _))); (fail_if_success ((with_reducible show wpAny _ _ (call (Value.builtin "sorted") _) _ _ _))); (fail_if_success ((with_reducible show wpAny _ _ (call (Value.builtin "sum") _) _ _ _))); (fail_if_success ((with_reducible show wpAny _ _ (call (Value.type "zip") _) _ _ _))); (fail_if_success ((with_reducible show wpAny _ _ (call (Value.type "enumerate") _) _ _ _))); (fail_if_success ((with_reducible show wpAny _ _ (pyIter (Value.ref _)) _ _ _))); (first | (with_reducible (((with_reducible show wpAny _ _ (eval (PySem.Expr.ListComp _ _ _ _) _) _ _ _); (k_here; k_dflt (refine ListComp_open (by with_unfolding_all rfl) (by rfl) (by decide) ?_ (by intro _; rfl)))))) | (with_reducible ((k_here; (with_reducible show wpAny _ _ (exec (Stmt.Assign [Expr.Name (Str.ofString "odds") _] _ _) _) _ _ _); k_dflt (refine AssignComp_open (by with_unfolding_all rfl) (by with_unfolding_all rfl) (by rfl) (by decide) ?_ (by intro _; rfl))))) | (((with_reducible show wpAny _ _ (exec (PySem.Stmt.For _ _ _ _ _) _) _ _ _); (k_here; (refine wpAny_For ?_ (by intro _; rfl))))) | (k_unfold; (try dsimp only)) | (k_end; wrow_close) | walk1 | (dsimp only; walk1) | (leave1; walk_say "STEP leave1"; try dsimp only) | fail "no step")))
          all_goals first
            | exact hZ8 _ _ ⟨_, _, _, _, rfl, G₆, M₆, fun p hp => hp, fun p hp => by rw [List.mem_singleton.mp hp]; exact hm₂, off₆, rfl, (List.length_append ..).trans (filt_in hx (by assumption) hyl)⟩
            | exact ⟨_, _, _, _, rfl, G₆, M₆, fun p hp => hp, fun p hp => by rw [List.mem_singleton.mp hp]; exact hm₂, off₆, rfl, filt_out hx (by assumption) hyl⟩
        rintro DI CI oCI mI ysI news₂ h₄ tk₄ ⟨rfl, hyl⟩ hm₂ G₆ M₆ hNs off6 offC
        rw [List.length_map, List.take_length] at hyl
        refine comp_out G₆ M₆ hNs offC fun h₄₀ F₄₀ N₄₀ => ?_
        (repeat' ((fail_if_success ((with_reducible show wpAny _ _ (exec (PySem.Stmt.If _ _ _ _) _) _ _ _); (fail_if_success (fail_if_success (with_reducible rename AskFacts _ _ => af'))))); (fail_if_success ((with_reducible show wpAny _ _ (compareOp CmpOp.NotEq (Value.ref _) (Value.ref _)) _ _ _); (fail_if_success (fail_if_success (with_reducible rename AskFacts _ _ => af'))))); (fail_if_success ((with_reducible show wpAny _ _ (call (Value.type "list") _) _ _ _); (fail_if_success (fail_if_success (with_reducible rename AskFacts _ _ => af'))))); (fail_if_success ((with_reducible show wpAny _ _ (call (Value.builtin "list.append") _) _ _ _); (fail_if_success (fail_if_success (with_reducible rename AskFacts _ _ => af'))))); (fail_if_success ((with_reducible show wpAny _ _ (binaryOp Operator.Add (Value.ref _) (Value.ref _)) _ _ _); (fail_if_success (fail_if_success (with_reducible rename AskFacts _ _ => af'))))); (fail_if_success ((with_reducible show wpAny _ _ (subscriptTail _ (PySem.Expr.Slice _ _ _ _) (Value.ref _) (Value.ref _)) _ _ _); (fail_if_success (fail_if_success (with_reducible rename AskFacts _ _ => af'))))); (fail_if_success ((with_reducible show wpAny _ _ (binaryOp Operator.Mod (Value.int _ _) (Value.int _ _)) _ _ _); (fail_if_success (fail_if_success (with_reducible rename AskFacts _ _ => af'))))); (fail_if_success ((with_reducible show wpAny _ _ (call (Value.builtin "len") [Value.ref _]) _ _ _); (fail_if_success (fail_if_success (with_reducible rename AskFacts _ _ => af'))))); (fail_if_success ((with_reducible show wpAny _ _ (call (Value.ref 185) _) _ _ _))); (fail_if_success ((with_reducible show wpAny _ _ (call (Value.ref 180) _) _ _ _))); (fail_if_success ((with_reducible show wpAny _ _ (call (Value.ref 175) _) _ _ _))); (fail_if_success ((with_reducible show wpAny _ _ (call (Value.ref 163) _) _ _ _))); (fail_if_success ((with_reducible show wpAny _ _ (call (Value.builtin "sorted") _) _ _ _))); (fail_if_success ((with_reducible show wpAny _ _ (call (Value.builtin "sum") _) _ _ _))); (fail_if_success ((with_reducible show wpAny _ _ (call (Value.type "zip") _) _ _ _))); (fail_if_success ((with_reducible show wpAny _ _ (call (Value.type "enumerate") _) _ _ _))); (fail_if_success ((with_reducible show wpAny _ _ (pyIter (Value.ref _)) _ _ _))); (first | (with_reducible (((with_reducible show wpAny _ _ (eval (PySem.Expr.ListComp _ _ _ _) _) _ _ _); (k_here; k_dflt (refine ListComp_open (by with_unfolding_all rfl) (by rfl) (by decide) ?_ (by intro _; rfl)))))) | (with_reducible ((k_here; (with_reducible show wpAny _ _ (exec (Stmt.Assign [Expr.Name (Str.ofString "odds") _] _ _) _) _ _ _); k_dflt (refine AssignComp_open (by with_unfolding_all rfl) (by with_unfolding_all rfl) (by rfl) (by decide) ?_ (by intro _; rfl))))) | (((with_reducible show wpAny _ _ (exec (PySem.Stmt.For _ _ _ _ _) _) _ _ _); (k_here; (refine wpAny_For ?_ (by intro _; rfl))))) | (k_unfold; (try dsimp only)) | (k_end; wrow_close) | walk1 | (dsimp only; walk1) | (leave1; walk_say "STEP leave1"; try dsimp only) | fail "no step")))
        skip
        have hflen := filt_le rs (i : Int)
        refine kun_lenL (k := ((ysI.length : Nat) : Int)) (News.isList N₄₀ (.head _)) (by simp) (by omega) ?_
        dsimp only
        (repeat' ((fail_if_success ((with_reducible show wpAny _ _ (exec (PySem.Stmt.If _ _ _ _) _) _ _ _); (fail_if_success (fail_if_success (with_reducible rename AskFacts _ _ => af'))))); (fail_if_success ((with_reducible show wpAny _ _ (compareOp CmpOp.NotEq (Value.ref _) (Value.ref _)) _ _ _); (fail_if_success (fail_if_success (with_reducible rename AskFacts _ _ => af'))))); (fail_if_success ((with_reducible show wpAny _ _ (call (Value.type "list") _) _ _ _); (fail_if_success (fail_if_success (with_reducible rename AskFacts _ _ => af'))))); (fail_if_success ((with_reducible show wpAny _ _ (call (Value.builtin "list.append") _) _ _ _); (fail_if_success (fail_if_success (with_reducible rename AskFacts _ _ => af'))))); (fail_if_success ((with_reducible show wpAny _ _ (binaryOp Operator.Add (Value.ref _) (Value.ref _)) _ _ _); (fail_if_success (fail_if_success (with_reducible rename AskFacts _ _ => af'))))); (fail_if_success ((with_reducible show wpAny _ _ (subscriptTail _ (PySem.Expr.Slice _ _ _ _) (Value.ref _) (Value.ref _)) _ _ _); (fail_if_success (fail_if_success (with_reducible rename AskFacts _ _ => af'))))); (fail_if_success ((with_reducible show wpAny _ _ (binaryOp Operator.Mod (Value.int _ _) (Value.int _ _)) _ _ _); (fail_if_success (fail_if_success (with_reducible rename AskFacts _ _ => af'))))); (fail_if_success ((with_reducible show wpAny _ _ (call (Value.builtin "len") [Value.ref _]) _ _ _); (fail_if_success (fail_if_success (with_reducible rename AskFacts _ _ => af'))))); (fail_if_success ((with_reducible show wpAny _ _ (call (Value.ref 185) _) _ _ _))); (fail_if_success ((with_reducible show wpAny _ _ (call (Value.ref 180) _) _ _ _))); (fail_if_success ((with_reducible show wpAny _ _ (call (Value.ref 175) _) _ _ _))); (fail_if_success ((with_reducible show wpAny _ _ (call (Value.ref 163) _) _ _ _))); (fail_if_success ((with_reducible show wpAny _ _ (call (Value.builtin "sorted") _) _ _ _))); (fail_if_success ((with_reducible show wpAny _ _ (call (Value.builtin "sum") _) _ _ _))); (fail_if_success ((with_reducible show wpAny _ _ (call (Value.type "zip") _) _ _ _))); (fail_if_success ((with_reducible show wpAny _ _ (call (Value.type "enumerate") _) _ _ _))); (fail_if_success ((with_reducible show wpAny _ _ (pyIter (Value.ref _)) _ _ _))); (first | (with_reducible (((with_reducible show wpAny _ _ (eval (PySem.Expr.ListComp _ _ _ _) _) _ _ _); (k_here; k_dflt (refine ListComp_open (by with_unfolding_all rfl) (by rfl) (by decide) ?_ (by intro _; rfl)))))) | (with_reducible ((k_here; (with_reducible show wpAny _ _ (exec (Stmt.Assign [Expr.Name (Str.ofString "odds") _] _ _) _) _ _ _); k_dflt (refine AssignComp_open (by with_unfolding_all rfl) (by with_unfolding_all rfl) (by rfl) (by decide) ?_ (by intro _; rfl))))) | (((with_reducible show wpAny _ _ (exec (PySem.Stmt.For _ _ _ _ _) _) _ _ _); (k_here; (refine wpAny_For ?_ (by intro _; rfl))))) | (k_unfold; (try dsimp only)) | (k_end; wrow_close) | walk1 | (dsimp only; walk1) | (leave1; walk_say "STEP leave1"; try dsimp only) | fail "no step")))
        refine hZ7 _ _ ?_
        have N₄₁ := news_sub (l' := (Dq, listOf ys'.toArray e') :: (I, oI) :: (C, oC₁) :: (X, oX3) :: (D, listOf (av rs).toArray e) :: (ga, listOf (gv gb).toArray e₂) :: (D₃, listOf ys₃.toArray ys₃.length) :: (s₁.heap.objs.size + 1 + 1, oX) :: rest₄) N₄₀ sub_d4
        have hysl : ys'.length = i := by rw [intsAre_len hys']; simp [counts]
        refine append_val F₄₀ N₄₁ ?_ (by omega) fun h₄₂ F₄₂ N₄₂ => ?_
        · exact off_cons (Ne.symm (hoff₁ (Dq, listOf ys'.toArray e') (.tail _ (.head _))).1) (off_cons (Ne.symm (hoff₁ (Dq, listOf ys'.toArray e') (.tail _ (.head _))).2) (off_cons (Ne.symm hDX) fun p hp => (hoffb p hp).1))
        refine ⟨h₄₂, _, m₁, oC₁, _, (X, oX3) :: (Dq, listOf (ys' ++ [Value.int ((ysI.length : Nat) : Int) (tk₄ + 1)]).toArray (e' + 1)) :: (D, listOf (av rs).toArray e) :: (ga, listOf (gv gb).toArray e₂) :: (D₃, listOf ys₃.toArray ys₃.length) :: (s₁.heap.objs.size + 1 + 1, oX) :: rest₄, rfl, F₄₂, hoC, N₄₂, ?_, List.forall_mem_nil _, ?_, oX3, _, e' + 1, _, rfl, dX4, ?_, hoffb, hDX⟩
        · exact sub_e4
        · intro p hp
          rcases List.mem_cons.mp hp with rfl | hp
          · exact hoff₁ (X, oX2) (.head _)
          rcases List.mem_cons.mp hp with rfl | hp
          · exact hoff₁ (Dq, listOf ys'.toArray e') (.tail _ (.head _))
          · exact hoff₁ p (.tail _ (.tail _ hp))
        · rw [counts_succ, ← hyl]
          exact intsAre_snoc hys'
      · intro C Dq X m₁ oC₁ news₁ h₁ tk₁ hJ G₁ hoC M₁ hoff₁
        obtain ⟨oX2, w₀, e', ys', rfl, dX2, hys', hoffb, hDX⟩ := hJ
        have hco : counts rs 4 = [a - 0, b - a, c - b, 32 - c] := counts_odds hods GI hp₂ hal hmap
        rw [hco] at hys'
        have M₂ := news_sub (l' := (C, oC₁) :: (Dq, listOf ys'.toArray e') :: (D, listOf (av rs).toArray e) :: (ga, listOf (gv gb).toArray e₂) :: (D₃, listOf ys₃.toArray ys₃.length) :: (s₁.heap.objs.size + 1 + 1, oX) :: rest₄) M₁ sub_drop2
        refine comp_out G₁ M₂ hoC (off_cons (hoff₁ (Dq, listOf ys'.toArray e') (.tail _ (.head _))) fun p hp => hoff₁ p (.tail _ (.tail _ hp))) fun h₄₃ F₄₃ N₄₃ => ?_
        clear G₁ M₁ M₂ N₃₉ F₃₉
        (repeat' ((fail_if_success ((with_reducible show wpAny _ _ (exec (PySem.Stmt.If _ _ _ _) _) _ _ _); (fail_if_success (fail_if_success (with_reducible rename AskFacts _ _ => af'))))); (fail_if_success ((with_reducible show wpAny _ _ (compareOp CmpOp.NotEq (Value.ref _) (Value.ref _)) _ _ _); (fail_if_success (fail_if_success (with_reducible rename AskFacts _ _ => af'))))); (fail_if_success ((with_reducible show wpAny _ _ (call (Value.type "list") _) _ _ _); (fail_if_success (fail_if_success (with_reducible rename AskFacts _ _ => af'))))); (fail_if_success ((with_reducible show wpAny _ _ (call (Value.builtin "list.append") _) _ _ _); (fail_if_success (fail_if_success (with_reducible rename AskFacts _ _ => af'))))); (fail_if_success ((with_reducible show wpAny _ _ (binaryOp Operator.Add (Value.ref _) (Value.ref _)) _ _ _); (fail_if_success (fail_if_success (with_reducible rename AskFacts _ _ => af'))))); (fail_if_success ((with_reducible show wpAny _ _ (subscriptTail _ (PySem.Expr.Slice _ _ _ _) (Value.ref _) (Value.ref _)) _ _ _); (fail_if_success (fail_if_success (with_reducible rename AskFacts _ _ => af'))))); (fail_if_success ((with_reducible show wpAny _ _ (binaryOp Operator.Mod (Value.int _ _) (Value.int _ _)) _ _ _); (fail_if_success (fail_if_success (with_reducible rename AskFacts _ _ => af'))))); (fail_if_success ((with_reducible show wpAny _ _ (call (Value.builtin "len") [Value.ref _]) _ _ _); (fail_if_success (fail_if_success (with_reducible rename AskFacts _ _ => af'))))); (fail_if_success ((with_reducible show wpAny _ _ (call (Value.ref 185) _) _ _ _))); (fail_if_success ((with_reducible show wpAny _ _ (call (Value.ref 180) _) _ _ _))); (fail_if_success ((with_reducible show wpAny _ _ (call (Value.ref 175) _) _ _ _))); (fail_if_success ((with_reducible show wpAny _ _ (call (Value.ref 163) _) _ _ _))); (fail_if_success ((with_reducible show wpAny _ _ (call (Value.builtin "sorted") _) _ _ _))); (fail_if_success ((with_reducible show wpAny _ _ (call (Value.builtin "sum") _) _ _ _))); (fail_if_success ((with_reducible show wpAny _ _ (call (Value.type "zip") _) _ _ _))); (fail_if_success ((with_reducible show wpAny _ _ (call (Value.type "enumerate") _) _ _ _))); (fail_if_success ((with_reducible show wpAny _ _ (pyIter (Value.ref _)) _ _ _))); (first | (with_reducible (((with_reducible show wpAny _ _ (eval (PySem.Expr.ListComp _ _ _ _) _) _ _ _); (k_here; k_dflt (refine ListComp_open (by with_unfolding_all rfl) (by rfl) (by decide) ?_ (by intro _; rfl)))))) | (with_reducible ((k_here; (with_reducible show wpAny _ _ (exec (Stmt.Assign [Expr.Name (Str.ofString "odds") _] _ _) _) _ _ _); k_dflt (refine AssignComp_open (by with_unfolding_all rfl) (by with_unfolding_all rfl) (by rfl) (by decide) ?_ (by intro _; rfl))))) | (((with_reducible show wpAny _ _ (exec (PySem.Stmt.For _ _ _ _ _) _) _ _ _); (k_here; (refine wpAny_For ?_ (by intro _; rfl))))) | (k_unfold; (try dsimp only)) | (k_end; wrow_close) | walk1 | (dsimp only; walk1) | (leave1; walk_say "STEP leave1"; try dsimp only) | fail "no step")))
        skip
        (rename Fr _ _ _ _ => F₄₄)
        (rename News _ _ _ _ => N₄₄)
        refine ne_intsK (News.isList N₄₄ (.head _)) hys' (News.isList N₄₄ (.tail _ (.tail _ (.tail _ (.head _))))) hcs₄ (by ktr_units) ?_
        rw [show (!decide ([a - 0, b - a, c - b, 32 - c] = [a - 0, b - a, c - b, 32 - c])) = false from by simp]
        have N₄₅ := news_tail (news_tail N₄₄)
        clear N₄₄
        (repeat' ((fail_if_success ((with_reducible show wpAny _ _ (exec (PySem.Stmt.If _ _ _ _) _) _ _ _); (fail_if_success (fail_if_success (with_reducible rename AskFacts _ _ => af'))))); (fail_if_success ((with_reducible show wpAny _ _ (compareOp CmpOp.NotEq (Value.ref _) (Value.ref _)) _ _ _); (fail_if_success (fail_if_success (with_reducible rename AskFacts _ _ => af'))))); (fail_if_success ((with_reducible show wpAny _ _ (call (Value.type "list") _) _ _ _); (fail_if_success (fail_if_success (with_reducible rename AskFacts _ _ => af'))))); (fail_if_success ((with_reducible show wpAny _ _ (call (Value.builtin "list.append") _) _ _ _); (fail_if_success (fail_if_success (with_reducible rename AskFacts _ _ => af'))))); (fail_if_success ((with_reducible show wpAny _ _ (binaryOp Operator.Add (Value.ref _) (Value.ref _)) _ _ _); (fail_if_success (fail_if_success (with_reducible rename AskFacts _ _ => af'))))); (fail_if_success ((with_reducible show wpAny _ _ (subscriptTail _ (PySem.Expr.Slice _ _ _ _) (Value.ref _) (Value.ref _)) _ _ _); (fail_if_success (fail_if_success (with_reducible rename AskFacts _ _ => af'))))); (fail_if_success ((with_reducible show wpAny _ _ (binaryOp Operator.Mod (Value.int _ _) (Value.int _ _)) _ _ _); (fail_if_success (fail_if_success (with_reducible rename AskFacts _ _ => af'))))); (fail_if_success ((with_reducible show wpAny _ _ (call (Value.builtin "len") [Value.ref _]) _ _ _); (fail_if_success (fail_if_success (with_reducible rename AskFacts _ _ => af'))))); (fail_if_success ((with_reducible show wpAny _ _ (call (Value.ref 185) _) _ _ _))); (fail_if_success ((with_reducible show wpAny _ _ (call (Value.ref 180) _) _ _ _))); (fail_if_success ((with_reducible show wpAny _ _ (call (Value.ref 175) _) _ _ _))); (fail_if_success ((with_reducible show wpAny _ _ (call (Value.ref 163) _) _ _ _))); (fail_if_success ((with_reducible show wpAny _ _ (call (Value.builtin "sorted") _) _ _ _))); (fail_if_success ((with_reducible show wpAny _ _ (call (Value.builtin "sum") _) _ _ _))); (fail_if_success ((with_reducible show wpAny _ _ (call (Value.type "zip") _) _ _ _))); (fail_if_success ((with_reducible show wpAny _ _ (call (Value.type "enumerate") _) _ _ _))); (fail_if_success ((with_reducible show wpAny _ _ (pyIter (Value.ref _)) _ _ _))); (first | (with_reducible (((with_reducible show wpAny _ _ (eval (PySem.Expr.ListComp _ _ _ _) _) _ _ _); (k_here; k_dflt (refine ListComp_open (by with_unfolding_all rfl) (by rfl) (by decide) ?_ (by intro _; rfl)))))) | (with_reducible ((k_here; (with_reducible show wpAny _ _ (exec (Stmt.Assign [Expr.Name (Str.ofString "odds") _] _ _) _) _ _ _); k_dflt (refine AssignComp_open (by with_unfolding_all rfl) (by with_unfolding_all rfl) (by rfl) (by decide) ?_ (by intro _; rfl))))) | (((with_reducible show wpAny _ _ (exec (PySem.Stmt.For _ _ _ _ _) _) _ _ _); (k_here; (refine wpAny_For ?_ (by intro _; rfl))))) | (k_unfold; (try dsimp only)) | (k_end; wrow_close) | walk1 | (dsimp only; walk1) | (leave1; walk_say "STEP leave1"; try dsimp only) | fail "no step")))
        skip
        (rename Fr _ _ _ _ => F₄₆)
        (rename News _ _ _ _ => N₄₆)
        refine comp_list (vs := gv gb) rfl F₄₆ N₄₆ (.head _) (by rw [List.length_map]; omega) (by decide) rfl
          (fun j m'' => ∀ g, gb[j]? = some g → ∃ t t', m'' (Str.ofString "path") = some (.str (pathStr g.bits) t) ∧ m'' (Str.ofString "room") = some (.int g.room t'))
          (fun j ys'' news₂ => news₂ = _ ∧ IntsAre ys'' (throws (gb.take j))) ⟨rfl, .nil⟩ ?_ ?_ ?_
        · intro j v C ys'' news₂ s' m'' Q' hv hJ hget hn hq
          obtain ⟨g, hg, rfl⟩ := gv_get hv
          obtain ⟨t, t', t'', n, hm⟩ := hgb₃ g (List.mem_of_getElem? hg)
          obtain ⟨rfl, _⟩ := hJ
          exact asg_triple rfl (tup_of (hget _ (.tail _ (.tail _ (.tail _ hm))))) rfl rfl rfl rfl hn fun h' tk hn' hk => hq h' tk _ hn' (fun g' hg' => ⟨t, t', by rw [hg] at hg'; cases hg'; exact (if_neg (by decide)).trans ((if_neg (by decide)).trans (if_pos rfl)), by rw [hg] at hg'; cases hg'; exact (if_neg (by decide)).trans (if_pos rfl)⟩) hk
        · rintro j v ys'' news₂ I' oI' C' oC' D' m₂ h₄ tk₄ hvj ⟨rfl, hyt⟩ hm₂ hBd hNs G₆ M₆ off₆ ne₆
          refine wpAny_tests_nil ?_
          simp only [if_true]
          obtain ⟨g, hg, rfl⟩ := gv_get hvj
          obtain ⟨t, t', b1, b2⟩ := hBd g hg
          have hgl := GI.len g (List.mem_of_getElem? hg)
          obtain ⟨hr1, hr2⟩ := giv_room hgl
          have hpp := path_pos hgl.1
          have hmo : IntMulOk g.room ((((pathStr g.bits).length : Nat) : Int).fdiv 2) := PySem.IntMulOk.of_left (PySem.intBits_le_64 (by omega) (by omega))
          refine hideQ fun Z9 E9 hZ9 => ?_
          (repeat' ((fail_if_success ((with_reducible show wpAny _ _ (exec (PySem.Stmt.If _ _ _ _) _) _ _ _); (fail_if_success (fail_if_success (with_reducible rename AskFacts _ _ => af'))))); (fail_if_success ((with_reducible show wpAny _ _ (compareOp CmpOp.NotEq (Value.ref _) (Value.ref _)) _ _ _); (fail_if_success (fail_if_success (with_reducible rename AskFacts _ _ => af'))))); (fail_if_success ((with_reducible show wpAny _ _ (call (Value.type "list") _) _ _ _); (fail_if_success (fail_if_success (with_reducible rename AskFacts _ _ => af'))))); (fail_if_success ((with_reducible show wpAny _ _ (call (Value.builtin "list.append") _) _ _ _); (fail_if_success (fail_if_success (with_reducible rename AskFacts _ _ => af'))))); (fail_if_success ((with_reducible show wpAny _ _ (binaryOp Operator.Add (Value.ref _) (Value.ref _)) _ _ _); (fail_if_success (fail_if_success (with_reducible rename AskFacts _ _ => af'))))); (fail_if_success ((with_reducible show wpAny _ _ (subscriptTail _ (PySem.Expr.Slice _ _ _ _) (Value.ref _) (Value.ref _)) _ _ _); (fail_if_success (fail_if_success (with_reducible rename AskFacts _ _ => af'))))); (fail_if_success ((with_reducible show wpAny _ _ (binaryOp Operator.Mod (Value.int _ _) (Value.int _ _)) _ _ _); (fail_if_success (fail_if_success (with_reducible rename AskFacts _ _ => af'))))); (fail_if_success ((with_reducible show wpAny _ _ (call (Value.builtin "len") [Value.ref _]) _ _ _); (fail_if_success (fail_if_success (with_reducible rename AskFacts _ _ => af'))))); (fail_if_success ((with_reducible show wpAny _ _ (call (Value.ref 185) _) _ _ _))); (fail_if_success ((with_reducible show wpAny _ _ (call (Value.ref 180) _) _ _ _))); (fail_if_success ((with_reducible show wpAny _ _ (call (Value.ref 175) _) _ _ _))); (fail_if_success ((with_reducible show wpAny _ _ (call (Value.ref 163) _) _ _ _))); (fail_if_success ((with_reducible show wpAny _ _ (call (Value.builtin "sorted") _) _ _ _))); (fail_if_success ((with_reducible show wpAny _ _ (call (Value.builtin "sum") _) _ _ _))); (fail_if_success ((with_reducible show wpAny _ _ (call (Value.type "zip") _) _ _ _))); (fail_if_success ((with_reducible show wpAny _ _ (call (Value.type "enumerate") _) _ _ _))); (fail_if_success ((with_reducible show wpAny _ _ (pyIter (Value.ref _)) _ _ _))); (first | (with_reducible (((with_reducible show wpAny _ _ (eval (PySem.Expr.ListComp _ _ _ _) _) _ _ _); (k_here; k_dflt (refine ListComp_open (by with_unfolding_all rfl) (by rfl) (by decide) ?_ (by intro _; rfl)))))) | (with_reducible ((k_here; (with_reducible show wpAny _ _ (exec (Stmt.Assign [Expr.Name (Str.ofString "odds") _] _ _) _) _ _ _); k_dflt (refine AssignComp_open (by with_unfolding_all rfl) (by with_unfolding_all rfl) (by rfl) (by decide) ?_ (by intro _; rfl))))) | (((with_reducible show wpAny _ _ (exec (PySem.Stmt.For _ _ _ _ _) _) _ _ _); (k_here; (refine wpAny_For ?_ (by intro _; rfl))))) | (k_unfold; (try dsimp only)) | (k_end; wrow_close) | walk1 | (dsimp only; walk1) | (leave1; walk_say "STEP leave1"; try dsimp only) | fail "no step")))
          exact hZ9 _ _ ⟨_, _, _, _, rfl, G₆, M₆, fun p hp => hp, fun p hp => by rw [List.mem_singleton.mp hp]; exact hm₂, off₆, rfl, throws_snoc hg hyt⟩
        rintro DT CT oCT mT ysT news₂ h₄ tk₄ ⟨rfl, hyt⟩ hm₂ G₆ M₆ hNs off6 offC
        rw [List.length_map, List.take_length] at hyt
        refine comp_out G₆ M₆ hNs offC fun h₄₇ F₄₇ N₄₇ => ?_
        (repeat' ((fail_if_success ((with_reducible show wpAny _ _ (exec (PySem.Stmt.If _ _ _ _) _) _ _ _); (fail_if_success (fail_if_success (with_reducible rename AskFacts _ _ => af'))))); (fail_if_success ((with_reducible show wpAny _ _ (compareOp CmpOp.NotEq (Value.ref _) (Value.ref _)) _ _ _); (fail_if_success (fail_if_success (with_reducible rename AskFacts _ _ => af'))))); (fail_if_success ((with_reducible show wpAny _ _ (call (Value.type "list") _) _ _ _); (fail_if_success (fail_if_success (with_reducible rename AskFacts _ _ => af'))))); (fail_if_success ((with_reducible show wpAny _ _ (call (Value.builtin "list.append") _) _ _ _); (fail_if_success (fail_if_success (with_reducible rename AskFacts _ _ => af'))))); (fail_if_success ((with_reducible show wpAny _ _ (binaryOp Operator.Add (Value.ref _) (Value.ref _)) _ _ _); (fail_if_success (fail_if_success (with_reducible rename AskFacts _ _ => af'))))); (fail_if_success ((with_reducible show wpAny _ _ (subscriptTail _ (PySem.Expr.Slice _ _ _ _) (Value.ref _) (Value.ref _)) _ _ _); (fail_if_success (fail_if_success (with_reducible rename AskFacts _ _ => af'))))); (fail_if_success ((with_reducible show wpAny _ _ (binaryOp Operator.Mod (Value.int _ _) (Value.int _ _)) _ _ _); (fail_if_success (fail_if_success (with_reducible rename AskFacts _ _ => af'))))); (fail_if_success ((with_reducible show wpAny _ _ (call (Value.builtin "len") [Value.ref _]) _ _ _); (fail_if_success (fail_if_success (with_reducible rename AskFacts _ _ => af'))))); (fail_if_success ((with_reducible show wpAny _ _ (call (Value.ref 185) _) _ _ _))); (fail_if_success ((with_reducible show wpAny _ _ (call (Value.ref 180) _) _ _ _))); (fail_if_success ((with_reducible show wpAny _ _ (call (Value.ref 175) _) _ _ _))); (fail_if_success ((with_reducible show wpAny _ _ (call (Value.ref 163) _) _ _ _))); (fail_if_success ((with_reducible show wpAny _ _ (call (Value.builtin "sorted") _) _ _ _))); (fail_if_success ((with_reducible show wpAny _ _ (call (Value.builtin "sum") _) _ _ _))); (fail_if_success ((with_reducible show wpAny _ _ (call (Value.type "zip") _) _ _ _))); (fail_if_success ((with_reducible show wpAny _ _ (call (Value.type "enumerate") _) _ _ _))); (fail_if_success ((with_reducible show wpAny _ _ (pyIter (Value.ref _)) _ _ _))); (first | (with_reducible (((with_reducible show wpAny _ _ (eval (PySem.Expr.ListComp _ _ _ _) _) _ _ _); (k_here; k_dflt (refine ListComp_open (by with_unfolding_all rfl) (by rfl) (by decide) ?_ (by intro _; rfl)))))) | (with_reducible ((k_here; (with_reducible show wpAny _ _ (exec (Stmt.Assign [Expr.Name (Str.ofString "odds") _] _ _) _) _ _ _); k_dflt (refine AssignComp_open (by with_unfolding_all rfl) (by with_unfolding_all rfl) (by rfl) (by decide) ?_ (by intro _; rfl))))) | (((with_reducible show wpAny _ _ (exec (PySem.Stmt.For _ _ _ _ _) _) _ _ _); (k_here; (refine wpAny_For ?_ (by intro _; rfl))))) | (k_unfold; (try dsimp only)) | (k_end; wrow_close) | walk1 | (dsimp only; walk1) | (leave1; walk_say "STEP leave1"; try dsimp only) | fail "no step")))
        skip
        refine sum_any rfl F₄₇ N₄₇ (.head _) hyt ?_
        intro h₄₈ tk₄₈ t₄₈ F₄₈ N₄₈
        (repeat' ((fail_if_success ((with_reducible show wpAny _ _ (exec (PySem.Stmt.If _ _ _ _) _) _ _ _); (fail_if_success (fail_if_success (with_reducible rename AskFacts _ _ => af'))))); (fail_if_success ((with_reducible show wpAny _ _ (compareOp CmpOp.NotEq (Value.ref _) (Value.ref _)) _ _ _); (fail_if_success (fail_if_success (with_reducible rename AskFacts _ _ => af'))))); (fail_if_success ((with_reducible show wpAny _ _ (call (Value.type "list") _) _ _ _); (fail_if_success (fail_if_success (with_reducible rename AskFacts _ _ => af'))))); (fail_if_success ((with_reducible show wpAny _ _ (call (Value.builtin "list.append") _) _ _ _); (fail_if_success (fail_if_success (with_reducible rename AskFacts _ _ => af'))))); (fail_if_success ((with_reducible show wpAny _ _ (binaryOp Operator.Add (Value.ref _) (Value.ref _)) _ _ _); (fail_if_success (fail_if_success (with_reducible rename AskFacts _ _ => af'))))); (fail_if_success ((with_reducible show wpAny _ _ (subscriptTail _ (PySem.Expr.Slice _ _ _ _) (Value.ref _) (Value.ref _)) _ _ _); (fail_if_success (fail_if_success (with_reducible rename AskFacts _ _ => af'))))); (fail_if_success ((with_reducible show wpAny _ _ (binaryOp Operator.Mod (Value.int _ _) (Value.int _ _)) _ _ _); (fail_if_success (fail_if_success (with_reducible rename AskFacts _ _ => af'))))); (fail_if_success ((with_reducible show wpAny _ _ (call (Value.builtin "len") [Value.ref _]) _ _ _); (fail_if_success (fail_if_success (with_reducible rename AskFacts _ _ => af'))))); (fail_if_success ((with_reducible show wpAny _ _ (call (Value.ref 185) _) _ _ _))); (fail_if_success ((with_reducible show wpAny _ _ (call (Value.ref 180) _) _ _ _))); (fail_if_success ((with_reducible show wpAny _ _ (call (Value.ref 175) _) _ _ _))); (fail_if_success ((with_reducible show wpAny _ _ (call (Value.ref 163) _) _ _ _))); (fail_if_success ((with_reducible show wpAny _ _ (call (Value.builtin "sorted") _) _ _ _))); (fail_if_success ((with_reducible show wpAny _ _ (call (Value.builtin "sum") _) _ _ _))); (fail_if_success ((with_reducible show wpAny _ _ (call (Value.type "zip") _) _ _ _))); (fail_if_success ((with_reducible show wpAny _ _ (call (Value.type "enumerate") _) _ _ _))); (fail_if_success ((with_reducible show wpAny _ _ (pyIter (Value.ref _)) _ _ _))); (first | (with_reducible (((with_reducible show wpAny _ _ (eval (PySem.Expr.ListComp _ _ _ _) _) _ _ _); (k_here; k_dflt (refine ListComp_open (by with_unfolding_all rfl) (by rfl) (by decide) ?_ (by intro _; rfl)))))) | (with_reducible ((k_here; (with_reducible show wpAny _ _ (exec (Stmt.Assign [Expr.Name (Str.ofString "odds") _] _ _) _) _ _ _); k_dflt (refine AssignComp_open (by with_unfolding_all rfl) (by with_unfolding_all rfl) (by rfl) (by decide) ?_ (by intro _; rfl))))) | (((with_reducible show wpAny _ _ (exec (PySem.Stmt.For _ _ _ _ _) _) _ _ _); (k_here; (refine wpAny_For ?_ (by intro _; rfl))))) | (k_unfold; (try dsimp only)) | (k_end; wrow_close) | walk1 | (dsimp only; walk1) | (leave1; walk_say "STEP leave1"; try dsimp only) | fail "no step")))
        skip
        k_dflt (refine' fewest_spec (ovs := ys₃) (ods := [a - 0, b - a, c - b, 32 - c]) ?fwB ?fwF ?fwX ?fwT ?fwk ?fwd ?fwu ?fwN ?fwa hcs₄ hods ?fwl ?_; (case fwB => k_asm); (case fwF => exact F₄₈); (case fwX => k_asm); (case fwT => k_asm); (case fwk => exact rfl); (case fwd => ktr_room); (case fwu => ktr_units); (case fwN => exact N₄₈); (case fwa => exact .tail _ (.tail _ (.head _))); (case fwl => exact Nat.le_of_ble_eq_true rfl))
        intro t₄₉ h₄₉ tk₄₉ F₄₉ N₄₉
        rw [← throws_few hods GI hp₂ hal]
        (repeat' ((fail_if_success ((with_reducible show wpAny _ _ (exec (PySem.Stmt.If _ _ _ _) _) _ _ _); (fail_if_success (fail_if_success (with_reducible rename AskFacts _ _ => af'))))); (fail_if_success ((with_reducible show wpAny _ _ (compareOp CmpOp.NotEq (Value.ref _) (Value.ref _)) _ _ _); (fail_if_success (fail_if_success (with_reducible rename AskFacts _ _ => af'))))); (fail_if_success ((with_reducible show wpAny _ _ (call (Value.type "list") _) _ _ _); (fail_if_success (fail_if_success (with_reducible rename AskFacts _ _ => af'))))); (fail_if_success ((with_reducible show wpAny _ _ (call (Value.builtin "list.append") _) _ _ _); (fail_if_success (fail_if_success (with_reducible rename AskFacts _ _ => af'))))); (fail_if_success ((with_reducible show wpAny _ _ (binaryOp Operator.Add (Value.ref _) (Value.ref _)) _ _ _); (fail_if_success (fail_if_success (with_reducible rename AskFacts _ _ => af'))))); (fail_if_success ((with_reducible show wpAny _ _ (subscriptTail _ (PySem.Expr.Slice _ _ _ _) (Value.ref _) (Value.ref _)) _ _ _); (fail_if_success (fail_if_success (with_reducible rename AskFacts _ _ => af'))))); (fail_if_success ((with_reducible show wpAny _ _ (binaryOp Operator.Mod (Value.int _ _) (Value.int _ _)) _ _ _); (fail_if_success (fail_if_success (with_reducible rename AskFacts _ _ => af'))))); (fail_if_success ((with_reducible show wpAny _ _ (call (Value.builtin "len") [Value.ref _]) _ _ _); (fail_if_success (fail_if_success (with_reducible rename AskFacts _ _ => af'))))); (fail_if_success ((with_reducible show wpAny _ _ (call (Value.ref 185) _) _ _ _))); (fail_if_success ((with_reducible show wpAny _ _ (call (Value.ref 180) _) _ _ _))); (fail_if_success ((with_reducible show wpAny _ _ (call (Value.ref 175) _) _ _ _))); (fail_if_success ((with_reducible show wpAny _ _ (call (Value.ref 163) _) _ _ _))); (fail_if_success ((with_reducible show wpAny _ _ (call (Value.builtin "sorted") _) _ _ _))); (fail_if_success ((with_reducible show wpAny _ _ (call (Value.builtin "sum") _) _ _ _))); (fail_if_success ((with_reducible show wpAny _ _ (call (Value.type "zip") _) _ _ _))); (fail_if_success ((with_reducible show wpAny _ _ (call (Value.type "enumerate") _) _ _ _))); (fail_if_success ((with_reducible show wpAny _ _ (pyIter (Value.ref _)) _ _ _))); (first | (with_reducible (((with_reducible show wpAny _ _ (eval (PySem.Expr.ListComp _ _ _ _) _) _ _ _); (k_here; k_dflt (refine ListComp_open (by with_unfolding_all rfl) (by rfl) (by decide) ?_ (by intro _; rfl)))))) | (with_reducible ((k_here; (with_reducible show wpAny _ _ (exec (Stmt.Assign [Expr.Name (Str.ofString "odds") _] _ _) _) _ _ _); k_dflt (refine AssignComp_open (by with_unfolding_all rfl) (by with_unfolding_all rfl) (by rfl) (by decide) ?_ (by intro _; rfl))))) | (((with_reducible show wpAny _ _ (exec (PySem.Stmt.For _ _ _ _ _) _) _ _ _); (k_here; (refine wpAny_For ?_ (by intro _; rfl))))) | (k_unfold; (try dsimp only)) | (k_end; wrow_close) | walk1 | (dsimp only; walk1) | (leave1; walk_say "STEP leave1"; try dsimp only) | fail "no step")))
        refine hQL _ _ ?_
        rw [show ((throws gb).sum == (throws gb).sum) = true from beq_self_eq_true _]
        dsimp only
        k_steps
end Mine
end

theorem PySem.Challenge.cw_ik0178_01_holds : PySem.Challenge.rw_ik0178_01.Holds :=
  Mine.law_holds

import PyProof.Rows.All
import Wide.All
import OpenK.AllK
import Wide.FinOn
import KE.KSlice
import KE.KEqSeq
import KE.KRevSl
import KE.RegKPar
import PySem.Challenge.RW_ij0053_01
set_option Elab.async false
set_option compiler.extract_closed false
section
open PySem PySem.W PyProof.Rows
set_option maxRecDepth 100000
namespace Mine
abbrev pickS {α : Type} (s : α) (_ : s = s) : α := s
def st0 : PySem.Stmt := pickS _ (Option.some.inj (Eq.refl PySem.Challenge.pw_ij0053_01.main.body[0]?))
def st1 : PySem.Stmt := pickS _ (Option.some.inj (Eq.refl PySem.Challenge.pw_ij0053_01.main.body[1]?))
def st2 : PySem.Stmt := pickS _ (Option.some.inj (Eq.refl PySem.Challenge.pw_ij0053_01.main.body[2]?))
def st3 : PySem.Stmt := pickS _ (Option.some.inj (Eq.refl PySem.Challenge.pw_ij0053_01.main.body[3]?))
def st4 : PySem.Stmt := pickS _ (Option.some.inj (Eq.refl PySem.Challenge.pw_ij0053_01.main.body[4]?))
def st5 : PySem.Stmt := pickS _ (Option.some.inj (Eq.refl PySem.Challenge.pw_ij0053_01.main.body[5]?))
def st6 : PySem.Stmt := pickS _ (Option.some.inj (Eq.refl PySem.Challenge.pw_ij0053_01.main.body[6]?))
def st7 : PySem.Stmt := pickS _ (Option.some.inj (Eq.refl PySem.Challenge.pw_ij0053_01.main.body[7]?))
def st8 : PySem.Stmt := pickS _ (Option.some.inj (Eq.refl PySem.Challenge.pw_ij0053_01.main.body[8]?))
def st9 : PySem.Stmt := pickS _ (Option.some.inj (Eq.refl PySem.Challenge.pw_ij0053_01.main.body[9]?))
def st10 : PySem.Stmt := pickS _ (Option.some.inj (Eq.refl PySem.Challenge.pw_ij0053_01.main.body[10]?))
def st11 : PySem.Stmt := pickS _ (Option.some.inj (Eq.refl PySem.Challenge.pw_ij0053_01.main.body[11]?))
def st12 : PySem.Stmt := pickS _ (Option.some.inj (Eq.refl PySem.Challenge.pw_ij0053_01.main.body[12]?))
def st13 : PySem.Stmt := pickS _ (Option.some.inj (Eq.refl PySem.Challenge.pw_ij0053_01.main.body[13]?))
def st14 : PySem.Stmt := pickS _ (Option.some.inj (Eq.refl PySem.Challenge.pw_ij0053_01.main.body[14]?))
def st15 : PySem.Stmt := pickS _ (Option.some.inj (Eq.refl PySem.Challenge.pw_ij0053_01.main.body[15]?))
def st16 : PySem.Stmt := pickS _ (Option.some.inj (Eq.refl PySem.Challenge.pw_ij0053_01.main.body[16]?))
def st17 : PySem.Stmt := pickS _ (Option.some.inj (Eq.refl PySem.Challenge.pw_ij0053_01.main.body[17]?))
def st18 : PySem.Stmt := pickS _ (Option.some.inj (Eq.refl PySem.Challenge.pw_ij0053_01.main.body[18]?))
def st19 : PySem.Stmt := pickS _ (Option.some.inj (Eq.refl PySem.Challenge.pw_ij0053_01.main.body[19]?))
def st20 : PySem.Stmt := pickS _ (Option.some.inj (Eq.refl PySem.Challenge.pw_ij0053_01.main.body[20]?))
def st21 : PySem.Stmt := pickS _ (Option.some.inj (Eq.refl PySem.Challenge.pw_ij0053_01.main.body[21]?))
def st22 : PySem.Stmt := pickS _ (Option.some.inj (Eq.refl PySem.Challenge.pw_ij0053_01.main.body[22]?))
def st23 : PySem.Stmt := pickS _ (Option.some.inj (Eq.refl PySem.Challenge.pw_ij0053_01.main.body[23]?))
def st24 : PySem.Stmt := pickS _ (Option.some.inj (Eq.refl PySem.Challenge.pw_ij0053_01.main.body[24]?))
def st25 : PySem.Stmt := pickS _ (Option.some.inj (Eq.refl PySem.Challenge.pw_ij0053_01.main.body[25]?))
def st26 : PySem.Stmt := pickS _ (Option.some.inj (Eq.refl PySem.Challenge.pw_ij0053_01.main.body[26]?))
def st27 : PySem.Stmt := pickS _ (Option.some.inj (Eq.refl PySem.Challenge.pw_ij0053_01.main.body[27]?))
def st28 : PySem.Stmt := pickS _ (Option.some.inj (Eq.refl PySem.Challenge.pw_ij0053_01.main.body[28]?))
def st29 : PySem.Stmt := pickS _ (Option.some.inj (Eq.refl PySem.Challenge.pw_ij0053_01.main.body[29]?))
def st30 : PySem.Stmt := pickS _ (Option.some.inj (Eq.refl PySem.Challenge.pw_ij0053_01.main.body[30]?))
def sc : PySem.Scope := pickS (PySem.Scope.mk _ _ _ _ _) (Option.some.inj (Eq.refl (some PySem.Challenge.pw_ij0053_01.main.scope)))
def p2 : PySem.Program :=
  { main := { body := st0 :: st1 :: st2 :: st3 :: st4 :: st5 :: st6 :: st7 :: st8 :: st9 :: st10 :: st11 :: st12 :: st13 :: st14 :: st15 :: st16 :: st17 :: st18 :: st19 :: st20 :: st21 :: st22 :: st23 :: st24 :: st25 :: st26 :: st27 :: st28 :: st29 :: st30 :: [], scope := sc, futureAnnotations := false, file := "/claim/cut.py", more := [] },
    modules := [], parses := [], absent := [], harvested := [],
    given := { argv := [], stdin := [], environ := (some [([76, 67, 95, 65, 76, 76], [67, 46, 85, 84, 70, 45, 56])]) } }
def rw2 : PySem.W.OpenLaw :=
  { prog := p2, name := (PySem.Str.ofString "law"), about := [(PySem.Str.ofString "insort_right")], foot := 4, most := some 63, bound := none, writes := false }
theorem rw2_eq : rw2 = PySem.Challenge.rw_ij0053_01 := rfl
end Mine
end
section
open PySem PySem.W PyProof.Rows
set_option maxRecDepth 100000
namespace Mine
def mkFn (s : Stmt) (dV kV pm cd : Value) : Option Obj :=
  match s with
  | .FunctionDef n ps b _ _ _ sc _ _ _ => some { cls := .type "function", data := .func { name := n, qualname := n, params := ps, body := .stmts b, scope := sc, globals := 3, closure := [], defaults := dV, kwdefaults := kV, doc := .none, pyModule := pm, annotations := none, code := cd, closureTuple := .none, builtins := 0 } }
  | _ => none
def docStr (s : Stmt) : Option Str :=
  match s with
  | .FunctionDef _ _ (.Expr (.Constant (.str d) _ _) _ :: _) _ _ _ _ _ _ _ => some d
  | _ => none
def mkFnD (s s' : Stmt) (dV kV : Value) (u : Tok) (pm cd : Value) : Option Obj :=
  match s, docStr s' with
  | .FunctionDef n ps b _ _ _ sc _ _ _, some d => some { cls := .type "function", data := .func { name := n, qualname := n, params := ps, body := .stmts b, scope := sc, globals := 3, closure := [], defaults := dV, kwdefaults := kV, doc := .str d u, pyModule := pm, annotations := none, code := cd, closureTuple := .none, builtins := 0 } }
  | _, _ => none
noncomputable def ko2 : Obj := { cls := Value.none, data := Data.dict #[] }
noncomputable def ko3 (P : Params) : Obj := { cls := Value.type "dict", data := Data.dict (({ hash := PyData.keyHash P (Str.ofString "__name__"), key := Value.str (Str.ofString "__name__") 165, val := Value.str (Str.ofString "law_ij0053_01") 474 } :: { hash := PyData.keyHash P (Str.ofString "__doc__"), key := Value.str (Str.ofString "__doc__") 166, val := Value.none } :: { hash := PyData.keyHash P (Str.ofString "__package__"), key := Value.str (Str.ofString "__package__") 167, val := Value.none } :: { hash := PyData.keyHash P (Str.ofString "__loader__"), key := Value.str (Str.ofString "__loader__") 168, val := Value.builtin "__main__.__loader__#opaque" } :: { hash := PyData.keyHash P (Str.ofString "__spec__"), key := Value.str (Str.ofString "__spec__") 169, val := Value.none } :: { hash := PyData.keyHash P (Str.ofString "__annotations__"), key := Value.str (Str.ofString "__annotations__") 170, val := Value.ref 6 } :: { hash := PyData.keyHash P (Str.ofString "__builtins__"), key := Value.str (Str.ofString "__builtins__") 171, val := Value.ref 4 } :: { hash := PyData.keyHash P (Str.ofString "__file__"), key := Value.str (Str.ofString "__file__") 173, val := Value.str (Str.ofString "/claim/cut.py") 172 } :: { hash := PyData.keyHash P (Str.ofString "__cached__"), key := Value.str (Str.ofString "__cached__") 174, val := Value.none } :: { hash := PyData.keyHash P (Str.ofString "_wall"), key := Value.str (Str.ofString "_wall") 193, val := Value.ref 21 } :: { hash := PyData.keyHash P (Str.ofString "_pe_doc"), key := Value.str (Str.ofString "_pe_doc") 202, val := Value.ref 28 } :: { hash := PyData.keyHash P (Str.ofString "insort_right"), key := Value.str (Str.ofString "insort_right") 218, val := Value.ref 37 } :: { hash := PyData.keyHash P (Str.ofString "bisect_right"), key := Value.str (Str.ofString "bisect_right") 233, val := Value.ref 46 } :: { hash := PyData.keyHash P (Str.ofString "insort_left"), key := Value.str (Str.ofString "insort_left") 247, val := Value.ref 55 } :: { hash := PyData.keyHash P (Str.ofString "bisect_left"), key := Value.str (Str.ofString "bisect_left") 262, val := Value.ref 64 } :: { hash := PyData.keyHash P (Str.ofString "_plain_name"), key := Value.str (Str.ofString "_plain_name") 273, val := Value.ref 71 } :: { hash := PyData.keyHash P (Str.ofString "ABCMeta"), key := Value.str (Str.ofString "ABCMeta") 299, val := Value.ref 88 } :: { hash := PyData.keyHash P (Str.ofString "_ABCLike"), key := Value.str (Str.ofString "_ABCLike") 342, val := Value.ref 121 } :: { hash := PyData.keyHash P (Str.ofString "_abc_plain_meta"), key := Value.str (Str.ofString "_abc_plain_meta") 349, val := Value.ref 130 } :: { hash := PyData.keyHash P (Str.ofString "fspath"), key := Value.str (Str.ofString "fspath") 361, val := Value.ref 137 } :: { hash := PyData.keyHash P (Str.ofString "_splitext"), key := Value.str (Str.ofString "_splitext") 378, val := Value.ref 144 } :: { hash := PyData.keyHash P (Str.ofString "_check_arg_types"), key := Value.str (Str.ofString "_check_arg_types") 389, val := Value.ref 151 } :: { hash := PyData.keyHash P (Str.ofString "_get_sep"), key := Value.str (Str.ofString "_get_sep") 398, val := Value.ref 158 } :: { hash := PyData.keyHash P (Str.ofString "join"), key := Value.str (Str.ofString "join") 410, val := Value.ref 165 } :: { hash := PyData.keyHash P (Str.ofString "splitext"), key := Value.str (Str.ofString "splitext") 419, val := Value.ref 172 } :: { hash := PyData.keyHash P (Str.ofString "basename"), key := Value.str (Str.ofString "basename") 462, val := Value.ref 182 } :: { hash := PyData.keyHash P (Str.ofString "dirname"), key := Value.str (Str.ofString "dirname") 473, val := Value.ref 189 } :: { hash := PyData.keyHash P (Str.ofString "_law_file"), key := Value.str (Str.ofString "_law_file") 482, val := Value.ref 196 } :: { hash := PyData.keyHash P (Str.ofString "_law_end"), key := Value.str (Str.ofString "_law_end") 489, val := Value.ref 203 } :: { hash := PyData.keyHash P (Str.ofString "_law_laid"), key := Value.str (Str.ofString "_law_laid") 495, val := Value.ref 208 } :: { hash := PyData.keyHash P (Str.ofString "law"), key := Value.str (Str.ofString "law") 501, val := Value.ref 213 } :: []).toArray) 31 }
noncomputable def ko29 : Obj := { cls := Value.type "tuple", data := Data.seq #[Value.int 0 205, Value.none] }
noncomputable def ko30 (P : Params) : Obj := { cls := Value.type "dict", data := Data.dict #[{ hash := PyData.keyHash P (Str.ofString "key"), key := Value.str (Str.ofString "key") 206, val := Value.none }] 1 }
noncomputable def ko36 : Obj := { cls := Value.type "code", data := Data.fields #[Value.str (Str.ofString "insort_right") 207, Value.str (Str.ofString "insort_right") 208, Value.str (Str.ofString "/claim/cut.py") 209, Value.int 13 0, Value.int 4 0, Value.int 0 0, Value.int 1 0, Value.int 3 0, Value.ref 31, Value.bool true, Value.int 181 0, Value.ref 32, Value.none, Value.ref 33, Value.ref 34, Value.ref 35, Value.int 215 0, Value.int 13 0, Value.str (Str.ofString "/claim/cut.py") 216] }
noncomputable def ko37 : Obj := pickS _ (Option.some.inj (Eq.refl (mkFnD st3 st3 (Value.ref 29) (Value.ref 30) 217 (Value.str (Str.ofString "cpy313.bisect") 203) (Value.ref 36))))
noncomputable def ko38 : Obj := { cls := Value.type "tuple", data := Data.seq #[Value.int 0 219, Value.none] }
noncomputable def ko39 (P : Params) : Obj := { cls := Value.type "dict", data := Data.dict #[{ hash := PyData.keyHash P (Str.ofString "key"), key := Value.str (Str.ofString "key") 220, val := Value.none }] 1 }
noncomputable def ko45 : Obj := { cls := Value.type "code", data := Data.fields #[Value.str (Str.ofString "bisect_right") 221, Value.str (Str.ofString "bisect_right") 222, Value.str (Str.ofString "/claim/cut.py") 223, Value.int 28 0, Value.int 4 0, Value.int 0 0, Value.int 1 0, Value.int 3 0, Value.ref 40, Value.bool true, Value.int 181 0, Value.ref 41, Value.none, Value.ref 42, Value.ref 43, Value.ref 44, Value.int 230 0, Value.int 28 0, Value.str (Str.ofString "/claim/cut.py") 231] }
noncomputable def ko46 : Obj := pickS _ (Option.some.inj (Eq.refl (mkFnD st4 st4 (Value.ref 38) (Value.ref 39) 232 (Value.str (Str.ofString "cpy313.bisect") 203) (Value.ref 45))))
noncomputable def ko47 : Obj := { cls := Value.type "tuple", data := Data.seq #[Value.int 0 234, Value.none] }
noncomputable def ko48 (P : Params) : Obj := { cls := Value.type "dict", data := Data.dict #[{ hash := PyData.keyHash P (Str.ofString "key"), key := Value.str (Str.ofString "key") 235, val := Value.none }] 1 }
noncomputable def ko54 : Obj := { cls := Value.type "code", data := Data.fields #[Value.str (Str.ofString "insort_left") 236, Value.str (Str.ofString "insort_left") 237, Value.str (Str.ofString "/claim/cut.py") 238, Value.int 59 0, Value.int 4 0, Value.int 0 0, Value.int 1 0, Value.int 3 0, Value.ref 49, Value.bool true, Value.int 181 0, Value.ref 50, Value.none, Value.ref 51, Value.ref 52, Value.ref 53, Value.int 244 0, Value.int 59 0, Value.str (Str.ofString "/claim/cut.py") 245] }
noncomputable def ko55 : Obj := pickS _ (Option.some.inj (Eq.refl (mkFnD st5 st5 (Value.ref 47) (Value.ref 48) 246 (Value.str (Str.ofString "cpy313.bisect") 203) (Value.ref 54))))
noncomputable def ko56 : Obj := { cls := Value.type "tuple", data := Data.seq #[Value.int 0 248, Value.none] }
noncomputable def ko57 (P : Params) : Obj := { cls := Value.type "dict", data := Data.dict #[{ hash := PyData.keyHash P (Str.ofString "key"), key := Value.str (Str.ofString "key") 249, val := Value.none }] 1 }
noncomputable def ko63 : Obj := { cls := Value.type "code", data := Data.fields #[Value.str (Str.ofString "bisect_left") 250, Value.str (Str.ofString "bisect_left") 251, Value.str (Str.ofString "/claim/cut.py") 252, Value.int 74 0, Value.int 4 0, Value.int 0 0, Value.int 1 0, Value.int 3 0, Value.ref 58, Value.bool true, Value.int 181 0, Value.ref 59, Value.none, Value.ref 60, Value.ref 61, Value.ref 62, Value.int 259 0, Value.int 74 0, Value.str (Str.ofString "/claim/cut.py") 260] }
noncomputable def ko64 : Obj := pickS _ (Option.some.inj (Eq.refl (mkFnD st6 st6 (Value.ref 56) (Value.ref 57) 261 (Value.str (Str.ofString "cpy313.bisect") 203) (Value.ref 63))))
noncomputable def ko136 : Obj := { cls := Value.type "code", data := Data.fields #[Value.str (Str.ofString "fspath") 352, Value.str (Str.ofString "fspath") 353, Value.str (Str.ofString "/claim/cut.py") 354, Value.int 136 0, Value.int 1 0, Value.int 0 0, Value.int 0 0, Value.int 3 0, Value.ref 131, Value.bool true, Value.int 181 0, Value.ref 132, Value.none, Value.ref 133, Value.ref 134, Value.ref 135, Value.int 359 0, Value.int 136 0, Value.str (Str.ofString "/claim/cut.py") 360] }
noncomputable def ko137 : Obj := pickS _ (Option.some.inj (Eq.refl (mkFn st15 Value.none Value.none (Value.str (Str.ofString "os") 350) (Value.ref 136))))
noncomputable def ko143 : Obj := { cls := Value.type "code", data := Data.fields #[Value.str (Str.ofString "_splitext") 364, Value.str (Str.ofString "_splitext") 365, Value.str (Str.ofString "/claim/cut.py") 366, Value.int 153 0, Value.int 4 0, Value.int 0 0, Value.int 0 0, Value.int 3 0, Value.ref 138, Value.bool true, Value.int 181 0, Value.ref 139, Value.none, Value.ref 140, Value.ref 141, Value.ref 142, Value.int 375 0, Value.int 153 0, Value.str (Str.ofString "/claim/cut.py") 376] }
noncomputable def ko144 : Obj := pickS _ (Option.some.inj (Eq.refl (mkFnD st17 st17 Value.none Value.none 377 (Value.str (Str.ofString "cpy313.genericpath") 362) (Value.ref 143))))
noncomputable def ko157 : Obj := { cls := Value.type "code", data := Data.fields #[Value.str (Str.ofString "_get_sep") 392, Value.str (Str.ofString "_get_sep") 393, Value.str (Str.ofString "/claim/cut.py") 394, Value.int 182 0, Value.int 1 0, Value.int 0 0, Value.int 0 0, Value.int 3 0, Value.ref 152, Value.bool true, Value.int 181 0, Value.ref 153, Value.none, Value.ref 154, Value.ref 155, Value.ref 156, Value.int 396 0, Value.int 182 0, Value.str (Str.ofString "/claim/cut.py") 397] }
noncomputable def ko158 : Obj := pickS _ (Option.some.inj (Eq.refl (mkFn st20 Value.none Value.none (Value.str (Str.ofString "cpy313.posixpath") 390) (Value.ref 157))))
noncomputable def ko164 : Obj := { cls := Value.type "code", data := Data.fields #[Value.str (Str.ofString "join") 399, Value.str (Str.ofString "join") 400, Value.str (Str.ofString "/claim/cut.py") 401, Value.int 187 0, Value.int 1 0, Value.int 0 0, Value.int 0 0, Value.int 7 0, Value.ref 159, Value.bool true, Value.int 181 0, Value.ref 160, Value.none, Value.ref 161, Value.ref 162, Value.ref 163, Value.int 407 0, Value.int 187 0, Value.str (Str.ofString "/claim/cut.py") 408] }
noncomputable def ko165 : Obj := pickS _ (Option.some.inj (Eq.refl (mkFnD st21 st21 Value.none Value.none 409 (Value.str (Str.ofString "cpy313.posixpath") 390) (Value.ref 164))))
noncomputable def ko171 : Obj := { cls := Value.type "code", data := Data.fields #[Value.str (Str.ofString "splitext") 411, Value.str (Str.ofString "splitext") 412, Value.str (Str.ofString "/claim/cut.py") 413, Value.int 208 0, Value.int 1 0, Value.int 0 0, Value.int 0 0, Value.int 3 0, Value.ref 166, Value.bool true, Value.int 181 0, Value.ref 167, Value.none, Value.ref 168, Value.ref 169, Value.ref 170, Value.int 417 0, Value.int 208 0, Value.str (Str.ofString "/claim/cut.py") 418] }
noncomputable def ko172 : Obj := pickS _ (Option.some.inj (Eq.refl (mkFnD st22 st17 Value.none Value.none 377 (Value.str (Str.ofString "cpy313.posixpath") 390) (Value.ref 171))))
noncomputable def ko181 : Obj := { cls := Value.type "code", data := Data.fields #[Value.str (Str.ofString "basename") 453, Value.str (Str.ofString "basename") 454, Value.str (Str.ofString "/claim/cut.py") 455, Value.int 218 0, Value.int 1 0, Value.int 0 0, Value.int 0 0, Value.int 3 0, Value.ref 176, Value.bool true, Value.int 181 0, Value.ref 177, Value.none, Value.ref 178, Value.ref 179, Value.ref 180, Value.int 459 0, Value.int 218 0, Value.str (Str.ofString "/claim/cut.py") 460] }
noncomputable def ko182 : Obj := pickS _ (Option.some.inj (Eq.refl (mkFnD st24 st24 Value.none Value.none 461 (Value.str (Str.ofString "cpy313.posixpath") 390) (Value.ref 181))))
noncomputable def ko188 : Obj := { cls := Value.type "code", data := Data.fields #[Value.str (Str.ofString "dirname") 463, Value.str (Str.ofString "dirname") 464, Value.str (Str.ofString "/claim/cut.py") 465, Value.int 224 0, Value.int 1 0, Value.int 0 0, Value.int 0 0, Value.int 3 0, Value.ref 183, Value.bool true, Value.int 181 0, Value.ref 184, Value.none, Value.ref 185, Value.ref 186, Value.ref 187, Value.int 470 0, Value.int 224 0, Value.str (Str.ofString "/claim/cut.py") 471] }
noncomputable def ko189 : Obj := pickS _ (Option.some.inj (Eq.refl (mkFnD st25 st25 Value.none Value.none 472 (Value.str (Str.ofString "cpy313.posixpath") 390) (Value.ref 188))))
noncomputable def ko195 : Obj := { cls := Value.type "code", data := Data.fields #[Value.str (Str.ofString "_law_file") 476, Value.str (Str.ofString "_law_file") 477, Value.str (Str.ofString "/claim/cut.py") 478, Value.int 234 0, Value.int 1 0, Value.int 0 0, Value.int 0 0, Value.int 3 0, Value.ref 190, Value.bool true, Value.int 181 0, Value.ref 191, Value.none, Value.ref 192, Value.ref 193, Value.ref 194, Value.int 480 0, Value.int 234 0, Value.str (Str.ofString "/claim/cut.py") 481] }
noncomputable def ko196 : Obj := pickS _ (Option.some.inj (Eq.refl (mkFn st27 Value.none Value.none (Value.str (Str.ofString "law_ij0053_01") 474) (Value.ref 195))))
noncomputable def ko202 : Obj := { cls := Value.type "code", data := Data.fields #[Value.str (Str.ofString "_law_end") 483, Value.str (Str.ofString "_law_end") 484, Value.str (Str.ofString "/claim/cut.py") 485, Value.int 236 0, Value.int 1 0, Value.int 0 0, Value.int 0 0, Value.int 3 0, Value.ref 197, Value.bool true, Value.int 181 0, Value.ref 198, Value.none, Value.ref 199, Value.ref 200, Value.ref 201, Value.int 487 0, Value.int 236 0, Value.str (Str.ofString "/claim/cut.py") 488] }
noncomputable def ko203 : Obj := pickS _ (Option.some.inj (Eq.refl (mkFn st28 Value.none Value.none (Value.str (Str.ofString "law_ij0053_01") 474) (Value.ref 202))))
noncomputable def ko207 : Obj := { cls := Value.type "code", data := Data.fields #[Value.str (Str.ofString "_law_laid") 490, Value.str (Str.ofString "_law_laid") 491, Value.str (Str.ofString "/claim/cut.py") 492, Value.int 238 0, Value.int 2 0, Value.int 0 0, Value.int 0 0, Value.int 3 0, Value.ref 204, Value.bool true, Value.int 181 0, Value.ref 205, Value.none, Value.none, Value.none, Value.ref 206, Value.int 493 0, Value.int 238 0, Value.str (Str.ofString "/claim/cut.py") 494] }
noncomputable def ko208 : Obj := pickS _ (Option.some.inj (Eq.refl (mkFn st29 Value.none Value.none (Value.str (Str.ofString "law_ij0053_01") 474) (Value.ref 207))))
noncomputable def ko212 : Obj := { cls := Value.type "code", data := Data.fields #[Value.str (Str.ofString "law") 496, Value.str (Str.ofString "law") 497, Value.str (Str.ofString "/claim/cut.py") 498, Value.int 243 0, Value.int 1 0, Value.int 0 0, Value.int 0 0, Value.int 3 0, Value.ref 209, Value.bool true, Value.int 181 0, Value.ref 210, Value.none, Value.none, Value.none, Value.ref 211, Value.int 499 0, Value.int 243 0, Value.str (Str.ofString "/claim/cut.py") 500] }
noncomputable def ko213 : Obj := pickS _ (Option.some.inj (Eq.refl (mkFn st30 Value.none Value.none (Value.str (Str.ofString "law_ij0053_01") 474) (Value.ref 212))))
noncomputable def K2 (P : Params) : Frag := (nat_lit 2, ko2) :: (nat_lit 3, ko3 P) :: (nat_lit 29, ko29) :: (nat_lit 30, ko30 P) :: (nat_lit 36, ko36) :: (nat_lit 37, ko37) :: (nat_lit 38, ko38) :: (nat_lit 39, ko39 P) :: (nat_lit 45, ko45) :: (nat_lit 46, ko46) :: (nat_lit 47, ko47) :: (nat_lit 48, ko48 P) :: (nat_lit 54, ko54) :: (nat_lit 55, ko55) :: (nat_lit 56, ko56) :: (nat_lit 57, ko57 P) :: (nat_lit 63, ko63) :: (nat_lit 64, ko64) :: (nat_lit 136, ko136) :: (nat_lit 137, ko137) :: (nat_lit 143, ko143) :: (nat_lit 144, ko144) :: (nat_lit 157, ko157) :: (nat_lit 158, ko158) :: (nat_lit 164, ko164) :: (nat_lit 165, ko165) :: (nat_lit 171, ko171) :: (nat_lit 172, ko172) :: (nat_lit 181, ko181) :: (nat_lit 182, ko182) :: (nat_lit 188, ko188) :: (nat_lit 189, ko189) :: (nat_lit 195, ko195) :: (nat_lit 196, ko196) :: (nat_lit 202, ko202) :: (nat_lit 203, ko203) :: (nat_lit 207, ko207) :: (nat_lit 208, ko208) :: (nat_lit 212, ko212) :: (nat_lit 213, ko213) :: []
end Mine
end
section
open PySem PySem.W PyProof.Rows
namespace Mine
local macro_rules | `(tactic| k_head) => `(tactic| o_head (kHook Mine.K2 [nat_lit 2, nat_lit 3, nat_lit 29, nat_lit 30, nat_lit 36, nat_lit 37, nat_lit 38, nat_lit 39, nat_lit 45, nat_lit 46, nat_lit 47, nat_lit 48, nat_lit 54, nat_lit 55, nat_lit 56, nat_lit 57, nat_lit 63, nat_lit 64, nat_lit 136, nat_lit 137, nat_lit 143, nat_lit 144, nat_lit 157, nat_lit 158, nat_lit 164, nat_lit 165, nat_lit 171, nat_lit 172, nat_lit 181, nat_lit 182, nat_lit 188, nat_lit 189, nat_lit 195, nat_lit 196, nat_lit 202, nat_lit 203, nat_lit 207, nat_lit 208, nat_lit 212, nat_lit 213] (fun _ => by kernel_rfl)))
set_option maxRecDepth 100000 in
set_option maxHeartbeats 8000000 in
open_top hd for Mine.rw2
theorem walk_off : True := by
  w_top off
  trivial
end Mine
end
section
open PySem PySem.W PyProof.Rows PySem.Calls
set_option maxRecDepth 100000
namespace Mine
section
variable {prog : Program} {w : World} {A : Around} {E : Value → Shared → Prop}
theorem ty_str : typeOf (.type "str") = pure (.type "type") := by kernel_rfl
theorem sub_str_str : isSubtype (.type "str") (.type "str") = pure true := by rw [isSubtype_type]; kernel_rfl
theorem kind_issub_nested : builtinKind "issubclass.nested" = none := by decide +kernel
theorem plain_issub_nested : plainId "issubclass.nested" = true := by decide +kernel
theorem args_issub_nested (a b c : Value) : argsOk "issubclass.nested" ⟨[a, b, c], []⟩ := by unfold argsOk; kernel_rfl
theorem issub_nested_str {dep : Int} {tk : Tok} {s : Shared} {Q : Fin → Shared → Prop} (hq : Q (.done (.ret (.bool true))) s) :
    wpAny (model prog w) A (Builtin.«issubclass.nested» ⟨[.type "str", .type "str", .int dep tk], []⟩) Q E s := by
  have h1 := ty_str
  have h2 := sub_str_str
  repeat (any_goals (first | assumption | (rw [h2]) | wp_step))
theorem issub_nested_str_meets (dep : Int) (tk : Tok) : Meets (Builtin.«issubclass.nested» ⟨[.type "str", .type "str", .int dep tk], []⟩) (fun _ R s => R (.ok (.ret (.bool true))) s) :=
  fun _ _ _ _ _ hs => issub_nested_str hs
theorem issub_nested_tuple {tp : Addr} {rest cs : List Value} {tk : Tok} {s : Shared} {Q : Fin → Shared → Prop} (hcs : cs = Value.type "str" :: rest)
    (htp : s.heap.get? tp = some { cls := .type "tuple", data := .seq cs.toArray })
    (hq : Q (.done (.ret (.bool true))) s) : wpAny (model prog w) A (Builtin.«issubclass.nested» ⟨[.type "str", .ref tp, .int 0 tk], []⟩) Q E s := by
  obtain ⟨h, g, d, t, os⟩ := s
  have hT2 : (⟨h, g, d, t, os⟩ : Shared).TypeIs (.ref tp) "tuple" := ⟨_, htp, rfl⟩
  have f1 := F.isi_sub_tuple
  repeat (any_goals (first | assumption | wp_step))
  refine wpAny_arrayLoop ?_
  simp only [Option.getD_some, List.toList_toArray]
  subst hcs
  rw [List.forIn_cons]
  refine wpAny_bind (wpAny_bind (call_function_meets kind_issub_nested plain_issub_nested F.entry_issubclass_nested (args_issub_nested _ _ _) (issub_nested_str_meets _ _) ?_))
  repeat (any_goals (first | assumption | wp_step))
theorem call_issub_tuple {tp : Addr} {rest : List Value} {s : Shared} {Q : Value → Shared → Prop}
    (htp : s.heap.get? tp = some { cls := .type "tuple", data := .seq (Value.type "str" :: rest).toArray }) (hq : Q (.bool true) s) :
    wpAny (model prog w) A (call (.builtin "issubclass") [.type "str", .ref tp]) Q E s :=
  call_issubclass (S := fun _ R s => s.heap.get? tp = some { cls := .type "tuple", data := .seq (Value.type "str" :: rest).toArray } ∧ R (.ok (.ret (.bool true))) s)
    (fun _ _ _ _ _ hs => issubclass_outer (issub_nested_tuple rfl hs.1 hs.2)) ⟨htp, hq⟩
end
end Mine
end
section
open PySem PySem.W PyProof.Rows PySem.Calls
set_option maxRecDepth 100000
namespace Mine
theorem dummy : (fun (_ : OpenLaw) (_ : Params → Frag) => True) Mine.rw2 Mine.K2 := by
  k_fill
  trivial
def Kept (h : Heap) (as : List Addr) (h' : Heap) : Prop := ∀ b o, b ∉ as → h.get? b = some o → h'.get? b = some o
theorem news_sub {h₀ h : Heap} {L : Addr} {news led : List (Addr × Obj)} (N : News h₀ L h news) (hs : ∀ p ∈ led, p ∈ news) : News h₀ L h led := fun p hp => N p (hs p hp)
theorem peek1_keeps {α : Type} {K : Frag} {M : Model} {A : Around} {E : Value → Shared → Prop} {Q : α → Shared → Prop} {s : Shared} {h₀ : Heap} {L : Addr} {m : Str → Option Value} {news : List (Addr × Obj)} {o : Obj} {r : Addr → α}
    (F : Fr h₀ L s.heap m) (N : News h₀ L s.heap news) (X : K.In s.heap) (hf : o.isFreed = false)
    (q : ∀ D h', Fr h₀ L h' m → News h₀ L h' ((D, o) :: news) → (∀ p ∈ news, p.1 < D) → s.heap.objs.size ≤ D → (∀ b x, s.heap.get? b = some x → h'.get? b = some x) → Q (r D) { s with heap := h' }) :
    ∀ (t : Sem α) (g : Addr → Option α), peek1 K ⟨M.prog, M.w.params⟩ t = some (o, g) → (∀ D, g D = some (r D)) → wpAny M A t Q E s := by
  intro t
  induction t with
  | rule _ k ih => intro g e hg Γ p hΓ; exact ih () g e hg Γ p hΓ
  | point _ k ih => intro g e hg Γ p hΓ; exact ih () g e hg Γ p hΓ
  | ask k ih => intro g e hg Γ p hΓ; exact ih _ g e hg Γ p hΓ
  | load a _ k ih =>
    intro g e hg Γ p hΓ
    simp only [peek1] at e
    split at e
    · rename_i ob ho; exact ⟨ob, X _ _ ho, ih ob g e hg Γ p hΓ⟩
    · cases e
  | alloc ob k _ =>
    intro g e hg
    have e : some (ob, fun D => peek K ⟨M.prog, M.w.params⟩ (k D)) = some (o, g) := e
    obtain ⟨e1, e2⟩ := Prod.mk.inj (Option.some.inj e)
    subst e1
    subst e2
    have l : ∀ p ∈ news, p.1 < s.heap.objs.size := fun p hp => Heap.lt_size (N p hp).1
    have kp : ∀ b x, s.heap.get? b = some x → (s.heap.push ob).get? b = some x := fun b x hb => Heap.get?_push_of_some _ hb
    have X' : K.In (s.heap.push ob) := X.keeps kp
    show wpAny M A (alloc ob >>= k) Q E s
    refine wpAny_bind (wpAny_alloc ?_)
    exact (Looks.of_peek (M := M) (h := s.heap.push ob) X' (hg s.heap.objs.size)).here (s := { s with heap := s.heap.push ob }) (q _ _ (F.push ob) (News.push F N ob hf) l (Nat.le_refl _) kp)
  | _ => intro g e; cases e
section
variable {prog : Program} {w : World} {A A₀ : Around} {s : Shared} {K : Frag} {L : Addr} {h₀ base : Heap} {m mg mb : Str → Option Value} {led : List (Addr × Obj)} {p : Program} {loose : List Str} {mean : ExcName → Option Value}
theorem codeL {env : Env} {outer : List Env} {R : Result → Shared → Prop} {name qual : Str} {params : Arguments} {body : List Stmt} {scope : Scope} {dV kV doc pm cdv ct oc : Value} {an od : Option Addr} {osl : Array (Option Value)} {f : Addr} {args : Args} {binds : List (Str × Value)}
    (B : Below A₀ base outer h₀) (F : Fr h₀ L s.heap m) (X₀ : K.In h₀) (N : News h₀ L s.heap led) (T : Top p loose mean mg mb h₀) (hA : A.frames = some (env :: outer)) (hf : env.frame = some L) (hke : env.scope.kind = .function)
    (ho : K.lookup f = some ⟨oc, od, .func (fnOf name qual params body scope dV kV doc pm an cdv ct), osl⟩) (hcd : codeIn K cdv qual = true) (hroom : A.depth < recursionLimit)
    (hbind : BindsTo s (fnOf name qual params body scope dV kV doc pm an cdv ct) args binds) (hloc : ∀ y ∈ binds, scope.names.lookup y.1 = some .local)
    (h : ∀ g L' h₁, Fr h₀ L g m → Fr g L' h₁ (fun y => binds.reverse.lookup y) → News g L' h₁ led → Below A base (env :: outer) g → K.In g → Top p loose mean mg mb g → (∀ q ∈ led, q.1 < L') → Kept s.heap (led.map (·.1)) g →
      wpAny (model prog w) (A.deeper (envOf qual scope L' f cdv)) (execs body (envOf qual scope L' f cdv))
        (fun fl s' => LeaveK h₀ L m g (fun r s' => Kept s.heap (led.map (·.1)) s'.heap → R r s') (match fl with | .ret v => v | _ => .none) s')
        (fun e s' => wpAny (model prog w) (A.deeper (envOf qual scope L' f cdv)) (leaving (envOf qual scope L' f cdv) e) (fun _ s'' => R (.error e) s'') (fun e' s'' => R (.error e') s'') s')
        { s with heap := h₁, toks := s.toks + binds.length })
    (hco : scope.isCoroutine = false) (hgen : scope.isGenerator = false) (hk : scope.kind = .function)
    (hcell : ∀ x ∈ scope.names, x.2 ≠ .cell) : codeAny (model prog w) A (.call (.ref f) args) R s := by
  obtain ⟨FG, BG, st, lv⟩ := groundX (R := fun r s' => Kept s.heap (led.map (·.1)) s'.heap → R r s') B F N hA hf hke
  have kg : Kept s.heap (led.map (·.1)) (hideAll s.heap (led.map (·.1))) := fun b o hb e => hideAll_get _ e hb
  refine codeAny_call_def (fd := fnOf name qual params body scope dV kV doc pm an cdv ct) (body := body) (binds := binds) hroom ((X₀.keeps F.keep) _ _ ho) rfl (T.nolimit.keeps F.keep) (codeRec_of (X₀.keeps F.keep) hcd) rfl hbind hcell hloc (fun h₁ hns hk₁ => ?_) hco hgen hk
  refine wpAny_mono (h _ s.heap.objs.size h₁ FG ⟨hns, fun b o e => hk₁ b o (of_hideAll _ e), Nat.le_of_eq (hideAll_size _ _)⟩
    (fun p hp => ⟨hk₁ _ _ (N p hp).1, Nat.ne_of_lt (Heap.lt_size (N p hp).1), hideAll_none _ (List.mem_map_of_mem hp)⟩) BG (X₀.keeps st) (T.keeps st) (fun p hp => Heap.lt_size (N p hp).1) kg) (fun fl s' hl => ?_) fun _ _ y => y
  obtain ⟨L', m', news', F', N', k⟩ := id hl
  exact lv _ _ hl fun b o hb e => F'.keep b o (kg b o hb e)
theorem restL {env : Env} {outer : List Env} {R : Result → Shared → Prop} {name qual : Str} {params : Arguments} {body : List Stmt} {scope : Scope} {dV kV doc pm cdv ct oc : Value} {an od : Option Addr} {osl : Array (Option Value)} {f : Addr} {args : Args} {vs : List Value} {g₁ : Addr → Option (List (Str × Value))} {binds : Addr → List (Str × Value)}
    (B : Below A₀ base outer h₀) (F : Fr h₀ L s.heap m) (X₀ : K.In h₀) (N : News h₀ L s.heap led) (T : Top p loose mean mg mb h₀) (hA : A.frames = some (env :: outer)) (hf : env.frame = some L) (hke : env.scope.kind = .function)
    (ho : K.lookup f = some ⟨oc, od, .func (fnOf name qual params body scope dV kV doc pm an cdv ct), osl⟩) (hcd : codeIn K cdv qual = true) (hroom : A.depth < recursionLimit)
    (hv : args.pos.drop (params.posonlyargs.length + params.args.length) = vs)
    (hp : peek1 K ⟨prog, w.params⟩ (bindArgs (fnOf name qual params body scope dV kV doc pm an cdv ct) args) = some (({ cls := .type "tuple", data := .seq vs.toArray } : Obj), g₁))
    (hg : ∀ D, g₁ D = some (binds D)) (hloc : ∀ D, ∀ y ∈ binds D, scope.names.lookup y.1 = some .local)
    (h : ∀ D g L' h₁, (∀ q ∈ led, q.1 < D) → Fr h₀ L g m → Fr g L' h₁ (fun y => (binds D).reverse.lookup y) → News g L' h₁ ((D, ({ cls := .type "tuple", data := .seq vs.toArray } : Obj)) :: led) → Below A base (env :: outer) g → K.In g → Top p loose mean mg mb g →
      wpAny (model prog w) (A.deeper (envOf qual scope L' f cdv)) (execs body (envOf qual scope L' f cdv))
        (fun fl s' => LeaveK h₀ L m g (fun r s' => Kept s.heap (led.map (·.1)) s'.heap → R r s') (match fl with | .ret v => v | _ => .none) s')
        (fun e s' => wpAny (model prog w) (A.deeper (envOf qual scope L' f cdv)) (leaving (envOf qual scope L' f cdv) e) (fun _ s'' => R (.error e) s'') (fun e' s'' => R (.error e') s'') s')
        { s with heap := h₁, toks := s.toks + (binds D).length })
    (hco : scope.isCoroutine = false) (hgen : scope.isGenerator = false) (hk : scope.kind = .function)
    (hcell : ∀ x ∈ scope.names, x.2 ≠ .cell) : codeAny (model prog w) A (.call (.ref f) args) R s := by
  have _ := hv
  refine codeAny_call_function (fd := fnOf name qual params body scope dV kV doc pm an cdv ct) (body := body) hroom ((X₀.keeps F.keep) _ _ ho) rfl hco hgen rfl (codeRec_of (X₀.keeps F.keep) hcd) ?_
  refine peek1_keeps (o := ({ cls := .type "tuple", data := .seq vs.toArray } : Obj)) F N (X₀.keeps F.keep) rfl (r := binds) (fun D h' F' N' l hD kp => ?_) _ g₁ hp hg
  have k0 : ∀ b o, b ∉ led.map (·.1) → s.heap.get? b = some o → b ∉ ((D, ({ cls := .type "tuple", data := .seq vs.toArray } : Obj)) :: led).map (·.1) := fun b o hb e q => by
    rcases List.mem_cons.mp q with rfl | q
    · exact absurd (Heap.lt_size e) (Nat.not_lt_of_le hD)
    · exact hb q
  obtain ⟨FG, BG, st, lv⟩ := groundX (s := { s with heap := h' }) (R := fun r s' => Kept s.heap (led.map (·.1)) s'.heap → R r s') B F' N' hA hf hke
  refine wpAny_newFunctionEnv hcell (hloc D) (fun h₁ hns hsb => ⟨(T.nolimit.keeps F'.keep).fresh _ hsb, codeAny_func ?_⟩) hk
  have hk₁ : ∀ b o, h'.get? b = some o → h₁.get? b = some o := fun b o e => hsb.extBut b o (Nat.ne_of_lt (Heap.lt_size e)) (Heap.get?_push_of_some _ e)
  show wpAny (model prog w) (A.deeper (envOf qual scope h'.objs.size f cdv)) (execs body (envOf qual scope h'.objs.size f cdv)) _ _ _
  refine wpAny_mono (h D _ h'.objs.size h₁ l FG ⟨hns, fun b o e => hk₁ b o (of_hideAll _ e), Nat.le_of_eq (hideAll_size _ _)⟩
    (fun p hp => ⟨hk₁ _ _ (N' p hp).1, Nat.ne_of_lt (Heap.lt_size (N' p hp).1), hideAll_none _ (List.mem_map_of_mem hp)⟩) BG (X₀.keeps st) (T.keeps st)) (fun fl s' hl => ?_) fun _ _ y => y
  obtain ⟨L', m', news', F'', N'', k⟩ := id hl
  exact lv _ _ hl fun b o hb e => F''.keep b o (hideAll_get _ (kp _ _ e) (k0 b o hb e))
end
def Ext (h h' : Heap) : Prop := ∀ b o, h.get? b = some o → h'.get? b = some o
theorem Kept.ext {h h' : Heap} (k : Kept h [] h') : Ext h h' := fun b o e => k b o List.not_mem_nil e
def Con (prog : Program) (w : World) (f : Addr) (vs : List Value) (kw : List (Str × Value)) (Pre : Heap → Prop) (D : Nat) (Post : Value → Prop) : Prop :=
  ∀ (p : Program) (loose : List Str) (mean : ExcName → Option Value) (mg mb : Str → Option Value) (dp un : Nat) (gd : Option (List Code)) (cn : Str) (sn : List (Str × NameKind)) (sg si : Bool) (so : List (Str × Const)) (a : Addr) (ccd : Value) (cl : List (Str × Addr)) (outer : List Env) (A₀ : Around) (base h₀ : Heap) (L : Addr) (m : Str → Option Value) (s : Shared) (Q E : Value → Shared → Prop),
    Below A₀ base outer h₀ → Fr h₀ L s.heap m → Frag.In (Mine.K2 w.params) h₀ → Top p loose mean mg mb h₀ → dp + D < recursionLimit → un + 8 * D < cLine → Pre s.heap →
    (∀ r h' tk', Post r → Ext s.heap h' → Fr h₀ L h' m → Q r { s with heap := h', toks := tk' }) →
    wpAny (model prog w) (ktrTop dp un gd cn { kind := .function, names := sn, isGenerator := sg, isCoroutine := si, more := so } L a ccd cl outer) (call (.ref f) vs kw) Q E s
end Mine
namespace Mine
section
variable {prog : Program} {w : World} {f : Addr} {vs : List Value} {kw : List (Str × Value)} {Pre : Heap → Prop} {Post : Value → Prop}
  {p : Program} {loose : List Str} {mean : ExcName → Option Value} {mg mb : Str → Option Value} {dp un : Nat} {gd : Option (List Code)} {cn : Str} {sn : List (Str × NameKind)} {sg si : Bool} {so : List (Str × Const)} {a : Addr} {ccd : Value} {cl : List (Str × Addr)} {outer : List Env} {A₀ : Around} {base h₀ : Heap} {L : Addr} {m : Str → Option Value} {news : List (Addr × Obj)} {s : Shared} {Q E : Value → Shared → Prop}
theorem con_useK {D : Nat} (C : Con prog w f vs kw Pre D Post) (B : Below A₀ base outer h₀) (F : Fr h₀ L s.heap m) (X : Frag.In (Mine.K2 w.params) h₀) (T : Top p loose mean mg mb h₀) (hd : dp + D < recursionLimit) (hu : un + 8 * D < cLine) (hp : Pre s.heap)
    (ret : ∀ r h' tk', Post r → Ext s.heap h' → Fr h₀ L h' m → Q r { s with heap := h', toks := tk' }) :
    wpAny (model prog w) (ktrTop dp un gd cn { kind := .function, names := sn, isGenerator := sg, isCoroutine := si, more := so } L a ccd cl outer) (call (.ref f) vs kw) Q E s :=
  C _ _ _ _ _ _ _ _ _ _ _ _ _ _ _ _ _ _ _ _ _ _ _ _ _ B F X T hd hu hp ret
theorem con_use {D : Nat} (C : Con prog w f vs kw Pre D Post) (B : Below A₀ base outer h₀) (F : Fr h₀ L s.heap m) (X : Frag.In (Mine.K2 w.params) h₀) (N : News h₀ L s.heap news) (T : Top p loose mean mg mb h₀) (hd : dp + D < recursionLimit) (hu : un + 8 * D < cLine) (hp : Pre s.heap)
    (ret : ∀ r h' tk', Post r → Fr h₀ L h' m → News h₀ L h' news → Q r { s with heap := h', toks := tk' }) :
    wpAny (model prog w) (ktrTop dp un gd cn { kind := .function, names := sn, isGenerator := sg, isCoroutine := si, more := so } L a ccd cl outer) (call (.ref f) vs kw) Q E s :=
  con_useK C B F X T hd hu hp fun r h' tk' hp e F' => ret r h' tk' hp F' fun q hq => ⟨e _ _ (N q hq).1, (N q hq).2⟩
end
section
variable {prog : Program} {w : World} {A : Around} {E : Value → Shared → Prop} {env : Env} {test : PySem.Expr} {body orelse : List Stmt} {Q : Flow → Shared → Prop}
structure Wh (prog : Program) (w : World) (A : Around) (E : Value → Shared → Prop) (env : Env) (test : PySem.Expr) (body orelse : List Stmt) (Q : Flow → Shared → Prop) (s : Shared) : Prop where
  out : WhlRest prog w A E env test body orelse Q 0 s
def WhP (prog : Program) (w : World) (A : Around) (E : Value → Shared → Prop) (env : Env) (test : PySem.Expr) (body orelse : List Stmt) (Q : Flow → Shared → Prop) (f : Flow) (s : Shared) : Prop :=
  match f with
  | .next => Wh prog w A E env test body orelse Q s
  | .cont => Wh prog w A E env test body orelse Q s
  | .brk => Q .next s
  | .ret v => Q (.ret v) s
theorem whl_loop (hE : PassesOwn (model prog w) A env E) (I : Nat → Shared → Prop)
    (turn : ∀ n s, (∀ m s', m < n → I m s' → Wh prog w A E env test body orelse Q s') → I n s →
      wpAny (model prog w) A (isTrue test env (eval test env)) (fun b s₂ => WhlIf b (wpAny (model prog w) A (execs body env) (WhP prog w A E env test body orelse Q) E s₂) (wpAny (model prog w) A (execs orelse env) Q E s₂)) E s) :
    ∀ n s, I n s → Wh prog w A E env test body orelse Q s := by
  intro n
  induction n using Nat.strongRecOn with
  | ind n ih =>
    intro s hI
    refine ⟨whl_turn (k := 0) hE (wpAny_mono (turn n s (fun m s' hm hI' => ih m hm s' hI') hI) (fun b s₂ hb => ?_) fun _ _ x => x)⟩
    cases b with
    | false => exact hb
    | true =>
      refine wpAny_mono (show wpAny _ _ (execs body env) (WhP prog w A E env test body orelse Q) E s₂ from hb) (fun f s₃ hf => ?_) fun _ _ x => x
      cases f with
      | next => exact hf.out
      | cont => exact hf.out
      | brk => exact hf
      | ret v => exact hf
theorem wh_start {s : Shared} {pos : Pos} (h : Wh prog w A E env test body orelse Q s) : wpAny (model prog w) A (exec (.While test body orelse pos) env) Q E s := whl_start 0 h.out
theorem whlIf_split {c : Prop} [Decidable c] {T F : Prop} (h1 : c → T) (h2 : ¬ c → F) : WhlIf (decide c) T F := by
  by_cases h : c
  · exact .yes (decide_eq_true h) (h1 h)
  · exact .no (decide_eq_false h) (h2 h)
end
section
variable {prog : Program} {w : World} {A : Around} {E : Value → Shared → Prop} {s : Shared} {g : Heap} {L : Addr} {m : Str → Option Value} {l : Addr} {vs : List Value} {xs : List Str} {Q : Value → Shared → Prop}
theorem len_ground (F : Fr g L s.heap m) (hl : g.IsList l vs.toArray) (hfit : vs.length ≤ 1000) (h : ∀ t tk, Q (.int vs.length t) { s with toks := tk }) : wpAny (model prog w) A (PySem.call (.builtin "len") [.ref l]) Q E s := by
  refine len_list (hl.at fun o e => F.keep l o e) ?_ ?_
  · simp only [List.size_toArray]; omega
  · simpa only [List.size_toArray] using h _ _
theorem strs_get {vs : List Value} {xs : List Str} (h : StrsAre vs xs) : ∀ k, k < vs.length → ∃ t, vs[k]? = some (.str (xs.getD k (Str.ofString "")) t) := by
  induction h with
  | nil => intro k hk; simp at hk
  | cons y t _ ih =>
    intro k hk
    cases k with
    | zero => exact ⟨t, rfl⟩
    | succ k => obtain ⟨t', e⟩ := ih k (by simpa using hk); exact ⟨t', by simpa using e⟩
theorem strs_len {vs : List Value} {xs : List Str} (h : StrsAre vs xs) : vs.length = xs.length := by
  induction h with
  | nil => rfl
  | cons _ _ _ ih => simp [ih]
theorem item_ground {value slice : PySem.Expr} {k : Int} {u : Tok} (F : Fr g L s.heap m) (hl : g.IsList l vs.toArray) (hx : StrsAre vs xs) (hfit : vs.length ≤ 1000) (h0 : 0 ≤ k) (h1 : k < vs.length)
    (h : ∀ t, Q (.str (xs.getD k.toNat (Str.ofString "")) t) s)
    (hs : subscripted slice false (.ref l) (.int k u) = operate [.ref l, .int k u] (getItem (.ref l) (.int k u)) := by with_unfolding_all rfl) (hg : ∀ r, letTemporaryGo value (.ref l) r = pure () := by intro _; with_unfolding_all rfl) :
    wpAny (model prog w) A (subscriptTail value slice (.ref l) (.int k u)) Q E s := by
  obtain ⟨t, ht⟩ := strs_get hx k.toNat (by omega)
  exact item_list (hl.at fun o e => F.keep l o e) h0 (by omega) (by simpa using ht) (h t) hs hg
end
end Mine
namespace Mine
structure KeyOk (prog : Program) (w : World) (f : Addr) (n : Nat) (xs : List Str) (key : Str → Str) : Prop where
  all : ∀ i, i < n → ∀ u, Con prog w f [.str (xs.getD i (Str.ofString "")) u] [] (fun _ => True) 8 (fun r => ∃ u, r = .str (key (xs.getD i (Str.ofString ""))) u)
theorem KeyOk.use {prog : Program} {w : World} {f : Addr} {n i : Nat} {xs : List Str} {key : Str → Str} {u : Tok} (k : KeyOk prog w f n xs key) (h : i < n) :
    Con prog w f [.str (xs.getD i (Str.ofString "")) u] [] (fun _ => True) 8 (fun r => ∃ u, r = .str (key (xs.getD i (Str.ofString ""))) u) := k.all i h u
end Mine
namespace Mine
def ConU (prog : Program) (w : World) (f : Addr) (vs : List Value) (kw : List (Str × Value)) (l : Addr) (o : Obj) (Post : Value → Obj → Prop) : Prop :=
  ∀ (p : Program) (loose : List Str) (mean : ExcName → Option Value) (mg mb : Str → Option Value) (dp un : Nat) (gd : Option (List Code)) (cn : Str) (sn : List (Str × NameKind)) (sg si : Bool) (so : List (Str × Const)) (a : Addr) (ccd : Value) (cl : List (Str × Addr)) (outer : List Env) (A₀ : Around) (base h₀ : Heap) (L : Addr) (m : Str → Option Value) (news : List (Addr × Obj)) (g : Obj → List (Addr × Obj)) (s : Shared) (Q E : Value → Shared → Prop),
    Below A₀ base outer h₀ → Fr h₀ L s.heap m → Frag.In (Mine.K2 w.params) h₀ → News h₀ L s.heap news → UpdF l o news g → Top p loose mean mg mb h₀ → dp + 24 < recursionLimit → un + 192 < cLine →
    (∀ r o' h' tk', Post r o' → Fr h₀ L h' m → News h₀ L h' (g o') → Q r { s with heap := h', toks := tk' }) →
    wpAny (model prog w) (ktrTop dp un gd cn { kind := .function, names := sn, isGenerator := sg, isCoroutine := si, more := so } L a ccd cl outer) (call (.ref f) vs kw) Q E s
section
variable {prog : Program} {w : World} {f : Addr} {vs : List Value} {kw : List (Str × Value)} {l : Addr} {o : Obj} {Post : Value → Obj → Prop}
  {p : Program} {loose : List Str} {mean : ExcName → Option Value} {mg mb : Str → Option Value} {dp un : Nat} {gd : Option (List Code)} {cn : Str} {sn : List (Str × NameKind)} {sg si : Bool} {so : List (Str × Const)} {a : Addr} {ccd : Value} {cl : List (Str × Addr)} {outer : List Env} {A₀ : Around} {base h₀ : Heap} {L : Addr} {m : Str → Option Value} {news : List (Addr × Obj)} {g : Obj → List (Addr × Obj)} {s : Shared} {Q E : Value → Shared → Prop}
theorem conU_use (C : ConU prog w f vs kw l o Post) (B : Below A₀ base outer h₀) (F : Fr h₀ L s.heap m) (X : Frag.In (Mine.K2 w.params) h₀) (N : News h₀ L s.heap news) (U : UpdF l o news g) (T : Top p loose mean mg mb h₀) (hd : dp + 24 < recursionLimit) (hu : un + 192 < cLine)
    (ret : ∀ r o' h' tk', Post r o' → Fr h₀ L h' m → News h₀ L h' (g o') → Q r { s with heap := h', toks := tk' }) :
    wpAny (model prog w) (ktrTop dp un gd cn { kind := .function, names := sn, isGenerator := sg, isCoroutine := si, more := so } L a ccd cl outer) (call (.ref f) vs kw) Q E s :=
  C _ _ _ _ _ _ _ _ _ _ _ _ _ _ _ _ _ _ _ _ _ _ _ _ _ _ _ B F X N U T hd hu ret
theorem updF_mem {news : List (Addr × Obj)} (U : UpdF l o news g) : (l, o) ∈ news := by
  obtain ⟨own, rest, rfl, _, _, _⟩ := U.split
  exact List.mem_append_right _ (.head _)
theorem updF_led {h : Heap} (U : UpdF l o news g) (N : News h₀ L h news) : News h₀ L h [(l, o)] := fun q hq => by
  rcases List.mem_singleton.mp hq with rfl
  exact N _ (updF_mem U)
theorem updF_news {h h' : Heap} {o' : Obj} (U : UpdF l o news g) (N : News h₀ L h news) (kp : Kept h [l] h') (ho : h'.get? l = some o') : News h₀ L h' (g o') := by
  obtain ⟨own, rest, rfl, hg, h1, h2⟩ := U.split
  rw [hg]
  intro q hq
  rcases List.mem_append.mp hq with hq | hq
  · have y := N q (List.mem_append_left _ hq)
    exact ⟨kp _ _ (fun e => h1 q hq (List.mem_singleton.mp e)) y.1, y.2⟩
  · rcases List.mem_cons.mp hq with rfl | hq
    · exact ⟨ho, (N (l, o) (List.mem_append_right _ (.head _))).2⟩
    · have y := N q (List.mem_append_right _ (.tail _ hq))
      exact ⟨kp _ _ (fun e => h2 q hq (List.mem_singleton.mp e)) y.1, y.2⟩
end
theorem fits_nat {k n : Nat} (h : k ≤ n) (hn : n ≤ 1000) : Builtin.List.listFitsIndex (k : Int) = true := by
  unfold Builtin.List.listFitsIndex
  simp only [Bool.and_eq_true, decide_eq_true_eq]
  constructor <;> omega
theorem kl_ins_nat {vs : List Value} {k : Nat} {y : Value} (h : k ≤ vs.length) : kl_ins vs (k : Int) y = vs.take k ++ y :: vs.drop k := by
  unfold kl_ins
  have e : (if (k : Int) < 0 then ((k : Int) + (vs.length : Int)).toNat else min (k : Int).toNat vs.length) = k := by
    rw [if_neg (by omega)]; omega
  rw [e]
theorem strs_app {as bs : List Value} {xs ys : List Str} (h : StrsAre as xs) (h' : StrsAre bs ys) : StrsAre (as ++ bs) (xs ++ ys) := by
  induction h with
  | nil => exact h'
  | cons y t _ ih => exact .cons y t ih
theorem strs_take {as : List Value} {xs : List Str} (h : StrsAre as xs) : ∀ k, StrsAre (as.take k) (xs.take k) := by
  induction h with
  | nil => intro k; simpa using StrsAre.nil
  | cons y t _ ih => intro k; cases k with
    | zero => exact .nil
    | succ k => exact .cons y t (ih k)
theorem strs_drop {as : List Value} {xs : List Str} (h : StrsAre as xs) : ∀ k, StrsAre (as.drop k) (xs.drop k) := by
  induction h with
  | nil => intro k; simpa using StrsAre.nil
  | cons y t r ih => intro k; cases k with
    | zero => exact .cons y t r
    | succ k => exact ih k
structure BisOk (prog : Program) (w : World) (f key l : Addr) (vs : List Value) (y : Str) (Post : Value → Prop) : Prop where
  all : ∀ t t0, Con prog w f [.ref l, .str y t, .int 0 t0, .none] [(Str.ofString "key", .ref key)] (fun h => h.IsList l vs.toArray) 16 Post
end Mine
namespace Mine
structure Stop (P : Prop) : Prop where
  out : P
end Mine
end
section
open PySem PySem.W PyProof.Rows PySem.Calls
set_option maxRecDepth 100000
namespace Mine
def slt (x y : Str) : Bool := decide (x.cps.toList < y.cps.toList)
theorem mid_eq (lo hi : Nat) : ((lo : Int) + (hi : Int)).fdiv 2 = ((lo + hi) / 2 : Nat) := by rw [Int.fdiv_eq_ediv_of_nonneg _ (by decide)]; omega
theorem mid_succ (lo hi : Nat) : ((lo : Int) + (hi : Int)).fdiv 2 + 1 = ((lo + hi) / 2 + 1 : Nat) := by rw [mid_eq]; omega
def bnF (x : Str) : Str := Txt.slice x (some (Txt.rfind x (Str.ofString "/") + 1)) none
def hdF (x : Str) : Str := Txt.slice x none (some (Txt.rfind x (Str.ofString "/") + 1))
def dirF (x : Str) : Str := if (hdF x).length = 0 then hdF x else if (hdF x != Txt.mul (Str.ofString "/") (hdF x).length) = true then Txt.rstripChars (hdF x) (Str.ofString "/") else hdF x
def joinF (x y : Str) : Str := if Txt.startswith y (Str.ofString "/") = true then y else if x.length = 0 then y else if Txt.endswith x (Str.ofString "/") = true then x ++ y else x ++ (Str.ofString "/" ++ y)
def dirs : List Str := [Str.ofString "/", Str.ofString "/b", Str.ofString "c/", Str.ofString "d"]
def nms : List Str := [Str.ofString "z.a", Str.ofString "y.b", Str.ofString "x"]
def exts : List Str := [Str.ofString ".a", Str.ofString ".b", Str.ofString ""]
def fileAt (i j : Nat) : Str := joinF (dirs.getD i (Str.ofString "")) (nms.getD j (Str.ofString ""))
def di (x : Int) : Nat := (x.fmod 4).toNat
def nj (x : Int) : Nat := ((x.fdiv 4).fmod 3).toNat
def fileOf (x : Int) : Str := fileAt (di x) (nj x)
def nameOf (x : Int) : Str := nms.getD (nj x) (Str.ofString "")
def extOf (x : Int) : Str := exts.getD (nj x) (Str.ofString "")
theorem files_facts : ∀ i, i < 4 → ∀ j, j < 3 → (fileAt i j).length ≤ 64 ∧ bnF (fileAt i j) = nms.getD j (Str.ofString "") ∧ joinF (dirF (fileAt i j)) (bnF (fileAt i j)) = fileAt i j ∧ (dirF (fileAt i j)).length ≤ 64 := by decide +kernel
theorem ends_facts : ∀ i, i < 4 → ∀ j, j < 3 →
    (j < 2 ∧ Txt.rfind (fileAt i j) (Str.ofString "/") + 1 < Txt.rfind (fileAt i j) (Str.ofString ".") ∧ Txt.slice (fileAt i j) (some (Txt.rfind (fileAt i j) (Str.ofString "/") + 1)) (some (Txt.rfind (fileAt i j) (Str.ofString "/") + 1 + 1)) ≠ Str.ofString "." ∧ Txt.slice (fileAt i j) (some (Txt.rfind (fileAt i j) (Str.ofString "."))) none = exts.getD j (Str.ofString "")) ∨
    (j = 2 ∧ Txt.rfind (fileAt i j) (Str.ofString ".") ≤ Txt.rfind (fileAt i j) (Str.ofString "/") ∧ Txt.slice (fileAt i j) none (some 0) = exts.getD j (Str.ofString "")) := by decide +kernel
theorem ex7 {α0 : Sort _} {α1 : Sort _} {α2 : Sort _} {α3 : Sort _} {α4 : Sort _} {α5 : Sort _} {α6 : Sort _} {P : α0 → α1 → α2 → α3 → α4 → α5 → α6 → Prop} {C : Prop} (h : ∃ a0 a1 a2 a3 a4 a5 a6, P a0 a1 a2 a3 a4 a5 a6) (k : ∀ a0 a1 a2 a3 a4 a5 a6, P a0 a1 a2 a3 a4 a5 a6 → C) : C := by
  obtain ⟨a0, a1, a2, a3, a4, a5, a6, h⟩ := h
  exact k _ _ _ _ _ _ _ h
end Mine
end
section
open PySem PySem.W PyProof.Rows PySem.Calls
set_option maxRecDepth 100000
namespace Mine
theorem dummy_S_fsp : (fun (_ : OpenLaw) (_ : Params → Frag) => True) Mine.rw2 Mine.K2 := by
  k_fill
  trivial
local macro_rules | `(tactic| walk_at "call builtin:issubclass") => `(tactic| (k_here; (with_reducible show wpAny _ _ (PySem.call (Value.builtin "issubclass") [Value.type "str", Value.ref _]) _ _ _); k_dflt (refine' call_issub_tuple ?k1 ?_; (case k1 => exact News.get (by k_asm) (by k_mem)))))
local macro_rules | `(tactic| k_room) => `(tactic| ktr_room)
local macro_rules | `(tactic| k_units) => `(tactic| ktr_units)
section
section
open PySem PySem.W PyProof.Rows PySem.Calls
set_option maxRecDepth 100000
set_option maxHeartbeats 4000000 in
theorem con_fspath (prog : Program) (w : World) (x : Str) (t : Tok) : Con prog w 137 [.str x t] [] (fun _ => True) 4 (fun r => ∃ u, r = .str x u) := by
  unfold Con
  intro p loose mean mg mb dp un gd cn sn sg si so a ccd cl outer A₀ base h₀ L m s Q E B F X T hd hu hl hret
  refine wpAny_call ?_
  k_dflt (refine' codeL (led := []) ?k1 ?k2 ?k3 News.nil ?k5 ?kA ?kF ?kK ?k6 ?k7 ?k8 ?k9 ?kB ?_ ?c2 ?c3 ?c4 ?c5; (case kA => exact rfl); (case kF => exact rfl); (case kK => exact rfl); (case k1 => k_asm); (case k2 => k_asm); (case k3 => k_asm); (case k5 => k_asm); (case k6 => k_is); (case k7 => k_is); (case k8 => k_room); (case k9 => exact BindsTo.of_eq rfl); (case c5 => decide); (case kB => exact locs rfl); (case c2 => exact rfl); (case c3 => exact rfl); (case c4 => exact rfl); k_whole; intro g' L' h' FG' F' N' B' X' T' l1 kG'; (try k_lt l1); (try dsimp only); (try k_fold))
  k_steps
  all_goals (rename Kept _ _ _ => kp; exact hret _ _ _ ⟨_, rfl⟩ (Kept.ext kp) (by assumption))
end
section
open PySem PySem.W PyProof.Rows PySem.Calls
set_option maxRecDepth 100000
set_option maxHeartbeats 4000000 in
theorem con_sep (prog : Program) (w : World) (x : Str) (t : Tok) : Con prog w 158 [.str x t] [] (fun _ => True) 4 (fun r => ∃ u, r = .str (Str.ofString "/") u) := by
  unfold Con
  intro p loose mean mg mb dp un gd cn sn sg si so a ccd cl outer A₀ base h₀ L m s Q E B F X T hd hu hl hret
  refine wpAny_call ?_
  k_dflt (refine' codeL (led := []) ?k1 ?k2 ?k3 News.nil ?k5 ?kA ?kF ?kK ?k6 ?k7 ?k8 ?k9 ?kB ?_ ?c2 ?c3 ?c4 ?c5; (case kA => exact rfl); (case kF => exact rfl); (case kK => exact rfl); (case k1 => k_asm); (case k2 => k_asm); (case k3 => k_asm); (case k5 => k_asm); (case k6 => k_is); (case k7 => k_is); (case k8 => k_room); (case k9 => exact BindsTo.of_eq rfl); (case c5 => decide); (case kB => exact locs rfl); (case c2 => exact rfl); (case c3 => exact rfl); (case c4 => exact rfl); k_whole; intro g' L' h' FG' F' N' B' X' T' l1 kG'; (try k_lt l1); (try dsimp only); (try k_fold))
  k_steps
  all_goals (rename Kept _ _ _ => kp; exact hret _ _ _ ⟨_, rfl⟩ (Kept.ext kp) (by assumption))
end
section
local macro_rules | `(tactic| walk_at "call ref") => `(tactic| (k_here; k_dflt (refine' con_use ?kC ?k1 ?k2 ?k3 ?k4 ?k5 ?kd ?ku ?kp ?_; (case kC => first | assumption | exact con_fspath _ _ _ _ | exact con_sep _ _ _ _ | exact KeyOk.use (by assumption) (by first | omega | (simp only [Int.fdiv_eq_ediv_of_nonneg _ (by decide : (0:Int) ≤ 2)]; omega)) | exact BisOk.all (by assumption) _ _); (case kp => first | exact trivial | exact ⟨_, News.get (by k_asm) (by k_mem), rfl, _, rfl⟩); (case k1 => k_asm); (case k2 => k_asm); (case k3 => k_asm); (case k4 => k_asm); (case k5 => k_asm); (case kd => ktr_room); (case ku => ktr_units); k_whole); intro r' h' tk' hr' F' N'; obtain ⟨u', hr2'⟩ := hr'; (first | subst hr2' | (obtain ⟨v', hr3', hk1', hk2', hk3'⟩ := hr2'; subst hr3')); (try dsimp only); (try k_fold)))
section
open PySem PySem.W PyProof.Rows PySem.Calls
set_option maxRecDepth 100000
set_option maxHeartbeats 4000000 in
theorem con_base (prog : Program) (w : World) (x : Str) (t : Tok) (hx : x.length ≤ 64) : Con prog w 182 [.str x t] [] (fun _ => True) 8 (fun r => ∃ u, r = .str (bnF x) u) := by
  unfold Con
  intro p loose mean mg mb dp un gd cn sn sg si so a ccd cl outer A₀ base h₀ L m s Q E B F X T hd hu hl hret
  refine wpAny_call ?_
  k_dflt (refine' codeL (led := []) ?k1 ?k2 ?k3 News.nil ?k5 ?kA ?kF ?kK ?k6 ?k7 ?k8 ?k9 ?kB ?_ ?c2 ?c3 ?c4 ?c5; (case kA => exact rfl); (case kF => exact rfl); (case kK => exact rfl); (case k1 => k_asm); (case k2 => k_asm); (case k3 => k_asm); (case k5 => k_asm); (case k6 => k_is); (case k7 => k_is); (case k8 => k_room); (case k9 => exact BindsTo.of_eq rfl); (case c5 => decide); (case kB => exact locs rfl); (case c2 => exact rfl); (case c3 => exact rfl); (case c4 => exact rfl); k_whole; intro g' L' h' FG' F' N' B' X' T' l1 kG'; (try k_lt l1); (try dsimp only); (try k_fold))
  k_steps
  all_goals (rename Kept _ _ _ => kp; exact hret _ _ _ ⟨_, rfl⟩ (Kept.ext kp) (by assumption))
end
section
open PySem PySem.W PyProof.Rows PySem.Calls
set_option maxRecDepth 100000
set_option maxHeartbeats 4000000 in
theorem con_dir (prog : Program) (w : World) (x : Str) (t : Tok) (hx : x.length ≤ 64) : Con prog w 189 [.str x t] [] (fun _ => True) 8 (fun r => ∃ u, r = .str (dirF x) u) := by
  unfold Con
  intro p loose mean mg mb dp un gd cn sn sg si so a ccd cl outer A₀ base h₀ L m s Q E B F X T hd hu hl hret
  refine wpAny_call ?_
  k_dflt (refine' codeL (led := []) ?k1 ?k2 ?k3 News.nil ?k5 ?kA ?kF ?kK ?k6 ?k7 ?k8 ?k9 ?kB ?_ ?c2 ?c3 ?c4 ?c5; (case kA => exact rfl); (case kF => exact rfl); (case kK => exact rfl); (case k1 => k_asm); (case k2 => k_asm); (case k3 => k_asm); (case k5 => k_asm); (case k6 => k_is); (case k7 => k_is); (case k8 => k_room); (case k9 => exact BindsTo.of_eq rfl); (case c5 => decide); (case kB => exact locs rfl); (case c2 => exact rfl); (case c3 => exact rfl); (case c4 => exact rfl); k_whole; intro g' L' h' FG' F' N' B' X' T' l1 kG'; (try k_lt l1); (try dsimp only); (try k_fold))
  k_steps
  all_goals (rename Kept _ _ _ => kp; exact hret _ _ _ ⟨_, congrArg (Value.str · _) (by unfold dirF hdF; first | (rw [if_neg (by omega), if_pos (by assumption)]) | (rw [if_neg (by omega), if_neg (by simp only [*]; decide)]) | (rw [if_pos (by omega)]))⟩ (Kept.ext kp) (by assumption))
end
section
open PySem PySem.W PyProof.Rows PySem.Calls
set_option maxRecDepth 100000
set_option maxHeartbeats 4000000 in
theorem con_join (prog : Program) (w : World) (x y : Str) (t u : Tok) (hx : x.length ≤ 64) (hy : y.length ≤ 64) : Con prog w 165 [.str x t, .str y u] [] (fun _ => True) 8 (fun r => ∃ u, r = .str (joinF x y) u) := by
  unfold Con
  intro p loose mean mg mb dp un gd cn sn sg si so a ccd cl outer A₀ base h₀ L m s Q E B F X T hd hu hl hret
  refine wpAny_call ?_
  k_dflt (refine' restL (led := []) ?k1 ?k2 ?k3 News.nil ?k5 ?kA ?kF ?kK ?k6 ?k7 ?k8 ?kV ?kP ?kG ?kB ?_ ?c2 ?c3 ?c4 ?c5; (case kA => exact rfl); (case kF => exact rfl); (case kK => exact rfl); (case k1 => k_asm); (case k2 => k_asm); (case k3 => k_asm); (case k5 => k_asm); (case k6 => k_is); (case k7 => k_is); (case k8 => k_room); (case kV => kl_lit); (case kP => exact rfl); (case kG => exact fun _ => rfl); (case kB => exact fun _ => locs rfl); (case c5 => decide); (case c2 => exact rfl); (case c3 => exact rfl); (case c4 => exact rfl); k_whole; intro D' g' L' h' l1 FG' F' N' B' X' T'; (try k_lt l1); (try dsimp only); (try k_fold))
  k_steps
  all_goals (rename Kept _ _ _ => kp; exact hret _ _ _ ⟨_, congrArg (Value.str · _) (by unfold joinF; first | (rw [if_pos (by assumption)]) | (rw [if_neg (by simp only [*]; decide), if_pos (by omega)]) | (rw [if_neg (by simp only [*]; decide), if_neg (by omega), if_pos (by assumption)]) | (rw [if_neg (by simp only [*]; decide), if_neg (by omega), if_neg (by simp only [*]; decide)]))⟩ (Kept.ext kp) (by assumption))
end
section
open PySem PySem.W PyProof.Rows PySem.Calls
set_option maxRecDepth 100000
set_option maxHeartbeats 4000000 in
theorem con_end_no (prog : Program) (w : World) (x : Str) (t : Tok) (hx : x.length ≤ 64) (h1 : Txt.rfind x (Str.ofString ".") ≤ Txt.rfind x (Str.ofString "/")) : Con prog w 203 [.str x t] [] (fun _ => True) 8 (fun r => ∃ u, r = .str (Txt.slice x none (some 0)) u) := by
  unfold Con
  intro p loose mean mg mb dp un gd cn sn sg si so a ccd cl outer A₀ base h₀ L m s Q E B F X T hd hu hl hret
  refine wpAny_call ?_
  k_dflt (refine' codeL (led := []) ?k1 ?k2 ?k3 News.nil ?k5 ?kA ?kF ?kK ?k6 ?k7 ?k8 ?k9 ?kB ?_ ?c2 ?c3 ?c4 ?c5; (case kA => exact rfl); (case kF => exact rfl); (case kK => exact rfl); (case k1 => k_asm); (case k2 => k_asm); (case k3 => k_asm); (case k5 => k_asm); (case k6 => k_is); (case k7 => k_is); (case k8 => k_room); (case k9 => exact BindsTo.of_eq rfl); (case c5 => decide); (case kB => exact locs rfl); (case c2 => exact rfl); (case c3 => exact rfl); (case c4 => exact rfl); k_whole; intro g' L' h' FG' F' N' B' X' T' l1 kG'; (try k_lt l1); (try dsimp only); (try k_fold))
  k_steps
  all_goals (rename Kept _ _ _ => kp; exact hret _ _ _ ⟨_, rfl⟩ (Kept.ext kp) (by assumption))
end
section
open PySem PySem.W PyProof.Rows PySem.Calls
set_option maxRecDepth 100000
local macro_rules | `(tactic| walk_at "exec While Compare cons nil") => `(tactic| (k_here; k_dflt (refine whl_start 3 ?_)))
local macro_rules | `(tactic| walk_at "WhlIf") => `(tactic| (refine WhlIf.yes (decide_eq_true (by omega)) ?_))
set_option maxHeartbeats 4000000 in
theorem con_end_dot (prog : Program) (w : World) (x : Str) (t : Tok) (hx : x.length ≤ 64) (h1 : Txt.rfind x (Str.ofString "/") + 1 < Txt.rfind x (Str.ofString ".")) (h2 : Txt.slice x (some (Txt.rfind x (Str.ofString "/") + 1)) (some (Txt.rfind x (Str.ofString "/") + 1 + 1)) ≠ Str.ofString ".") : Con prog w 203 [.str x t] [] (fun _ => True) 8 (fun r => ∃ u, r = .str (Txt.slice x (some (Txt.rfind x (Str.ofString "."))) none) u) := by
  unfold Con
  intro p loose mean mg mb dp un gd cn sn sg si so a ccd cl outer A₀ base h₀ L m s Q E B F X T hd hu hl hret
  refine wpAny_call ?_
  k_dflt (refine' codeL (led := []) ?k1 ?k2 ?k3 News.nil ?k5 ?kA ?kF ?kK ?k6 ?k7 ?k8 ?k9 ?kB ?_ ?c2 ?c3 ?c4 ?c5; (case kA => exact rfl); (case kF => exact rfl); (case kK => exact rfl); (case k1 => k_asm); (case k2 => k_asm); (case k3 => k_asm); (case k5 => k_asm); (case k6 => k_is); (case k7 => k_is); (case k8 => k_room); (case k9 => exact BindsTo.of_eq rfl); (case c5 => decide); (case kB => exact locs rfl); (case c2 => exact rfl); (case c3 => exact rfl); (case c4 => exact rfl); k_whole; intro g' L' h' FG' F' N' B' X' T' l1 kG'; (try k_lt l1); (try dsimp only); (try k_fold))
  k_steps
  · rename Kept _ _ _ => kp; exact hret _ _ _ ⟨_, rfl⟩ (Kept.ext kp) (by assumption)
  · rename (_ != Str.ofString ".") = false => hq; exact absurd (by simpa using hq) h2
end
section
local macro_rules | `(tactic| walk_at "call builtin:len") => `(tactic| (k_here; (with_reducible show wpAny _ _ (PySem.call (Value.builtin "len") [Value.ref _]) _ _ _); k_dflt (refine' len_ground ?k1 ?k2 ?k3 ?_; (case k1 => k_asm); (case k2 => k_asm); (case k3 => assumption)); intro tl' tk'; (try dsimp only)))
local macro_rules | `(tactic| walk_at "exec While Compare cons nil") => `(tactic| (k_here; k_dflt (refine wh_start ?_)))
local macro_rules | `(tactic| walk_at "WhP") => `(tactic| (dsimp only [WhP]))
local macro_rules | `(tactic| walk_at "WhlIf") => `(tactic| (refine whlIf_split (fun hc' => ?_) (fun hc' => ?_)))
local macro_rules | `(tactic| walk_at "subscriptTail Name Name ref int") => `(tactic| (k_here; k_dflt (refine' item_ground ?k1 ?k2 ?k3 ?k4 ?k5 ?k6 ?_; (case k1 => k_asm); (case k2 => k_asm); (case k3 => assumption); (case k4 => assumption); (case k5 => first | omega | (simp only [Int.fdiv_eq_ediv_of_nonneg _ (by decide : (0:Int) ≤ 2)]; omega)); (case k6 => first | omega | (simp only [Int.fdiv_eq_ediv_of_nonneg _ (by decide : (0:Int) ≤ 2)]; omega)); k_whole); intro ti'; (try dsimp only)))
section
open PySem PySem.W PyProof.Rows PySem.Calls
set_option maxRecDepth 100000
set_option maxHeartbeats 4000000 in
theorem bisR1 (prog : Program) (w : World) (l : Addr) (x : Str) (t t0 : Tok) (vs : List Value) (xs : List Str) (hvx : StrsAre vs xs) (hfit : vs.length ≤ 1000) (key : Str → Str) (hmono : ∀ i j, i ≤ j → j < vs.length → slt x (key (xs.getD i (Str.ofString ""))) = true → slt x (key (xs.getD j (Str.ofString ""))) = true)
    (hkey : KeyOk prog w 182 vs.length xs key) :
    Con prog w 46 [.ref l, .str x t] [(Str.ofString "key", .ref 182)] (fun h => h.IsList l vs.toArray) 16 (fun r => ∃ (k : Nat) (u : Tok), r = .int k u ∧ k ≤ vs.length ∧ (∀ i, i < k → slt x (key (xs.getD i (Str.ofString ""))) = false) ∧ (∀ i, k ≤ i → i < vs.length → slt x (key (xs.getD i (Str.ofString ""))) = true)) := by
  unfold Con
  intro p loose mean mg mb dp un gd cn sn sg si so a ccd cl outer A₀ base h₀ L m s Q E B F X T hd hu hl hret
  refine wpAny_call ?_
  k_dflt (refine' codeL (led := []) ?k1 ?k2 ?k3 News.nil ?k5 ?kA ?kF ?kK ?k6 ?k7 ?k8 ?k9 ?kB ?_ ?c2 ?c3 ?c4 ?c5; (case kA => exact rfl); (case kF => exact rfl); (case kK => exact rfl); (case k1 => k_asm); (case k2 => k_asm); (case k3 => k_asm); (case k5 => k_asm); (case k6 => k_is); (case k7 => k_is); (case k8 => k_room); (case k9 => (refine' kp_binds ?kx ?ke; (case kx => k_in); (case ke => exact fun _ => rfl))); (case c5 => decide); (case kB => exact locs rfl); (case c2 => exact rfl); (case c3 => exact rfl); (case c4 => exact rfl); k_whole; intro g' L' h' FG' F' N' B' X' T' l1 kG'; (try k_lt l1); (try dsimp only); (try k_fold))
  have hl' : g'.IsList l vs.toArray := hl.at fun o e => kG' _ _ List.not_mem_nil e
  k_steps
  refine whl_loop ?hE (fun n s' => ∃ (lo hi : Nat) (tl th : Tok) (m : Str → Option Value) (h : Heap) (tk : Nat), s' = { s with heap := h, toks := tk } ∧ hi - lo ≤ n ∧ lo ≤ hi ∧ hi ≤ vs.length ∧ (∀ i, i < lo → slt x (key (xs.getD i (Str.ofString ""))) = false) ∧ (∀ i, hi ≤ i → i < vs.length → slt x (key (xs.getD i (Str.ofString ""))) = true) ∧ Fr g' L' h m ∧
    m (Str.ofString "lo") = some (.int lo tl) ∧ m (Str.ofString "hi") = some (.int hi th) ∧ m (Str.ofString "a") = some (.ref l) ∧ m (Str.ofString "x") = some (.str x t) ∧ m (Str.ofString "key") = some (.ref 182)) ?turn vs.length _ ?start
  case hE => first | passes_own | with_unfolding_all passes_own
  case start => exact ⟨0, vs.length, _, _, _, _, _, rfl, Nat.le_refl _, Nat.zero_le _, Nat.le_refl _, fun i hi => absurd hi (Nat.not_lt_zero _), fun i h1 h2 => absurd h2 (Nat.not_lt_of_le h1), by assumption, by with_unfolding_all rfl, by with_unfolding_all rfl, by with_unfolding_all rfl, by with_unfolding_all rfl, by with_unfolding_all rfl⟩
  case turn =>
    rename Fr g' L' _ _ => Fold
    clear Fold
    intro n sx IH hX
    refine ex7 hX fun lo hi tl th m1 h tk hP => ?_
    have ex0 := hP.1
    have hn1 := hP.2.1
    have hlh := hP.2.2.1
    have hhi := hP.2.2.2.1
    have hI1 := hP.2.2.2.2.1
    have hI2 := hP.2.2.2.2.2.1
    have F1 := hP.2.2.2.2.2.2.1
    have e1 := hP.2.2.2.2.2.2.2.1
    have e2 := hP.2.2.2.2.2.2.2.2.1
    have e3 := hP.2.2.2.2.2.2.2.2.2.1
    have e4 := hP.2.2.2.2.2.2.2.2.2.2.1
    have e5 := hP.2.2.2.2.2.2.2.2.2.2.2
    subst ex0
    clear hX hP
    have F2 : Fr g' L' h (fun z => if z = Str.ofString "lo" then some (.int lo tl) else if z = Str.ofString "hi" then some (.int hi th) else if z = Str.ofString "a" then some (.ref l) else if z = Str.ofString "x" then some (.str x t) else if z = Str.ofString "key" then some (.ref 182) else m1 z) := by
      have e : (fun z => if z = Str.ofString "lo" then some (.int lo tl) else if z = Str.ofString "hi" then some (.int hi th) else if z = Str.ofString "a" then some (.ref l) else if z = Str.ofString "x" then some (.str x t) else if z = Str.ofString "key" then some (.ref 182) else m1 z) = m1 := funext fun z => by (repeat' split) <;> simp_all
      rw [e]; exact F1
    have N2 : News g' L' h [] := News.nil
    clear F1 e1 e2 e3 e4 e5
    k_steps
    · rename ((_ : List Nat) < _) => hq
      rw [mid_eq, Int.toNat_natCast] at hq
      have up : ∀ i, (lo + hi) / 2 ≤ i → i < vs.length → slt x (key (xs.getD i (Str.ofString ""))) = true := fun i h1 h2 => hmono _ i h1 h2 (decide_eq_true hq)
      refine' IH ((lo + hi) / 2 - lo) _ (by omega) ⟨lo, (lo + hi) / 2, tl, _, _, _, _, rfl, Nat.le_refl _, by omega, by omega, hI1, ?a2, ?F, ?e1, ?e2, ?e3, ?e4, ?e5⟩
      (case F => assumption); (case e1 => with_unfolding_all rfl); (case e2 => exact congrArg (fun z => some (Value.int z _)) (mid_eq lo hi)); (case e3 => with_unfolding_all rfl); (case e4 => with_unfolding_all rfl); (case e5 => with_unfolding_all rfl)
      case a2 => exact fun i h1 h2 => up i h1 h2
    · rename (¬ (_ : List Nat) < _) => hq
      rw [mid_eq, Int.toNat_natCast] at hq
      have down : ∀ i, i < (lo + hi) / 2 + 1 → slt x (key (xs.getD i (Str.ofString ""))) = false := fun i h1 => by
        cases hc : slt x (key (xs.getD i (Str.ofString ""))) with
        | false => rfl
        | true => exact absurd (of_decide_eq_true (hmono i _ (by omega) (by omega) hc)) hq
      refine' IH (hi - ((lo + hi) / 2 + 1)) _ (by omega) ⟨(lo + hi) / 2 + 1, hi, _, th, _, _, _, rfl, Nat.le_refl _, by omega, hhi, ?a1, hI2, ?F, ?e1, ?e2, ?e3, ?e4, ?e5⟩
      (case F => assumption); (case e1 => exact congrArg (fun z => some (Value.int z _)) (mid_succ lo hi)); (case e2 => with_unfolding_all rfl); (case e3 => with_unfolding_all rfl); (case e4 => with_unfolding_all rfl); (case e5 => with_unfolding_all rfl)
      case a1 => exact fun i h1 => down i h1
    · rename Kept _ _ _ => kp
      have hlo : lo = hi := by omega
      subst hlo
      exact hret _ _ _ ⟨lo, _, rfl, hhi, hI1, hI2⟩ (Kept.ext kp) (by assumption)
end
section
open PySem PySem.W PyProof.Rows PySem.Calls
set_option maxRecDepth 100000
set_option maxHeartbeats 4000000 in
theorem bisR2 (prog : Program) (w : World) (l : Addr) (x : Str) (t t0 : Tok) (vs : List Value) (xs : List Str) (hvx : StrsAre vs xs) (hfit : vs.length ≤ 1000) (key : Str → Str) (hmono : ∀ i j, i ≤ j → j < vs.length → slt x (key (xs.getD i (Str.ofString ""))) = true → slt x (key (xs.getD j (Str.ofString ""))) = true)
    (hkey : KeyOk prog w 182 vs.length xs key) :
    Con prog w 46 [.ref l, .str x t, .int 0 t0, .none] [(Str.ofString "key", .ref 182)] (fun h => h.IsList l vs.toArray) 16 (fun r => ∃ (k : Nat) (u : Tok), r = .int k u ∧ k ≤ vs.length ∧ (∀ i, i < k → slt x (key (xs.getD i (Str.ofString ""))) = false) ∧ (∀ i, k ≤ i → i < vs.length → slt x (key (xs.getD i (Str.ofString ""))) = true)) := by
  unfold Con
  intro p loose mean mg mb dp un gd cn sn sg si so a ccd cl outer A₀ base h₀ L m s Q E B F X T hd hu hl hret
  refine wpAny_call ?_
  k_dflt (refine' codeL (led := []) ?k1 ?k2 ?k3 News.nil ?k5 ?kA ?kF ?kK ?k6 ?k7 ?k8 ?k9 ?kB ?_ ?c2 ?c3 ?c4 ?c5; (case kA => exact rfl); (case kF => exact rfl); (case kK => exact rfl); (case k1 => k_asm); (case k2 => k_asm); (case k3 => k_asm); (case k5 => k_asm); (case k6 => k_is); (case k7 => k_is); (case k8 => k_room); (case k9 => (refine' kp_binds ?kx ?ke; (case kx => k_in); (case ke => exact fun _ => rfl))); (case c5 => decide); (case kB => exact locs rfl); (case c2 => exact rfl); (case c3 => exact rfl); (case c4 => exact rfl); k_whole; intro g' L' h' FG' F' N' B' X' T' l1 kG'; (try k_lt l1); (try dsimp only); (try k_fold))
  have hl' : g'.IsList l vs.toArray := hl.at fun o e => kG' _ _ List.not_mem_nil e
  k_steps
  refine whl_loop ?hE (fun n s' => ∃ (lo hi : Nat) (tl th : Tok) (m : Str → Option Value) (h : Heap) (tk : Nat), s' = { s with heap := h, toks := tk } ∧ hi - lo ≤ n ∧ lo ≤ hi ∧ hi ≤ vs.length ∧ (∀ i, i < lo → slt x (key (xs.getD i (Str.ofString ""))) = false) ∧ (∀ i, hi ≤ i → i < vs.length → slt x (key (xs.getD i (Str.ofString ""))) = true) ∧ Fr g' L' h m ∧
    m (Str.ofString "lo") = some (.int lo tl) ∧ m (Str.ofString "hi") = some (.int hi th) ∧ m (Str.ofString "a") = some (.ref l) ∧ m (Str.ofString "x") = some (.str x t) ∧ m (Str.ofString "key") = some (.ref 182)) ?turn vs.length _ ?start
  case hE => first | passes_own | with_unfolding_all passes_own
  case start => exact ⟨0, vs.length, _, _, _, _, _, rfl, Nat.le_refl _, Nat.zero_le _, Nat.le_refl _, fun i hi => absurd hi (Nat.not_lt_zero _), fun i h1 h2 => absurd h2 (Nat.not_lt_of_le h1), by assumption, by with_unfolding_all rfl, by with_unfolding_all rfl, by with_unfolding_all rfl, by with_unfolding_all rfl, by with_unfolding_all rfl⟩
  case turn =>
    rename Fr g' L' _ _ => Fold
    clear Fold
    intro n sx IH hX
    refine ex7 hX fun lo hi tl th m1 h tk hP => ?_
    have ex0 := hP.1
    have hn1 := hP.2.1
    have hlh := hP.2.2.1
    have hhi := hP.2.2.2.1
    have hI1 := hP.2.2.2.2.1
    have hI2 := hP.2.2.2.2.2.1
    have F1 := hP.2.2.2.2.2.2.1
    have e1 := hP.2.2.2.2.2.2.2.1
    have e2 := hP.2.2.2.2.2.2.2.2.1
    have e3 := hP.2.2.2.2.2.2.2.2.2.1
    have e4 := hP.2.2.2.2.2.2.2.2.2.2.1
    have e5 := hP.2.2.2.2.2.2.2.2.2.2.2
    subst ex0
    clear hX hP
    have F2 : Fr g' L' h (fun z => if z = Str.ofString "lo" then some (.int lo tl) else if z = Str.ofString "hi" then some (.int hi th) else if z = Str.ofString "a" then some (.ref l) else if z = Str.ofString "x" then some (.str x t) else if z = Str.ofString "key" then some (.ref 182) else m1 z) := by
      have e : (fun z => if z = Str.ofString "lo" then some (.int lo tl) else if z = Str.ofString "hi" then some (.int hi th) else if z = Str.ofString "a" then some (.ref l) else if z = Str.ofString "x" then some (.str x t) else if z = Str.ofString "key" then some (.ref 182) else m1 z) = m1 := funext fun z => by (repeat' split) <;> simp_all
      rw [e]; exact F1
    have N2 : News g' L' h [] := News.nil
    clear F1 e1 e2 e3 e4 e5
    k_steps
    · rename ((_ : List Nat) < _) => hq
      rw [mid_eq, Int.toNat_natCast] at hq
      have up : ∀ i, (lo + hi) / 2 ≤ i → i < vs.length → slt x (key (xs.getD i (Str.ofString ""))) = true := fun i h1 h2 => hmono _ i h1 h2 (decide_eq_true hq)
      refine' IH ((lo + hi) / 2 - lo) _ (by omega) ⟨lo, (lo + hi) / 2, tl, _, _, _, _, rfl, Nat.le_refl _, by omega, by omega, hI1, ?a2, ?F, ?e1, ?e2, ?e3, ?e4, ?e5⟩
      (case F => assumption); (case e1 => with_unfolding_all rfl); (case e2 => exact congrArg (fun z => some (Value.int z _)) (mid_eq lo hi)); (case e3 => with_unfolding_all rfl); (case e4 => with_unfolding_all rfl); (case e5 => with_unfolding_all rfl)
      case a2 => exact fun i h1 h2 => up i h1 h2
    · rename (¬ (_ : List Nat) < _) => hq
      rw [mid_eq, Int.toNat_natCast] at hq
      have down : ∀ i, i < (lo + hi) / 2 + 1 → slt x (key (xs.getD i (Str.ofString ""))) = false := fun i h1 => by
        cases hc : slt x (key (xs.getD i (Str.ofString ""))) with
        | false => rfl
        | true => exact absurd (of_decide_eq_true (hmono i _ (by omega) (by omega) hc)) hq
      refine' IH (hi - ((lo + hi) / 2 + 1)) _ (by omega) ⟨(lo + hi) / 2 + 1, hi, _, th, _, _, _, rfl, Nat.le_refl _, by omega, hhi, ?a1, hI2, ?F, ?e1, ?e2, ?e3, ?e4, ?e5⟩
      (case F => assumption); (case e1 => exact congrArg (fun z => some (Value.int z _)) (mid_succ lo hi)); (case e2 => with_unfolding_all rfl); (case e3 => with_unfolding_all rfl); (case e4 => with_unfolding_all rfl); (case e5 => with_unfolding_all rfl)
      case a1 => exact fun i h1 => down i h1
    · rename Kept _ _ _ => kp
      have hlo : lo = hi := by omega
      subst hlo
      exact hret _ _ _ ⟨lo, _, rfl, hhi, hI1, hI2⟩ (Kept.ext kp) (by assumption)
end
section
open PySem PySem.W PyProof.Rows PySem.Calls
set_option maxRecDepth 100000
set_option maxHeartbeats 4000000 in
theorem bisR3 (prog : Program) (w : World) (l : Addr) (x : Str) (t t0 : Tok) (vs : List Value) (xs : List Str) (hvx : StrsAre vs xs) (hfit : vs.length ≤ 1000) (key : Str → Str) (hmono : ∀ i j, i ≤ j → j < vs.length → slt x (key (xs.getD i (Str.ofString ""))) = true → slt x (key (xs.getD j (Str.ofString ""))) = true)
    (hkey : KeyOk prog w 203 vs.length xs key) :
    Con prog w 46 [.ref l, .str x t, .int 0 t0, .none] [(Str.ofString "key", .ref 203)] (fun h => h.IsList l vs.toArray) 16 (fun r => ∃ (k : Nat) (u : Tok), r = .int k u ∧ k ≤ vs.length ∧ (∀ i, i < k → slt x (key (xs.getD i (Str.ofString ""))) = false) ∧ (∀ i, k ≤ i → i < vs.length → slt x (key (xs.getD i (Str.ofString ""))) = true)) := by
  unfold Con
  intro p loose mean mg mb dp un gd cn sn sg si so a ccd cl outer A₀ base h₀ L m s Q E B F X T hd hu hl hret
  refine wpAny_call ?_
  k_dflt (refine' codeL (led := []) ?k1 ?k2 ?k3 News.nil ?k5 ?kA ?kF ?kK ?k6 ?k7 ?k8 ?k9 ?kB ?_ ?c2 ?c3 ?c4 ?c5; (case kA => exact rfl); (case kF => exact rfl); (case kK => exact rfl); (case k1 => k_asm); (case k2 => k_asm); (case k3 => k_asm); (case k5 => k_asm); (case k6 => k_is); (case k7 => k_is); (case k8 => k_room); (case k9 => (refine' kp_binds ?kx ?ke; (case kx => k_in); (case ke => exact fun _ => rfl))); (case c5 => decide); (case kB => exact locs rfl); (case c2 => exact rfl); (case c3 => exact rfl); (case c4 => exact rfl); k_whole; intro g' L' h' FG' F' N' B' X' T' l1 kG'; (try k_lt l1); (try dsimp only); (try k_fold))
  have hl' : g'.IsList l vs.toArray := hl.at fun o e => kG' _ _ List.not_mem_nil e
  k_steps
  refine whl_loop ?hE (fun n s' => ∃ (lo hi : Nat) (tl th : Tok) (m : Str → Option Value) (h : Heap) (tk : Nat), s' = { s with heap := h, toks := tk } ∧ hi - lo ≤ n ∧ lo ≤ hi ∧ hi ≤ vs.length ∧ (∀ i, i < lo → slt x (key (xs.getD i (Str.ofString ""))) = false) ∧ (∀ i, hi ≤ i → i < vs.length → slt x (key (xs.getD i (Str.ofString ""))) = true) ∧ Fr g' L' h m ∧
    m (Str.ofString "lo") = some (.int lo tl) ∧ m (Str.ofString "hi") = some (.int hi th) ∧ m (Str.ofString "a") = some (.ref l) ∧ m (Str.ofString "x") = some (.str x t) ∧ m (Str.ofString "key") = some (.ref 203)) ?turn vs.length _ ?start
  case hE => first | passes_own | with_unfolding_all passes_own
  case start => exact ⟨0, vs.length, _, _, _, _, _, rfl, Nat.le_refl _, Nat.zero_le _, Nat.le_refl _, fun i hi => absurd hi (Nat.not_lt_zero _), fun i h1 h2 => absurd h2 (Nat.not_lt_of_le h1), by assumption, by with_unfolding_all rfl, by with_unfolding_all rfl, by with_unfolding_all rfl, by with_unfolding_all rfl, by with_unfolding_all rfl⟩
  case turn =>
    rename Fr g' L' _ _ => Fold
    clear Fold
    intro n sx IH hX
    refine ex7 hX fun lo hi tl th m1 h tk hP => ?_
    have ex0 := hP.1
    have hn1 := hP.2.1
    have hlh := hP.2.2.1
    have hhi := hP.2.2.2.1
    have hI1 := hP.2.2.2.2.1
    have hI2 := hP.2.2.2.2.2.1
    have F1 := hP.2.2.2.2.2.2.1
    have e1 := hP.2.2.2.2.2.2.2.1
    have e2 := hP.2.2.2.2.2.2.2.2.1
    have e3 := hP.2.2.2.2.2.2.2.2.2.1
    have e4 := hP.2.2.2.2.2.2.2.2.2.2.1
    have e5 := hP.2.2.2.2.2.2.2.2.2.2.2
    subst ex0
    clear hX hP
    have F2 : Fr g' L' h (fun z => if z = Str.ofString "lo" then some (.int lo tl) else if z = Str.ofString "hi" then some (.int hi th) else if z = Str.ofString "a" then some (.ref l) else if z = Str.ofString "x" then some (.str x t) else if z = Str.ofString "key" then some (.ref 203) else m1 z) := by
      have e : (fun z => if z = Str.ofString "lo" then some (.int lo tl) else if z = Str.ofString "hi" then some (.int hi th) else if z = Str.ofString "a" then some (.ref l) else if z = Str.ofString "x" then some (.str x t) else if z = Str.ofString "key" then some (.ref 203) else m1 z) = m1 := funext fun z => by (repeat' split) <;> simp_all
      rw [e]; exact F1
    have N2 : News g' L' h [] := News.nil
    clear F1 e1 e2 e3 e4 e5
    k_steps
    · rename ((_ : List Nat) < _) => hq
      rw [mid_eq, Int.toNat_natCast] at hq
      have up : ∀ i, (lo + hi) / 2 ≤ i → i < vs.length → slt x (key (xs.getD i (Str.ofString ""))) = true := fun i h1 h2 => hmono _ i h1 h2 (decide_eq_true hq)
      refine' IH ((lo + hi) / 2 - lo) _ (by omega) ⟨lo, (lo + hi) / 2, tl, _, _, _, _, rfl, Nat.le_refl _, by omega, by omega, hI1, ?a2, ?F, ?e1, ?e2, ?e3, ?e4, ?e5⟩
      (case F => assumption); (case e1 => with_unfolding_all rfl); (case e2 => exact congrArg (fun z => some (Value.int z _)) (mid_eq lo hi)); (case e3 => with_unfolding_all rfl); (case e4 => with_unfolding_all rfl); (case e5 => with_unfolding_all rfl)
      case a2 => exact fun i h1 h2 => up i h1 h2
    · rename (¬ (_ : List Nat) < _) => hq
      rw [mid_eq, Int.toNat_natCast] at hq
      have down : ∀ i, i < (lo + hi) / 2 + 1 → slt x (key (xs.getD i (Str.ofString ""))) = false := fun i h1 => by
        cases hc : slt x (key (xs.getD i (Str.ofString ""))) with
        | false => rfl
        | true => exact absurd (of_decide_eq_true (hmono i _ (by omega) (by omega) hc)) hq
      refine' IH (hi - ((lo + hi) / 2 + 1)) _ (by omega) ⟨(lo + hi) / 2 + 1, hi, _, th, _, _, _, rfl, Nat.le_refl _, by omega, hhi, ?a1, hI2, ?F, ?e1, ?e2, ?e3, ?e4, ?e5⟩
      (case F => assumption); (case e1 => exact congrArg (fun z => some (Value.int z _)) (mid_succ lo hi)); (case e2 => with_unfolding_all rfl); (case e3 => with_unfolding_all rfl); (case e4 => with_unfolding_all rfl); (case e5 => with_unfolding_all rfl)
      case a1 => exact fun i h1 => down i h1
    · rename Kept _ _ _ => kp
      have hlo : lo = hi := by omega
      subst hlo
      exact hret _ _ _ ⟨lo, _, rfl, hhi, hI1, hI2⟩ (Kept.ext kp) (by assumption)
end
section
open PySem PySem.W PyProof.Rows PySem.Calls
set_option maxRecDepth 100000
set_option maxHeartbeats 4000000 in
theorem bisL1 (prog : Program) (w : World) (l : Addr) (x : Str) (t t0 : Tok) (vs : List Value) (xs : List Str) (hvx : StrsAre vs xs) (hfit : vs.length ≤ 1000) (key : Str → Str) (hmono : ∀ i j, i ≤ j → j < vs.length → slt (key (xs.getD j (Str.ofString ""))) x = true → slt (key (xs.getD i (Str.ofString ""))) x = true)
    (hkey : KeyOk prog w 182 vs.length xs key) :
    Con prog w 64 [.ref l, .str x t] [(Str.ofString "key", .ref 182)] (fun h => h.IsList l vs.toArray) 16 (fun r => ∃ (k : Nat) (u : Tok), r = .int k u ∧ k ≤ vs.length ∧ (∀ i, i < k → slt (key (xs.getD i (Str.ofString ""))) x = true) ∧ (∀ i, k ≤ i → i < vs.length → slt (key (xs.getD i (Str.ofString ""))) x = false)) := by
  unfold Con
  intro p loose mean mg mb dp un gd cn sn sg si so a ccd cl outer A₀ base h₀ L m s Q E B F X T hd hu hl hret
  refine wpAny_call ?_
  k_dflt (refine' codeL (led := []) ?k1 ?k2 ?k3 News.nil ?k5 ?kA ?kF ?kK ?k6 ?k7 ?k8 ?k9 ?kB ?_ ?c2 ?c3 ?c4 ?c5; (case kA => exact rfl); (case kF => exact rfl); (case kK => exact rfl); (case k1 => k_asm); (case k2 => k_asm); (case k3 => k_asm); (case k5 => k_asm); (case k6 => k_is); (case k7 => k_is); (case k8 => k_room); (case k9 => (refine' kp_binds ?kx ?ke; (case kx => k_in); (case ke => exact fun _ => rfl))); (case c5 => decide); (case kB => exact locs rfl); (case c2 => exact rfl); (case c3 => exact rfl); (case c4 => exact rfl); k_whole; intro g' L' h' FG' F' N' B' X' T' l1 kG'; (try k_lt l1); (try dsimp only); (try k_fold))
  have hl' : g'.IsList l vs.toArray := hl.at fun o e => kG' _ _ List.not_mem_nil e
  k_steps
  refine whl_loop ?hE (fun n s' => ∃ (lo hi : Nat) (tl th : Tok) (m : Str → Option Value) (h : Heap) (tk : Nat), s' = { s with heap := h, toks := tk } ∧ hi - lo ≤ n ∧ lo ≤ hi ∧ hi ≤ vs.length ∧ (∀ i, i < lo → slt (key (xs.getD i (Str.ofString ""))) x = true) ∧ (∀ i, hi ≤ i → i < vs.length → slt (key (xs.getD i (Str.ofString ""))) x = false) ∧ Fr g' L' h m ∧
    m (Str.ofString "lo") = some (.int lo tl) ∧ m (Str.ofString "hi") = some (.int hi th) ∧ m (Str.ofString "a") = some (.ref l) ∧ m (Str.ofString "x") = some (.str x t) ∧ m (Str.ofString "key") = some (.ref 182)) ?turn vs.length _ ?start
  case hE => first | passes_own | with_unfolding_all passes_own
  case start => exact ⟨0, vs.length, _, _, _, _, _, rfl, Nat.le_refl _, Nat.zero_le _, Nat.le_refl _, fun i hi => absurd hi (Nat.not_lt_zero _), fun i h1 h2 => absurd h2 (Nat.not_lt_of_le h1), by assumption, by with_unfolding_all rfl, by with_unfolding_all rfl, by with_unfolding_all rfl, by with_unfolding_all rfl, by with_unfolding_all rfl⟩
  case turn =>
    rename Fr g' L' _ _ => Fold
    clear Fold
    intro n sx IH hX
    refine ex7 hX fun lo hi tl th m1 h tk hP => ?_
    have ex0 := hP.1
    have hn1 := hP.2.1
    have hlh := hP.2.2.1
    have hhi := hP.2.2.2.1
    have hI1 := hP.2.2.2.2.1
    have hI2 := hP.2.2.2.2.2.1
    have F1 := hP.2.2.2.2.2.2.1
    have e1 := hP.2.2.2.2.2.2.2.1
    have e2 := hP.2.2.2.2.2.2.2.2.1
    have e3 := hP.2.2.2.2.2.2.2.2.2.1
    have e4 := hP.2.2.2.2.2.2.2.2.2.2.1
    have e5 := hP.2.2.2.2.2.2.2.2.2.2.2
    subst ex0
    clear hX hP
    have F2 : Fr g' L' h (fun z => if z = Str.ofString "lo" then some (.int lo tl) else if z = Str.ofString "hi" then some (.int hi th) else if z = Str.ofString "a" then some (.ref l) else if z = Str.ofString "x" then some (.str x t) else if z = Str.ofString "key" then some (.ref 182) else m1 z) := by
      have e : (fun z => if z = Str.ofString "lo" then some (.int lo tl) else if z = Str.ofString "hi" then some (.int hi th) else if z = Str.ofString "a" then some (.ref l) else if z = Str.ofString "x" then some (.str x t) else if z = Str.ofString "key" then some (.ref 182) else m1 z) = m1 := funext fun z => by (repeat' split) <;> simp_all
      rw [e]; exact F1
    have N2 : News g' L' h [] := News.nil
    clear F1 e1 e2 e3 e4 e5
    k_steps
    · rename ((_ : List Nat) < _) => hq
      rw [mid_eq, Int.toNat_natCast] at hq
      have down : ∀ i, i < (lo + hi) / 2 + 1 → slt (key (xs.getD i (Str.ofString ""))) x = true := fun i h1 => hmono i _ (by omega) (by omega) (decide_eq_true hq)
      refine' IH (hi - ((lo + hi) / 2 + 1)) _ (by omega) ⟨(lo + hi) / 2 + 1, hi, _, th, _, _, _, rfl, Nat.le_refl _, by omega, hhi, ?a1, hI2, ?F, ?e1, ?e2, ?e3, ?e4, ?e5⟩
      (case F => assumption); (case e1 => exact congrArg (fun z => some (Value.int z _)) (mid_succ lo hi)); (case e2 => with_unfolding_all rfl); (case e3 => with_unfolding_all rfl); (case e4 => with_unfolding_all rfl); (case e5 => with_unfolding_all rfl)
      case a1 => exact fun i h1 => down i h1
    · rename (¬ (_ : List Nat) < _) => hq
      rw [mid_eq, Int.toNat_natCast] at hq
      have up : ∀ i, (lo + hi) / 2 ≤ i → i < vs.length → slt (key (xs.getD i (Str.ofString ""))) x = false := fun i h1 h2 => by
        cases hc : slt (key (xs.getD i (Str.ofString ""))) x with
        | false => rfl
        | true => exact absurd (of_decide_eq_true (hmono _ i h1 h2 hc)) hq
      refine' IH ((lo + hi) / 2 - lo) _ (by omega) ⟨lo, (lo + hi) / 2, tl, _, _, _, _, rfl, Nat.le_refl _, by omega, by omega, hI1, ?a2, ?F, ?e1, ?e2, ?e3, ?e4, ?e5⟩
      (case F => assumption); (case e1 => with_unfolding_all rfl); (case e2 => exact congrArg (fun z => some (Value.int z _)) (mid_eq lo hi)); (case e3 => with_unfolding_all rfl); (case e4 => with_unfolding_all rfl); (case e5 => with_unfolding_all rfl)
      case a2 => exact fun i h1 h2 => up i h1 h2
    · rename Kept _ _ _ => kp
      have hlo : lo = hi := by omega
      subst hlo
      exact hret _ _ _ ⟨lo, _, rfl, hhi, hI1, hI2⟩ (Kept.ext kp) (by assumption)
end
section
open PySem PySem.W PyProof.Rows PySem.Calls
set_option maxRecDepth 100000
set_option maxHeartbeats 4000000 in
theorem bisL2 (prog : Program) (w : World) (l : Addr) (x : Str) (t t0 : Tok) (vs : List Value) (xs : List Str) (hvx : StrsAre vs xs) (hfit : vs.length ≤ 1000) (key : Str → Str) (hmono : ∀ i j, i ≤ j → j < vs.length → slt (key (xs.getD j (Str.ofString ""))) x = true → slt (key (xs.getD i (Str.ofString ""))) x = true)
    (hkey : KeyOk prog w 182 vs.length xs key) :
    Con prog w 64 [.ref l, .str x t, .int 0 t0, .none] [(Str.ofString "key", .ref 182)] (fun h => h.IsList l vs.toArray) 16 (fun r => ∃ (k : Nat) (u : Tok), r = .int k u ∧ k ≤ vs.length ∧ (∀ i, i < k → slt (key (xs.getD i (Str.ofString ""))) x = true) ∧ (∀ i, k ≤ i → i < vs.length → slt (key (xs.getD i (Str.ofString ""))) x = false)) := by
  unfold Con
  intro p loose mean mg mb dp un gd cn sn sg si so a ccd cl outer A₀ base h₀ L m s Q E B F X T hd hu hl hret
  refine wpAny_call ?_
  k_dflt (refine' codeL (led := []) ?k1 ?k2 ?k3 News.nil ?k5 ?kA ?kF ?kK ?k6 ?k7 ?k8 ?k9 ?kB ?_ ?c2 ?c3 ?c4 ?c5; (case kA => exact rfl); (case kF => exact rfl); (case kK => exact rfl); (case k1 => k_asm); (case k2 => k_asm); (case k3 => k_asm); (case k5 => k_asm); (case k6 => k_is); (case k7 => k_is); (case k8 => k_room); (case k9 => (refine' kp_binds ?kx ?ke; (case kx => k_in); (case ke => exact fun _ => rfl))); (case c5 => decide); (case kB => exact locs rfl); (case c2 => exact rfl); (case c3 => exact rfl); (case c4 => exact rfl); k_whole; intro g' L' h' FG' F' N' B' X' T' l1 kG'; (try k_lt l1); (try dsimp only); (try k_fold))
  have hl' : g'.IsList l vs.toArray := hl.at fun o e => kG' _ _ List.not_mem_nil e
  k_steps
  refine whl_loop ?hE (fun n s' => ∃ (lo hi : Nat) (tl th : Tok) (m : Str → Option Value) (h : Heap) (tk : Nat), s' = { s with heap := h, toks := tk } ∧ hi - lo ≤ n ∧ lo ≤ hi ∧ hi ≤ vs.length ∧ (∀ i, i < lo → slt (key (xs.getD i (Str.ofString ""))) x = true) ∧ (∀ i, hi ≤ i → i < vs.length → slt (key (xs.getD i (Str.ofString ""))) x = false) ∧ Fr g' L' h m ∧
    m (Str.ofString "lo") = some (.int lo tl) ∧ m (Str.ofString "hi") = some (.int hi th) ∧ m (Str.ofString "a") = some (.ref l) ∧ m (Str.ofString "x") = some (.str x t) ∧ m (Str.ofString "key") = some (.ref 182)) ?turn vs.length _ ?start
  case hE => first | passes_own | with_unfolding_all passes_own
  case start => exact ⟨0, vs.length, _, _, _, _, _, rfl, Nat.le_refl _, Nat.zero_le _, Nat.le_refl _, fun i hi => absurd hi (Nat.not_lt_zero _), fun i h1 h2 => absurd h2 (Nat.not_lt_of_le h1), by assumption, by with_unfolding_all rfl, by with_unfolding_all rfl, by with_unfolding_all rfl, by with_unfolding_all rfl, by with_unfolding_all rfl⟩
  case turn =>
    rename Fr g' L' _ _ => Fold
    clear Fold
    intro n sx IH hX
    refine ex7 hX fun lo hi tl th m1 h tk hP => ?_
    have ex0 := hP.1
    have hn1 := hP.2.1
    have hlh := hP.2.2.1
    have hhi := hP.2.2.2.1
    have hI1 := hP.2.2.2.2.1
    have hI2 := hP.2.2.2.2.2.1
    have F1 := hP.2.2.2.2.2.2.1
    have e1 := hP.2.2.2.2.2.2.2.1
    have e2 := hP.2.2.2.2.2.2.2.2.1
    have e3 := hP.2.2.2.2.2.2.2.2.2.1
    have e4 := hP.2.2.2.2.2.2.2.2.2.2.1
    have e5 := hP.2.2.2.2.2.2.2.2.2.2.2
    subst ex0
    clear hX hP
    have F2 : Fr g' L' h (fun z => if z = Str.ofString "lo" then some (.int lo tl) else if z = Str.ofString "hi" then some (.int hi th) else if z = Str.ofString "a" then some (.ref l) else if z = Str.ofString "x" then some (.str x t) else if z = Str.ofString "key" then some (.ref 182) else m1 z) := by
      have e : (fun z => if z = Str.ofString "lo" then some (.int lo tl) else if z = Str.ofString "hi" then some (.int hi th) else if z = Str.ofString "a" then some (.ref l) else if z = Str.ofString "x" then some (.str x t) else if z = Str.ofString "key" then some (.ref 182) else m1 z) = m1 := funext fun z => by (repeat' split) <;> simp_all
      rw [e]; exact F1
    have N2 : News g' L' h [] := News.nil
    clear F1 e1 e2 e3 e4 e5
    k_steps
    · rename ((_ : List Nat) < _) => hq
      rw [mid_eq, Int.toNat_natCast] at hq
      have down : ∀ i, i < (lo + hi) / 2 + 1 → slt (key (xs.getD i (Str.ofString ""))) x = true := fun i h1 => hmono i _ (by omega) (by omega) (decide_eq_true hq)
      refine' IH (hi - ((lo + hi) / 2 + 1)) _ (by omega) ⟨(lo + hi) / 2 + 1, hi, _, th, _, _, _, rfl, Nat.le_refl _, by omega, hhi, ?a1, hI2, ?F, ?e1, ?e2, ?e3, ?e4, ?e5⟩
      (case F => assumption); (case e1 => exact congrArg (fun z => some (Value.int z _)) (mid_succ lo hi)); (case e2 => with_unfolding_all rfl); (case e3 => with_unfolding_all rfl); (case e4 => with_unfolding_all rfl); (case e5 => with_unfolding_all rfl)
      case a1 => exact fun i h1 => down i h1
    · rename (¬ (_ : List Nat) < _) => hq
      rw [mid_eq, Int.toNat_natCast] at hq
      have up : ∀ i, (lo + hi) / 2 ≤ i → i < vs.length → slt (key (xs.getD i (Str.ofString ""))) x = false := fun i h1 h2 => by
        cases hc : slt (key (xs.getD i (Str.ofString ""))) x with
        | false => rfl
        | true => exact absurd (of_decide_eq_true (hmono _ i h1 h2 hc)) hq
      refine' IH ((lo + hi) / 2 - lo) _ (by omega) ⟨lo, (lo + hi) / 2, tl, _, _, _, _, rfl, Nat.le_refl _, by omega, by omega, hI1, ?a2, ?F, ?e1, ?e2, ?e3, ?e4, ?e5⟩
      (case F => assumption); (case e1 => with_unfolding_all rfl); (case e2 => exact congrArg (fun z => some (Value.int z _)) (mid_eq lo hi)); (case e3 => with_unfolding_all rfl); (case e4 => with_unfolding_all rfl); (case e5 => with_unfolding_all rfl)
      case a2 => exact fun i h1 h2 => up i h1 h2
    · rename Kept _ _ _ => kp
      have hlo : lo = hi := by omega
      subst hlo
      exact hret _ _ _ ⟨lo, _, rfl, hhi, hI1, hI2⟩ (Kept.ext kp) (by assumption)
end
end
section
open PySem PySem.W PyProof.Rows PySem.Calls
set_option maxRecDepth 100000
local macro_rules | `(tactic| walk_at "call builtin:list.insert") => `(tactic| (k_here; (with_reducible show wpAny _ _ (PySem.call (Value.builtin _) [Value.ref _, Value.int _ _, _]) _ _ _); k_dflt (refine' kl_insert ?F ?N ?f rfl ?U ?z ?_; (case F => k_asm); (case N => k_asm); (case U => k_upd); (case f => exact fits_nat (by assumption) (by assumption)); (case z => (simp only [sizeLine_eq]; omega))); intro h' F' N'; (try k_sweep)))
set_option maxHeartbeats 4000000 in
theorem insR1 (prog : Program) (w : World) (l : Addr) (x : Str) (t : Tok) (n : Nat) (vs : List Value) (hfit : vs.length ≤ 1000) (key : Str → Str) (C1 C2 : Nat → Prop)
    (hkey : Con prog w 182 [.str x t] [] (fun _ => True) 8 (fun r => ∃ u, r = .str (key x) u))
    (hbis : BisOk prog w 46 182 l vs (key x) (fun r => ∃ (k : Nat) (u : Tok), r = .int k u ∧ k ≤ vs.length ∧ (∀ i, i < k → C1 i) ∧ (∀ i, k ≤ i → i < vs.length → C2 i))) :
    ConU prog w 37 [.ref l, .str x t] [(Str.ofString "key", .ref 182)] l (listOf vs.toArray n)
      (fun r o' => r = .none ∧ ∃ (k : Nat), o' = listOf (vs.take k ++ .str x t :: vs.drop k).toArray (n + 1) ∧ k ≤ vs.length ∧ (∀ i, i < k → C1 i) ∧ (∀ i, k ≤ i → i < vs.length → C2 i)) := by
  unfold ConU
  intro p loose mean mg mb dp un gd cn sn sg si so a ccd cl outer A₀ base h₀ L m news g s Q E B F X N U T hd hu hret
  refine wpAny_call ?_
  k_dflt (refine' codeL (led := [(l, listOf vs.toArray n)]) ?k1 ?k2 ?k3 (updF_led U N) ?k5 ?kA ?kF ?kK ?k6 ?k7 ?k8 ?k9 ?kB ?_ ?c2 ?c3 ?c4 ?c5; (case kA => exact rfl); (case kF => exact rfl); (case kK => exact rfl); (case k1 => k_asm); (case k2 => k_asm); (case k3 => k_asm); (case k5 => k_asm); (case k6 => k_is); (case k7 => k_is); (case k8 => k_room); (case k9 => (refine' kp_binds ?kx ?ke; (case kx => k_in); (case ke => exact fun _ => rfl))); (case c5 => decide); (case kB => exact locs rfl); (case c2 => exact rfl); (case c3 => exact rfl); (case c4 => exact rfl); k_whole; intro g' L' h' FG' F' N' B' X' T' l1 kG'; (try k_lt l1); (try dsimp only); (try k_fold))
  k_steps
  rename Kept _ _ _ => kp
  rename (_ ≤ vs.length) => hk1
  rename (∀ i, i < _ → C1 i) => hk2
  rename (∀ i, _ ≤ i → i < vs.length → C2 i) => hk3
  exact hret _ _ _ _ ⟨rfl, _, rfl, hk1, hk2, hk3⟩ (by assumption) (updF_news U N kp (by rw [← kl_ins_nat hk1]; exact News.get (by k_asm) (by k_mem)))
set_option maxHeartbeats 4000000 in
theorem insR2 (prog : Program) (w : World) (l : Addr) (x : Str) (t : Tok) (n : Nat) (vs : List Value) (hfit : vs.length ≤ 1000) (key : Str → Str) (C1 C2 : Nat → Prop)
    (hkey : Con prog w 203 [.str x t] [] (fun _ => True) 8 (fun r => ∃ u, r = .str (key x) u))
    (hbis : BisOk prog w 46 203 l vs (key x) (fun r => ∃ (k : Nat) (u : Tok), r = .int k u ∧ k ≤ vs.length ∧ (∀ i, i < k → C1 i) ∧ (∀ i, k ≤ i → i < vs.length → C2 i))) :
    ConU prog w 37 [.ref l, .str x t] [(Str.ofString "key", .ref 203)] l (listOf vs.toArray n)
      (fun r o' => r = .none ∧ ∃ (k : Nat), o' = listOf (vs.take k ++ .str x t :: vs.drop k).toArray (n + 1) ∧ k ≤ vs.length ∧ (∀ i, i < k → C1 i) ∧ (∀ i, k ≤ i → i < vs.length → C2 i)) := by
  unfold ConU
  intro p loose mean mg mb dp un gd cn sn sg si so a ccd cl outer A₀ base h₀ L m news g s Q E B F X N U T hd hu hret
  refine wpAny_call ?_
  k_dflt (refine' codeL (led := [(l, listOf vs.toArray n)]) ?k1 ?k2 ?k3 (updF_led U N) ?k5 ?kA ?kF ?kK ?k6 ?k7 ?k8 ?k9 ?kB ?_ ?c2 ?c3 ?c4 ?c5; (case kA => exact rfl); (case kF => exact rfl); (case kK => exact rfl); (case k1 => k_asm); (case k2 => k_asm); (case k3 => k_asm); (case k5 => k_asm); (case k6 => k_is); (case k7 => k_is); (case k8 => k_room); (case k9 => (refine' kp_binds ?kx ?ke; (case kx => k_in); (case ke => exact fun _ => rfl))); (case c5 => decide); (case kB => exact locs rfl); (case c2 => exact rfl); (case c3 => exact rfl); (case c4 => exact rfl); k_whole; intro g' L' h' FG' F' N' B' X' T' l1 kG'; (try k_lt l1); (try dsimp only); (try k_fold))
  k_steps
  rename Kept _ _ _ => kp
  rename (_ ≤ vs.length) => hk1
  rename (∀ i, i < _ → C1 i) => hk2
  rename (∀ i, _ ≤ i → i < vs.length → C2 i) => hk3
  exact hret _ _ _ _ ⟨rfl, _, rfl, hk1, hk2, hk3⟩ (by assumption) (updF_news U N kp (by rw [← kl_ins_nat hk1]; exact News.get (by k_asm) (by k_mem)))
set_option maxHeartbeats 4000000 in
theorem insL1 (prog : Program) (w : World) (l : Addr) (x : Str) (t : Tok) (n : Nat) (vs : List Value) (hfit : vs.length ≤ 1000) (key : Str → Str) (C1 C2 : Nat → Prop)
    (hkey : Con prog w 182 [.str x t] [] (fun _ => True) 8 (fun r => ∃ u, r = .str (key x) u))
    (hbis : BisOk prog w 64 182 l vs (key x) (fun r => ∃ (k : Nat) (u : Tok), r = .int k u ∧ k ≤ vs.length ∧ (∀ i, i < k → C1 i) ∧ (∀ i, k ≤ i → i < vs.length → C2 i))) :
    ConU prog w 55 [.ref l, .str x t] [(Str.ofString "key", .ref 182)] l (listOf vs.toArray n)
      (fun r o' => r = .none ∧ ∃ (k : Nat), o' = listOf (vs.take k ++ .str x t :: vs.drop k).toArray (n + 1) ∧ k ≤ vs.length ∧ (∀ i, i < k → C1 i) ∧ (∀ i, k ≤ i → i < vs.length → C2 i)) := by
  unfold ConU
  intro p loose mean mg mb dp un gd cn sn sg si so a ccd cl outer A₀ base h₀ L m news g s Q E B F X N U T hd hu hret
  refine wpAny_call ?_
  k_dflt (refine' codeL (led := [(l, listOf vs.toArray n)]) ?k1 ?k2 ?k3 (updF_led U N) ?k5 ?kA ?kF ?kK ?k6 ?k7 ?k8 ?k9 ?kB ?_ ?c2 ?c3 ?c4 ?c5; (case kA => exact rfl); (case kF => exact rfl); (case kK => exact rfl); (case k1 => k_asm); (case k2 => k_asm); (case k3 => k_asm); (case k5 => k_asm); (case k6 => k_is); (case k7 => k_is); (case k8 => k_room); (case k9 => (refine' kp_binds ?kx ?ke; (case kx => k_in); (case ke => exact fun _ => rfl))); (case c5 => decide); (case kB => exact locs rfl); (case c2 => exact rfl); (case c3 => exact rfl); (case c4 => exact rfl); k_whole; intro g' L' h' FG' F' N' B' X' T' l1 kG'; (try k_lt l1); (try dsimp only); (try k_fold))
  k_steps
  rename Kept _ _ _ => kp
  rename (_ ≤ vs.length) => hk1
  rename (∀ i, i < _ → C1 i) => hk2
  rename (∀ i, _ ≤ i → i < vs.length → C2 i) => hk3
  exact hret _ _ _ _ ⟨rfl, _, rfl, hk1, hk2, hk3⟩ (by assumption) (updF_news U N kp (by rw [← kl_ins_nat hk1]; exact News.get (by k_asm) (by k_mem)))
end
end
end
section
open PySem PySem.W PyProof.Rows PySem.Calls PySem.Spec
set_option maxRecDepth 100000
section
variable {prog : Program} {w : World} {A : Around} {E : Value → Shared → Prop} {s : Shared} {env : Env} {h₀ : Heap} {x : Str} {body : List Stmt} {Q : Flow → Shared → Prop}
structure ForEnd (h₀ : Heap) (L I : Addr) (io : Obj) (J : (Str → Option Value) → List (Addr × Obj) → Prop) (s s₂ : Shared) : Prop where
  out : ∃ h' tk m' nx, s₂ = { s with heap := h', toks := tk } ∧ Fr h₀ L h' m' ∧ News h₀ L h' ((I, io) :: nx) ∧ J m' nx
def ForPost (h₀ : Heap) (L I : Addr) (io : Obj) (J : (Str → Option Value) → List (Addr × Obj) → Prop) (s : Shared) (Q : Flow → Shared → Prop) (f : Flow) (s₂ : Shared) : Prop :=
  match f with
  | .ret v => Q (.ret v) s₂
  | .brk => Q .next s₂
  | .next => ForEnd h₀ L I io J s s₂
  | .cont => ForEnd h₀ L I io J s s₂
theorem for_list {l : Addr} {vs : List Value} {nn : Nat} {m₀ : Str → Option Value} {news : List (Addr × Obj)} (J : Nat → (Str → Option Value) → List (Addr × Obj) → Prop)
    (hh : A.handled = none) (F : Fr h₀ env.locals s.heap m₀) (N : News h₀ env.locals s.heap news) (hm : (l, listOf vs.toArray nn) ∈ news) (hj : J 0 m₀ news)
    (hJl : ∀ i m nx, J i m nx → (l, listOf vs.toArray nn) ∈ nx) (hJa : ∀ i m nx, J i m nx → nx.map (·.1) = news.map (·.1))
    (turn : ∀ I io i v m₁ nx h tk, vs[i]? = some v → J i m₁ nx → (∀ q ∈ news, q.1 < I) → Fr h₀ env.locals h (fun y => if y = x then some v else m₁ y) → News h₀ env.locals h ((I, io) :: nx) →
      wpAny (model prog w) A (execs body env) (ForPost h₀ env.locals I io (J (i + 1)) s Q) E { s with heap := h, toks := tk })
    (done : ∀ m₁ nx h tk, J vs.length m₁ nx → Fr h₀ env.locals h m₁ → News h₀ env.locals h nx → Q .next { s with heap := h, toks := tk }) :
    wpAny (model prog w) A (pyIter (.ref l)) (fun it s₂ => LoopAtV prog w A h₀ env x body Q E it s₂) E s := by
  have hls : s.heap.IsList l vs.toArray := ⟨_, (N _ hm).1, rfl, _, rfl⟩
  have hlt : l < s.heap.objs.size := Heap.lt_size (N _ hm).1
  have hne : l ≠ s.heap.objs.size := Nat.ne_of_lt hlt
  have hLl : env.locals < s.heap.objs.size := F.ns.lt
  refine wpAny_pyIter_list hls ?_
  have W := Walks.list (prog := prog) (w := w) hh s.heap.objs.size l hne vs.toArray
  have hlen : vs.toArray.size = vs.length := by simp
  rw [hlen] at W
  have hlow : ∀ q ∈ news, q.1 < s.heap.objs.size := fun q hq => Heap.lt_size (N q hq).1
  have hnI : ∀ i m nx, J i m nx → ∀ q ∈ nx, q.1 ≠ s.heap.objs.size := fun i m nx hJ q hq e => by
    have h1 : q.1 ∈ nx.map (·.1) := List.mem_map_of_mem hq
    rw [hJa i m nx hJ] at h1
    obtain ⟨r, hr, e2⟩ := List.mem_map.mp h1
    exact absurd (hlow r hr) (by rw [e2, e]; exact Nat.lt_irrefl _)
  have hIn : h₀.get? s.heap.objs.size = none := next_is_new F
  have hln : h₀.get? l = none := (N _ hm).2.2
  refine ⟨_, _, _, vs.length, _, _, m₀, news, J, rfl, W, ?_, ?_, ?_, ⟨⟨_, Heap.get?_push_size _ rfl, rfl, rfl⟩, hls.at fun o e => Heap.get?_push_of_some _ e⟩, F.push _, (fun p hp => ⟨Heap.get?_push_of_some _ (N p hp).1, (N p hp).2⟩), hj, ?_, ?_⟩
  · intro hm'
    rcases List.mem_cons.mp hm' with e | hm'
    · exact absurd hLl (e ▸ Nat.lt_irrefl _)
    · exact (N _ hm).2.1 (List.mem_singleton.mp hm').symm
  · intro b hb
    rw [List.mem_singleton.mp hb]
    exact hIn
  · intro p hp hI
    exact absurd (hlow p hp) ((List.mem_singleton.mp hI) ▸ Nat.lt_irrefl _)
  · rintro i v m₁ nx s₁ own ⟨hh', tk', rfl⟩ hin hP hJ hoff hown hownV hall hst F₁ N₁
    have hIo : ∃ io, hh'.get? s.heap.objs.size = some io := by
      obtain ⟨⟨o, ho, _⟩, _⟩ := hst
      exact ⟨o, ho⟩
    obtain ⟨io, hio⟩ := hIo
    have hmem : (s.heap.objs.size, io) ∈ own := hall _ (.head _) hIn io hio
    have hlm : (l, listOf vs.toArray nn) ∈ nx := hJl i m₁ nx hJ
    have hownIs : ∀ q ∈ own, q ∈ ((s.heap.objs.size, io) :: nx) := fun q hq => by
      have hv := hownV q hq
      rcases List.mem_cons.mp (hown q hq) with e | e
      · have : q = (s.heap.objs.size, io) := by
          obtain ⟨a, b⟩ := q
          dsimp only at e hv
          subst e
          rw [hio] at hv
          cases hv; rfl
        rw [this]; exact .head _
      · have e := List.mem_singleton.mp e
        have hlv := (N₁ _ (List.mem_append_right _ hlm)).1
        have : q = (l, listOf vs.toArray nn) := by
          obtain ⟨a, b⟩ := q
          dsimp only at e hv
          subst e
          rw [hv] at hlv
          cases hlv; rfl
        rw [this]; exact .tail _ hlm
    have N₂ : News h₀ env.locals hh' ((s.heap.objs.size, io) :: nx) := fun q hq => by
      rcases List.mem_cons.mp hq with rfl | hq
      · exact N₁ _ (List.mem_append_left _ hmem)
      · exact N₁ _ (List.mem_append_right _ hq)
    have hP' : vs[i]? = some v := by simpa using hP
    refine wpAny_mono (turn _ io i v m₁ nx hh' tk' hP' hJ hlow F₁ N₂) (fun f s₂ p => ?_) fun _ _ e => e
    have fin : ForEnd h₀ env.locals s.heap.objs.size io (J (i + 1)) s s₂ → LoopStepU h₀ env.locals [s.heap.objs.size] own (J (i + 1)) { s with heap := hh', toks := tk' } .next s₂ := by
      rintro ⟨h', tk, m', nx', e, F', N', hJ'⟩
      refine ⟨rfl, h', tk, m', nx', e, F', fun q hq => ?_, fun q hq hI => hnI _ _ _ hJ' q hq (List.mem_singleton.mp hI), hJ'⟩
      rcases List.mem_append.mp hq with hq | hq
      · rcases List.mem_cons.mp (hownIs q hq) with rfl | h1
        · exact N' _ (.head _)
        · rcases List.mem_cons.mp (hown q hq) with e | e
          · exact absurd e (hnI i m₁ nx hJ q h1)
          · have e := List.mem_singleton.mp e
            have h2 := (N₂ q (.tail _ h1)).1
            have h3 := (N₂ _ (.tail _ hlm)).1
            have : q = (l, listOf vs.toArray nn) := by
              obtain ⟨a, b⟩ := q
              dsimp only at e h2
              subst e
              rw [h3] at h2
              cases h2; rfl
            rw [this]
            exact N' _ (.tail _ (hJl _ _ _ hJ'))
      · exact N' q (.tail _ hq)
    cases f with
    | ret v => exact .ret p
    | brk => exact .brk p
    | next => exact .next (fin p)
    | cont => exact .cont (fin p)
  · rintro h' tk m' nx F' N' _ hJ
    exact done m' nx h' tk hJ F' N'
end
end
section
open PySem PySem.W PyProof.Rows PySem.Calls PySem.Spec
set_option maxRecDepth 100000
theorem fitsL {i : Int} (h0 : 0 ≤ i) (h : i ≤ 1000) : Builtin.Range.rangeFitsLong i = true := by
  unfold Builtin.Range.rangeFitsLong
  rw [Bool.and_eq_true, decide_eq_true_eq, decide_eq_true_eq]
  omega
theorem size_nat (n : Nat) : Builtin.Range.rangeSize 0 (n : Int) 1 = (n : Int) := by
  unfold Builtin.Range.rangeSize
  rw [if_pos (by decide)]
  split
  · rw [Int.ediv_one]; omega
  · omega
theorem small_nat (n : Nat) (hn : n ≤ 1000) : Builtin.Range.small 0 (n : Int) 1 = true := by
  unfold Builtin.Range.small
  rw [size_nat, if_pos (by decide)]
  rw [fitsL (i := 0) (by omega) (by omega), fitsL (i := (n : Int)) (by omega) (by omega), fitsL (i := 1) (by omega) (by omega), fitsL (i := (n : Int) + (1 - 1)) (by omega) (by omega)]
  simp
theorem newList_X {M : Model} {A : Around} {E : Value → Shared → Prop} {s : Shared} {h₀ : Heap} {L : Addr} {m : Str → Option Value} {news : List (Addr × Obj)} {vs : List Value} {Q : Value → Shared → Prop} (F : Fr h₀ L s.heap m) (N : News h₀ L s.heap news)
    (h : ∀ a h', Ext s.heap h' → Fr h₀ L h' m → News h₀ L h' ((a, listOf vs.toArray 0) :: news) → (∀ q ∈ news, q.1 < a) → Q (.ref a) { s with heap := h' }) (hsz : vs.length ≤ sizeLine) : wpAny M A (newList vs) Q E s :=
  wpAny_newObj_type (h _ _ (fun _ _ e => Heap.get?_push_of_some _ e) (F.push _) (N.push F _) fun p hp => Heap.lt_size (N p hp).1) (by show vs.toArray.size ≤ sizeLine; rw [List.size_toArray]; exact hsz)
theorem Ext.trans {a b c : Heap} (h : Ext a b) (h' : Ext b c) : Ext a c := fun x o e => h' x o (h x o e)
theorem Ext.refl (a : Heap) : Ext a a := fun _ _ e => e
theorem name_blk {M : Model} {A : Around} {E : Value → Shared → Prop} {s : Shared} {scope : Scope} {cl : List (Str × Addr)} {C : Addr} {env : Env} {x : Str} {pos : Pos} {v : Value} {m₃ : Str → Option Value} {g : Heap} {Q : Value → Shared → Prop}
    (hC : g.Ns C m₃) (hx : m₃ x = some v) (e : Ext g s.heap) (h : Q v s) (hk : scope.kind = .function) (hl : (compEnvC scope cl C env).kindOf x = some .local) (hd : (x == ("__debug__" : Str)) = false) :
    wpAny M A (eval (.Name x pos) (compEnvC scope cl C env)) Q E s :=
  wpAny_Name (wpAny_loadName_local (by simp [compEnvC, relabel, hk]) hl (hC.keeps e) hx h) hd
section
variable {prog : Program} {w : World} {A : Around} {E : Value → Shared → Prop} {s : Shared} {env : Env} {h₀ : Heap} {Q : Value → Shared → Prop}
structure EltEnd (Fe : Value → Value → Prop) (v : Value) (s₃ : Shared) (y : Value) (s₄ : Shared) : Prop where
  val : Fe v y
  keeps : Keeps s₃ s₄
structure TestEnd (p : Value → Bool) (v : Value) (s₃ : Shared) (b : Bool) (s₄ : Shared) : Prop where
  val : b = p v
  keeps : Keeps s₃ s₄
structure CompHere (prog : Program) (w : World) (A : Around) (env : Env) (scope : Scope) (cl : List (Str × Addr)) (x : Str) (ifs : List PySem.Expr) (elt : PySem.Expr) (p : Value → Bool) (F : Value → Value → Prop) (Q E : Value → Shared → Prop) (xv : Value) (s₁ : Shared) : Prop where
  out : wpAny (model prog w) A (pyIter xv) (fun it s₂ => ∃ I fp wr n P St, it = .ref I ∧ Walks prog w A I fp wr n P St ∧ n ≤ sizeLine ∧ St 0 s₂.heap ∧ (∀ b ∈ fp, b < s₂.heap.objs.size) ∧
      QuietOnC prog w A env scope cl x ifs elt wr P p F s₂ ∧
      (∀ D h' tk ys (vs : List Value), s₂.heap.get? D = none → h'.IsList D ys → h'.PlainList D ys → vs.length = n → (∀ j v, vs[j]? = some v → P j v) → Paired F (vs.filter p) ys.toList →
        (∀ b o, b ∉ wr → s₂.heap.get? b = some o → h'.get? b = some o) → Q (.ref D) { s₂ with heap := h', toks := tk })) E s₁
theorem comp_start {elt iter : PySem.Expr} {x : Str} {px : Pos} {ifs : List PySem.Expr} {scope : Scope} {cl : List (Str × Addr)} {pos : Pos} (p : Value → Bool) (F : Value → Value → Prop)
    (hclos : closureFor scope env = pure cl) (hcell : ∀ y ∈ scope.names, y.2 ≠ .cell) (hkind : scope.kind = .function)
    (hnames : ∀ y ∈ scope.names, y.2 = .local → scope.names.lookup y.1 = some .local) (hx : scope.names.lookup x = some .local)
    (h : wpAny (model prog w) A (eval iter env) (CompHere prog w A env scope cl x ifs elt p F Q E) E s)
    (hs : ∀ x, foldedSetIterable iter env x = pure x := by intro _; rfl) :
    wpAny (model prog w) A (eval (.ListComp elt [⟨.Name x px, iter, ifs, 0⟩] scope pos) env) Q E s :=
  wpAny_ListComp_free p F hclos hcell hkind hnames hx (wpAny_mono h (fun _ _ h => h.out) fun _ _ e => e) hs
structure CompHereA (prog : Program) (w : World) (A : Around) (env : Env) (scope : Scope) (cl : List (Str × Addr)) (x : Str) (ifs : List PySem.Expr) (elt : PySem.Expr) (p : Value → Bool) (F : Value → Value → Prop) (y : Str) (Qf : Flow → Shared → Prop) (E : Value → Shared → Prop) (xv : Value) (s₁ : Shared) : Prop where
  out : wpAny (model prog w) A (pyIter xv) (fun it s₂ => ∃ I fp wr n P St m, it = .ref I ∧ Walks prog w A I fp wr n P St ∧ n ≤ sizeLine ∧ St 0 s₂.heap ∧ (∀ b ∈ fp, b < s₂.heap.objs.size) ∧
      env.locals ∉ wr ∧ s₂.heap.Ns env.locals m ∧ QuietOnC prog w A env scope cl x ifs elt wr P p F s₂ ∧
      (∀ D h' tk ys (vs : List Value), s₂.heap.get? D = none → h'.IsList D ys → h'.PlainList D ys → vs.length = n → (∀ j v, vs[j]? = some v → P j v) → Paired F (vs.filter p) ys.toList →
        h'.Ns env.locals (fun z => if z = y then some (.ref D) else m z) → (∀ b o, b ≠ env.locals → b ∉ wr → s₂.heap.get? b = some o → h'.get? b = some o) → Qf .next { s₂ with heap := h', toks := tk })) E s₁
theorem comp_startA {elt iter : PySem.Expr} {x y : Str} {px py : Pos} {ifs : List PySem.Expr} {scope : Scope} {cl : List (Str × Addr)} {pos spos : Pos} {Qf : Flow → Shared → Prop} (p : Value → Bool) (F : Value → Value → Prop)
    (hsw : swapsWith (.ListComp elt [⟨.Name x px, iter, ifs, 0⟩] scope pos) (some (.Name y py)) spos.line env = pure true)
    (hclos : closureFor scope env = pure cl) (hcell : ∀ z ∈ scope.names, z.2 ≠ .cell) (hkind : scope.kind = .function)
    (hnames : ∀ z ∈ scope.names, z.2 = .local → scope.names.lookup z.1 = some .local) (hx : scope.names.lookup x = some .local)
    (hy : env.kindOf y = some .local) (hp : (env.scope.kind == .class || (env.scope.kind == .module && env.locals != env.globals)) = false)
    (h : wpAny (model prog w) A (eval iter env) (CompHereA prog w A env scope cl x ifs elt p F y Qf E) E s)
    (hs : ∀ x, foldedSetIterable iter env x = pure x := by intro _; rfl) :
    wpAny (model prog w) A (exec (.Assign [.Name y py] (.ListComp elt [⟨.Name x px, iter, ifs, 0⟩] scope pos) spos) env) Qf E s :=
  wpAny_Assign_ListComp_free p F hsw hclos hcell hkind hnames hx hy hp (wpAny_mono h (fun _ _ h => h.out) fun _ _ e => e) hs
def AllNe (d : Addr) : List (Addr × Obj) → Prop
  | [] => True
  | p :: r => @Ne Nat p.1 d ∧ AllNe d r
theorem allNe_of {d : Addr} : ∀ {l : List (Addr × Obj)}, (∀ p ∈ l, p.1 ≠ d) → AllNe d l
  | [], _ => trivial
  | p :: _, h => ⟨h p (.head _), allNe_of fun q hq => h q (.tail _ hq)⟩
section
variable {elt : PySem.Expr} {x : Str} {ifs : List PySem.Expr} {scope : Scope} {cl : List (Str × Addr)} {p : Value → Bool} {Fe : Value → Value → Prop} {m : Str → Option Value} {news : List (Addr × Obj)}
theorem comp_iter {io : Obj} {n : Nat} {P : Nat → Value → Prop} {St : Nat → Heap → Prop} {fp : List Addr}
    (F : Fr h₀ env.locals s.heap m) (N : News h₀ env.locals s.heap news)
    (W : Walks prog w A s.heap.objs.size fp [s.heap.objs.size] n P St) (hn : n ≤ 1000) (hst : St 0 (s.heap.push io)) (hfp : ∀ b ∈ fp, b < (s.heap.push io).objs.size)
    (ht : ∀ C i v (s₃ : Shared) m₃ E', P i v → s₃.heap.Ns C m₃ → m₃ x = some v → Fr h₀ env.locals s₃.heap m → News h₀ env.locals s₃.heap news →
      wpAny (model prog w) A (forIn ifs true fun c r => if r = true then do let ok ← isTrue c (compEnvC scope cl C env) (eval c (compEnvC scope cl C env)); pure (ForInStep.yield ok) else pure (ForInStep.yield r))
        (TestEnd p v s₃) E' s₃)
    (he : ∀ C i v (s₃ : Shared) m₃ E', P i v → p v = true → s₃.heap.Ns C m₃ → m₃ x = some v → Fr h₀ env.locals s₃.heap m → News h₀ env.locals s₃.heap news →
      wpAny (model prog w) A (eval elt (compEnvC scope cl C env)) (EltEnd Fe v s₃) E' s₃)
    (h : ∀ D h' tk (ys vs : List Value) k, Fr h₀ env.locals h' m → News h₀ env.locals h' ((D, listOf ys.toArray k) :: news) → AllNe D news → vs.length = n → (∀ j v, vs[j]? = some v → P j v) → Paired Fe (vs.filter p) ys → Q (.ref D) { s with heap := h', toks := tk }) :
    ∃ I fp wr n P St, Value.ref s.heap.objs.size = .ref I ∧ Walks prog w A I fp wr n P St ∧ n ≤ sizeLine ∧ St 0 ({ s with heap := s.heap.push io } : Shared).heap ∧ (∀ b ∈ fp, b < ({ s with heap := s.heap.push io } : Shared).heap.objs.size) ∧
      QuietOnC prog w A env scope cl x ifs elt wr P p Fe { s with heap := s.heap.push io } ∧
      (∀ D h' tk ys (vs : List Value), ({ s with heap := s.heap.push io } : Shared).heap.get? D = none → h'.IsList D ys → h'.PlainList D ys → vs.length = n → (∀ j v, vs[j]? = some v → P j v) → Paired Fe (vs.filter p) ys.toList →
        (∀ b o, b ∉ wr → ({ s with heap := s.heap.push io } : Shared).heap.get? b = some o → h'.get? b = some o) → Q (.ref D) { ({ s with heap := s.heap.push io } : Shared) with heap := h', toks := tk }) := by
  have low : ∀ b o, s.heap.get? b = some o → b ∉ [s.heap.objs.size] := fun b o e q => absurd (Heap.lt_size e) ((List.mem_singleton.mp q) ▸ Nat.lt_irrefl _)
  have keep : ∀ {g : Heap}, (∀ b o, b ∉ [s.heap.objs.size] → (s.heap.push io).get? b = some o → g.get? b = some o) → ∀ b o, s.heap.get? b = some o → g.get? b = some o :=
    fun hk b o e => hk b o (low b o e) (Heap.get?_push_of_some _ e)
  refine ⟨_, fp, _, n, P, St, rfl, W, Nat.le_trans hn (by rw [sizeLine_eq]; decide), hst, hfp, ⟨?_, ?_⟩, ?_⟩
  · intro C i v s₃ m₃ E' hC hP hns hx hk htk
    have k := keep hk
    exact wpAny_mono (ht C i v s₃ m₃ E' hP hns hx (F.keeps k) (fun q hq => ⟨k _ _ (N q hq).1, (N q hq).2⟩)) (fun _ _ h => ⟨h.val, h.keeps⟩) fun _ _ e => e
  · intro C i v s₃ m₃ E' hC hP hp hns hx hk htk
    have k := keep hk
    exact wpAny_mono (he C i v s₃ m₃ E' hP hp hns hx (F.keeps k) (fun q hq => ⟨k _ _ (N q hq).1, (N q hq).2⟩)) (fun _ _ h => ⟨h.val, h.keeps⟩) fun _ _ e => e
  · intro D h' tk ys vs hD hl hpl hlen hP hF hk
    have k := keep hk
    obtain ⟨nn, hpl⟩ := hpl
    have hD' : ∀ b o, s.heap.get? b = some o → b ≠ D := fun b o e q => by
      subst q
      have hD : (s.heap.push io).get? b = none := hD
      rw [Heap.get?_push_of_some _ e] at hD
      cases hD
    refine h D h' tk ys.toList vs nn (F.keeps k) (fun q hq => ?_) (allNe_of fun q hq => hD' _ _ (N q hq).1) hlen hP hF
    rcases List.mem_cons.mp hq with rfl | hq
    · refine ⟨by simpa using hpl, ?_, ?_⟩
      · obtain ⟨o, es, ep, ho, _⟩ := F.ns
        exact fun e => hD' _ _ ho e.symm
      · cases e : h₀.get? D with
        | none => rfl
        | some o => exact absurd rfl (hD' _ _ (F.keep _ _ e))
    · exact ⟨k _ _ (N q hq).1, (N q hq).2⟩
theorem comp_list {l : Addr} {vs : List Value} {nn : Nat} (hh : A.handled = none) (F : Fr h₀ env.locals s.heap m) (N : News h₀ env.locals s.heap news) (hm : (l, listOf vs.toArray nn) ∈ news) (hlen : vs.length ≤ 1000)
    (ht : ∀ C v (s₃ : Shared) m₃ E', v ∈ vs → s₃.heap.Ns C m₃ → m₃ x = some v → Fr h₀ env.locals s₃.heap m → News h₀ env.locals s₃.heap news →
      wpAny (model prog w) A (forIn ifs true fun c r => if r = true then do let ok ← isTrue c (compEnvC scope cl C env) (eval c (compEnvC scope cl C env)); pure (ForInStep.yield ok) else pure (ForInStep.yield r))
        (TestEnd p v s₃) E' s₃)
    (he : ∀ C v (s₃ : Shared) m₃ E', v ∈ vs → p v = true → s₃.heap.Ns C m₃ → m₃ x = some v → Fr h₀ env.locals s₃.heap m → News h₀ env.locals s₃.heap news →
      wpAny (model prog w) A (eval elt (compEnvC scope cl C env)) (EltEnd Fe v s₃) E' s₃)
    (h : ∀ D h' tk (ys : List Value) k, Fr h₀ env.locals h' m → News h₀ env.locals h' ((D, listOf ys.toArray k) :: news) → AllNe D news → Paired Fe (vs.filter p) ys → Q (.ref D) { s with heap := h', toks := tk }) :
    CompHere prog w A env scope cl x ifs elt p Fe Q E (.ref l) s := by
  have hls : s.heap.IsList l vs.toArray := ⟨_, (N _ hm).1, rfl, _, rfl⟩
  have hne : l ≠ s.heap.objs.size := Nat.ne_of_lt (Heap.lt_size (N _ hm).1)
  refine ⟨wpAny_pyIter_list hls ?_⟩
  have W := Walks.list (prog := prog) (w := w) hh s.heap.objs.size l hne vs.toArray
  have hsz : vs.toArray.size = vs.length := by simp
  rw [hsz] at W
  have mem : ∀ i v, vs.toArray[i]? = some v → v ∈ vs := fun i v e => List.mem_of_getElem? (i := i) (by simpa using e)
  refine comp_iter F N W hlen ⟨⟨_, Heap.get?_push_size _ rfl, rfl, rfl⟩, hls.at fun o e => Heap.get?_push_of_some _ e⟩ ?_ (fun C i v s₃ m₃ E' hP => ht C v s₃ m₃ E' (mem i v hP)) (fun C i v s₃ m₃ E' hP => he C v s₃ m₃ E' (mem i v hP)) ?_
  · intro b hb
    rw [Heap.size_push]
    rcases List.mem_cons.mp hb with rfl | hb
    · exact Nat.lt_succ_self _
    · rw [List.mem_singleton.mp hb]
      exact Nat.lt_succ_of_lt (Heap.lt_size (N _ hm).1)
  · intro D h' tk ys vs' k F' N' ne hlen' hP hF
    have e : vs' = vs := List.ext_getElem? fun j => by
      by_cases hj : j < vs'.length
      · have := hP j vs'[j] (by simp [hj])
        rw [List.getElem?_eq_getElem hj]
        simpa using this.symm
      · rw [List.getElem?_eq_none (by omega), List.getElem?_eq_none (by omega)]
    subst e
    exact h D h' tk ys k F' N' ne hF
theorem comp_range {r : Addr} {n : Nat} {t u v : Tok} (hh : A.handled = none) (F : Fr h₀ env.locals s.heap m) (N : News h₀ env.locals s.heap news) (hr : IsRange s.heap r 0 n 1 t u v) (hn : n ≤ 1000)
    (ht : ∀ C k tk (s₃ : Shared) m₃ E', k < n → s₃.heap.Ns C m₃ → m₃ x = some (.int (k : Nat) tk) → Fr h₀ env.locals s₃.heap m → News h₀ env.locals s₃.heap news →
      wpAny (model prog w) A (forIn ifs true fun c r => if r = true then do let ok ← isTrue c (compEnvC scope cl C env) (eval c (compEnvC scope cl C env)); pure (ForInStep.yield ok) else pure (ForInStep.yield r))
        (TestEnd p (.int (k : Nat) tk) s₃) E' s₃)
    (he : ∀ C k tk (s₃ : Shared) m₃ E', k < n → p (.int (k : Nat) tk) = true → s₃.heap.Ns C m₃ → m₃ x = some (.int (k : Nat) tk) → Fr h₀ env.locals s₃.heap m → News h₀ env.locals s₃.heap news →
      wpAny (model prog w) A (eval elt (compEnvC scope cl C env)) (EltEnd Fe (.int (k : Nat) tk) s₃) E' s₃)
    (h : ∀ D h' tk (ys : List Value) (ts : Nat → Tok) k, Fr h₀ env.locals h' m → News h₀ env.locals h' ((D, listOf ys.toArray k) :: news) → AllNe D news → Paired Fe (((List.range n).map fun i => Value.int (i : Nat) (ts i)).filter p) ys → Q (.ref D) { s with heap := h', toks := tk }) :
    CompHere prog w A env scope cl x ifs elt p Fe Q E (.ref r) s := by
  have hsz := size_nat n
  have hsm := small_nat n hn
  refine ⟨wpAny_pyIter_range hr hsm ?_⟩
  have W : Walks prog w A s.heap.objs.size [s.heap.objs.size] [s.heap.objs.size] n (fun i v => i < n ∧ ∃ t, v = .int ((0 : Int) + i * 1) t)
      (fun i h => IsRangeIter h s.heap.objs.size ((0 : Int) + (i : Nat) * 1) ((n : Int) - (i : Nat)) 1) := (Walks.range hh _ 0 1 n).bound
  refine comp_iter F N W hn ?_ ?_ ?_ ?_ ?_
  · show IsRangeIter _ _ _ _ _
    rw [hsz]
    simpa using Heap.get?_push_size _ rfl
  · intro b hb
    rw [List.mem_singleton.mp hb, Heap.size_push]
    exact Nat.lt_succ_self _
  · rintro C i v s₃ m₃ E' ⟨hi, tk, rfl⟩ hns hx
    have e : ((0 : Int) + i * 1) = ((i : Nat) : Int) := by omega
    rw [e] at hx ⊢
    exact ht C i tk s₃ m₃ E' hi hns hx
  · rintro C i v s₃ m₃ E' ⟨hi, tk, rfl⟩ hp hns hx
    have e : ((0 : Int) + i * 1) = ((i : Nat) : Int) := by omega
    rw [e] at hx hp ⊢
    exact he C i tk s₃ m₃ E' hi hp hns hx
  · intro D h' tk ys vs' k F' N' ne hlen' hP hF
    have e : vs' = (List.range n).map fun i => Value.int (i : Nat) ((match vs'[i]? with | some (.int _ t) => t | _ => 0)) := by
      apply List.ext_getElem?
      intro j
      by_cases hj : j < n
      · have hj' : j < vs'.length := by omega
        obtain ⟨_, t, e⟩ := hP j vs'[j] (by simp [hj'])
        rw [List.getElem?_map, List.getElem?_range hj]
        simp only [Option.map_some]
        rw [List.getElem?_eq_getElem hj', e]
        have : ((0 : Int) + j * 1) = ((j : Nat) : Int) := by omega
        rw [this]
      · rw [List.getElem?_eq_none (by omega), List.getElem?_eq_none (by simp; omega)]
    rw [e] at hF
    exact h D h' tk ys _ k F' N' ne hF
theorem comp_iterA {Qf : Flow → Shared → Prop} {y : Str} {io : Obj} {n : Nat} {P : Nat → Value → Prop} {St : Nat → Heap → Prop} {fp : List Addr}
    (F : Fr h₀ env.locals s.heap m) (N : News h₀ env.locals s.heap news)
    (W : Walks prog w A s.heap.objs.size fp [s.heap.objs.size] n P St) (hn : n ≤ 1000) (hst : St 0 (s.heap.push io)) (hfp : ∀ b ∈ fp, b < (s.heap.push io).objs.size)
    (ht : ∀ C i v (s₃ : Shared) m₃ E', P i v → s₃.heap.Ns C m₃ → m₃ x = some v → Fr h₀ env.locals s₃.heap m → News h₀ env.locals s₃.heap news →
      wpAny (model prog w) A (forIn ifs true fun c r => if r = true then do let ok ← isTrue c (compEnvC scope cl C env) (eval c (compEnvC scope cl C env)); pure (ForInStep.yield ok) else pure (ForInStep.yield r))
        (TestEnd p v s₃) E' s₃)
    (he : ∀ C i v (s₃ : Shared) m₃ E', P i v → p v = true → s₃.heap.Ns C m₃ → m₃ x = some v → Fr h₀ env.locals s₃.heap m → News h₀ env.locals s₃.heap news →
      wpAny (model prog w) A (eval elt (compEnvC scope cl C env)) (EltEnd Fe v s₃) E' s₃)
    (h : ∀ D h' tk (ys vs : List Value) k, Fr h₀ env.locals h' (fun z => if z = y then some (.ref D) else m z) → News h₀ env.locals h' ((D, listOf ys.toArray k) :: news) → AllNe D news → vs.length = n → (∀ j v, vs[j]? = some v → P j v) → Paired Fe (vs.filter p) ys → Qf .next { s with heap := h', toks := tk }) :
    ∃ I fp wr n P St m, Value.ref s.heap.objs.size = .ref I ∧ Walks prog w A I fp wr n P St ∧ n ≤ sizeLine ∧ St 0 ({ s with heap := s.heap.push io } : Shared).heap ∧ (∀ b ∈ fp, b < ({ s with heap := s.heap.push io } : Shared).heap.objs.size) ∧
      env.locals ∉ wr ∧ ({ s with heap := s.heap.push io } : Shared).heap.Ns env.locals m ∧ QuietOnC prog w A env scope cl x ifs elt wr P p Fe { s with heap := s.heap.push io } ∧
      (∀ D h' tk ys (vs : List Value), ({ s with heap := s.heap.push io } : Shared).heap.get? D = none → h'.IsList D ys → h'.PlainList D ys → vs.length = n → (∀ j v, vs[j]? = some v → P j v) → Paired Fe (vs.filter p) ys.toList → h'.Ns env.locals (fun z => if z = y then some (.ref D) else m z) →
        (∀ b o, b ≠ env.locals → b ∉ wr → ({ s with heap := s.heap.push io } : Shared).heap.get? b = some o → h'.get? b = some o) → Qf .next { ({ s with heap := s.heap.push io } : Shared) with heap := h', toks := tk }) := by
  have low : ∀ b o, s.heap.get? b = some o → b ∉ [s.heap.objs.size] := fun b o e q => absurd (Heap.lt_size e) ((List.mem_singleton.mp q) ▸ Nat.lt_irrefl _)
  have keep : ∀ {g : Heap}, (∀ b o, b ∉ [s.heap.objs.size] → (s.heap.push io).get? b = some o → g.get? b = some o) → ∀ b o, s.heap.get? b = some o → g.get? b = some o :=
    fun hk b o e => hk b o (low b o e) (Heap.get?_push_of_some _ e)
  refine ⟨_, fp, _, n, P, St, m, rfl, W, Nat.le_trans hn (by rw [sizeLine_eq]; decide), hst, hfp, fun e => absurd F.ns.lt ((List.mem_singleton.mp e) ▸ Nat.lt_irrefl _), F.ns.keeps (fun _ _ e => Heap.get?_push_of_some _ e), ⟨?_, ?_⟩, ?_⟩
  · intro C i v s₃ m₃ E' hC hP hns hx hk htk
    have k := keep hk
    exact wpAny_mono (ht C i v s₃ m₃ E' hP hns hx (F.keeps k) (fun q hq => ⟨k _ _ (N q hq).1, (N q hq).2⟩)) (fun _ _ h => ⟨h.val, h.keeps⟩) fun _ _ e => e
  · intro C i v s₃ m₃ E' hC hP hp hns hx hk htk
    have k := keep hk
    exact wpAny_mono (he C i v s₃ m₃ E' hP hp hns hx (F.keeps k) (fun q hq => ⟨k _ _ (N q hq).1, (N q hq).2⟩)) (fun _ _ h => ⟨h.val, h.keeps⟩) fun _ _ e => e
  · intro D h' tk ys vs hD hl hpl hlen hP hF hns hk
    have k : ∀ b o, b ≠ env.locals → s.heap.get? b = some o → h'.get? b = some o := fun b o hb e => hk b o hb (low b o e) (Heap.get?_push_of_some _ e)
    obtain ⟨nn, hpl⟩ := hpl
    have hD' : ∀ b o, s.heap.get? b = some o → b ≠ D := fun b o e q => by
      subst q
      have hD : (s.heap.push io).get? b = none := hD
      rw [Heap.get?_push_of_some _ e] at hD
      cases hD
    have hLD : env.locals ≠ D := by
      obtain ⟨o, es, ep, ho, _⟩ := F.ns
      exact hD' _ _ ho
    refine h D h' tk ys.toList vs nn ⟨hns, fun b o e => k b o (Nat.ne_of_lt (Nat.lt_of_lt_of_le (Heap.lt_size e) F.above)) (F.keep b o e), F.above⟩ (fun q hq => ?_) (allNe_of fun q hq => hD' _ _ (N q hq).1) hlen hP hF
    rcases List.mem_cons.mp hq with rfl | hq
    · refine ⟨by simpa using hpl, hLD.symm, ?_⟩
      cases e : h₀.get? D with
      | none => rfl
      | some o => exact absurd rfl (hD' _ _ (F.keep _ _ e))
    · exact ⟨k _ _ (N q hq).2.1 (N q hq).1, (N q hq).2⟩
theorem comp_listA {Qf : Flow → Shared → Prop} {y : Str} {l : Addr} {vs : List Value} {nn : Nat} (hh : A.handled = none) (F : Fr h₀ env.locals s.heap m) (N : News h₀ env.locals s.heap news) (hm : (l, listOf vs.toArray nn) ∈ news) (hlen : vs.length ≤ 1000)
    (ht : ∀ C v (s₃ : Shared) m₃ E', v ∈ vs → s₃.heap.Ns C m₃ → m₃ x = some v → Fr h₀ env.locals s₃.heap m → News h₀ env.locals s₃.heap news →
      wpAny (model prog w) A (forIn ifs true fun c r => if r = true then do let ok ← isTrue c (compEnvC scope cl C env) (eval c (compEnvC scope cl C env)); pure (ForInStep.yield ok) else pure (ForInStep.yield r))
        (TestEnd p v s₃) E' s₃)
    (he : ∀ C v (s₃ : Shared) m₃ E', v ∈ vs → p v = true → s₃.heap.Ns C m₃ → m₃ x = some v → Fr h₀ env.locals s₃.heap m → News h₀ env.locals s₃.heap news →
      wpAny (model prog w) A (eval elt (compEnvC scope cl C env)) (EltEnd Fe v s₃) E' s₃)
    (h : ∀ D h' tk (ys : List Value) k, Fr h₀ env.locals h' (fun z => if z = y then some (.ref D) else m z) → News h₀ env.locals h' ((D, listOf ys.toArray k) :: news) → AllNe D news → Paired Fe (vs.filter p) ys → Qf .next { s with heap := h', toks := tk }) :
    CompHereA prog w A env scope cl x ifs elt p Fe y Qf E (.ref l) s := by
  have hls : s.heap.IsList l vs.toArray := ⟨_, (N _ hm).1, rfl, _, rfl⟩
  have hne : l ≠ s.heap.objs.size := Nat.ne_of_lt (Heap.lt_size (N _ hm).1)
  refine ⟨wpAny_pyIter_list hls ?_⟩
  have W := Walks.list (prog := prog) (w := w) hh s.heap.objs.size l hne vs.toArray
  have hsz : vs.toArray.size = vs.length := by simp
  rw [hsz] at W
  have mem : ∀ i v, vs.toArray[i]? = some v → v ∈ vs := fun i v e => List.mem_of_getElem? (i := i) (by simpa using e)
  refine comp_iterA F N W hlen ⟨⟨_, Heap.get?_push_size _ rfl, rfl, rfl⟩, hls.at fun o e => Heap.get?_push_of_some _ e⟩ ?_ (fun C i v s₃ m₃ E' hP => ht C v s₃ m₃ E' (mem i v hP)) (fun C i v s₃ m₃ E' hP => he C v s₃ m₃ E' (mem i v hP)) ?_
  · intro b hb
    rw [Heap.size_push]
    rcases List.mem_cons.mp hb with rfl | hb
    · exact Nat.lt_succ_self _
    · rw [List.mem_singleton.mp hb]
      exact Nat.lt_succ_of_lt (Heap.lt_size (N _ hm).1)
  · intro D h' tk ys vs' k F' N' ne hlen' hP hF
    have e : vs' = vs := List.ext_getElem? fun j => by
      by_cases hj : j < vs'.length
      · have := hP j vs'[j] (by simp [hj])
        rw [List.getElem?_eq_getElem hj]
        simpa using this.symm
      · rw [List.getElem?_eq_none (by omega), List.getElem?_eq_none (by omega)]
    subst e
    exact h D h' tk ys k F' N' ne hF
theorem comp_rangeA {Qf : Flow → Shared → Prop} {y : Str} {r : Addr} {n : Nat} {t u v : Tok} (hh : A.handled = none) (F : Fr h₀ env.locals s.heap m) (N : News h₀ env.locals s.heap news) (hr : IsRange s.heap r 0 n 1 t u v) (hn : n ≤ 1000)
    (ht : ∀ C k tk (s₃ : Shared) m₃ E', k < n → s₃.heap.Ns C m₃ → m₃ x = some (.int (k : Nat) tk) → Fr h₀ env.locals s₃.heap m → News h₀ env.locals s₃.heap news →
      wpAny (model prog w) A (forIn ifs true fun c r => if r = true then do let ok ← isTrue c (compEnvC scope cl C env) (eval c (compEnvC scope cl C env)); pure (ForInStep.yield ok) else pure (ForInStep.yield r))
        (TestEnd p (.int (k : Nat) tk) s₃) E' s₃)
    (he : ∀ C k tk (s₃ : Shared) m₃ E', k < n → p (.int (k : Nat) tk) = true → s₃.heap.Ns C m₃ → m₃ x = some (.int (k : Nat) tk) → Fr h₀ env.locals s₃.heap m → News h₀ env.locals s₃.heap news →
      wpAny (model prog w) A (eval elt (compEnvC scope cl C env)) (EltEnd Fe (.int (k : Nat) tk) s₃) E' s₃)
    (h : ∀ D h' tk (ys : List Value) (ts : Nat → Tok) k, Fr h₀ env.locals h' (fun z => if z = y then some (.ref D) else m z) → News h₀ env.locals h' ((D, listOf ys.toArray k) :: news) → AllNe D news → Paired Fe (((List.range n).map fun i => Value.int (i : Nat) (ts i)).filter p) ys → Qf .next { s with heap := h', toks := tk }) :
    CompHereA prog w A env scope cl x ifs elt p Fe y Qf E (.ref r) s := by
  have hsz := size_nat n
  have hsm := small_nat n hn
  refine ⟨wpAny_pyIter_range hr hsm ?_⟩
  have W : Walks prog w A s.heap.objs.size [s.heap.objs.size] [s.heap.objs.size] n (fun i v => i < n ∧ ∃ t, v = .int ((0 : Int) + i * 1) t)
      (fun i h => IsRangeIter h s.heap.objs.size ((0 : Int) + (i : Nat) * 1) ((n : Int) - (i : Nat)) 1) := (Walks.range hh _ 0 1 n).bound
  refine comp_iterA F N W hn ?_ ?_ ?_ ?_ ?_
  · show IsRangeIter _ _ _ _ _
    rw [hsz]
    simpa using Heap.get?_push_size _ rfl
  · intro b hb
    rw [List.mem_singleton.mp hb, Heap.size_push]
    exact Nat.lt_succ_self _
  · rintro C i v s₃ m₃ E' ⟨hi, tk, rfl⟩ hns hx
    have e : ((0 : Int) + i * 1) = ((i : Nat) : Int) := by omega
    rw [e] at hx ⊢
    exact ht C i tk s₃ m₃ E' hi hns hx
  · rintro C i v s₃ m₃ E' ⟨hi, tk, rfl⟩ hp hns hx
    have e : ((0 : Int) + i * 1) = ((i : Nat) : Int) := by omega
    rw [e] at hx hp ⊢
    exact he C i tk s₃ m₃ E' hi hp hns hx
  · intro D h' tk ys vs' k F' N' ne hlen' hP hF
    have e : vs' = (List.range n).map fun i => Value.int (i : Nat) ((match vs'[i]? with | some (.int _ t) => t | _ => 0)) := by
      apply List.ext_getElem?
      intro j
      by_cases hj : j < n
      · have hj' : j < vs'.length := by omega
        obtain ⟨_, t, e⟩ := hP j vs'[j] (by simp [hj'])
        rw [List.getElem?_map, List.getElem?_range hj]
        simp only [Option.map_some]
        rw [List.getElem?_eq_getElem hj', e]
        have : ((0 : Int) + j * 1) = ((j : Nat) : Int) := by omega
        rw [this]
      · rw [List.getElem?_eq_none (by omega), List.getElem?_eq_none (by simp; omega)]
    rw [e] at hF
    exact h D h' tk ys _ k F' N' ne hF
end
end
end
section
local macro_rules | `(tactic| walk_at "call ref") => `(tactic| (k_here; refine Stop.out ?_))
local macro_rules | `(tactic| walk_at "eval ListComp") => `(tactic| (k_here; refine Stop.out ?_))
local macro_rules | `(tactic| walk_at "pyIter ref") => `(tactic| (k_here; refine Stop.out ?_))
local macro_rules | `(tactic| walk_at "eval Name") => `(tactic| (k_here; k_dflt (refine' name_blk ?k1 ?k2 ?k3 ?_ ?a ?b ?c; (case a => rfl); (case b => rfl); (case c => decide); (case k1 => assumption); (case k2 => assumption); (case k3 => assumption))))
local macro_rules | `(tactic| k_ne) => `(tactic| (refine neN ?_; (try dsimp only); first | assumption | exact Ne.symm (by assumption) | omega))
section
open PySem PySem.W PyProof.Rows PySem.Calls
set_option maxRecDepth 100000
set_option maxHeartbeats 4000000 in
theorem con_file (prog : Program) (w : World) (x : Int) (t : Tok) : Con prog w 196 [.int x t] [] (fun _ => True) 16 (fun r => ∃ u, r = .str (fileOf x) u) := by
  unfold Con
  intro p loose mean mg mb dp un gd cn sn sg si so a ccd cl outer A₀ base h₀ L m s Q E B F X T hd hu hl hret
  refine wpAny_call ?_
  k_dflt (refine' codeL (led := []) ?k1 ?k2 ?k3 News.nil ?k5 ?kA ?kF ?kK ?k6 ?k7 ?k8 ?k9 ?kB ?_ ?c2 ?c3 ?c4 ?c5; (case kA => exact rfl); (case kF => exact rfl); (case kK => exact rfl); (case k1 => k_asm); (case k2 => k_asm); (case k3 => k_asm); (case k5 => k_asm); (case k6 => k_is); (case k7 => k_is); (case k8 => k_room); (case k9 => exact BindsTo.of_eq rfl); (case c5 => decide); (case kB => exact locs rfl); (case c2 => exact rfl); (case c3 => exact rfl); (case c4 => exact rfl); k_whole; intro g' L' h' FG' F' N' B' X' T' l1 kG'; (try k_lt l1); (try dsimp only); (try k_fold))
  k_steps
  all_goals (
    refine ⟨?_⟩
    k_dflt (refine' con_use (con_join _ _ _ _ _ _ (by decide) (by decide)) ?kB ?kF ?kX ?kN ?kT ?kd ?ku ?kp ?_; (case kB => k_asm); (case kF => k_asm); (case kX => k_asm); (case kN => k_asm); (case kT => k_asm); (case kd => ktr_room); (case ku => ktr_units); (case kp => exact trivial); k_whole)
    rintro _ h5 tk5 ⟨u5, rfl⟩ F5 N5
    (try dsimp only)
    (try k_fold)
    k_steps
    rename Kept _ _ _ => kp
    rename (x.fmod 4 = _) => c1
    rename ((x.fdiv 4).fmod 3 = _) => c2
    exact hret _ _ _ ⟨_, congrArg (Value.str · _) (by unfold fileOf di nj; rw [c1, c2]; rfl)⟩ (Kept.ext kp) (by assumption))
end
section
open PySem PySem.W PyProof.Rows PySem.Calls PySem.Spec
set_option maxRecDepth 100000
theorem keeps_refl (s : Shared) : Keeps s s := ⟨s.heap, s.toks, rfl, fun _ _ e => e⟩
theorem ints_mem {vs : List Value} {ns : List Int} (h : IntsAre vs ns) : ∀ v ∈ vs, ∃ n t, v = .int n t ∧ n ∈ ns := by
  induction h with
  | nil => intro v hv; cases hv
  | cons n t _ ih =>
    intro v hv
    rcases List.mem_cons.mp hv with rfl | hv
    · exact ⟨_, _, rfl, .head _⟩
    · obtain ⟨n', t', e, hm⟩ := ih v hv
      exact ⟨n', t', e, .tail _ hm⟩
theorem paired_texts {f : Int → Str} {vs ys : List Value} {ns : List Int} (h : IntsAre vs ns) (hp : Paired (fun v y => ∃ n t u, v = Value.int n t ∧ y = Value.str (f n) u) (vs.filter fun _ => true) ys) : StrsAre ys (ns.map f) := by
  rw [show (vs.filter fun _ => true) = vs from List.filter_eq_self.mpr fun _ _ => rfl] at hp
  induction h generalizing ys with
  | nil => cases hp; exact .nil
  | cons n t _ ih =>
    cases hp with
    | cons h1 h2 =>
      obtain ⟨n', t', u, e, rfl⟩ := h1
      cases e
      exact .cons _ _ (ih h2)
end
section
open PySem PySem.W PyProof.Rows PySem.Calls
set_option maxRecDepth 100000
def sortBy (o : List Nat) (l : List Int) : List Int := o.flatMap fun j => l.filter fun n => nj n == j
theorem nj_lt (n : Int) : nj n < 3 := by
  unfold nj
  have h1 := Int.fmod_nonneg_of_pos (n.fdiv 4) (b := 3) (by decide)
  have h2 := Int.fmod_lt_of_pos (n.fdiv 4) (b := 3) (by decide)
  omega
theorem di_lt (n : Int) : di n < 4 := by
  unfold di
  have h1 := Int.fmod_nonneg_of_pos n (b := 4) (by decide)
  have h2 := Int.fmod_lt_of_pos n (b := 4) (by decide)
  omega
theorem file_len (n : Int) : (fileOf n).length ≤ 64 := (files_facts _ (di_lt n) _ (nj_lt n)).1
theorem file_bn (n : Int) : bnF (fileOf n) = nameOf n := (files_facts _ (di_lt n) _ (nj_lt n)).2.1
theorem file_join (n : Int) : joinF (dirF (fileOf n)) (bnF (fileOf n)) = fileOf n := (files_facts _ (di_lt n) _ (nj_lt n)).2.2.1
theorem dir_len (n : Int) : (dirF (fileOf n)).length ≤ 64 := (files_facts _ (di_lt n) _ (nj_lt n)).2.2.2
def endF (y : Str) : Str := if Txt.rfind y (Str.ofString ".") ≤ Txt.rfind y (Str.ofString "/") then Txt.slice y none (some 0) else Txt.slice y (some (Txt.rfind y (Str.ofString "."))) none
theorem file_end (n : Int) : endF (fileOf n) = extOf n := by
  unfold endF extOf fileOf
  rcases ends_facts _ (di_lt n) _ (nj_lt n) with ⟨_, h1, _, h3⟩ | ⟨_, h1, h3⟩
  · rw [if_neg (by omega)]; exact h3
  · rw [if_pos h1]; exact h3
section
variable {P : Str → Bool} {As Bs : List Str} {d : Str}
theorem getD_left (i : Nat) (h : i < As.length) : (As ++ Bs).getD i d ∈ As := by
  rw [List.getD_eq_getElem?_getD, List.getElem?_append_left h, List.getElem?_eq_getElem h]
  exact List.getElem_mem h
theorem getD_right (i : Nat) (h : As.length ≤ i) (h' : i < (As ++ Bs).length) : (As ++ Bs).getD i d ∈ Bs := by
  have h2 : i - As.length < Bs.length := by rw [List.length_append] at h'; omega
  rw [List.getD_eq_getElem?_getD, List.getElem?_append_right h, List.getElem?_eq_getElem h2]
  exact List.getElem_mem h2
theorem split_mono (hA : ∀ y ∈ As, P y = false) (hB : ∀ y ∈ Bs, P y = true) (i j : Nat) (hij : i ≤ j) (hj : j < (As ++ Bs).length) (h : P ((As ++ Bs).getD i d) = true) : P ((As ++ Bs).getD j d) = true := by
  by_cases hi : i < As.length
  · rw [hA _ (getD_left i hi)] at h; cases h
  · exact hB _ (getD_right j (by omega) hj)
theorem split_at (hA : ∀ y ∈ As, P y = false) (hB : ∀ y ∈ Bs, P y = true) {k : Nat} (hk : k ≤ (As ++ Bs).length) (h1 : ∀ i, i < k → P ((As ++ Bs).getD i d) = false)
    (h2 : ∀ i, k ≤ i → i < (As ++ Bs).length → P ((As ++ Bs).getD i d) = true) : k = As.length := by
  rcases Nat.lt_trichotomy k As.length with h | h | h
  · have := h2 k (Nat.le_refl _) (by rw [List.length_append]; omega)
    rw [hA _ (getD_left k h)] at this; cases this
  · exact h
  · have := h1 As.length h
    rw [hB _ (getD_right As.length (Nat.le_refl _) (by omega))] at this; cases this
end
structure Cut (o : List Nat) (κ : Nat → Str) (x : Str) (l : List Int) (n : Int) (As Bs : List Int) : Prop where
  eq : sortBy o l = As ++ Bs
  out : sortBy o (l ++ [n]) = As ++ n :: Bs
  lo : ∀ m ∈ As, slt x (κ (nj m)) = false
  hi : ∀ m ∈ Bs, slt x (κ (nj m)) = true
structure CutL (o : List Nat) (κ : Nat → Str) (x : Str) (l : List Int) (n : Int) (As Bs : List Int) : Prop where
  eq : sortBy o l = As ++ Bs
  out : sortBy o (n :: l) = As ++ n :: Bs
  lo : ∀ m ∈ As, slt (κ (nj m)) x = true
  hi : ∀ m ∈ Bs, slt (κ (nj m)) x = false
theorem mem_group {l : List Int} {j : Nat} {m : Int} (h : m ∈ l.filter fun n => nj n == j) : nj m = j := by
  have := (List.mem_filter.mp h).2
  exact beq_iff_eq.mp this
section
variable {a b c : Nat} {κ : Nat → Str} (hab : slt (κ a) (κ b) = true) (hbc : slt (κ b) (κ c) = true) (hac : slt (κ a) (κ c) = true) (hba : slt (κ b) (κ a) = false) (hcb : slt (κ c) (κ b) = false) (hca : slt (κ c) (κ a) = false)
  (haa : slt (κ a) (κ a) = false) (hbb : slt (κ b) (κ b) = false) (hcc : slt (κ c) (κ c) = false) (nab : a ≠ b) (nbc : b ≠ c) (nac : a ≠ c) (cov : ∀ j, j < 3 → j = a ∨ j = b ∨ j = c)
include hab hbc hac hba hcb hca haa hbb hcc nab nbc nac cov
theorem cut (l : List Int) (n : Int) : ∃ As Bs, Cut [a, b, c] κ (κ (nj n)) l n As Bs := by
  let f (j : Nat) := l.filter fun n => nj n == j
  have e0 : sortBy [a, b, c] l = f a ++ (f b ++ f c) := by simp [sortBy, f]
  rcases cov _ (nj_lt n) with e | e | e
  · refine ⟨f a, f b ++ f c, e0, ?_, ?_, ?_⟩
    · simp [sortBy, f, e, nab, nac]
    · intro m hm; rw [mem_group hm, e]; exact haa
    · intro m hm
      rw [e]
      rcases List.mem_append.mp hm with hm | hm
      · rw [mem_group hm]; exact hab
      · rw [mem_group hm]; exact hac
  · refine ⟨f a ++ f b, f c, by rw [e0]; simp, ?_, ?_, ?_⟩
    · simp [sortBy, f, e, nab.symm, nbc]
    · intro m hm
      rw [e]
      rcases List.mem_append.mp hm with hm | hm
      · rw [mem_group hm]; exact hba
      · rw [mem_group hm]; exact hbb
    · intro m hm; rw [mem_group hm, e]; exact hbc
  · refine ⟨f a ++ (f b ++ f c), [], by rw [e0]; simp, ?_, ?_, ?_⟩
    · simp [sortBy, f, e, nac.symm, nbc.symm]
    · intro m hm
      rw [e]
      rcases List.mem_append.mp hm with hm | hm
      · rw [mem_group hm]; exact hca
      · rcases List.mem_append.mp hm with hm | hm
        · rw [mem_group hm]; exact hcb
        · rw [mem_group hm]; exact hcc
    · intro m hm; cases hm
theorem cutL (l : List Int) (n : Int) : ∃ As Bs, CutL [a, b, c] κ (κ (nj n)) l n As Bs := by
  let f (j : Nat) := l.filter fun n => nj n == j
  have e0 : sortBy [a, b, c] l = f a ++ (f b ++ f c) := by simp [sortBy, f]
  rcases cov _ (nj_lt n) with e | e | e
  · refine ⟨[], f a ++ (f b ++ f c), by rw [e0]; simp, ?_, ?_, ?_⟩
    · simp [sortBy, f, e, nab, nac]
    · intro m hm; cases hm
    · intro m hm
      rw [e]
      rcases List.mem_append.mp hm with hm | hm
      · rw [mem_group hm]; exact haa
      · rcases List.mem_append.mp hm with hm | hm
        · rw [mem_group hm]; exact hba
        · rw [mem_group hm]; exact hca
  · refine ⟨f a, f b ++ f c, by rw [e0], ?_, ?_, ?_⟩
    · simp [sortBy, f, e, nab.symm, nbc]
    · intro m hm; rw [mem_group hm, e]; exact hab
    · intro m hm
      rw [e]
      rcases List.mem_append.mp hm with hm | hm
      · rw [mem_group hm]; exact hbb
      · rw [mem_group hm]; exact hcb
  · refine ⟨f a ++ f b, f c, by rw [e0]; simp, ?_, ?_, ?_⟩
    · simp [sortBy, f, e, nac.symm, nbc.symm]
    · intro m hm
      rw [e]
      rcases List.mem_append.mp hm with hm | hm
      · rw [mem_group hm]; exact hac
      · rw [mem_group hm]; exact hbc
    · intro m hm; rw [mem_group hm, e]; exact hcc
end
def κn (j : Nat) : Str := nms.getD j (Str.ofString "")
def κe (j : Nat) : Str := exts.getD j (Str.ofString "")
theorem cov_of {a b c : Nat} (h : ∀ j, j < 3 → j = a ∨ j = b ∨ j = c) : ∀ j, j < 3 → j = a ∨ j = b ∨ j = c := h
theorem cut_names (l : List Int) (n : Int) : ∃ As Bs, Cut [2, 1, 0] κn (nameOf n) l n As Bs :=
  cut (κ := κn) (by decide +kernel) (by decide +kernel) (by decide +kernel) (by decide +kernel) (by decide +kernel) (by decide +kernel) (by decide +kernel) (by decide +kernel) (by decide +kernel) (by decide) (by decide) (by decide) (by omega) l n
theorem cutL_names (l : List Int) (n : Int) : ∃ As Bs, CutL [2, 1, 0] κn (nameOf n) l n As Bs :=
  cutL (κ := κn) (by decide +kernel) (by decide +kernel) (by decide +kernel) (by decide +kernel) (by decide +kernel) (by decide +kernel) (by decide +kernel) (by decide +kernel) (by decide +kernel) (by decide) (by decide) (by decide) (by omega) l n
theorem cut_ends (l : List Int) (n : Int) : ∃ As Bs, Cut [2, 0, 1] κe (extOf n) l n As Bs :=
  cut (κ := κe) (by decide +kernel) (by decide +kernel) (by decide +kernel) (by decide +kernel) (by decide +kernel) (by decide +kernel) (by decide +kernel) (by decide +kernel) (by decide +kernel) (by decide) (by decide) (by decide) (by omega) l n
theorem sortBy_len (l : List Int) (a b c : Nat) : (sortBy [a, b, c] l).length ≤ 3 * l.length := by
  unfold sortBy
  simp only [List.flatMap_cons, List.flatMap_nil, List.length_append, List.length_nil]
  have h1 := List.length_filter_le (fun n => nj n == a) l
  have h2 := List.length_filter_le (fun n => nj n == b) l
  have h3 := List.length_filter_le (fun n => nj n == c) l
  omega
end
section
open PySem PySem.W PyProof.Rows PySem.Calls
set_option maxRecDepth 100000
theorem conU_mono {prog : Program} {w : World} {f : Addr} {vs : List Value} {kw : List (Str × Value)} {l : Addr} {o : Obj} {Post Post' : Value → Obj → Prop} (C : ConU prog w f vs kw l o Post) (h : ∀ r o', Post r o' → Post' r o') : ConU prog w f vs kw l o Post' :=
  fun _ _ _ _ _ _ _ _ _ _ _ _ _ _ _ _ _ _ _ _ _ _ _ _ _ _ _ B F X N U T hd hu ret => C _ _ _ _ _ _ _ _ _ _ _ _ _ _ _ _ _ _ _ _ _ _ _ _ _ _ _ B F X N U T hd hu fun r o' h' tk' hp => ret r o' h' tk' (h _ _ hp)
theorem con_mono {prog : Program} {w : World} {f : Addr} {vs : List Value} {kw : List (Str × Value)} {Pre : Heap → Prop} {D : Nat} {Post Post' : Value → Prop} (C : Con prog w f vs kw Pre D Post) (h : ∀ r, Post r → Post' r) : Con prog w f vs kw Pre D Post' :=
  fun _ _ _ _ _ _ _ _ _ _ _ _ _ _ _ _ _ _ _ _ _ _ _ _ _ B F X T hd hu hp ret => C _ _ _ _ _ _ _ _ _ _ _ _ _ _ _ _ _ _ _ _ _ _ _ _ _ B F X T hd hu hp fun r h' tk' hp => ret r h' tk' (h _ hp)
theorem getD_file {L : List Int} {i : Nat} (h : i < (L.map fileOf).length) : ∃ m ∈ L, (L.map fileOf).getD i (Str.ofString "") = fileOf m := by
  rw [List.length_map] at h
  refine ⟨L[i], List.getElem_mem h, ?_⟩
  rw [List.getD_eq_getElem?_getD, List.getElem?_map, List.getElem?_eq_getElem h]
  rfl
theorem con_end_file (prog : Program) (w : World) (n : Int) (t : Tok) : Con prog w 203 [.str (fileOf n) t] [] (fun _ => True) 8 (fun r => ∃ u, r = .str (endF (fileOf n)) u) := by
  rcases ends_facts _ (di_lt n) _ (nj_lt n) with ⟨_, h1, h2, _⟩ | ⟨_, h1, _⟩
  · refine con_mono (con_end_dot prog w (fileOf n) t (file_len n) h1 h2) fun r hr => ?_
    unfold endF fileOf at *
    rw [if_neg (by omega)]; exact hr
  · refine con_mono (con_end_no prog w (fileOf n) t (file_len n) h1) fun r hr => ?_
    unfold endF fileOf at *
    rw [if_pos h1]; exact hr
theorem keyOk_base (prog : Program) (w : World) {vs : List Value} {L : List Int} (h : StrsAre vs (L.map fileOf)) : KeyOk prog w 182 vs.length (L.map fileOf) bnF := ⟨fun i hi u => by
  obtain ⟨m, _, e⟩ := getD_file (L := L) (i := i) (by rw [← strs_len h]; exact hi)
  rw [e]; exact con_base prog w (fileOf m) u (file_len m)⟩
theorem keyOk_end (prog : Program) (w : World) {vs : List Value} {L : List Int} (h : StrsAre vs (L.map fileOf)) : KeyOk prog w 203 vs.length (L.map fileOf) endF := ⟨fun i hi u => by
  obtain ⟨m, _, e⟩ := getD_file (L := L) (i := i) (by rw [← strs_len h]; exact hi)
  rw [e]; exact con_end_file prog w m u⟩
def InsPost (nn : Nat) (target : List Str) (r : Value) (o' : Obj) : Prop := r = .none ∧ ∃ vs' : List Value, o' = listOf vs'.toArray (nn + 1) ∧ StrsAre vs' target
theorem put_at {vs : List Value} {A B : List Int} {n : Int} {t : Tok} (h : StrsAre vs ((A ++ B).map fileOf)) {k : Nat} (hk : k = (A.map fileOf).length) : StrsAre (vs.take k ++ .str (fileOf n) t :: vs.drop k) ((A ++ n :: B).map fileOf) := by
  have h1 := strs_take h k
  have h2 := strs_drop h k
  rw [List.map_append] at h1 h2
  rw [List.take_left' hk.symm] at h1
  rw [List.drop_left' hk.symm] at h2
  rw [List.map_append, List.map_cons]
  exact strs_app h1 (.cons _ _ h2)
theorem insFirst (prog : Program) (w : World) (l : Addr) (is : List Int) (n : Int) (t : Tok) (nn : Nat) (vs : List Value) (hS : StrsAre vs ((sortBy [2, 1, 0] is).map fileOf)) (hlen : is.length ≤ 17) :
    ConU prog w 37 [.ref l, .str (fileOf n) t] [(Str.ofString "key", .ref 182)] l (listOf vs.toArray nn) (InsPost nn ((sortBy [2, 1, 0] (is ++ [n])).map fileOf)) := by
  obtain ⟨As, Bs, C⟩ := cut_names is n
  have hl := strs_len hS
  have h3 := sortBy_len is 2 1 0
  rw [List.length_map] at hl
  have hfit : vs.length ≤ 1000 := by omega
  rw [C.eq] at hS
  have hl' := strs_len hS
  have lo : ∀ y ∈ As.map fileOf, slt (bnF (fileOf n)) (bnF y) = false := fun y hy => by
    obtain ⟨m, hm, rfl⟩ := List.mem_map.mp hy
    rw [file_bn, file_bn]; exact C.lo m hm
  have hi : ∀ y ∈ Bs.map fileOf, slt (bnF (fileOf n)) (bnF y) = true := fun y hy => by
    obtain ⟨m, hm, rfl⟩ := List.mem_map.mp hy
    rw [file_bn, file_bn]; exact C.hi m hm
  have hk := keyOk_base prog w hS
  have hbis : BisOk prog w 46 182 l vs (bnF (fileOf n)) _ := ⟨fun t t0 => bisR2 prog w l (bnF (fileOf n)) t t0 vs _ hS hfit bnF (fun i j hij hj => by
    rw [hl', List.map_append] at hj
    rw [List.map_append]
    exact split_mono (P := fun y => slt (bnF (fileOf n)) (bnF y)) lo hi i j hij hj) hk⟩
  refine conU_mono (insR1 prog w l (fileOf n) t nn vs hfit bnF _ _ (con_base prog w (fileOf n) t (file_len n)) hbis) ?_
  rintro r o' ⟨rfl, k, rfl, hk1, hk2, hk3⟩
  refine ⟨rfl, _, rfl, ?_⟩
  rw [C.out]
  refine put_at hS ?_
  rw [hl', List.map_append] at hk1 hk3
  rw [List.map_append] at hk2
  exact split_at (P := fun y => slt (bnF (fileOf n)) (bnF y)) lo hi hk1 hk2 hk3
theorem insThird (prog : Program) (w : World) (l : Addr) (is : List Int) (n : Int) (t : Tok) (nn : Nat) (vs : List Value) (hS : StrsAre vs ((sortBy [2, 0, 1] is).map fileOf)) (hlen : is.length ≤ 17) :
    ConU prog w 37 [.ref l, .str (fileOf n) t] [(Str.ofString "key", .ref 203)] l (listOf vs.toArray nn) (InsPost nn ((sortBy [2, 0, 1] (is ++ [n])).map fileOf)) := by
  obtain ⟨As, Bs, C⟩ := cut_ends is n
  have hl := strs_len hS
  have h3 := sortBy_len is 2 0 1
  rw [List.length_map] at hl
  have hfit : vs.length ≤ 1000 := by omega
  rw [C.eq] at hS
  have hl' := strs_len hS
  have lo : ∀ y ∈ As.map fileOf, slt (endF (fileOf n)) (endF y) = false := fun y hy => by
    obtain ⟨m, hm, rfl⟩ := List.mem_map.mp hy
    rw [file_end, file_end]; exact C.lo m hm
  have hi : ∀ y ∈ Bs.map fileOf, slt (endF (fileOf n)) (endF y) = true := fun y hy => by
    obtain ⟨m, hm, rfl⟩ := List.mem_map.mp hy
    rw [file_end, file_end]; exact C.hi m hm
  have hk := keyOk_end prog w hS
  have hbis : BisOk prog w 46 203 l vs (endF (fileOf n)) _ := ⟨fun t t0 => bisR3 prog w l (endF (fileOf n)) t t0 vs _ hS hfit endF (fun i j hij hj => by
    rw [hl', List.map_append] at hj
    rw [List.map_append]
    exact split_mono (P := fun y => slt (endF (fileOf n)) (endF y)) lo hi i j hij hj) hk⟩
  refine conU_mono (insR2 prog w l (fileOf n) t nn vs hfit endF _ _ (con_end_file prog w n t) hbis) ?_
  rintro r o' ⟨rfl, k, rfl, hk1, hk2, hk3⟩
  refine ⟨rfl, _, rfl, ?_⟩
  rw [C.out]
  refine put_at hS ?_
  rw [hl', List.map_append] at hk1 hk3
  rw [List.map_append] at hk2
  exact split_at (P := fun y => slt (endF (fileOf n)) (endF y)) lo hi hk1 hk2 hk3
theorem insSecond (prog : Program) (w : World) (l : Addr) (is : List Int) (n : Int) (t : Tok) (nn : Nat) (vs : List Value) (hS : StrsAre vs ((sortBy [2, 1, 0] is.reverse).map fileOf)) (hlen : is.length ≤ 17) :
    ConU prog w 55 [.ref l, .str (fileOf n) t] [(Str.ofString "key", .ref 182)] l (listOf vs.toArray nn) (InsPost nn ((sortBy [2, 1, 0] (is ++ [n]).reverse).map fileOf)) := by
  obtain ⟨As, Bs, C⟩ := cutL_names is.reverse n
  have hl := strs_len hS
  have h3 := sortBy_len is.reverse 2 1 0
  rw [List.length_map] at hl
  rw [List.length_reverse] at h3
  have hfit : vs.length ≤ 1000 := by omega
  rw [C.eq] at hS
  have hl' := strs_len hS
  have lo : ∀ y ∈ As.map fileOf, (!slt (bnF y) (bnF (fileOf n))) = false := fun y hy => by
    obtain ⟨m, hm, rfl⟩ := List.mem_map.mp hy
    rw [file_bn, file_bn, show slt (nameOf m) (nameOf n) = true from C.lo m hm]; rfl
  have hi : ∀ y ∈ Bs.map fileOf, (!slt (bnF y) (bnF (fileOf n))) = true := fun y hy => by
    obtain ⟨m, hm, rfl⟩ := List.mem_map.mp hy
    rw [file_bn, file_bn, show slt (nameOf m) (nameOf n) = false from C.hi m hm]; rfl
  have hk := keyOk_base prog w hS
  have hbis : BisOk prog w 64 182 l vs (bnF (fileOf n)) _ := ⟨fun t t0 => bisL2 prog w l (bnF (fileOf n)) t t0 vs _ hS hfit bnF (fun i j hij hj h => by
    rw [hl', List.map_append] at hj
    rw [List.map_append] at h ⊢
    cases hc : slt (bnF ((As.map fileOf ++ Bs.map fileOf).getD i (Str.ofString ""))) (bnF (fileOf n)) with
    | true => rfl
    | false =>
      have := split_mono (P := fun y => !slt (bnF y) (bnF (fileOf n))) (d := Str.ofString "") lo hi i j hij hj (by show (!slt _ _) = true; rw [hc]; rfl)
      rw [h] at this; cases this) hk⟩
  refine conU_mono (insL1 prog w l (fileOf n) t nn vs hfit bnF _ _ (con_base prog w (fileOf n) t (file_len n)) hbis) ?_
  rintro r o' ⟨rfl, k, rfl, hk1, hk2, hk3⟩
  refine ⟨rfl, _, rfl, ?_⟩
  rw [List.reverse_append, List.reverse_singleton, List.singleton_append, C.out]
  refine put_at hS ?_
  rw [hl', List.map_append] at hk1 hk3
  rw [List.map_append] at hk2
  exact split_at (P := fun y => !slt (bnF y) (bnF (fileOf n))) (d := Str.ofString "") lo hi hk1 (fun i hi' => by show (!slt _ _) = false; rw [hk2 i hi']; rfl) (fun i h1 h2 => by show (!slt _ _) = true; rw [hk3 i h1 h2]; rfl)
end
section
open PySem PySem.W PyProof.Rows PySem.Calls
set_option maxRecDepth 100000
structure FirstIs (l : Addr) (vs : List Value) (nn : Nat) (is : List Int) : Prop where
  of : StrsAre vs ((sortBy [2, 1, 0] is).map fileOf)
structure SecondIs (l : Addr) (vs : List Value) (nn : Nat) (is : List Int) : Prop where
  of : StrsAre vs ((sortBy [2, 1, 0] is.reverse).map fileOf)
structure ThirdIs (l : Addr) (vs : List Value) (nn : Nat) (is : List Int) : Prop where
  of : StrsAre vs ((sortBy [2, 0, 1] is).map fileOf)
abbrev InsP (nn : Nat) (P : List Value → Prop) (r : Value) (o' : Obj) : Prop := r = .none ∧ ∃ vs' : List Value, o' = listOf vs'.toArray (nn + 1) ∧ P vs'
section
variable {prog : Program} {w : World} {l : Addr} {is : List Int} {n : Int} {t : Tok} {nn : Nat} {vs : List Value}
theorem step1 (h : FirstIs l vs nn is) (hlen : is.length ≤ 17) : ConU prog w 37 [.ref l, .str (fileOf n) t] [(Str.ofString "key", .ref 182)] l (listOf vs.toArray nn) (InsP nn fun v => FirstIs l v (nn + 1) (is ++ [n])) :=
  conU_mono (insFirst prog w l is n t nn vs h.of hlen) fun _ _ ⟨a, v, b, c⟩ => ⟨a, v, b, ⟨c⟩⟩
theorem step2 (h : SecondIs l vs nn is) (hlen : is.length ≤ 17) : ConU prog w 55 [.ref l, .str (fileOf n) t] [(Str.ofString "key", .ref 182)] l (listOf vs.toArray nn) (InsP nn fun v => SecondIs l v (nn + 1) (is ++ [n])) :=
  conU_mono (insSecond prog w l is n t nn vs h.of hlen) fun _ _ ⟨a, v, b, c⟩ => ⟨a, v, b, ⟨c⟩⟩
theorem step3 (h : ThirdIs l vs nn is) (hlen : is.length ≤ 17) : ConU prog w 37 [.ref l, .str (fileOf n) t] [(Str.ofString "key", .ref 203)] l (listOf vs.toArray nn) (InsP nn fun v => ThirdIs l v (nn + 1) (is ++ [n])) :=
  conU_mono (insThird prog w l is n t nn vs h.of hlen) fun _ _ ⟨a, v, b, c⟩ => ⟨a, v, b, ⟨c⟩⟩
end
theorem strs_turn {vs : List Value} {ns : List Int} (h : StrsAre vs (ns.map fileOf)) {i : Nat} {v : Value} (hv : vs[i]? = some v) : ∃ n t, v = .str (fileOf n) t ∧ ns.take (i + 1) = ns.take i ++ [n] := by
  have hl := strs_len h
  have hi : i < vs.length := by
    cases Nat.lt_or_ge i vs.length with
    | inl h => exact h
    | inr h => rw [List.getElem?_eq_none h] at hv; cases hv
  have hin : i < ns.length := by rw [List.length_map] at hl; omega
  obtain ⟨t, e⟩ := strs_get h i hi
  rw [hv] at e
  refine ⟨ns[i], t, ?_, ?_⟩
  · have := Option.some.inj e
    rw [this, List.getD_eq_getElem?_getD, List.getElem?_map, List.getElem?_eq_getElem hin]; rfl
  · rw [List.take_add_one, List.getElem?_eq_getElem hin]; rfl
theorem ex2 {α0 : Sort _} {α1 : Sort _} {P : α0 → α1 → Prop} {C : Prop} (h : ∃ a0 a1, P a0 a1) (k : ∀ a0 a1, P a0 a1 → C) : C := by
  obtain ⟨a0, a1, h⟩ := h
  exact k _ _ h
theorem ex3 {α0 : Sort _} {α1 : Sort _} {α2 : Sort _} {P : α0 → α1 → α2 → Prop} {C : Prop} (h : ∃ a0 a1 a2, P a0 a1 a2) (k : ∀ a0 a1 a2, P a0 a1 a2 → C) : C := by
  obtain ⟨a0, a1, a2, h⟩ := h
  exact k _ _ _ h
theorem ex5 {α0 : Sort _} {α1 : Sort _} {α2 : Sort _} {α3 : Sort _} {α4 : Sort _} {P : α0 → α1 → α2 → α3 → α4 → Prop} {C : Prop} (h : ∃ a0 a1 a2 a3 a4, P a0 a1 a2 a3 a4) (k : ∀ a0 a1 a2 a3 a4, P a0 a1 a2 a3 a4 → C) : C := by
  obtain ⟨a0, a1, a2, a3, a4, h⟩ := h
  exact k _ _ _ _ _ h
theorem ex6 {α0 : Sort _} {α1 : Sort _} {α2 : Sort _} {α3 : Sort _} {α4 : Sort _} {α5 : Sort _} {P : α0 → α1 → α2 → α3 → α4 → α5 → Prop} {C : Prop} (h : ∃ a0 a1 a2 a3 a4 a5, P a0 a1 a2 a3 a4 a5) (k : ∀ a0 a1 a2 a3 a4 a5, P a0 a1 a2 a3 a4 a5 → C) : C := by
  obtain ⟨a0, a1, a2, a3, a4, a5, h⟩ := h
  exact k _ _ _ _ _ _ h
theorem news_tail {g : Heap} {L : Addr} {h : Heap} {q : Addr × Obj} {l : List (Addr × Obj)} (N : News g L h (q :: l)) : News g L h l := fun p hp => N p (.tail _ hp)
theorem news_under {g : Heap} {L : Addr} {h : Heap} {q : Addr × Obj} {l l' : List (Addr × Obj)} (N : News g L h (q :: l)) (f : News g L h l → News g L h l') : News g L h (q :: l') := fun p hp => by
  rcases List.mem_cons.mp hp with rfl | hp
  · exact N _ (.head _)
  · exact f (news_tail N) _ hp
section
variable {prog : Program} {w : World} {A : Around} {E : Value → Shared → Prop} {s : Shared} {env : Env} {h₀ : Heap} {x : Str} {body : List Stmt} {Q : Flow → Shared → Prop}
theorem for_listF {l : Addr} {vs : List Value} {nn : Nat} {m₀ : Str → Option Value} {news : List (Addr × Obj)} (J : Nat → List (Addr × Obj) → Prop)
    (hh : A.handled = none) (F : Fr h₀ env.locals s.heap m₀) (N : News h₀ env.locals s.heap news) (hm : (l, listOf vs.toArray nn) ∈ news) (hj : J 0 news)
    (hJl : ∀ i nx, J i nx → (l, listOf vs.toArray nn) ∈ nx) (hJa : ∀ i nx, J i nx → nx.map (·.1) = news.map (·.1))
    (turn : ∀ (Q : Flow → Shared → Prop) I io i v nx h tk, vs[i]? = some v → J i nx → (∀ q ∈ news, q.1 < I) → Fr h₀ env.locals h (fun y => if y = x then some v else m₀ y) → News h₀ env.locals h ((I, io) :: nx) →
      wpAny (model prog w) A (execs body env) (ForPost h₀ env.locals I io (fun m' nx => (∀ z, z ≠ x → m' z = m₀ z) ∧ J (i + 1) nx) s Q) E { s with heap := h, toks := tk })
    (done : ∀ (u : Str → Option Value) nx h tk, J vs.length nx → Fr h₀ env.locals h (fun y => if y = x then u y else m₀ y) → News h₀ env.locals h nx → Q .next { s with heap := h, toks := tk }) :
    wpAny (model prog w) A (pyIter (.ref l)) (fun it s₂ => LoopAtV prog w A h₀ env x body Q E it s₂) E s := by
  refine for_list (fun i m nx => (∀ z, z ≠ x → m z = m₀ z) ∧ J i nx) hh F N hm ⟨fun _ _ => rfl, hj⟩ (fun i m nx h => hJl i nx h.2) (fun i m nx h => hJa i nx h.2) ?_ ?_
  · rintro I io i v m₁ nx h tk hv ⟨hm', hJ⟩ hI F₁ N₁
    have e : (fun y => if y = x then some v else m₁ y) = fun y => if y = x then some v else m₀ y := by
      funext y
      by_cases hy : y = x
      · rw [if_pos hy, if_pos hy]
      · rw [if_neg hy, if_neg hy]; exact hm' y hy
    rw [e] at F₁
    exact turn Q I io i v nx h tk hv hJ hI F₁ N₁
  · rintro m₁ nx h tk ⟨hm', hJ⟩ F₁ N₁
    refine done m₁ nx h tk hJ ?_ N₁
    have e : (fun y => if y = x then m₁ y else m₀ y) = m₁ := by
      funext y
      by_cases hy : y = x
      · rw [if_pos hy]
      · rw [if_neg hy]; exact (hm' y hy).symm
    rw [e]; exact F₁
end
end
section
open PySem PySem.W PyProof.Rows PySem.Calls PySem.Spec
set_option maxRecDepth 100000
section
variable {prog : Program} {w : World} {A : Around} {E : Value → Shared → Prop} {s : Shared}
theorem any_choose {src : Source} {n : Nat} {Q : Nat → Shared → Prop} (hn : n ≠ 0) (h : ∀ i dr, i < n → Q i { s with drawn := dr }) : wpAny (model prog w) A (choose src n) Q E s := fun Γ p _ => by
  show Sem.wp _ _ (.choose src n .pure) _ _ _ _
  rw [Sem.wp_choose]
  exact ⟨hn, h _ _ (Nat.mod_lt _ (Nat.pos_of_ne_zero hn))⟩
abbrev byText (w : World) : Bool := w.params.followText "set-order"
theorem erase_perm {α : Type} : ∀ (l : List α) (i : Nat) (h : i < l.length), (l[i] :: l.eraseIdx i).Perm l
  | _ :: _, 0, _ => List.Perm.refl _
  | x :: r, i + 1, h => by
    show (r[i]'(Nat.lt_of_succ_lt_succ h) :: x :: r.eraseIdx i).Perm (x :: r)
    exact (List.Perm.swap _ _ _).trans ((erase_perm r i (Nat.lt_of_succ_lt_succ h)).cons x)
theorem any_drawOrder {α : Type} {Q : List α → Shared → Prop} : ∀ (n : Nat) (xs : List α) (s : Shared), xs.length = n → (∀ ys dr, ys.Perm xs → Q ys { s with drawn := dr }) → wpAny (model prog w) A (drawOrder n xs) Q E s
  | 0, xs, s, hl, h => by
    obtain rfl := List.length_eq_zero_iff.mp hl
    exact wpAny_pure (h [] s.drawn (List.Perm.refl _))
  | n + 1, [], s, hl, h => by simp at hl
  | n + 1, x :: r, s, hl, h => by
    unfold drawOrder
    refine wpAny_bind (any_choose (by simp) fun i dr hi => ?_)
    rw [List.getElem?_eq_getElem hi]
    dsimp only
    refine wpAny_bind (any_drawOrder n _ _ (by rw [List.length_eraseIdx, if_pos hi, hl]; rfl) fun ys dr' hp => ?_)
    refine wpAny_pure ?_
    refine h _ dr' ?_
    exact (hp.cons _).trans (erase_perm _ i hi)
def keyOf (e : Int × Value) : Str := match e.2 with
  | .str x _ => x
  | _ => Str.ofString ""
structure SetT (prog : Program) (w : World) (a : Addr) (seen : Str → Prop) (n : Nat) (h : Heap) : Prop where
  out : ∃ es ep t, h.get? a = some { cls := .type "set", dict := none, data := .set es ep t, slots := #[] } ∧ ElemsOf (strKind prog w) es.toList ∧ (∀ k, seen k ↔ k ∈ es.toList.map keyOf) ∧ (es.toList.map keyOf).Nodup ∧
    es.size ≤ n ∧ t.fits es.size = true ∧ t.led = !byText w ∧ (0 < es.size → t.plain = false)
theorem keyOf_is {e : Int × Value} {k : Str} (h : (strKind prog w).is k e.2 = true) : keyOf e = k := by
  obtain ⟨t, ht⟩ := Value.isStrOf_shape (show Value.isStrOf k e.2 = true from h)
  unfold keyOf
  rw [ht]
theorem is_keyOf {l : List (Int × Value)} (hel : ElemsOf (strKind prog w) l) {e : Int × Value} (he : e ∈ l) : (strKind prog w).is (keyOf e) e.2 = true := by
  obtain ⟨⟨k, hk, _⟩, _⟩ := hel e he
  rw [keyOf_is hk]; exact hk
theorem layNew_led (t : SetTable) (es : Array (Int × Value)) (h : Int) (x : Value) : (layNew t es h x).2.1.led = t.led := by
  unfold layNew
  split
  · unfold SetTable.orStandIn
    dsimp only
    split <;> rfl
  · rfl
theorem relayAll_led (t : SetTable) (es : Array (Int × Value)) (n : Nat) : (relayAll t es n).2.1.led = t.led ∧ ((relayAll t es n).2.1.plain = t.plain ∨ (relayAll t es n).2.1.plain = false) := by
  unfold relayAll
  cases hr : t.relaid (es.map (·.1)) n with
  | none => exact ⟨rfl, .inr rfl⟩
  | some p =>
    obtain ⟨t', order⟩ := p
    dsimp only
    have e : t'.led = t.led ∧ t'.plain = t.plain := by
      unfold SetTable.relaid SetTable.laid at hr
      cases ho : SetTable.layClean (SetTable.sizeAbove n - 1) (es.map (·.1)) with
      | none => rw [ho] at hr; cases hr
      | some owner => rw [ho] at hr; cases hr; exact ⟨rfl, rfl⟩
    split
    · exact ⟨e.1, .inl e.2⟩
    · exact ⟨rfl, .inr rfl⟩
theorem fits_off {t : SetTable} {n : Nat} (h : t.fits n = true) : ({ t with plain := false } : SetTable).fits n = true := h
theorem any_gave {b : Bool} {Q : Unit → Shared → Prop} (h : Q () s) : wpAny (model prog w) A (match b with | true => rule "set.scan.the-table-gave-way" | false => pure ()) Q E s := by
  cases b
  · exact wpAny_pure h
  · exact wpAny_rule h
theorem storeT {a : Addr} {es es' : Array (Int × Value)} {ep : Nat} {t t' : SetTable} {Q : Unit → Shared → Prop} (ho : s.heap.get? a = some { cls := .type "set", dict := none, data := .set es ep t, slots := #[] }) (hz : es'.size ≤ 1000)
    (h : ∀ h', Heap.SameBut a s.heap h' → h'.get? a = some { cls := .type "set", dict := none, data := .set es' (ep + 1) t', slots := #[] } → Q () { s with heap := h' }) : wpAny (model prog w) A (storeSet a es' t') Q E s := by
  refine wpAny_storeSet_of ho rfl (h _ (Heap.SameBut.update ..) ?_) (by rw [sizeLine_eq]; omega)
  have := Heap.get?_update_self (Obj.putSet es' t') ho (by rw [putSet_of es' t' rfl]; rfl)
  rw [putSet_of es' t' rfl] at this
  exact this
theorem addT {a : Addr} {k : Str} {u : Tok} {seen : Str → Prop} {n : Nat} {Q : Bool → Shared → Prop} (hT : SetT prog w a seen n s.heap) (hn : n + 1 ≤ 1000)
    (h : ∀ b h', Heap.SameBut a s.heap h' → SetT prog w a (fun k' => seen k' ∨ k' = k) (n + 1) h' → Q b { s with heap := h' }) :
    wpAny (model prog w) A (setAddHashed a (.str k u) ((strKind prog w).hash k)) Q E s := by
  obtain ⟨es, ep, t, ho, hel, hmem, hnd, hsz, hf, hled, hpl⟩ := hT
  have hkey : (strKind prog w).is k (.str k u) = true := strKind_is prog w k u
  have hb : es.size < scanBound := by unfold scanBound; omega
  unfold setAddHashed setAddHashedIn
  refine wpAny_holding (wpAny_bind (wpAny_setState_of ho rfl hf ?_))
  dsimp only
  rw [byScan_of (knd := strKind prog w) rfl hb hel]
  simp only [↓reduceIte]
  unfold setAddByScan
  refine wpAny_bind (wpAny_bind (wpAny_rule (wpAny_bind (wpAny_setScan_of hkey ho rfl hf hel ?_))))
  cases hr : List.findIdx? (fun e => (strKind prog w).is k e.2) es.toList with
  | some j =>
    dsimp only
    obtain ⟨hj, hpj, _⟩ := List.findIdx?_eq_some_iff_getElem.mp hr
    have hin : k ∈ es.toList.map keyOf := List.mem_map.mpr ⟨_, List.getElem_mem hj, keyOf_is hpj⟩
    refine wpAny_pure (wpAny_pure ?_)
    have e : s = { s with heap := s.heap } := by cases s; rfl
    rw [e]
    refine h false s.heap (Heap.SameBut.refl a s.heap) ⟨es, ep, t, ho, hel, fun k' => ?_, hnd, by omega, hf, hled, hpl⟩
    rw [hmem]
    exact ⟨fun x => x.elim id fun q => q ▸ hin, .inl⟩
  | none =>
    dsimp only
    have hout : k ∉ es.toList.map keyOf := fun hk => by
      obtain ⟨e, he, hek⟩ := List.mem_map.mp hk
      have h1 := List.findIdx?_eq_none_iff.mp hr e he
      have h2 := is_keyOf hel he
      rw [hek] at h2
      rw [h2] at h1
      cases h1
    have hperm := layNew_perm t es ((strKind prog w).hash k) (.str k u)
    have hfits := layNew_fits t es ((strKind prog w).hash k) (.str k u)
    have hled1 := layNew_led t es ((strKind prog w).hash k) (.str k u)
    generalize layNew t es ((strKind prog w).hash k) (.str k u) = L at hperm hfits hled1 ⊢
    obtain ⟨es1, t1, wasDummy, gave⟩ := L
    dsimp only at hperm hfits hled1 ⊢
    rw [Array.toList_push] at hperm
    have hel1 : ElemsOf (strKind prog w) es1.toList := (hel.push hkey rfl).perm hperm
    have hk1 : (es1.toList.map keyOf).Perm (es.toList.map keyOf ++ [k]) := by
      have := hperm.map keyOf
      rwa [List.map_append] at this
    have hsz1 : es1.size = es.size + 1 := by
      rw [← Array.length_toList, hperm.length_eq, List.length_append, Array.length_toList]; rfl
    have hmem1 : ∀ k', (seen k' ∨ k' = k) ↔ k' ∈ es1.toList.map keyOf := fun k' => by
      rw [hk1.mem_iff, List.mem_append, List.mem_singleton, hmem]
    have hnd1 : (es1.toList.map keyOf).Nodup := by
      rw [hk1.nodup_iff, List.nodup_append]
      exact ⟨hnd, by simp, fun x hx y hy e => by rw [List.mem_singleton.mp hy] at e; exact hout (e ▸ hx)⟩
    refine wpAny_bind (any_gave ?_)
    have tail : ∀ t2 : SetTable, t2.led = t1.led → t2.plain = false → t2.fits es1.size = true →
        wpAny (model prog w) A (do
          storeSet a es1 t2
          if (!wasDummy && t2.tooFull) = true then do
              (match (relayAll t2 es1 (SetTable.grown es1.size)).2.2 with | true => rule "set.scan.the-table-gave-way" | false => pure ())
              storeSet a (relayAll t2 es1 (SetTable.grown es1.size)).1 (relayAll t2 es1 (SetTable.grown es1.size)).2.1
              pure (some true)
            else pure (some true)) (fun r s' => wpAny (model prog w) A (match r with | some added => pure added | none => setAddHashedIn a (.str k u) ((strKind prog w).hash k) 99999) Q E s') E s := by
      intro t2 e1 e2 e3
      refine wpAny_bind (storeT ho (by omega) fun h1 hsb1 ho1 => ?_)
      split
      · have hp := relayAll_perm t2 es1 (SetTable.grown es1.size)
        have hfr := relayAll_fits t2 es1 (SetTable.grown es1.size)
        have hlr := relayAll_led t2 es1 (SetTable.grown es1.size)
        generalize relayAll t2 es1 (SetTable.grown es1.size) = Rl at hp hfr hlr ⊢
        obtain ⟨es2, t3, gave2⟩ := Rl
        dsimp only at hp hfr hlr ⊢
        have hsz2 : es2.size = es1.size := by rw [← Array.length_toList, hp.length_eq, Array.length_toList]
        refine wpAny_bind (any_gave (wpAny_bind (storeT (s := { s with heap := h1 }) ho1 (by omega) fun h2 hsb2 ho2 => ?_)))
        refine wpAny_pure (wpAny_pure (h true h2 (hsb1.trans hsb2) ⟨es2, _, t3, ho2, hel1.perm hp, fun k' => ?_, ?_, by omega, hfr, by rw [hlr.1, e1, hled1, hled], fun _ => ?_⟩))
        · rw [hmem1, (hp.map keyOf).mem_iff]
        · rw [(hp.map keyOf).nodup_iff]; exact hnd1
        · rcases hlr.2 with q | q
          · rw [q, e2]
          · exact q
      · exact wpAny_pure (wpAny_pure (h true h1 hsb1 ⟨es1, _, t2, ho1, hel1, hmem1, hnd1, by omega, e3, by rw [e1, hled1, hled], fun _ => e2⟩))
    split
    · refine wpAny_bind ?_
      rw [hashByValue_scannable 8 rfl]
      refine wpAny_pure ?_
      simp only [plainKind, Bool.false_eq_true, if_false]
      exact tail _ rfl rfl (fits_off hfits)
    · rename_i hpf
      refine wpAny_bind (wpAny_pure ?_)
      simp only [↓reduceIte]
      exact tail t1 rfl (by simpa using hpf) hfits
end
end
section
open PySem PySem.W PyProof.Rows PySem.Calls PySem.Spec
set_option maxRecDepth 100000
theorem setT_congr {prog : Program} {w : World} {a : Addr} {f g : Str → Prop} {n : Nat} {h : Heap} (x : SetT prog w a f n h) (e : ∀ k, f k ↔ g k) : SetT prog w a g n h := by
  have : f = g := funext fun k => propext (e k)
  exact this ▸ x
theorem setT_at {prog : Program} {w : World} {a : Addr} {f : Str → Prop} {n : Nat} {h h' : Heap} (x : SetT prog w a f n h) (e : ∀ o, h.get? a = some o → h'.get? a = some o) : SetT prog w a f n h' := by
  obtain ⟨es, ep, t, ho, r⟩ := x
  exact ⟨es, ep, t, e _ ho, r⟩
section
variable {prog : Program} {w : World} {A : Around} {E : Value → Shared → Prop}
theorem set_loop {R : Result → Shared → Prop} {I : Addr} {fp : List Addr} {n : Nat} {P : Nat → Value → Prop} {St : Nat → Heap → Prop} (W : Walks prog w A.in1 I fp [I] n P St) (S : Addr) (hSf : S ∉ fp) (hIf : I ∈ fp)
    (val : Nat → Str) (hval : ∀ i v, P i v → ∃ t, v = .str (val i) t) (hb : n + 1 ≤ 1000) : ∀ (k i : Nat) (s : Shared), n - i = k → i ≤ n → St i s.heap → SetT prog w S (fun x => ∃ j, j < i ∧ val j = x) i s.heap →
      (∀ h' tk, SetT prog w S (fun x => ∃ j, j < n ∧ val j = x) n h' → Kept s.heap [S, I] h' → R (.ok (.ret .none)) { s with heap := h', toks := tk }) →
      codeAny (model prog w) A (.builtin "set.update.loop" ⟨[.ref S, .ref I], []⟩) R s := by
  have hSI : S ≠ I := fun e => hSf (e ▸ hIf)
  have hSw : S ∉ [I] := fun q => hSI (List.mem_singleton.mp q)
  intro k
  induction k with
  | zero =>
    intro i s hk hi hst hT hR
    have hin : i = n := by omega
    subst hin
    refine codeAny_builtin PyProof.Rows.F.entry_set_update_loop ?_
    rw [Around.under_plainId PyProof.Rows.F.plain_set_update_loop _]
    show wpAny _ A.in1 (pyNext (.ref I) >>= _) _ _ s
    refine wpAny_bind (W.done s _ _ hst fun h' tk hk' => ?_)
    show wpAny _ A.in1 (ret Value.none) _ _ _
    exact wpAny_pure (hR h' tk (setT_at hT fun o e => hk' S o hSw e) fun b o hb' e => hk' b o (fun q => hb' (.tail _ q)) e)
  | succ k ih =>
    intro i s hk hi hst hT hR
    have hlt : i < n := by omega
    refine codeAny_builtin PyProof.Rows.F.entry_set_update_loop ?_
    rw [Around.under_plainId PyProof.Rows.F.plain_set_update_loop _]
    show wpAny _ A.in1 (pyNext (.ref I) >>= _) _ _ s
    refine wpAny_bind (W.item i s _ _ hlt hst fun v h1 tk hP hst' hk' => ?_)
    obtain ⟨u, rfl⟩ := hval i v hP
    show wpAny _ A.in1 (holding [Value.str (val i) u] (setAdd S (.str (val i) u)) >>= _) _ _ _
    refine wpAny_bind (wpAny_holding ?_)
    unfold setAdd
    refine wpAny_holding (wpAny_bind ((strKind prog w).pyHash (k := val i) (strKind_is _ _ _ _) ?_))
    refine addT (setT_at hT fun o e => hk' S o hSw e) (by omega) fun b h2 hsb hT2 => ?_
    refine wpAny_pure ⟨plainId_quiet PyProof.Rows.F.plain_set_update_loop _, ih (i + 1) _ (by omega) hlt (W.frame _ _ _ hst' fun b hb' o e => (hsb.2 b fun q => hSf (q ▸ hb')).trans e) ?_ ?_⟩
    · refine setT_congr hT2 fun x => ?_
      constructor
      · rintro (⟨j, hj, e⟩ | e)
        · exact ⟨j, by omega, e⟩
        · exact ⟨i, by omega, e.symm⟩
      · rintro ⟨j, hj, e⟩
        rcases Nat.lt_or_ge j i with h | h
        · exact .inl ⟨j, h, e⟩
        · have : j = i := by omega
          exact .inr (this ▸ e.symm)
    · intro h' tk' hT' hK
      refine hR h' tk' hT' fun b o hb' e => hK b o hb' ?_
      have hbS : b ≠ S := fun q => hb' (q ▸ .head _)
      have hbI : b ∉ [I] := fun q => hb' (.tail _ q)
      exact (hsb.2 b hbS).trans (hk' b o hbI e)
abbrev newSetObj (w : World) : Obj := { cls := .type "set", dict := none, data := .set #[] 0 (.fresh 0 0 (!byText w)), slots := #[] }
theorem code_new_led {s : Shared} (a : Value) {Q₁ : Value → Shared → Prop} (h : Q₁ (.ref s.heap.objs.size) { s with heap := s.heap.push (newSetObj w) }) :
    codeAny (model prog w) A (.call (.builtin "set.__new__") ⟨[.type "set", a], []⟩) (wants Q₁ E) s := by
  refine codeAny_of_tree ?_
  show wpAny _ A.in1 (do checkBuiltinCall "set.__new__" ⟨[.type "set", a], []⟩; again (.builtin "set.__new__" ⟨[.type "set", a], []⟩)) _ _ s
  refine wpAny_bind (wpAny_of_eq (PySem.F.newCall_set_1 a) (wpAny_pure ⟨plainId_quiet PySem.F.plain_set_new _, codeAny_builtin PySem.F.entry_set_new ?_⟩))
  rw [Around.under_plainId PySem.F.plain_set_new _]
  have hsub := sub_set_self
  unfold Builtin.«set.__new__» Builtin.Frozenset.newClass
  obtain ⟨hp, g, d, tk, os⟩ := s
  dsimp only
  wp_walk
  refine wpAny_askSetting (wpAny_pure ?_)
  dsimp only
  simp only [newObj]
  exact wpAny_bind (wpAny_alloc (wpAny_pure (wpAny_pure h)))
set_option maxHeartbeats 4000000 in
theorem set_of_list {s : Shared} {l : Addr} {vs : List Value} {xs : List Str} {Q : Value → Shared → Prop} (hh : A.handled = none) (hl : s.heap.IsList l vs.toArray) (hx : StrsAre vs xs) (hb : vs.length + 1 ≤ 1000)
    (h : ∀ h' tk, SetT prog w s.heap.objs.size (fun k => k ∈ xs) vs.length h' → Ext s.heap h' → Q (.ref s.heap.objs.size) { s with heap := h', toks := tk }) :
    wpAny (model prog w) A (call (.type "set") [.ref l]) Q E s := by
  obtain ⟨c, tl, hmro⟩ := PySem.F.called_set.mro
  have hmade := PySem.F.called_set.made
  have hsub := PySem.F.called_set.sub
  refine wpAny_call (codeAny_of_tree ?_)
  show wpAny _ _ (callAny (.type "set") _) _ _ _
  refine wpAny_pure ⟨Code.quiet_builtin _ (by decide +kernel), codeAny_builtin PySem.F.entry_type_call ?_⟩
  rw [Around.under_plain (weight_type_call_type "set" [.ref l] []) rfl]
  have h1 := PySem.F.called_set.notType
  have h2 := PySem.F.called_set.canCreate
  have hct := PySem.F.typeCall_set_1 (.ref l)
  repeat (any_goals (first | assumption | wp_step))
  refine codeAny_mono (code_new_led (.ref l) (E := E) (Q₁ := fun obj s₁ => obj = .ref s.heap.objs.size ∧ s₁ = { s with heap := s.heap.push (newSetObj w) }) ⟨rfl, rfl⟩) fun r s₁ hr => ?_
  obtain e | fl := r
  · exact hr
  cases fl <;> try exact hr.elim
  obtain ⟨rfl, rfl⟩ := hr
  have hS : (s.heap.push (newSetObj w)).get? s.heap.objs.size = some (newSetObj w) := Heap.get?_push_size _ rfl
  have hT : Shared.TypeIs { s with heap := s.heap.push (newSetObj w) } (.ref s.heap.objs.size) "set" := ⟨_, hS, rfl⟩
  have hli := PySem.F.called_set.init.lookup
  have hbi := PySem.F.called_set.init.bind (.ref s.heap.objs.size)
  repeat (any_goals (first | assumption | wp_step))
  refine codeAny_mono (codeAny_call_builtin (R := wants (fun r s₂ => r = .none ∧ ∃ h' tk, s₂ = { s with heap := h', toks := tk } ∧ SetT prog w s.heap.objs.size (fun k => k ∈ xs) vs.length h' ∧ Ext s.heap h') E) PySem.F.called_set.init.plain PySem.F.entry_set_init (check_set_init_1 hT ?_)) fun r₂ s₂ hr₂ => ?_
  · have hls : (s.heap.push (newSetObj w)).IsList l vs.toArray := hl.at fun o e => Heap.get?_push_of_some _ e
    obtain ⟨ol, hol, hcl, nl, hdl⟩ := id hls
    obtain ⟨ocls, odict, odata, oslots⟩ := ol
    simp only at hcl hdl
    subst hcl hdl
    have hlt : l < s.heap.objs.size := by
      obtain ⟨o, e, _⟩ := hl
      exact Heap.lt_size e
    have hsls := PySem.F.sub_list_set
    have hslf := PySem.F.sub_list_frozenset
    have hne : (Value.type "list" == Value.type "dict") = false := by decide
    unfold Builtin.«set.__init__» noKeywords Builtin.Frozenset.updateFrom
    generalize hPI : pyIter = PI
    wp_walk
    subst hPI
    refine wpAny_pyIter_list hls ?_
    refine wpAny_bind (wpAny_runValue ?_)
    have hh3 : A.in1.in1.in1.handled = none := hh
    have hsz : (s.heap.push (newSetObj w)).objs.size = s.heap.objs.size + 1 := Heap.size_push ..
    have hlI : l ≠ (s.heap.push (newSetObj w)).objs.size := by rw [hsz]; exact Nat.ne_of_lt (Nat.lt_succ_of_lt hlt)
    have W := Walks.list (prog := prog) (w := w) hh3 _ l hlI vs.toArray
    have e1 : vs.toArray.size = vs.length := List.size_toArray
    rw [e1] at W
    refine set_loop W s.heap.objs.size ?_ (.head _) (fun i => xs.getD i (Str.ofString "")) (fun i v hv => ?_) hb vs.length 0 _ (by omega) (Nat.zero_le _) ⟨⟨_, Heap.get?_push_size _ rfl, rfl, rfl⟩, hls.at fun o e => Heap.get?_push_of_some _ e⟩ ?_ ?_
    · rw [hsz]
      intro q
      rcases List.mem_cons.mp q with q | q
      · exact absurd q (Nat.ne_of_lt (Nat.lt_succ_self _))
      · exact absurd (List.mem_singleton.mp q) (Nat.ne_of_gt hlt)
    · have hv' : vs[i]? = some v := by simpa using hv
      have hi : i < vs.length := by
        rcases Nat.lt_or_ge i vs.length with q | q
        · exact q
        · rw [List.getElem?_eq_none q] at hv'; cases hv'
      obtain ⟨u, hu⟩ := strs_get hx i hi
      rw [hv'] at hu
      exact ⟨u, Option.some.inj hu⟩
    · exact ⟨#[], 0, _, Heap.get?_push_of_some _ hS, fun e he => (nomatch he), fun k => ⟨fun ⟨j, hj, _⟩ => absurd hj (Nat.not_lt_zero _), fun hk => (nomatch hk)⟩, List.nodup_nil, Nat.le_refl _, rfl, rfl, fun hk => absurd hk (Nat.lt_irrefl _)⟩
    · intro h' tk hT' hK
      refine wpAny_pure ?_
      show wpAny _ _ (ret Value.none) _ _ _
      refine wpAny_pure ⟨rfl, h', tk, rfl, setT_congr hT' fun k => ?_, fun b o e => hK b o ?_ (Heap.get?_push_of_some _ (Heap.get?_push_of_some _ e))⟩
      · have hl2 := strs_len hx
        constructor
        · rintro ⟨j, hj, rfl⟩
          rw [List.getD_eq_getElem?_getD, List.getElem?_eq_getElem (by omega)]
          exact List.getElem_mem _
        · intro hk
          obtain ⟨j, hj, rfl⟩ := List.mem_iff_getElem.mp hk
          exact ⟨j, by omega, by rw [List.getD_eq_getElem?_getD, List.getElem?_eq_getElem hj]; rfl⟩
      · have hb1 := Heap.lt_size e
        intro q
        rcases List.mem_cons.mp q with q | q
        · exact absurd q (Nat.ne_of_lt hb1)
        · have q := List.mem_singleton.mp q
          rw [hsz] at q
          exact absurd q (Nat.ne_of_lt (Nat.lt_succ_of_lt hb1))
  · obtain e | fl := r₂
    · exact hr₂
    cases fl <;> try exact hr₂.elim
    obtain ⟨rfl, h', tk, rfl, hT', hE⟩ := hr₂
    repeat (any_goals (first | assumption | wp_step))
    exact h _ _ hT' hE
end
end
section
open PySem PySem.W PyProof.Rows PySem.Calls PySem.Spec
set_option maxRecDepth 100000
theorem entry_setIter : entryFor table "set.__iter__" = some Builtin.«frozenset.__iter__» := entryFor_alias (id' := "frozenset.__iter__") (by kernel_rfl) rfl (by decide +kernel) (by kernel_rfl)
theorem slot_setNext : Slot "set_iterator" "__next__" "set_iterator.__next__" :=
  .of (owner := "set_iterator") (n := "__next__") (by rw [typeLookup_type, builtinLookup_eq_fast]; kernel_rfl) (by decide +kernel) (by decide +kernel) (by decide +kernel)
    (by first | exact .inl (by decide +kernel) | exact .inr (by decide +kernel)) (by rw [isSubtype_type]; kernel_rfl)
theorem entry_setNext : entryFor table "set_iterator.__next__" = some Builtin.«set_iterator.__next__» := entryFor_of_tree (by kernel_rfl)
theorem args_setNext (a : Value) : argsOk "set_iterator.__next__" ⟨[a], []⟩ := by unfold argsOk; kernel_rfl
abbrev setObj (es : Array (Int × Value)) (ep : Nat) (t : SetTable) : Obj := { cls := .type "set", dict := none, data := .set es ep t, slots := #[] }
abbrev setIt (first : Value) (i : Nat) (S : Addr) (n ep : Nat) : Obj := { cls := .type "set_iterator", dict := none, data := .fields #[first, rawInt (i : Int), .ref S, rawInt (n : Int), rawInt (ep : Int)], slots := #[] }
section
variable {prog : Program} {w : World} {A : Around} {E : Value → Shared → Prop} {s : Shared}
theorem head5 {first : Value} {i : Nat} {S I : Addr} {n ep : Nat} {Q : Array Value → Shared → Prop} (hI : s.heap.get? I = some (setIt first i S n ep)) (h : Q #[first, rawInt (i : Int), .ref S, rawInt (n : Int), rawInt (ep : Int)] s) :
    wpAny (model prog w) A (fieldsOf (.ref I)) Q E s := wpAny_fieldsOf hI rfl h
theorem setF {I : Addr} {vs : Array Value} {k : Nat} {x : Value} {Q : Unit → Shared → Prop} (ho : s.heap.get? I = some { cls := .type "set_iterator", dict := none, data := .fields vs, slots := #[] }) (hk : k < vs.size)
    (h : ∀ h', h'.get? I = some { cls := .type "set_iterator", dict := none, data := .fields (vs.setIfInBounds k x), slots := #[] } → Heap.SameBut I s.heap h' → Q () { s with heap := h' }) :
    wpAny (model prog w) A (setField (.ref I) k x) Q E s := wpAny_setField_rec ho hk h
theorem stopE {α : Type} {Q : α → Shared → Prop} (hh : A.handled = none) (h : ∀ e h', Ext s.heap h' → ({ s with heap := h' } : Shared).TypeIs (.ref e) "StopIteration" → E (.ref e) { s with heap := h' }) :
    wpAny (model prog w) A (newExc (.type "StopIteration") [] >>= fun x => (raiseNew x : Sem α)) Q E s := by
  refine wpAny_bind ?_
  simp only [newExc, newTuple]
  refine wpAny_bind (wpAny_newObj_type ?_ (by size_fits))
  refine wpAny_bind (m := firstArgMember _ _) (wpAny_of_eq (a := Value.none) (by first | rfl | (simp only [firstArgMember]; rfl)) ?_)
  refine wpAny_newObj_type ?_ (by size_fits)
  simp only [raiseNew]
  refine wpAny_bind (wpAny_handled ?_)
  rw [hh]
  refine wpAny_bind (wpAny_pure (wpAny_throw ?_))
  exact h _ _ (fun b o e => Heap.get?_push_of_some _ (Heap.get?_push_of_some _ e)) ⟨_, Heap.get?_push_size _ rfl, rfl⟩
theorem endB {I S T : Addr} {es : Array (Int × Value)} {ep n : Nat} {t : SetTable} {places : List Nat} {i : Nat} {Q : Option Value → Shared → Prop} (hh : A.handled = none)
    (hI : s.heap.get? I = some (setIt (.ref T) i S n ep)) (hT : s.heap.get? T = some { cls := .type "tuple", data := .seq (places.map fun q => rawInt (q : Nat)).toArray }) (hS : s.heap.get? S = some (setObj es ep t)) (hf : t.fits es.size = true)
    (hn : n = es.size) (hp : places[i]? = none) (h : ∀ h', Kept s.heap [I] h' → Q none { s with heap := h' }) :
    wpAny (model prog w) A (pyNext (.ref I)) Q E s := by
  have hTI : s.TypeIs (.ref I) "set_iterator" := ⟨_, hI, rfl⟩
  subst hn
  unfold pyNext
  refine wpAny_bind (wpAny_attempt (wpAny_callSpecial?_slot (name := Str.ofString "__next__") hTI slot_setNext (wpAny_call_entry slot_setNext hTI entry_setNext ?_ (args_setNext _))))
  unfold Builtin.«set_iterator.__next__»
  refine wpAny_bind (m := slotArgs "__next__" 0 _) (wpAny_pure ?_)
  dsimp only
  refine wpAny_bind (head5 hI ?_)
  dsimp only [rawInt]
  refine wpAny_bind (wpAny_setEntries_of hS rfl hf ?_)
  rw [if_neg (by simp)]
  refine wpAny_bind (wpAny_seqItems hT rfl ?_)
  have e1 : (places.map fun q => rawInt (q : Nat)).toArray[(i : Int).toNat]? = none := by
    simpa using hp
  dsimp only
  rw [e1]
  dsimp only
  refine wpAny_bind (setF hI (by simp) fun h1 hI1 hs1 => ?_)
  refine wpAny_bind (setF (s := { s with heap := h1 }) hI1 (by simp) fun h2 hI2 hs2 => ?_)
  refine stopE hh fun e h3 hE hTy => ?_
  refine wpAny_bind (wpAny_isInstance (T := "StopIteration") (b := true) hTy isSubtype_stop ?_)
  refine wpAny_pure (h h3 fun b o hb eo => hE b o ?_)
  have hbI : b ≠ I := fun q => hb (q ▸ .head _)
  exact (hs2.2 b hbI).trans ((hs1.2 b hbI).trans eo)
theorem nextB {I S T : Addr} {es : Array (Int × Value)} {ep : Nat} {t : SetTable} {places : List Nat} {i p : Nat} {x : Value} {hx : Int} {Q : Option Value → Shared → Prop}
    (hI : s.heap.get? I = some (setIt (.ref T) i S es.size ep)) (hT : s.heap.get? T = some { cls := .type "tuple", data := .seq (places.map fun q => rawInt (q : Nat)).toArray }) (hS : s.heap.get? S = some (setObj es ep t)) (hf : t.fits es.size = true)
    (hp : places[i]? = some p) (he : es[p]? = some (hx, x))
    (h : ∀ h', h'.get? I = some (setIt (.ref T) (i + 1) S es.size ep) → Heap.SameBut I s.heap h' → Q (some x) { s with heap := h' }) :
    wpAny (model prog w) A (pyNext (.ref I)) Q E s := by
  have hTI : s.TypeIs (.ref I) "set_iterator" := ⟨_, hI, rfl⟩
  unfold pyNext
  refine wpAny_bind (wpAny_attempt (wpAny_callSpecial?_slot (name := Str.ofString "__next__") hTI slot_setNext (wpAny_call_entry slot_setNext hTI entry_setNext ?_ (args_setNext _))))
  unfold Builtin.«set_iterator.__next__»
  refine wpAny_bind (m := slotArgs "__next__" 0 _) (wpAny_pure ?_)
  dsimp only
  refine wpAny_bind (head5 hI ?_)
  dsimp only [rawInt]
  refine wpAny_bind (wpAny_setEntries_of hS rfl hf ?_)
  rw [if_neg (by simp)]
  refine wpAny_bind (wpAny_seqItems hT rfl ?_)
  have e1 : (places.map fun q => rawInt (q : Nat)).toArray[(i : Int).toNat]? = some (rawInt (p : Nat)) := by
    simp [hp]
  dsimp only
  rw [e1]
  dsimp only [rawInt]
  unfold setNextDrawn
  refine wpAny_bind (wpAny_bind (wpAny_setState_of hS rfl hf ?_))
  dsimp only
  rw [if_neg (by simp)]
  have e2 : es[(p : Int).toNat]? = some (hx, x) := by simpa using he
  rw [e2]
  refine wpAny_pure ?_
  refine wpAny_bind (setF hI (by simp) fun h' hI' hs => ?_)
  refine wpAny_pure ⟨x, rfl, wpAny_pure (h h' ?_ hs)⟩
  rw [hI']
  rfl
theorem nextA {I S : Addr} {es : Array (Int × Value)} {ep : Nat} {t : SetTable} {i : Nat} {x : Value} {hx : Int} {Q : Option Value → Shared → Prop} (hb : byText w = true)
    (hI : s.heap.get? I = some (setIt (rawInt 0) i S es.size ep)) (hS : s.heap.get? S = some (setObj es ep t)) (hf : t.fits es.size = true)
    (he : (pickOrder (w.params.setOrder S ep) es)[i]? = some (hx, x))
    (h : ∀ h', h'.get? I = some (setIt (rawInt 0) (i + 1) S es.size ep) → Heap.SameBut I s.heap h' → Q (some x) { s with heap := h' }) :
    wpAny (model prog w) A (pyNext (.ref I)) Q E s := by
  have hb' : (⟨(model prog w).prog, (model prog w).w.params⟩ : Setting).params.followText "set-order" = true := hb
  have hTI : s.TypeIs (.ref I) "set_iterator" := ⟨_, hI, rfl⟩
  unfold pyNext
  refine wpAny_bind (wpAny_attempt (wpAny_callSpecial?_slot (name := Str.ofString "__next__") hTI slot_setNext (wpAny_call_entry slot_setNext hTI entry_setNext ?_ (args_setNext _))))
  unfold Builtin.«set_iterator.__next__»
  refine wpAny_bind (m := slotArgs "__next__" 0 _) (wpAny_pure ?_)
  dsimp only
  refine wpAny_bind (head5 hI ?_)
  dsimp only [rawInt]
  refine wpAny_bind (wpAny_setEntries_of hS rfl hf ?_)
  rw [if_neg (by simp)]
  unfold setNext setsByText
  refine wpAny_bind (wpAny_bind (wpAny_setState_of hS rfl hf ?_))
  dsimp only
  refine wpAny_bind (wpAny_bind (wpAny_askSetting (wpAny_pure ?_)))
  rw [if_pos hb']
  rw [if_neg (by simp)]
  unfold setWalk setsByText
  refine wpAny_bind (wpAny_bind (wpAny_setState_of hS rfl hf ?_))
  dsimp only
  refine wpAny_bind (wpAny_bind (wpAny_askSetting (wpAny_pure ?_)))
  rw [if_pos hb']
  refine wpAny_bind (wpAny_askSetting (wpAny_pure ?_))
  refine wpAny_pure ?_
  have e1 : (pickOrder ((⟨(model prog w).prog, (model prog w).w.params⟩ : Setting).params.setOrder S ep) es)[((i : Nat) : Int).toNat]? = some (hx, x) := by rw [Int.toNat_natCast]; exact he
  rw [e1]
  dsimp only [Option.map_some]
  refine wpAny_bind (setF hI (by simp) fun h1 hI1 hs1 => ?_)
  refine wpAny_bind (setF (s := { s with heap := h1 }) hI1 (by simp) fun h2 hI2 hs2 => ?_)
  refine wpAny_pure ⟨x, rfl, wpAny_pure (h h2 ?_ (hs1.trans hs2))⟩
  rw [hI2]
  rfl
theorem endA {I S : Addr} {es : Array (Int × Value)} {ep : Nat} {t : SetTable} {i : Nat} {Q : Option Value → Shared → Prop} (hh : A.handled = none) (hb : byText w = true)
    (hI : s.heap.get? I = some (setIt (rawInt 0) i S es.size ep)) (hS : s.heap.get? S = some (setObj es ep t)) (hf : t.fits es.size = true)
    (he : (pickOrder (w.params.setOrder S ep) es)[i]? = none)
    (h : ∀ h', Kept s.heap [I] h' → Q none { s with heap := h' }) :
    wpAny (model prog w) A (pyNext (.ref I)) Q E s := by
  have hb' : (⟨(model prog w).prog, (model prog w).w.params⟩ : Setting).params.followText "set-order" = true := hb
  have hTI : s.TypeIs (.ref I) "set_iterator" := ⟨_, hI, rfl⟩
  unfold pyNext
  refine wpAny_bind (wpAny_attempt (wpAny_callSpecial?_slot (name := Str.ofString "__next__") hTI slot_setNext (wpAny_call_entry slot_setNext hTI entry_setNext ?_ (args_setNext _))))
  unfold Builtin.«set_iterator.__next__»
  refine wpAny_bind (m := slotArgs "__next__" 0 _) (wpAny_pure ?_)
  dsimp only
  refine wpAny_bind (head5 hI ?_)
  dsimp only [rawInt]
  refine wpAny_bind (wpAny_setEntries_of hS rfl hf ?_)
  rw [if_neg (by simp)]
  unfold setNext setsByText
  refine wpAny_bind (wpAny_bind (wpAny_setState_of hS rfl hf ?_))
  dsimp only
  refine wpAny_bind (wpAny_bind (wpAny_askSetting (wpAny_pure ?_)))
  rw [if_pos hb']
  rw [if_neg (by simp)]
  unfold setWalk setsByText
  refine wpAny_bind (wpAny_bind (wpAny_setState_of hS rfl hf ?_))
  dsimp only
  refine wpAny_bind (wpAny_bind (wpAny_askSetting (wpAny_pure ?_)))
  rw [if_pos hb']
  refine wpAny_bind (wpAny_askSetting (wpAny_pure ?_))
  refine wpAny_pure ?_
  have e1 : (pickOrder ((⟨(model prog w).prog, (model prog w).w.params⟩ : Setting).params.setOrder S ep) es)[((i : Nat) : Int).toNat]? = none := by rw [Int.toNat_natCast]; exact he
  rw [e1]
  dsimp only [Option.map_none]
  refine wpAny_bind (setF hI (by simp) fun h1 hI1 hs1 => ?_)
  refine stopE hh fun e h3 hE hTy => ?_
  refine wpAny_bind (wpAny_isInstance (T := "StopIteration") (b := true) hTy isSubtype_stop ?_)
  refine wpAny_pure (h h3 fun b o hb eo => hE b o ?_)
  exact (hs1.2 b fun q => hb (q ▸ .head _)).trans eo
theorem nextC {I S : Addr} {es : Array (Int × Value)} {ep slot j k : Nat} {t : SetTable} {i : Nat} {x : Value} {hx : Int} {Q : Option Value → Shared → Prop} (hb : byText w = false) (hled : t.led = true) (hsz : es.size ≤ 1)
    (hI : s.heap.get? I = some (setIt (rawInt (slot : Nat)) i S es.size ep)) (hS : s.heap.get? S = some (setObj es ep t)) (hf : t.fits es.size = true)
    (hk : SetTable.below t.place slot = k) (he : es[k]? = some (hx, x)) (hj : t.place[k]? = some j)
    (h : ∀ h', h'.get? I = some (setIt (rawInt (j + 1 : Nat)) (i + 1) S es.size ep) → Heap.SameBut I s.heap h' → Q (some x) { s with heap := h' }) :
    wpAny (model prog w) A (pyNext (.ref I)) Q E s := by
  have hb' : ¬ (⟨(model prog w).prog, (model prog w).w.params⟩ : Setting).params.followText "set-order" = true := fun e => by rw [show byText w = true from e] at hb; cases hb
  have hTI : s.TypeIs (.ref I) "set_iterator" := ⟨_, hI, rfl⟩
  unfold pyNext
  refine wpAny_bind (wpAny_attempt (wpAny_callSpecial?_slot (name := Str.ofString "__next__") hTI slot_setNext (wpAny_call_entry slot_setNext hTI entry_setNext ?_ (args_setNext _))))
  unfold Builtin.«set_iterator.__next__»
  refine wpAny_bind (m := slotArgs "__next__" 0 _) (wpAny_pure ?_)
  dsimp only
  refine wpAny_bind (head5 hI ?_)
  dsimp only [rawInt]
  refine wpAny_bind (wpAny_setEntries_of hS rfl hf ?_)
  rw [if_neg (by simp)]
  unfold setNext setsByText
  refine wpAny_bind (wpAny_bind (wpAny_setState_of hS rfl hf ?_))
  dsimp only
  refine wpAny_bind (wpAny_bind (wpAny_askSetting (wpAny_pure ?_)))
  rw [if_neg hb']
  refine wpAny_ite ?_
  refine ite_neg (c := (!t.plain && decide (es.size > 1)) = true) (by simp; omega) ?_
  refine wpAny_bind (m := if (!t.led && !es.isEmpty) = true then unsupported "set:maker-not-led" else pure ()) (wpAny_ite (ite_neg (by simp [hled]) (wpAny_pure ?_)))
  refine wpAny_pure ?_
  have e1 : SetTable.below t.place ((slot : Nat) : Int).toNat = k := by simpa using hk
  rw [e1, he, hj]
  dsimp only
  refine wpAny_bind (setF hI (by simp) fun h1 hI1 hs1 => ?_)
  refine wpAny_bind (setF (s := { s with heap := h1 }) hI1 (by simp) fun h2 hI2 hs2 => ?_)
  refine wpAny_pure ⟨x, rfl, wpAny_pure (h h2 ?_ (hs1.trans hs2))⟩
  rw [hI2]
  rfl
theorem endC {I S : Addr} {es : Array (Int × Value)} {ep slot k : Nat} {t : SetTable} {i : Nat} {Q : Option Value → Shared → Prop} (hh : A.handled = none) (hb : byText w = false) (hled : t.led = true) (hsz : es.size ≤ 1)
    (hI : s.heap.get? I = some (setIt (rawInt (slot : Nat)) i S es.size ep)) (hS : s.heap.get? S = some (setObj es ep t)) (hf : t.fits es.size = true)
    (hk : SetTable.below t.place slot = k) (he : es[k]? = none)
    (h : ∀ h', Kept s.heap [I] h' → Q none { s with heap := h' }) :
    wpAny (model prog w) A (pyNext (.ref I)) Q E s := by
  have hb' : ¬ (⟨(model prog w).prog, (model prog w).w.params⟩ : Setting).params.followText "set-order" = true := fun e => by rw [show byText w = true from e] at hb; cases hb
  have hTI : s.TypeIs (.ref I) "set_iterator" := ⟨_, hI, rfl⟩
  unfold pyNext
  refine wpAny_bind (wpAny_attempt (wpAny_callSpecial?_slot (name := Str.ofString "__next__") hTI slot_setNext (wpAny_call_entry slot_setNext hTI entry_setNext ?_ (args_setNext _))))
  unfold Builtin.«set_iterator.__next__»
  refine wpAny_bind (m := slotArgs "__next__" 0 _) (wpAny_pure ?_)
  dsimp only
  refine wpAny_bind (head5 hI ?_)
  dsimp only [rawInt]
  refine wpAny_bind (wpAny_setEntries_of hS rfl hf ?_)
  rw [if_neg (by simp)]
  unfold setNext setsByText
  refine wpAny_bind (wpAny_bind (wpAny_setState_of hS rfl hf ?_))
  dsimp only
  refine wpAny_bind (wpAny_bind (wpAny_askSetting (wpAny_pure ?_)))
  rw [if_neg hb']
  refine wpAny_ite ?_
  refine ite_neg (c := (!t.plain && decide (es.size > 1)) = true) (by simp; omega) ?_
  refine wpAny_bind (m := if (!t.led && !es.isEmpty) = true then unsupported "set:maker-not-led" else pure ()) (wpAny_ite (ite_neg (by simp [hled]) (wpAny_pure ?_)))
  refine wpAny_pure ?_
  have e1 : SetTable.below t.place ((slot : Nat) : Int).toNat = k := by simpa using hk
  rw [e1, he]
  dsimp only
  refine wpAny_bind (setF hI (by simp) fun h1 hI1 hs1 => ?_)
  refine stopE hh fun e h3 hE hTy => ?_
  refine wpAny_bind (wpAny_isInstance (T := "StopIteration") (b := true) hTy isSubtype_stop ?_)
  refine wpAny_pure (h h3 fun b o hb eo => hE b o ?_)
  exact (hs1.2 b fun q => hb (q ▸ .head _)).trans eo
end
end
section
open PySem PySem.W PyProof.Rows PySem.Calls PySem.Spec
set_option maxRecDepth 100000
theorem pick_go {α : Type} (next : Nat → Nat) : ∀ (fuel k : Nat) (left : List α) (out : Array α), fuel = left.length → (pickOrder.go next fuel k left out).toList.Perm (out.toList ++ left)
  | 0, k, left, out, h => by
    obtain rfl := List.length_eq_zero_iff.mp h.symm
    rw [List.append_nil]
    exact List.Perm.refl _
  | fuel + 1, k, left, out, h => by
    have hl : 0 < left.length := by omega
    have hi : next k % left.length < left.length := Nat.mod_lt _ hl
    unfold pickOrder.go
    rw [List.getElem?_eq_getElem hi]
    dsimp only
    refine (pick_go next fuel (k + 1) _ _ (by rw [List.length_eraseIdx, if_pos hi]; omega)).trans ?_
    rw [Array.toList_push, List.append_assoc]
    exact List.Perm.append_left _ (erase_perm left _ hi)
theorem pick_perm {α : Type} (next : Nat → Nat) (xs : Array α) : (pickOrder next xs).toList.Perm xs.toList :=
  pick_go next xs.size 0 xs.toList #[] Array.length_toList.symm
structure SetW (prog : Program) (w : World) (A : Around) (I : Addr) (fp : List Addr) (ys : List (Int × Value)) (St : Nat → Heap → Prop) : Prop where
  frame : ∀ i h h', St i h → (∀ b ∈ fp, ∀ o, h.get? b = some o → h'.get? b = some o) → St i h'
  item : ∀ i e (s : Shared) (Q : Option Value → Shared → Prop) (E : Value → Shared → Prop), ys[i]? = some e → St i s.heap → (∀ h', St (i + 1) h' → Kept s.heap [I] h' → Q (some e.2) { s with heap := h' }) → wpAny (model prog w) A (pyNext (.ref I)) Q E s
  done : ∀ (s : Shared) (Q : Option Value → Shared → Prop) (E : Value → Shared → Prop), St ys.length s.heap → (∀ h', Kept s.heap [I] h' → Q none { s with heap := h' }) → wpAny (model prog w) A (pyNext (.ref I)) Q E s
theorem kept_same {I : Addr} {h h' : Heap} (x : Heap.SameBut I h h') : Kept h [I] h' := fun b o hb e => (x.2 b fun q => hb (q ▸ .head _)).trans e
section
variable {prog : Program} {w : World} {A : Around}
theorem setW_A (hh : A.handled = none) (hb : byText w = true) {I S : Addr} (hIS : S ≠ I) {es : Array (Int × Value)} {ep : Nat} {t : SetTable} (hf : t.fits es.size = true) :
    SetW prog w A I [I, S] (pickOrder (w.params.setOrder S ep) es).toList (fun i h => h.get? I = some (setIt (rawInt 0) i S es.size ep) ∧ h.get? S = some (setObj es ep t)) where
  frame := fun i h h' st k => ⟨k I (by simp) _ st.1, k S (by simp) _ st.2⟩
  item := fun i e s Q E he st hQ => nextA (hx := e.1) (x := e.2) hb st.1 st.2 hf (by rw [← Array.getElem?_toList]; exact he) fun h' h1 hs => hQ h' ⟨h1, (hs.2 S hIS).trans st.2⟩ (kept_same hs)
  done := fun s Q E st hQ => endA hh hb st.1 st.2 hf (by simp) hQ
theorem setW_B (hh : A.handled = none) {I S T : Addr} (hIS : S ≠ I) (hIT : T ≠ I) {es : Array (Int × Value)} {ep : Nat} {t : SetTable} (hf : t.fits es.size = true) {places : List Nat} {ys : List (Int × Value)} (hp : places.map (fun p => es[p]?) = ys.map some) :
    SetW prog w A I [I, S, T] ys (fun i h => h.get? I = some (setIt (.ref T) i S es.size ep) ∧ h.get? S = some (setObj es ep t) ∧ h.get? T = some { cls := .type "tuple", data := .seq (places.map fun q => rawInt (q : Nat)).toArray }) where
  frame := fun i h h' st k => ⟨k I (by simp) _ st.1, k S (by simp) _ st.2.1, k T (by simp) _ st.2.2⟩
  item := fun i e s Q E he st hQ => by
    have hl := congrArg List.length hp
    rw [List.length_map, List.length_map] at hl
    have h1 := congrArg (fun l => l[i]?) hp
    simp only [List.getElem?_map, he, Option.map_some] at h1
    obtain ⟨p, hp1, hp2⟩ := Option.map_eq_some_iff.mp h1
    exact nextB (x := e.2) (hx := e.1) st.1 st.2.2 st.2.1 hf hp1 hp2 fun h' h1 hs => hQ h' ⟨h1, (hs.2 S hIS).trans st.2.1, (hs.2 T hIT).trans st.2.2⟩ (kept_same hs)
  done := fun s Q E st hQ => by
    have hl := congrArg List.length hp
    rw [List.length_map, List.length_map] at hl
    exact endB hh st.1 st.2.2 st.2.1 hf rfl (List.getElem?_eq_none (by omega)) hQ
def slotAt (t : SetTable) (i : Nat) : Nat := if i = 0 then 0 else t.place.getD 0 0 + 1
theorem below_one {p j : Nat} : SetTable.below #[p] j = if p < j then 1 else 0 := by
  unfold SetTable.below SetTable.below.go
  simp only [List.size_toArray, List.length_singleton, Nat.zero_lt_one, if_true, Nat.zero_add, Nat.reduceDiv]
  unfold SetTable.below.go
  rfl
theorem setW_C (hh : A.handled = none) (hb : byText w = false) {I S : Addr} (hIS : S ≠ I) {es : Array (Int × Value)} {ep : Nat} {t : SetTable} (hf : t.fits es.size = true) (hled : t.led = true) (hsz : es.size ≤ 1) :
    SetW prog w A I [I, S] es.toList (fun i h => h.get? I = some (setIt (rawInt (slotAt t i : Nat)) i S es.size ep) ∧ h.get? S = some (setObj es ep t)) where
  frame := fun i h h' st k => ⟨k I (by simp) _ st.1, k S (by simp) _ st.2⟩
  item := fun i e s Q E he st hQ => by
    have hi : i < es.size := by
      rcases Nat.lt_or_ge i es.toList.length with q | q
      · rwa [Array.length_toList] at q
      · rw [List.getElem?_eq_none q] at he; cases he
    have hi0 : i = 0 := by omega
    subst hi0
    have hps : t.place.size = es.size := by
      unfold SetTable.fits at hf
      simp at hf
      exact hf.1
    obtain ⟨p, hp⟩ : ∃ p, t.place = #[p] := by
      have : t.place.size = 1 := by omega
      exact ⟨t.place[0], Array.ext (by simp [this]) fun i h1 h2 => by
        have : i = 0 := by omega
        subst this
        rfl⟩
    refine nextC (hx := e.1) (x := e.2) (k := 0) (j := p) hb hled hsz st.1 st.2 hf ?_ (by rw [← Array.getElem?_toList]; exact he) (by rw [hp]; rfl) fun h' h1 hs => hQ h' ⟨?_, (hs.2 S hIS).trans st.2⟩ (kept_same hs)
    · rw [hp, below_one]; rfl
    · have e0 : slotAt t (0 + 1) = p + 1 := by unfold slotAt; rw [hp]; rfl
      rw [e0]; exact h1
  done := fun s Q E st hQ => by
    have hps : t.place.size = es.size := by
      unfold SetTable.fits at hf
      simp at hf
      exact hf.1
    rw [Array.length_toList] at st
    refine endC (k := es.size) hh hb hled hsz st.1 st.2 hf ?_ (by simp) hQ
    rcases Nat.lt_or_ge 0 es.size with q | q
    · have h1 : es.size = 1 := by omega
      obtain ⟨p, hp⟩ : ∃ p, t.place = #[p] := by
        have : t.place.size = 1 := by omega
        exact ⟨t.place[0], Array.ext (by simp [this]) fun i h1 h2 => by
          have : i = 0 := by omega
          subst this
          rfl⟩
      have e0 : slotAt t es.size = p + 1 := by unfold slotAt; rw [h1, hp]; rfl
      rw [e0, hp, below_one, h1, if_pos (Nat.lt_succ_self p)]
    · have h0 : es.size = 0 := by omega
      have : t.place = #[] := Array.eq_empty_of_size_eq_zero (by omega)
      rw [this, h0]
      rfl
variable {R : Result → Shared → Prop} {I : Addr} {fp : List Addr} {ys : List (Int × Value)} {St : Nat → Heap → Prop}
theorem set_extend (W : SetW prog w A.in1 I fp ys St) (hn : ys.length ≤ 1000) (S : Addr) (hSf : S ∉ fp) (hIf : I ∈ fp) (res : Value) :
    ∀ (k i : Nat) (s : Shared) (acc : Array Value) (c : Nat), ys.length - i = k → i ≤ ys.length → St i s.heap → s.heap.get? S = some (seqObj "list" acc c) → acc.toList = (ys.take i).map Prod.snd →
    (∀ h' c', Kept s.heap [S, I] h' → h'.get? S = some (seqObj "list" (ys.map Prod.snd).toArray c') → R (.ok (.ret res)) { s with heap := h' }) →
    codeAny (model prog w) A (.builtin "list.extend.loop" ⟨[.ref S, .ref I, res], []⟩) R s := by
  have hSI : S ≠ I := fun e => hSf (e ▸ hIf)
  intro k
  induction k with
  | zero =>
    intro i s acc c hk hi hst hS hacc hR
    have hin : i = ys.length := by omega
    subst hin
    refine codeAny_builtin PySem.F.entry_extend_loop ?_
    rw [Around.under_plainId PySem.F.plain_extend_loop _]
    show wpAny _ A.in1 (pyNext (.ref I) >>= _) _ _ s
    refine wpAny_bind (W.done s _ _ hst fun h' hk' => ?_)
    rw [List.take_length] at hacc
    have : acc = (ys.map Prod.snd).toArray := by rw [← hacc]
    exact wpAny_pure (hR h' c (fun b o hb e => hk' b o (fun q => hb (.tail _ q)) e) (this ▸ hk' S _ (fun q => hSI (List.mem_singleton.mp q)) hS))
  | succ k ih =>
    intro i s acc c hk hi hst hS hacc hR
    have hlt : i < ys.length := by omega
    have hsza : acc.size = i := by
      rw [← Array.length_toList, hacc, List.length_map, List.length_take]; omega
    refine codeAny_builtin PySem.F.entry_extend_loop ?_
    rw [Around.under_plainId PySem.F.plain_extend_loop _]
    show wpAny _ A.in1 (pyNext (.ref I) >>= _) _ _ s
    refine wpAny_bind (W.item i ys[i] s _ _ (List.getElem?_eq_getElem hlt) hst fun h1 hst' hk1 => ?_)
    have hS' := hk1 S _ (fun q => hSI (List.mem_singleton.mp q)) hS
    show wpAny _ A.in1 (updateSeq S (·.push ys[i].2) >>= _) _ _ _
    refine wpAny_bind ?_
    refine wpAny_updateSeq hS' rfl (wpAny_pure ⟨plainId_quiet PySem.F.plain_extend_loop _, ih (i + 1) _ (acc.push ys[i].2) _ (by omega) hlt (W.frame _ h1 _ hst' fun b hb o e => ?_) (Heap.get?_update_self _ hS' rfl) ?_ fun h' c' hk' hS'' => ?_⟩)
      (by rw [hsza, sizeLine_eq]; omega) (by show (acc.push ys[i].2).size ≤ sizeLine + 1; rw [Array.size_push, hsza, sizeLine_eq]; omega)
    · exact (Heap.get?_update_other _ _ (fun h : S = b => hSf (by rw [h]; exact hb))).trans e
    · rw [Array.toList_push, hacc, List.take_succ_eq_append_getElem hlt, List.map_append]; rfl
    · refine hR h' c' (fun b o hb e => hk' b o hb ?_) hS''
      have hbS : S ≠ b := fun q => hb (q ▸ .head _)
      exact (Heap.get?_update_other _ _ hbS).trans (hk1 b o (fun q => hb (.tail _ q)) e)
end
end
section
open PySem PySem.W PyProof.Rows PySem.Calls PySem.Spec
set_option maxRecDepth 100000
section
variable {prog : Program} {w : World} {A : Around} {E : Value → Shared → Prop}
theorem places_perm {es : Array (Int × Value)} {places : List Nat} (hp : places.Perm (List.range es.size)) : ∃ ys : List (Int × Value), places.map (fun p => es[p]?) = ys.map some ∧ ys.Perm es.toList := by
  refine ⟨places.map fun p => es.toList.getD p (0, .none), ?_, ?_⟩
  · rw [List.map_map]
    refine List.map_congr_left fun p hpm => ?_
    have hlt : p < es.size := List.mem_range.mp (hp.mem_iff.mp hpm)
    show es[p]? = some (es.toList.getD p (0, .none))
    rw [List.getD_eq_getElem?_getD, Array.getElem?_toList, Array.getElem?_eq_getElem hlt]
    rfl
  · refine (hp.map _).trans ?_
    have : (List.range es.size).map (fun p => es.toList.getD p (0, .none)) = es.toList := by
      refine List.ext_getElem (by simp) fun i h1 h2 => ?_
      simp only [List.getElem_map, List.getElem_range, List.getD_eq_getElem?_getD]
      rw [List.getElem?_eq_getElem h2]
      rfl
    rw [this]
theorem iter_set {A' : Around} {s : Shared} {S : Addr} {es : Array (Int × Value)} {ep : Nat} {t : SetTable} {Q : Value → Shared → Prop} (hh : A'.handled = none) (hS : s.heap.get? S = some (setObj es ep t)) (hf : t.fits es.size = true) (hled : t.led = !byText w) (hsz : es.size ≤ 1000) (hpl : 0 < es.size → t.plain = false)
    (h : ∀ I fp ys St h' dr, SetW prog w A' I fp ys St → St 0 h' → ys.Perm es.toList → I ∈ fp → (∀ b ∈ fp, b = S ∨ s.heap.objs.size ≤ b) → s.heap.objs.size ≤ I → Ext s.heap h' → Q (.ref I) { s with heap := h', drawn := dr }) :
    wpAny (model prog w) A (pyIter (.ref S)) Q E s := by
  have hT : s.TypeIs (.ref S) "set" := ⟨_, hS, rfl⟩
  have hlt : S < s.heap.objs.size := Heap.lt_size hS
  refine wpAny_pyIter_slot hT PySem.F.slot_set_iter (wpAny_call_entry PySem.F.slot_set_iter hT entry_setIter ?_ (PySem.F.args_set_iter_1 _))
  unfold Builtin.«frozenset.__iter__»
  refine wpAny_bind (m := Builtin.Frozenset.slot0 "__iter__" _) (wpAny_pure ?_)
  dsimp only
  unfold Builtin.Frozenset.sizeOf
  refine wpAny_bind (wpAny_bind (wpAny_setEntries_of hS rfl hf (wpAny_pure ?_)))
  unfold setDrawn setsByText
  refine wpAny_bind (wpAny_bind (wpAny_setState_of hS rfl hf ?_))
  dsimp only
  refine wpAny_bind (wpAny_bind (wpAny_askSetting (wpAny_pure ?_)))
  have hb' : (⟨(model prog w).prog, (model prog w).w.params⟩ : Setting).params.followText "set-order" = byText w := rfl
  rw [hb']
  refine wpAny_pure ?_
  refine wpAny_ite ?_
  by_cases hd : byText w = false ∧ t.plain = false ∧ 1 < es.size
  · refine ite_pos (by rw [hd.1]; show (true && (!t.plain && decide (es.size > 1))) = true; rw [hd.2.1]; simpa using hd.2.2) ?_
    refine wpAny_bind (any_drawOrder es.size (List.range es.size) s (by simp) fun places dr hp => ?_)
    obtain ⟨ys, hys, hyp⟩ := places_perm hp
    refine wpAny_bind (wpAny_newTuple ?_ (by rw [List.length_map, hp.length_eq, List.length_range, sizeLine_eq]; omega))
    unfold setEpoch
    refine wpAny_bind (wpAny_bind (wpAny_setState_of (s := { s with heap := _, drawn := dr }) (Heap.get?_push_of_some _ hS) rfl hf ?_))
    refine wpAny_pure ?_
    dsimp only
    unfold newFields
    refine wpAny_bind (wpAny_newObj_type (wpAny_pure ⟨_, rfl, "set_iterator", _, ⟨_, Heap.get?_push_size _ rfl, rfl⟩, slot_setNext.lookup, ?_⟩))
    have hz : (s.heap.push { cls := .type "tuple", data := .seq (places.map fun q => rawInt (q : Nat)).toArray }).objs.size = s.heap.objs.size + 1 := Heap.size_push ..
    refine h _ _ ys _ _ dr (setW_B hh (S := S) (T := s.heap.objs.size) ?_ ?_ hf hys) ⟨Heap.get?_push_size _ rfl, Heap.get?_push_of_some _ (Heap.get?_push_of_some _ hS), Heap.get?_push_of_some _ (Heap.get?_push_size _ rfl)⟩ hyp (.head _) ?_ ?_ fun b o e => Heap.get?_push_of_some _ (Heap.get?_push_of_some _ e)
    · rw [hz]; exact Nat.ne_of_lt (Nat.lt_succ_of_lt hlt)
    · rw [hz]; exact Nat.ne_of_lt (Nat.lt_succ_self _)
    · intro b hb
      simp only [List.mem_cons, List.not_mem_nil, or_false] at hb
      rcases hb with rfl | rfl | rfl
      · right; rw [hz]; exact Nat.le_succ _
      · exact .inl rfl
      · exact .inr (Nat.le_refl _)
    · rw [hz]; exact Nat.le_succ _
  · have hneg : ¬ ((!byText w && (!t.plain && decide (es.size > 1))) = true) := fun q => hd (by simpa using q)
    refine ite_neg hneg ?_
    refine wpAny_bind (wpAny_pure ?_)
    unfold setEpoch
    refine wpAny_bind (wpAny_bind (wpAny_setState_of hS rfl hf ?_))
    refine wpAny_pure ?_
    dsimp only
    unfold newFields
    refine wpAny_bind (wpAny_newObj_type (wpAny_pure ⟨_, rfl, "set_iterator", _, ⟨_, Heap.get?_push_size _ rfl, rfl⟩, slot_setNext.lookup, ?_⟩))
    have hSI : S ≠ s.heap.objs.size := Nat.ne_of_lt hlt
    have hfp : ∀ b ∈ [s.heap.objs.size, S], b = S ∨ s.heap.objs.size ≤ b := by
      intro b hb
      simp only [List.mem_cons, List.not_mem_nil, or_false] at hb
      rcases hb with rfl | rfl
      · exact .inr (Nat.le_refl _)
      · exact .inl rfl
    cases hbt : byText w with
    | true =>
      exact h _ _ _ _ _ s.drawn (setW_A hh hbt hSI hf) ⟨Heap.get?_push_size _ rfl, Heap.get?_push_of_some _ hS⟩ (pick_perm _ es) (.head _) hfp (Nat.le_refl _) fun b o e => Heap.get?_push_of_some _ e
    | false =>
      rw [hbt] at hled
      have h1 : es.size ≤ 1 ∨ t.plain = true := by
        rcases Nat.lt_or_ge 1 es.size with q | q
        · right
          cases hp : t.plain with
          | true => rfl
          | false => exact absurd ⟨hbt, hp, q⟩ hd
        · exact .inl q
      have h1 : es.size ≤ 1 := h1.elim id fun q => by
        rcases Nat.lt_or_ge 0 es.size with z | z
        · rw [hpl z] at q; cases q
        · omega
      · exact h _ _ _ _ _ s.drawn (setW_C hh hbt hSI hf hled h1) ⟨Heap.get?_push_size _ rfl, Heap.get?_push_of_some _ hS⟩ (List.Perm.refl _) (.head _) hfp (Nat.le_refl _) fun b o e => Heap.get?_push_of_some _ e
end
end
section
open PySem PySem.W PyProof.Rows PySem.Calls PySem.Spec
set_option maxRecDepth 100000
theorem strs_of_elems {prog : Program} {w : World} : ∀ {l : List (Int × Value)}, ElemsOf (strKind prog w) l → StrsAre (l.map Prod.snd) (l.map keyOf)
  | [], _ => .nil
  | e :: r, h => by
    have h1 := is_keyOf h (.head _)
    obtain ⟨t, ht⟩ := Value.isStrOf_shape (show Value.isStrOf (keyOf e) e.2 = true from h1)
    show StrsAre (e.2 :: r.map Prod.snd) (keyOf e :: r.map keyOf)
    rw [ht]
    exact .cons _ t (strs_of_elems fun x hx => h x (.tail _ hx))
section
variable {prog : Program} {w : World} {A : Around} {E : Value → Shared → Prop}
theorem touch_at {a : Addr} {s : Shared} {xs : Array Value} {n : Nat} {Q : Unit → Shared → Prop} (ho : s.heap.get? a = some (seqObj "list" xs n)) (hz : xs.size ≤ 1000)
    (h : ∀ h' n', Heap.SameBut a s.heap h' → h'.get? a = some (seqObj "list" xs n') → Q () { s with heap := h' }) : wpAny (model prog w) A (Builtin.List.listTouch (.ref a)) Q E s := by
  unfold Builtin.List.listTouch
  refine wpAny_bind (listUpdate_at ho rfl ?_ (by rw [sizeLine_eq]; omega) (by rw [Array.size_push, sizeLine_eq]; omega))
  have h1 := get?_update_seq ho (fun xs => xs.push .none)
  refine listUpdate_at (s := { s with heap := _ }) h1 rfl ?_ (by rw [Array.size_push, sizeLine_eq]; omega) (by rw [Array.size_pop, Array.size_push, sizeLine_eq]; omega)
  have h2 := get?_update_seq h1 (fun xs => xs.pop)
  rw [Array.pop_push] at h2
  exact h _ _ ((Heap.SameBut.update ..).trans (Heap.SameBut.update ..)) h2
theorem collect_set {s : Shared} {S : Addr} {seen : Str → Prop} {n : Nat} {Q : List Value → Shared → Prop} (hh : A.handled = none) (hT : SetT prog w S seen n s.heap) (hn : n ≤ 1000)
    (h : ∀ vs ks h' dr, StrsAre vs ks → ks.Nodup → (∀ k, seen k ↔ k ∈ ks) → ks.length ≤ n → Ext s.heap h' → Q vs { s with heap := h', drawn := dr }) : wpAny (model prog w) A (collect (.ref S)) Q E s := by
  obtain ⟨es, ep, t, ho, hel, hmem, hnd, hsz, hf, hled, hpl⟩ := hT
  have hlt : S < s.heap.objs.size := Heap.lt_size ho
  unfold collect
  refine wpAny_bind (wpAny_runValue (codeAny_builtin PySem.F.entry_proto_collect ?_))
  rw [Around.under_plainId PySem.F.plain_proto_collect _]
  show wpAny _ A.in1 (newList [] >>= fun l => again (.builtin "list.__iadd__" ⟨[l, .ref S], []⟩)) _ _ s
  refine wpAny_bind (wpAny_newObj_type ?_)
  refine wpAny_pure ⟨plainId_quiet PySem.F.plain_list_iadd _, codeAny_builtin PySem.F.entry_list_iadd ?_⟩
  rw [Around.under_plainId PySem.F.plain_list_iadd _]
  have hS₁ : (s.heap.push { cls := .type "list", data := .seq ([] : List Value).toArray }).get? s.heap.objs.size = some (seqObj "list" #[] 0) := Heap.get?_push_size _ rfl
  have ho₁ : (s.heap.push { cls := .type "list", data := .seq ([] : List Value).toArray }).get? S = some (setObj es ep t) := Heap.get?_push_of_some _ ho
  have hz₁ : (s.heap.push { cls := .type "list", data := .seq ([] : List Value).toArray }).objs.size = s.heap.objs.size + 1 := Heap.size_push ..
  have hE₁ : Ext s.heap (s.heap.push { cls := .type "list", data := .seq ([] : List Value).toArray }) := fun b o e => Heap.get?_push_of_some _ e
  generalize s.heap.push { cls := .type "list", data := .seq ([] : List Value).toArray } = h₁ at hS₁ ho₁ hz₁ hE₁ ⊢
  have hDS : s.heap.objs.size ≠ S := fun e => Nat.lt_irrefl _ (e ▸ hlt)
  have h1 : Builtin.List.listSameRef (.ref s.heap.objs.size) (.ref S) = false := by simp [Builtin.List.listSameRef, hDS]
  show wpAny _ A.in1 (Builtin.List.listExtendWith (.ref s.heap.objs.size) (.ref S) (.ref s.heap.objs.size)) _ _ _
  unfold Builtin.List.listExtendWith
  refine wpAny_bind (wpAny_typeOf (T := "set") ⟨_, ho₁, rfl⟩ ?_)
  rw [if_neg (by rw [h1]; decide)]
  refine wpAny_bind (iter_set (A' := A.in1) (s := { s with heap := h₁ }) hh ho₁ hf hled (by omega) hpl fun I fp ys St h₂ dr W hst hperm hIf hfp hIge hE₂ => ?_)
  have hyl : ys.length = es.size := by rw [hperm.length_eq, Array.length_toList]
  have hIge : s.heap.objs.size + 1 ≤ I := hz₁ ▸ hIge
  have hSf : s.heap.objs.size ∉ fp := fun q => by
    rcases hfp _ q with e | e
    · exact hDS e
    · have e : h₁.objs.size ≤ s.heap.objs.size := e
      omega
  refine wpAny_bind (wpAny_holding ?_)
  unfold Builtin.List.listLengthHint
  have hT₂ : Shared.TypeIs { s with heap := h₂, drawn := dr } (.ref S) "set" := ⟨_, hE₂ _ _ ho₁, rfl⟩
  refine wpAny_bind (wpAny_specialOf hT₂ PySem.F.slot_set_len.lookup ?_)
  generalize hid : ("set.__len__" : String) = id0
  (fail_if_success (clear hid id0)); wp_delta
  rw [show splitId id0 = some ("set", "__len__") from by subst hid; decide +kernel]
  subst hid
  dsimp only
  refine wpAny_bind (wpAny_isInstance (b := true) hT₂ sub_set_self ?_)
  rw [if_neg (by decide)]
  rw [if_pos (by decide +kernel)]
  refine wpAny_bind (wpAny_typeOf hT₂ ?_)
  dsimp only
  refine wpAny_pure ?_
  refine wpAny_ite ?_
  refine ite_pos (by decide +kernel) ?_
  refine wpAny_bind (wpAny_rule ?_)
  refine wpAny_bind (touch_at (s := { s with heap := h₂, drawn := dr }) (hE₂ _ _ hS₁) (Nat.zero_le _) fun h₃ n₃ hs₃ hD₃ => ?_)
  refine wpAny_pure ⟨plainId_quiet PySem.F.plain_extend_loop _, set_extend W (by omega) s.heap.objs.size hSf hIf _ ys.length 0 _ #[] _ rfl (Nat.zero_le _) (W.frame _ _ _ hst fun b hb o e => (hs₃.2 b fun q => hSf (q ▸ hb)).trans e) hD₃ rfl fun h₄ c' hk₄ hD₄ => ?_⟩
  show wpAny _ A (load s.heap.objs.size >>= _) _ _ _
  refine wpAny_bind (wpAny_load hD₄ ?_)
  refine wpAny_pure ?_
  have hel' := hel.perm hperm
  have hkp : (ys.map keyOf).Perm (es.toList.map keyOf) := hperm.map keyOf
  refine h _ _ _ _ (strs_of_elems hel') (hkp.nodup_iff.mpr hnd) (fun k => (hmem k).trans hkp.mem_iff.symm) (by rw [List.length_map, hyl]; exact hsz) fun b o e => ?_
  have hb := Heap.lt_size e
  have hbD : b ≠ s.heap.objs.size := Nat.ne_of_lt hb
  refine hk₄ b o ?_ ((hs₃.2 b hbD).trans (hE₂ b o (hE₁ b o e)))
  intro q
  rcases List.mem_cons.mp q with q | q
  · exact hbD q
  · have q := List.mem_singleton.mp q
    rw [q] at hb
    exact absurd hb (Nat.not_lt_of_le (Nat.le_of_succ_le hIge))
theorem sorted_set {s : Shared} {S : Addr} {seen : Str → Prop} {n : Nat} {Q : Value → Shared → Prop} (hh : A.handled = none) (hT : SetT prog w S seen n s.heap) (hn : n < 64)
    (h : ∀ L vs ks h' dr, StrsAre vs ks → ks.Nodup → (∀ k, seen k ↔ k ∈ ks) → ks.length ≤ n → sortedS ks = true → Ext s.heap h' → s.heap.get? L = none → ∀ e, h'.get? L = some (seqObj "list" vs.toArray e) → Q (.ref L) { s with heap := h', drawn := dr }) :
    wpAny (model prog w) A (call (.builtin "sorted") [.ref S]) Q E s := by
  refine call_function_entry kind_sorted plain_sorted entry_sorted (args_sorted1 _) ?_
  unfold Builtin.«sorted»
  refine wpAny_bind (m := checkCount "sorted" 1 1 _) (wpAny_pure ?_)
  refine wpAny_bind (collect_set (A := A.in1) hh hT (by omega) fun vs ks h₁ dr hS hnd hmem hlen hE₁ => ?_)
  have hvl : vs.length = ks.length := strs_len hS
  refine wpAny_bind (wpAny_newList ?_ (by rw [sizeLine_eq]; omega))
  have hoL : (h₁.push (seqObj "list" vs.toArray 0)).get? h₁.objs.size = some (seqObj "list" vs.toArray 0) := Heap.get?_push_size _ rfl
  refine wpAny_bind (wpAny_holding (wpAny_call_entry slot_list_sort ⟨_, hoL, rfl⟩ entry_list_sort (list_sort_treeK strKind_oneLt hoL hS.keysOf (fun v₁ v₂ rest e => keyKind_strs (by rw [← e]; exact hS)) (by omega) fun st' a1 a2 => ⟨_, rfl, ?_⟩) (args_list_sort _)))
  obtain ⟨ks', k1, k2, k3⟩ := sorted_out_str hS a1 a2
  have hnone : s.heap.get? h₁.objs.size = none := by
    cases e : s.heap.get? h₁.objs.size with
    | none => rfl
    | some o => exact absurd (Heap.lt_size (hE₁ _ _ e)) (Nat.lt_irrefl _)
  obtain ⟨e, he⟩ := sortedHeap_at (out := (arrOf st').map (·.2)) hoL
  refine wpAny_pure ⟨_, rfl, h _ _ ks' _ dr k1 (k2.nodup_iff.mpr hnd) (fun k => (hmem k).trans k2.mem_iff.symm) (by rw [k2.length_eq]; exact hlen) k3 (fun b o eb => ?_) hnone e (by rw [Array.toArray_toList]; exact he)⟩
  have hb := Heap.lt_size (hE₁ b o eb)
  exact (sortedHeap_old (Nat.ne_of_lt hb) (by rw [size_push']; exact Nat.lt_succ_of_lt hb)).trans (Heap.get?_push_of_some _ (hE₁ b o eb))
end
end
section
open PySem PySem.W PyProof.Rows PySem.Calls PySem.Spec
set_option maxRecDepth 100000
theorem codeLC {prog : Program} {w : World} {A A₀ : Around} {s : Shared} {K : Frag} {L : Addr} {h₀ base : Heap} {m mg mb : Str → Option Value} {p : Program} {loose : List Str} {mean : ExcName → Option Value} {env : Env} {outer : List Env} {R : Result → Shared → Prop} {name qual : Str} {params : Arguments} {body : List Stmt} {scope : Scope} {dV kV doc pm cdv ct oc : Value} {an od : Option Addr} {osl : Array (Option Value)} {f : Addr} {args : Args} {binds : List (Str × Value)}
    (B : Below A₀ base outer h₀) (F : Fr h₀ L s.heap m) (X₀ : K.In h₀) (T : Top p loose mean mg mb h₀) (hA : A.frames = some (env :: outer)) (hf : env.frame = some L) (hke : env.scope.kind = .function)
    (ho : K.lookup f = some ⟨oc, od, .func (fnOf name qual params body scope dV kV doc pm an cdv ct), osl⟩) (hcd : codeIn K cdv qual = true) (hroom : A.depth < recursionLimit)
    (hbind : BindsTo s (fnOf name qual params body scope dV kV doc pm an cdv ct) args binds) (hkind : (binds.all fun y => scope.names.lookup y.1 == some .local || scope.names.lookup y.1 == some .cell) = true)
    (hnd : ((cellsFrom 0 scope.names []).map (·.1)).Nodup)
    (h : ∀ g L' h₁ tk cells, Fr h₀ L g m → Fr g L' h₁ (bindL (envOfC qual scope L' f cdv).kindOf binds fun _ => none) → News g L' h₁ cells →
      CellsAre (bindC (envOfC qual scope L' f cdv).kindOf binds fun _ => none) (cellsFrom (L' + 1) scope.names []) cells → Below A base (env :: outer) g → K.In g → Top p loose mean mg mb g → Ext s.heap g →
      wpAny (model prog w) (A.deeper (envOfC qual scope L' f cdv)) (execs body (envOfC qual scope L' f cdv))
        (fun fl s' => LeaveK h₀ L m g (fun r s' => Ext g s'.heap → R r s') (match fl with | .ret v => v | _ => .none) s')
        (fun e s' => wpAny (model prog w) (A.deeper (envOfC qual scope L' f cdv)) (leaving (envOfC qual scope L' f cdv) e) (fun _ s'' => R (.error e) s'') (fun e' s'' => R (.error e') s'') s')
        { s with heap := h₁, toks := tk })
    (hco : scope.isCoroutine = false) (hgen : scope.isGenerator = false) (hk : scope.kind = .function) : codeAny (model prog w) A (.call (.ref f) args) R s := by
  obtain ⟨FG, BG, st, lv⟩ := groundX (R := fun r s' => Ext s.heap s'.heap → R r s') B F (News.nil (h₀ := h₀) (L := L) (h := s.heap)) hA hf hke
  refine codeAny_call_function (fd := fnOf name qual params body scope dV kV doc pm an cdv ct) (body := body) hroom ((X₀.keeps F.keep) _ _ ho) rfl hco hgen rfl (codeRec_of (X₀.keeps F.keep) hcd) (hbind _ _ _ _ ?_)
  refine wpAny_newFunctionEnv_cells hk (kindsX hkind _) fun env' he s' x => ?_
  subst he
  refine ⟨(T.nolimit.keeps F.keep).keeps x.toInCall.keep, codeAny_func ?_⟩
  obtain ⟨h₁, tk, rfl, _⟩ := x.done
  have hk₁ := x.toInCall.keep
  obtain ⟨cells, NC, Y⟩ := Cl.news (h₀ := s.heap) (Nat.le_refl _) fun n c hm => ⟨x.cell n c (lookup_of_mem_nodup (cellsFrom_names scope.names 0 (s.heap.objs.size + 1) [] [] rfl ▸ hnd) hm), x.above n c hm⟩
  refine wpAny_mono (h s.heap s.heap.objs.size h₁ tk cells FG ⟨x.toInCall.ns, fun b o e => hk₁ b o e, Nat.le_refl _⟩ NC Y BG (X₀.keeps st) (T.keeps st) fun _ _ e => e) (fun fl s' hl => ?_) fun _ _ y => y
  obtain ⟨L', m', news', F', N', k⟩ := id hl
  exact lv _ _ ⟨L', m', news', F', N', fun f n e => k f n e⟩ fun b o e => F'.keep b o e
structure ForEndT (h₀ : Heap) (L I : Addr) (io : Obj) (J : (Str → Option Value) → List (Addr × Obj) → Prop) (s s₂ : Shared) : Prop where
  out : ∃ h' tk m' nx, s₂ = { s with heap := h', toks := tk } ∧ Fr h₀ L h' m' ∧ News h₀ L h' ((I, io) :: nx) ∧ (∀ q ∈ nx, q.1 ≠ I) ∧ J m' nx
def ForPostT (h₀ : Heap) (L I : Addr) (io : Obj) (J : (Str → Option Value) → List (Addr × Obj) → Prop) (s : Shared) (Q : Flow → Shared → Prop) (f : Flow) (s₂ : Shared) : Prop :=
  match f with
  | .ret v => Q (.ret v) s₂
  | .brk => Q .next s₂
  | .next => ForEndT h₀ L I io J s s₂
  | .cont => ForEndT h₀ L I io J s s₂
section
variable {prog : Program} {w : World} {A : Around} {E : Value → Shared → Prop} {s : Shared} {env : Env} {h₀ : Heap} {x : Str} {body : List Stmt} {Q : Flow → Shared → Prop}
theorem for_listT {l : Addr} {vs : List Value} {nn : Nat} {px : Pos} {m₀ : Str → Option Value} {news : List (Addr × Obj)} (J : Nat → (Str → Option Value) → List (Addr × Obj) → Prop)
    (hh : A.handled = none) (F : Fr h₀ env.locals s.heap m₀) (N : News h₀ env.locals s.heap news) (hm : (l, listOf vs.toArray nn) ∈ news) (hj : J 0 m₀ news)
    (hJl : ∀ i m nx, J i m nx → (l, listOf vs.toArray nn) ∈ nx)
    (turn : ∀ (Q : Flow → Shared → Prop) I io i v m₁ nx h tk, vs[i]? = some v → J i m₁ nx → (∀ q ∈ news, q.1 < I) → (∀ q ∈ nx, q.1 ≠ I) → Fr h₀ env.locals h m₁ → News h₀ env.locals h ((I, io) :: nx) →
      wpAny (model prog w) A (assign (.Name x px) env v) (fun _ s₃ => wpAny (model prog w) A (execs body env) (ForPostT h₀ env.locals I io (J (i + 1)) s Q) E s₃) E { s with heap := h, toks := tk })
    (done : ∀ m₁ nx h tk, J vs.length m₁ nx → Fr h₀ env.locals h m₁ → News h₀ env.locals h nx → Q .next { s with heap := h, toks := tk }) :
    wpAny (model prog w) A (pyIter (.ref l)) (fun it s₂ => TurnsAt prog w A h₀ env (.Name x px) body Q E it s₂) E s := by
  have hls : s.heap.IsList l vs.toArray := ⟨_, (N _ hm).1, rfl, _, rfl⟩
  have hlt : l < s.heap.objs.size := Heap.lt_size (N _ hm).1
  have hne : l ≠ s.heap.objs.size := Nat.ne_of_lt hlt
  have hLl : env.locals < s.heap.objs.size := F.ns.lt
  refine wpAny_pyIter_list hls ?_
  have W := Walks.list (prog := prog) (w := w) hh s.heap.objs.size l hne vs.toArray
  have hlen : vs.toArray.size = vs.length := by simp
  rw [hlen] at W
  have hlow : ∀ q ∈ news, q.1 < s.heap.objs.size := fun q hq => Heap.lt_size (N q hq).1
  have hIn : h₀.get? s.heap.objs.size = none := next_is_new F
  have hln : h₀.get? l = none := (N _ hm).2.2
  refine ⟨_, _, _, vs.length, _, _, _, m₀, news, J, rfl, KTurns.ofWalks W (fun i v s Q E _ hQ => wpAny_pure hQ), ?_, ?_, ?_, ⟨⟨_, Heap.get?_push_size _ rfl, rfl, rfl⟩, hls.at fun o e => Heap.get?_push_of_some _ e⟩, F.push _, (fun p hp => ⟨Heap.get?_push_of_some _ (N p hp).1, (N p hp).2⟩), hj, ?_, ?_⟩
  · intro hm'
    rcases List.mem_cons.mp hm' with e | hm'
    · exact absurd hLl (e ▸ Nat.lt_irrefl _)
    · exact (N _ hm).2.1 (List.mem_singleton.mp hm').symm
  · intro b hb
    rw [List.mem_singleton.mp hb]
    exact hIn
  · intro p hp hI
    exact absurd (hlow p hp) ((List.mem_singleton.mp hI) ▸ Nat.lt_irrefl _)
  · intro i v m₁ nx hh' tk' own hin hP hJ hoff hown hownV hall hst F₁ N₁
    have hIo : ∃ io, hh'.get? s.heap.objs.size = some io := by
      obtain ⟨⟨o, ho, _⟩, _⟩ := hst
      exact ⟨o, ho⟩
    obtain ⟨io, hio⟩ := hIo
    have hmem : (s.heap.objs.size, io) ∈ own := hall _ (.head _) hIn io hio
    have hlm : (l, listOf vs.toArray nn) ∈ nx := hJl i m₁ nx hJ
    have hnI : ∀ q ∈ nx, q.1 ≠ s.heap.objs.size := fun q hq e => hoff q hq (List.mem_singleton.mpr e)
    have hownIs : ∀ q ∈ own, q ∈ ((s.heap.objs.size, io) :: nx) := fun q hq => by
      have hv := hownV q hq
      rcases List.mem_cons.mp (hown q hq) with e | e
      · have : q = (s.heap.objs.size, io) := by
          obtain ⟨a, b⟩ := q
          dsimp only at e hv
          subst e
          rw [hio] at hv
          cases hv; rfl
        rw [this]; exact .head _
      · have e := List.mem_singleton.mp e
        have hlv := (N₁ _ (List.mem_append_right _ hlm)).1
        have : q = (l, listOf vs.toArray nn) := by
          obtain ⟨a, b⟩ := q
          dsimp only at e hv
          subst e
          rw [hv] at hlv
          cases hlv; rfl
        rw [this]; exact .tail _ hlm
    have N₂ : News h₀ env.locals hh' ((s.heap.objs.size, io) :: nx) := fun q hq => by
      rcases List.mem_cons.mp hq with rfl | hq
      · exact N₁ _ (List.mem_append_left _ hmem)
      · exact N₁ _ (List.mem_append_right _ hq)
    have hP' : vs[i]? = some v := by simpa using hP
    refine wpAny_mono (turn Q _ io i v m₁ nx hh' tk' hP' hJ hlow hnI F₁ N₂) (fun _ s₃ p3 => wpAny_mono p3 (fun f s₂ p => ?_) fun _ _ e => e) fun _ _ e => e
    have fin : ForEndT h₀ env.locals s.heap.objs.size io (J (i + 1)) s s₂ → LoopStepU h₀ env.locals [s.heap.objs.size] own (J (i + 1)) { s with heap := hh', toks := tk' } .next s₂ := by
      rintro ⟨h', tk, m', nx', e, F', N', hn', hJ'⟩
      refine ⟨rfl, h', tk, m', nx', e, F', fun q hq => ?_, fun q hq hI => hn' q hq (List.mem_singleton.mp hI), hJ'⟩
      rcases List.mem_append.mp hq with hq | hq
      · rcases List.mem_cons.mp (hownIs q hq) with rfl | h1
        · exact N' _ (.head _)
        · rcases List.mem_cons.mp (hown q hq) with e | e
          · exact absurd e (hnI q h1)
          · have e := List.mem_singleton.mp e
            have h2 := (N₂ q (.tail _ h1)).1
            have h3 := (N₂ _ (.tail _ hlm)).1
            have : q = (l, listOf vs.toArray nn) := by
              obtain ⟨a, b⟩ := q
              dsimp only at e h2
              subst e
              rw [h3] at h2
              cases h2; rfl
            rw [this]
            exact N' _ (.tail _ (hJl _ _ _ hJ'))
      · exact N' q (.tail _ hq)
    cases f with
    | ret v => exact .ret p
    | brk => exact .brk p
    | next => exact .next (fin p)
    | cont => exact .cont (fin p)
  · rintro h' tk m' nx F' N' _ hJ
    exact done m' nx h' tk hJ F' N'
end
end
section
open PySem PySem.W PyProof.Rows PySem.Calls
set_option maxRecDepth 100000
abbrev intOf (v : Value) : Nat := match v with
  | .int k _ => k.toNat
  | _ => 0
def sel (xs ys : List Str) (m : Str) : List Str := ((List.range xs.length).filter fun k => ys.getD k (Str.ofString "") == m).map fun k => xs.getD k (Str.ofString "")
abbrev laidP (ys : List Str) (m : Str) (v : Value) : Bool := ys.getD (intOf v) (Str.ofString "") == m
abbrev laidF (xs : List Str) (v y : Value) : Prop := ∃ u, y = Value.str (xs.getD (intOf v) (Str.ofString "")) u
theorem paired_strs {F : Value → Value → Prop} {g : Value → Str} (hF : ∀ v y, F v y → ∃ u, y = .str (g v) u) : ∀ {vs ws : List Value}, Paired F vs ws → StrsAre ws (vs.map g)
  | _, _, .nil => .nil
  | _, _, .cons h r => by
    obtain ⟨u, e⟩ := hF _ _ h
    rw [e]
    exact .cons _ u (paired_strs hF r)
theorem sel_strs {xs ys : List Str} {m : Str} {ts : Nat → Tok} {ws : List Value} (h : Paired (laidF xs) (((List.range xs.length).map fun i => Value.int (i : Nat) (ts i)).filter (laidP ys m)) ws) : StrsAre ws (sel xs ys m) := by
  have h1 := paired_strs (g := fun v => xs.getD (intOf v) (Str.ofString "")) (fun _ _ h => h) h
  rw [List.filter_map, List.map_map] at h1
  exact h1
theorem sel_len (xs ys : List Str) (m : Str) : (sel xs ys m).length ≤ xs.length := by
  unfold sel
  rw [List.length_map]
  exact Nat.le_trans (List.length_filter_le ..) (by rw [List.length_range]; exact Nat.le_refl _)
theorem flat_len (xs ys : List Str) : ∀ ks : List Str, (ks.flatMap (sel xs ys)).length ≤ ks.length * xs.length
  | [] => by simp
  | k :: r => by
    rw [List.flatMap_cons, List.length_append, List.length_cons, Nat.succ_mul]
    have := sel_len xs ys k
    have := flat_len xs ys r
    omega
theorem flat_take (xs ys ks : List Str) (i : Nat) (h : i < ks.length) : (ks.take (i + 1)).flatMap (sel xs ys) = (ks.take i).flatMap (sel xs ys) ++ sel xs ys (ks.getD i (Str.ofString "")) := by
  rw [List.take_succ_eq_append_getElem h, List.flatMap_append, List.getD_eq_getElem?_getD, List.getElem?_eq_getElem h]
  simp
local macro_rules | `(tactic| walk_at "LeaveK") => `(tactic| (refine Stop.out ?_))
local macro_rules | `(tactic| walk_at "call type:set cons nil nil") => `(tactic| (k_here; refine Stop.out ?_))
local macro_rules | `(tactic| walk_at "exec For Name Call cons nil") => `(tactic| (k_here; refine Stop.out ?_))
local macro_rules | `(tactic| walk_at "call builtin:sorted") => `(tactic| (k_here; refine Stop.out ?_))
local macro_rules | `(tactic| walk_at "ForPostT") => `(tactic| (dsimp only [ForPostT]))
local macro_rules | `(tactic| walk_at "call builtin:len") => `(tactic| (k_here; (with_reducible show wpAny _ _ (PySem.call (Value.builtin "len") [Value.ref _]) _ _ _); k_dflt (refine' len_ground ?k1 ?k2 ?k3 ?_; (case k1 => k_asm); (case k2 => assumption); (case k3 => omega)); intro tl' tk'; (try dsimp only)))
local macro_rules | `(tactic| walk_at "subscriptTail Name Name ref int") => `(tactic| (k_here; k_dflt (refine' item_ground ?k1 ?k2 ?k3 ?k4 ?k5 ?k6 ?_; (case k1 => k_asm); (case k2 => assumption); (case k3 => assumption); (case k4 => omega); (case k5 => omega); (case k6 => omega))))
set_option maxHeartbeats 4000000 in
theorem con_laid (prog : Program) (w : World) (a b : Addr) (fs ms : List Value) (xs ys : List Str) (hx : StrsAre fs xs) (hy : StrsAre ms ys) (hlen : ms.length = fs.length) (hz : fs.length ≤ 30) :
    ∀ (p : Program) (loose : List Str) (mean : ExcName → Option Value) (mg mb : Str → Option Value) (dp un : Nat) (gd : Option (List Code)) (cn : Str) (sn : List (Str × NameKind)) (sg si : Bool) (so : List (Str × Const)) (ca : Addr) (ccd : Value) (cl : List (Str × Addr)) (outer : List Env) (A₀ : Around) (base h₀ : Heap) (L : Addr) (m : Str → Option Value) (s : Shared) (Q E : Value → Shared → Prop),
    Below A₀ base outer h₀ → Fr h₀ L s.heap m → Frag.In (Mine.K2 w.params) h₀ → Top p loose mean mg mb h₀ → dp + 24 < recursionLimit → un + 192 < cLine → s.heap.IsList a fs.toArray → s.heap.IsList b ms.toArray →
    (∀ D vs' ks e h' tk' dr, ks.Nodup → (∀ k, k ∈ ys ↔ k ∈ ks) → sortedS ks = true → StrsAre vs' (ks.flatMap (sel xs ys)) → s.heap.get? D = none → h'.get? D = some (listOf vs'.toArray e) → Ext s.heap h' → Fr h₀ L h' m → Q (.ref D) { s with heap := h', toks := tk', drawn := dr }) →
    wpAny (model prog w) (ktrTop dp un gd cn { kind := .function, names := sn, isGenerator := sg, isCoroutine := si, more := so } L ca ccd cl outer) (call (.ref 208) [.ref a, .ref b] []) Q E s := by
  intro p loose mean mg mb dp un gd cn sn sg si so ca ccd cl outer A₀ base h₀ L m s Q E B F X T hd hu ha hb hret
  refine wpAny_call ?_
  k_dflt (refine' codeLC ?k1 ?k2 ?k3 ?k5 ?kA ?kF ?kK ?k6 ?k7 ?k8 ?k9 ?kB ?kD ?_ ?c2 ?c3 ?c4; (case kA => exact rfl); (case kF => exact rfl); (case kK => exact rfl); (case k1 => k_asm); (case k2 => k_asm); (case k3 => k_asm); (case k5 => k_asm); (case k6 => k_is); (case k7 => k_is); (case k8 => k_room); (case k9 => exact BindsTo.of_eq rfl); (case kB => exact rfl); (case kD => decide +kernel); (case c2 => exact rfl); (case c3 => exact rfl); (case c4 => exact rfl); k_whole; intro g' L' h' tk' cells' FG' F' N' Y' B' X' T' kG'; k_cells Y'; (try simp only [List.cons_append, List.nil_append] at N'); (try dsimp only); (try k_fold))
  k_steps
  rename_i oM oK oF dM dK dF l0 hh0 l1 hh1 F1 N1
  replace dM : oM.data = .cell none := dM
  replace dK : oK.data = .cell (some (.ref b)) := dK
  replace dF : oF.data = .cell (some (.ref a)) := dF
  refine ⟨?_⟩
  with_unfolding_all refine' For_turns F1 ?_
  k_steps
  have hb1 : hh1.IsList b ms.toArray := hb.at fun o e => F1.keep b o (kG' b o e)
  have ga : g'.IsList a fs.toArray := ha.at fun o e => kG' a o e
  have gb : g'.IsList b ms.toArray := hb.at fun o e => kG' b o e
  have ha1 : hh1.IsList a fs.toArray := ha.at fun o e => F1.keep a o (kG' a o e)
  refine set_of_list rfl hb1 hy (by omega) fun h2 tk2 hT2 hE2 => ?_
  have F2 := F1.kept hE2
  have N2 : News g' L' h2 _ := fun q hq => ⟨hE2 _ _ (N1 q hq).1, (N1 q hq).2⟩
  clear F1 N1
  k_steps
  refine ⟨?_⟩
  refine sorted_set rfl hT2 (by omega) fun Ls ws ks h3 dr hS hnd hmem hkl hsort hE3 hnone eS hLs => ?_
  have hne3 : g'.get? Ls = none := by
    cases e : g'.get? Ls with
    | none => rfl
    | some o => rw [F2.keep _ _ e] at hnone; cases hnone
  have hnL3 : Ls ≠ L' := fun e => by
    obtain ⟨oL, _, _, hL, _⟩ := F2.ns
    rw [e] at hnone
    exact absurd (hL.symm.trans hnone) (by simp)
  have F3 := F2.kept hE3
  have N3 : News g' L' h3 ((Ls, W.listOf ws.toArray eS) :: _) := fun q hq => (List.mem_cons.mp hq).elim (fun e => e ▸ ⟨hLs, hnL3, hne3⟩) fun hq => ⟨hE3 _ _ (N2 q hq).1, (N2 q hq).2⟩
  have hLn : AllNe Ls [(l0, W.listOf #[] 0), (L' + 1 + 1 + 1, oM), (L' + 1 + 1, oK), (L' + 1, oF)] := allNe_of fun q hq e => by
    rw [← e] at hnone
    exact absurd ((N2 q hq).1.symm.trans hnone) (by simp)
  simp only [AllNe, and_true] at hLn
  clear F2 N2
  replace N3 : News g' L' h3 [(l0, W.listOf #[] 0), (Ls, W.listOf ws.toArray eS), (L' + 1 + 1 + 1, oM), (L' + 1 + 1, oK), (L' + 1, oF)] := fun q hq => N3 q (by
    simp only [List.mem_cons, List.not_mem_nil, or_false] at hq ⊢
    rcases hq with h | h | h | h | h <;> simp [h])
  have hwl := strs_len hS
  k_steps
  refine ⟨?_⟩
  refine for_listT (fun i m nx => ∃ D vs e oM' v0, AllNe D [(Ls, W.listOf ws.toArray eS), (L' + 1 + 1 + 1, oM'), (L' + 1 + 1, oK), (L' + 1, oF)] ∧ oM'.data = .cell v0 ∧ m (Str.ofString "told") = some (.ref D) ∧ StrsAre vs ((ks.take i).flatMap (sel xs ys)) ∧ nx = [(D, W.listOf vs.toArray e), (Ls, W.listOf ws.toArray eS), (L' + 1 + 1 + 1, oM'), (L' + 1 + 1, oK), (L' + 1, oF)])
    rfl F3 N3 (by k_mem) ?j0 ?jl ?turn ?done
  case j0 =>
    refine ⟨l0, [], 0, oM, none, ?_, dM, rfl, .nil, rfl⟩
    simp only [AllNe, and_true]
    exact ⟨fun e => hLn.1 e.symm, Nat.ne_of_lt l1.1, Nat.ne_of_lt l1.2.1, Nat.ne_of_lt l1.2.2⟩
  case jl => rintro i m nx ⟨D, vs, e, oM', v0, _, _, _, _, rfl⟩; k_mem
  case turn =>
    intro Q9 I io i v m₁ nx4 h4 tk4 hv hJ4 hI hnI F4 N4
    refine ex5 hJ4 fun D vs e oM' v0 hP4 => ?_
    have hDn := hP4.1
    have hcM := hP4.2.1
    have hmt := hP4.2.2.1
    have hvs := hP4.2.2.2.1
    have e4 := hP4.2.2.2.2
    subst e4
    clear hJ4 hP4
    clear F3 N3
    have em : m₁ = fun y => if y = Str.ofString "told" then some (.ref D) else m₁ y := funext fun y => by
      by_cases hy : y = Str.ofString "told"
      · rw [hy, if_pos rfl]; exact hmt
      · rw [if_neg hy]
    rw [em] at F4
    clear em
    obtain ⟨tv, hv2⟩ := strs_get hS i (by
      rcases Nat.lt_or_ge i ws.length with q | q
      · exact q
      · rw [List.getElem?_eq_none q] at hv; cases hv)
    rw [hv] at hv2
    cases Option.some.inj hv2
    replace F4 : Fr g' L' h4 _ := F4
    replace N4 : News g' L' h4 _ := N4
    k_lt hI
    clear hv2
    have hnI' := allNe_of hnI
    clear hnI
    simp only [AllNe, and_true] at hnI' hDn
    have ja1 := hnI'.1
    have ja2 := hnI'.2.1
    have ja3 := hnI'.2.2.1
    have ja4 := hnI'.2.2.2.1
    have ja5 := hnI'.2.2.2.2
    clear hnI'
    have jb1 := hDn.1
    have jb2 := hDn.2.1
    have jb3 := hDn.2.2.1
    have jb4 := hDn.2.2.2
    clear hDn
    have jc1 := hLn.1
    have jc2 := hLn.2.1
    have jc3 := hLn.2.2.1
    have jc4 := hLn.2.2.2
    clear hLn
    dsimp only
    k_steps
    rename_i h5 oM2 F5 N5 d5
    have hfl := strs_len hx
    have hml := strs_len hy
    have ha5 : h5.IsList a fs.toArray := ha.at fun o e => F5.keep a o (kG' a o e)
    refine ⟨?_⟩
    refine comp_start (laidP ys (ks.getD i (Str.ofString ""))) (laidF xs) rfl (by decide) rfl (by decide) rfl ?_
    k_steps
    rename IsRange _ _ _ _ _ _ _ _ => hr
    refine comp_range (n := fs.length) rfl (by k_asm) (by k_asm) hr (by omega) ?ht ?he ?h
    case ht =>
      intro C k tk s₃ m₃ E' hk hC hx F3 N3
      have E0 := Ext.refl s₃.heap
      k_steps
      exact ⟨rfl, ⟨_, _, rfl, by assumption⟩⟩
    case he =>
      intro C k tk s₃ m₃ E' hk hp hC hx F3 N3
      have E0 := Ext.refl s₃.heap
      k_steps
      exact ⟨⟨_, rfl⟩, ⟨_, _, rfl, by assumption⟩⟩
    intro D6 h6 tk6 vs6 ts6 k6 F6 N6 ne6 hp6
    have hS6 := sel_strs (by rw [← hfl]; exact hp6)
    clear hp6
    simp only [AllNe, and_true] at ne6
    replace F6 : Fr g' L' h6 _ := F6
    replace N6 : News g' L' h6 _ := N6
    refine add_lists F6 N6 (vs := vs) (ws := vs6) (News.isList N6 (by k_mem)) (News.isList N6 (by k_mem)) (fun h7 F7 N7 => ?_) ?hz7
    case hz7 =>
      have q1 := strs_len hvs
      have q2 := strs_len hS6
      have q3 := sel_len xs ys (ks.getD i (Str.ofString ""))
      have q4 := flat_len xs ys (ks.take i)
      have q5 : (ks.take i).length ≤ 30 := by rw [List.length_take]; omega
      have q6 : (ks.take i).length * xs.length ≤ 30 * 30 := Nat.mul_le_mul q5 (by omega)
      rw [sizeLine_eq]
      omega
    have l6 : ∀ q ∈ _, (Prod.fst (α := Addr) (β := Obj) q) ≠ h6.objs.size := fun q hq => Nat.ne_of_lt (Heap.lt_size (N6 q hq).1)
    replace l6 := allNe_of l6
    simp only [AllNe, and_true] at l6
    dsimp only at F7 N7 ⊢
    k_steps
    rename Fr _ _ _ _ => F9
    rename News _ _ _ _ => N9
    refine ⟨⟨_, _, _, [(h6.objs.size, W.listOf (vs ++ vs6).toArray 0), (Ls, W.listOf ws.toArray eS), (L' + 1 + 1 + 1, oM2), (L' + 1 + 1, oK), (L' + 1, oF)], rfl, F9, ?n9, ?ne9, _, _, _, _, _, ?al9, d5, rfl, ?st9, rfl⟩⟩
    case n9 =>
      intro q hq
      refine N9 q ?_
      simp only [List.mem_cons, List.not_mem_nil, or_false] at hq ⊢
      rcases hq with h | h | h | h | h <;> simp [h]
    case ne9 =>
      intro q hq
      simp only [List.mem_cons, List.not_mem_nil, or_false] at hq
      rcases hq with rfl | rfl | rfl | rfl | rfl
      · exact fun e => l6.2.1 e.symm
      · exact ja2
      · exact ja3
      · exact ja4
      · exact ja5
    case al9 =>
      simp only [AllNe, and_true]
      exact l6.2.2.2
    case st9 =>
      have hik : i < ks.length := by
        rcases Nat.lt_or_ge i ws.length with q | q
        · omega
        · rw [List.getElem?_eq_none q] at hv; cases hv
      rw [flat_take _ _ _ _ hik]
      exact strs_app hvs hS6
  intro m₁ nx8 h8 tk8 hJ8 F8 N8
  refine ex5 hJ8 fun D vs e oM' v0 hP8 => ?_
  have hDn := hP8.1
  have hcM := hP8.2.1
  have hmt := hP8.2.2.1
  have hvs := hP8.2.2.2.1
  have e8 := hP8.2.2.2.2
  subst e8
  clear hJ8 hP8
  rw [hwl, List.take_length] at hvs
  have em : m₁ = fun y => if y = Str.ofString "told" then some (.ref D) else m₁ y := funext fun y => by
    by_cases hy : y = Str.ofString "told"
    · rw [hy, if_pos rfl]; exact hmt
    · rw [if_neg hy]
  rw [em] at F8
  clear em F3 N3
  replace F8 : Fr g' L' h8 _ := F8
  replace N8 : News g' L' h8 _ := N8
  dsimp only
  k_steps
  refine ⟨⟨_, _, _, F8, N8, fun kF kN kE => ?_⟩⟩
  refine hret D vs ks e h8 _ dr hnd hmem hsort hvs ?_ (N8 _ (.head _)).1 (fun b o q => kE b o (kG' b o q)) kF
  cases q : s.heap.get? D with
  | none => rfl
  | some o => exact absurd ((N8 _ (.head _)).2.2.symm.trans (kG' _ _ q)) (by simp)
end
section
open PySem PySem.W PyProof.Rows PySem.Calls PySem.Spec
set_option maxRecDepth 100000
theorem sel_map (f g : Int → Str) (ns : List Int) (m : Str) : sel (ns.map f) (ns.map g) m = (ns.filter fun n => g n == m).map f := by
  have e0 : ns = (List.range ns.length).map fun k => ns.getD k 0 := by
    refine List.ext_getElem (by simp) fun i h1 h2 => ?_
    simp only [List.getElem_map, List.getElem_range, List.getD_eq_getElem?_getD, List.getElem?_eq_getElem h1, Option.getD_some]
  have e1 : (ns.filter fun n => g n == m) = ((List.range ns.length).filter fun k => g (ns.getD k 0) == m).map fun k => ns.getD k 0 := by
    conv => lhs; rw [e0]
    rw [List.filter_map]
    rfl
  rw [e1, List.map_map]
  unfold sel
  rw [List.length_map]
  have e2 : ((List.range ns.length).filter fun k => (ns.map g).getD k (Str.ofString "") == m) = (List.range ns.length).filter fun k => g (ns.getD k 0) == m := by
    refine List.filter_congr fun k hk => ?_
    have hk := List.mem_range.mp hk
    simp only [List.getD_eq_getElem?_getD, List.getElem?_map, List.getElem?_eq_getElem hk, Option.map_some, Option.getD_some]
  rw [e2]
  refine List.map_congr_left fun k hk => ?_
  have hk := List.mem_range.mp (List.mem_filter.mp hk).1
  simp only [Function.comp, List.getD_eq_getElem?_getD, List.getElem?_map, List.getElem?_eq_getElem hk, Option.map_some, Option.getD_some]
theorem uniq {α : Type} (r : α → Nat) : ∀ l l' : List α, l.Pairwise (fun x y => r x < r y) → l'.Pairwise (fun x y => r x < r y) → (∀ k, k ∈ l ↔ k ∈ l') → l = l'
  | [], [], _, _, _ => rfl
  | [], b :: _, _, _, h => absurd ((h b).2 (.head _)) (by simp)
  | a :: _, [], _, _, h => absurd ((h a).1 (.head _)) (by simp)
  | a :: l, b :: l', h1, h2, h => by
    obtain ⟨a1, a2⟩ := List.pairwise_cons.mp h1
    obtain ⟨b1, b2⟩ := List.pairwise_cons.mp h2
    have e : a = b := by
      rcases List.mem_cons.mp ((h a).1 (.head _)) with e | e
      · exact e
      · rcases List.mem_cons.mp ((h b).2 (.head _)) with e' | e'
        · exact e'.symm
        · have := b1 a e
          have := a1 b e'
          omega
    subst e
    rw [uniq r l l' a2 b2 fun k => ⟨fun hk => ?_, fun hk => ?_⟩]
    · rcases List.mem_cons.mp ((h k).1 (.tail _ hk)) with e | e
      · exact absurd (a1 k hk) (by rw [e]; omega)
      · exact e
    · rcases List.mem_cons.mp ((h k).2 (.tail _ hk)) with e | e
      · exact absurd (b1 k hk) (by rw [e]; omega)
      · exact e
theorem rise {r : Str → Nat} {S : List Str} (hr : ∀ x ∈ S, ∀ y ∈ S, slt y x = false → r x ≤ r y) : ∀ (p : Str) (l : List Str), (∀ k ∈ p :: l, k ∈ S) → risingS p l = true → (p :: l).Pairwise (fun x y => r x ≤ r y)
  | p, [], _, _ => List.pairwise_singleton ..
  | p, x :: l, hS, h => by
    have h' : (!ltCps x.cps.toList p.cps.toList && risingS x l) = true := h
    rw [Bool.and_eq_true] at h'
    have ih := rise hr x l (fun k hk => hS k (.tail _ hk)) h'.2
    have hp : r p ≤ r x := hr p (hS p (.head _)) x (hS x (.tail _ (.head _))) (by
      have := h'.1
      rw [ltCps_eq] at this
      unfold slt
      simpa using this)
    refine List.pairwise_cons.mpr ⟨fun y hy => ?_, ih⟩
    rcases List.mem_cons.mp hy with rfl | hy
    · exact hp
    · exact Nat.le_trans hp ((List.pairwise_cons.mp ih).1 y hy)
theorem flat_filter {α β : Type} (F : α → List β) (p : α → Bool) : ∀ S : List α, (∀ k ∈ S, p k = false → F k = []) → (S.filter p).flatMap F = S.flatMap F
  | [], _ => rfl
  | k :: S, h => by
    have ih := flat_filter F p S fun k' hk => h k' (.tail _ hk)
    cases hp : p k with
    | true => rw [List.filter_cons_of_pos hp, List.flatMap_cons, List.flatMap_cons, ih]
    | false => rw [List.filter_cons_of_neg (by rw [hp]; decide), List.flatMap_cons, ih, h k (.head _) hp, List.nil_append]
section
variable {a b c : Nat} {κ : Nat → Str} (hab : slt (κ a) (κ b) = true) (hbc : slt (κ b) (κ c) = true) (hac : slt (κ a) (κ c) = true)
  (nab : κ a ≠ κ b) (nbc : κ b ≠ κ c) (nac : κ a ≠ κ c) (cov : ∀ j, j < 3 → j = a ∨ j = b ∨ j = c)
include hab hbc hac nab nbc nac cov
theorem laid_eq (f : Int → Str) (ns : List Int) (ks : List Str) (hnd : ks.Nodup) (hmem : ∀ k, k ∈ ns.map (fun n => κ (nj n)) ↔ k ∈ ks) (hs : sortedS ks = true) :
    ks.flatMap (sel (ns.map f) (ns.map fun n => κ (nj n))) = (sortBy [a, b, c] ns).map f := by
  let r : Str → Nat := fun k => if k = κ a then 0 else if k = κ b then 1 else 2
  have ra : r (κ a) = 0 := if_pos rfl
  have rb : r (κ b) = 1 := by show (if κ b = κ a then 0 else if κ b = κ b then 1 else 2) = 1; rw [if_neg nab.symm, if_pos rfl]
  have rc : r (κ c) = 2 := by show (if κ c = κ a then 0 else if κ c = κ b then 1 else 2) = 2; rw [if_neg nac.symm, if_neg nbc.symm]
  have mem3 : ∀ k, k ∈ [κ a, κ b, κ c] ↔ k = κ a ∨ k = κ b ∨ k = κ c := fun k => by simp
  have hS : ∀ k ∈ ks, k ∈ [κ a, κ b, κ c] := fun k hk => by
    obtain ⟨n, _, rfl⟩ := List.mem_map.mp ((hmem k).2 hk)
    rw [mem3]
    rcases cov _ (nj_lt n) with e | e | e <;> simp [e]
  have hr : ∀ x ∈ [κ a, κ b, κ c], ∀ y ∈ [κ a, κ b, κ c], slt y x = false → r x ≤ r y := by
    intro x hx y hy h
    rw [mem3] at hx hy
    rcases hx with rfl | rfl | rfl <;> rcases hy with rfl | rfl | rfl <;> simp [ra, rb, rc] <;> simp_all
  have hri : ∀ x ∈ [κ a, κ b, κ c], ∀ y ∈ [κ a, κ b, κ c], r x = r y → x = y := by
    intro x hx y hy h
    rw [mem3] at hx hy
    rcases hx with rfl | rfl | rfl <;> rcases hy with rfl | rfl | rfl <;> simp_all
  have hp1 : ks.Pairwise fun x y => r x ≤ r y := by
    cases ks with
    | nil => exact .nil
    | cons p l => exact rise hr p l hS hs
  have hp : ks.Pairwise fun x y => r x < r y := by
    refine (hp1.and hnd).imp_of_mem fun {x y} hx hy h => ?_
    rcases Nat.lt_or_ge (r x) (r y) with q | q
    · exact q
    · exact absurd (hri x (hS x hx) y (hS y hy) (Nat.le_antisymm h.1 q)) h.2
  have h3 : [κ a, κ b, κ c].Pairwise fun x y => r x < r y := by
    simp [ra, rb, rc]
  have e : ks = [κ a, κ b, κ c].filter fun k => decide (k ∈ ks) := by
    refine uniq r _ _ hp (h3.filter _) fun k => ?_
    rw [List.mem_filter, decide_eq_true_eq]
    exact ⟨fun h => ⟨hS k h, h⟩, fun h => h.2⟩
  rw [e, flat_filter]
  · have hf : ∀ j, j = a ∨ j = b ∨ j = c → sel (ns.map f) (ns.map fun n => κ (nj n)) (κ j) = (ns.filter fun n => nj n == j).map f := by
      intro j hj
      rw [sel_map]
      congr 1
      refine List.filter_congr fun n _ => ?_
      rw [Bool.eq_iff_iff, beq_iff_eq, beq_iff_eq]
      refine ⟨fun q => ?_, fun q => by rw [q]⟩
      rcases cov _ (nj_lt n) with e | e | e <;> rw [e] at q ⊢ <;> rcases hj with e' | e' | e' <;> rw [e'] at q ⊢
      · exact absurd q nab
      · exact absurd q nac
      · exact absurd q.symm nab
      · exact absurd q nbc
      · exact absurd q.symm nac
      · exact absurd q.symm nbc
    unfold sortBy
    simp only [List.flatMap_cons, List.flatMap_nil, List.map_append, List.map_nil]
    rw [hf a (.inl rfl), hf b (.inr (.inl rfl)), hf c (.inr (.inr rfl))]
  · intro k _ hk
    have hk : k ∉ ks := by simpa using hk
    rw [sel_map]
    have : (ns.filter fun n => κ (nj n) == k) = [] := List.filter_eq_nil_iff.mpr fun n hn h => hk ((hmem k).1 (List.mem_map.mpr ⟨n, hn, beq_iff_eq.mp h⟩))
    rw [this]; rfl
end
theorem laid_names (ns : List Int) (ks : List Str) (hnd : ks.Nodup) (hmem : ∀ k, k ∈ ns.map nameOf ↔ k ∈ ks) (hs : sortedS ks = true) :
    ks.flatMap (sel (ns.map fileOf) (ns.map nameOf)) = (sortBy [2, 1, 0] ns).map fileOf :=
  laid_eq (κ := κn) (by decide +kernel) (by decide +kernel) (by decide +kernel) (by decide +kernel) (by decide +kernel) (by decide +kernel) (by omega) fileOf ns ks hnd hmem hs
theorem laid_ends (ns : List Int) (ks : List Str) (hnd : ks.Nodup) (hmem : ∀ k, k ∈ ns.map extOf ↔ k ∈ ks) (hs : sortedS ks = true) :
    ks.flatMap (sel (ns.map fileOf) (ns.map extOf)) = (sortBy [2, 0, 1] ns).map fileOf :=
  laid_eq (κ := κe) (by decide +kernel) (by decide +kernel) (by decide +kernel) (by decide +kernel) (by decide +kernel) (by decide +kernel) (by omega) fileOf ns ks hnd hmem hs
end
section
open PySem PySem.W PyProof.Rows PySem.Calls PySem.Spec PyProof.V
set_option maxRecDepth 100000
abbrev Oks (xs : List Str) : Prop := ∀ x ∈ xs, PyData.strOk x = true
theorem es_can : ∀ xs : List Str, Oks xs → PyData.canLayAll0 (xs.map PyData.str) = true
  | [], _ => rfl
  | x :: r, h => by simp [PyData.canLayAll0, PyData.canLay0, es_can r fun y hy => h y (.tail _ hy), h x (.head _)]
theorem es_depth : ∀ xs : List Str, PyData.depthAll (xs.map PyData.str) = 0
  | [] => rfl
  | _ :: r => by simp [PyData.depthAll, PyData.depth, es_depth r]
theorem es_shaped (xs : List Str) (h : Oks xs) : SeqAt.shaped (.list (xs.map PyData.str)) = true := by
  simp [SeqAt.shaped, PyData.canLay0, PyData.depth, es_can xs h, es_depth]
theorem es_sameAll : ∀ xs ys : List Str, PySem.Spec.sameAll (xs.map PyData.str) (ys.map PyData.str) = decide (xs = ys)
  | [], [] => by simp [PySem.Spec.sameAll]
  | [], _ :: _ => by simp [PySem.Spec.sameAll]
  | _ :: _, [] => by simp [PySem.Spec.sameAll]
  | a :: r, b :: t => by
    simp only [List.map_cons, PySem.Spec.sameAll, PySem.Spec.same, es_sameAll r t]
    by_cases h : a = b <;> by_cases h' : r = t <;> simp [h, h']
theorem es_same (xs ys : List Str) : PySem.Spec.same (.list (xs.map PyData.str)) (.list (ys.map PyData.str)) = decide (xs = ys) := by
  simp only [PySem.Spec.same]; exact es_sameAll xs ys
theorem es_carried : ∀ {vs : List Value} {xs : List Str}, StrsAre vs xs → CarriedAll vs (xs.map PyData.str)
  | _, _, .nil => .nil
  | _, _, .cons _ t r => .cons (.str _ t) (es_carried r)
theorem oks_files_at : ∀ i, i < 4 → ∀ j, j < 3 → PyData.strOk (fileAt i j) = true := by decide +kernel
theorem oks_map {ns : List Int} : Oks (ns.map fileOf) := fun x hx => by
  obtain ⟨n, _, rfl⟩ := List.mem_map.mp hx
  exact oks_files_at _ (di_lt n) _ (nj_lt n)
section
variable {prog : Program} {w : World} {A : Around} {E : Value → Shared → Prop} {s : Shared} {a b : Addr} {vs us : List Value} {xs ys : List Str} {Q : Value → Shared → Prop}
theorem es_eq (ha : s.heap.IsList a vs.toArray) (hb : s.heap.IsList b us.toArray) (hi : StrsAre vs xs) (hj : StrsAre us ys) (ox : Oks xs) (oy : Oks ys) (hu : A.units + 64 < cLine) (h : Q (.bool (decide (xs = ys))) s) :
    wpAny (model prog w) A (compareOp .Eq (.ref a) (.ref b)) Q E s :=
  eq_dataH_same (reads_newData ha (es_carried hi)) (reads_newData hb (es_carried hj)) (es_shaped _ ox) (es_shaped _ oy) hu (SeqAt.noMix_of_shape (.list .str) rfl _ _ (list_map_has fun _ => rfl) (list_map_has fun _ => rfl)) (by rw [es_same]; exact h)
theorem es_ne (ha : s.heap.IsList a vs.toArray) (hb : s.heap.IsList b us.toArray) (hi : StrsAre vs xs) (hj : StrsAre us ys) (ox : Oks xs) (oy : Oks ys) (hu : A.units + 64 < cLine) (h : Q (.bool (!decide (xs = ys))) s) :
    wpAny (model prog w) A (compareOp .NotEq (.ref a) (.ref b)) Q E s :=
  ne_dataH_same (reads_newData ha (es_carried hi)) (reads_newData hb (es_carried hj)) (es_shaped _ ox) (es_shaped _ oy) hu (SeqAt.noMix_of_shape (.list .str) rfl _ _ (list_map_has fun _ => rfl) (list_map_has fun _ => rfl)) (by rw [es_same]; exact h)
theorem es_ne_same (ha : s.heap.IsList a vs.toArray) (hb : s.heap.IsList b us.toArray) (hi : StrsAre vs xs) (hj : StrsAre us xs) (ox : Oks xs) (hu : A.units + 64 < cLine) (h : Q (.bool false) s) :
    wpAny (model prog w) A (compareOp .NotEq (.ref a) (.ref b)) Q E s := es_ne ha hb hi hj ox ox hu (by rw [decide_eq_true rfl]; exact h)
theorem es_eq_nil (ha : s.heap.IsList a vs.toArray) (hb : s.heap.IsList b us.toArray) (hi : StrsAre vs []) (hj : StrsAre us []) (hu : A.units + 64 < cLine) (h : Q (.bool true) s) :
    wpAny (model prog w) A (compareOp .Eq (.ref a) (.ref b)) Q E s := es_eq ha hb hi hj (fun _ h => nomatch h) (fun _ h => nomatch h) hu (by rw [decide_eq_true rfl]; exact h)
end
end
section
open PySem PySem.W PyProof.Rows PySem.Calls
set_option maxRecDepth 100000
section
variable {prog : Program} {w : World} {a b : Addr} {fs ms : List Value} {xs ys : List Str}
  {p : Program} {loose : List Str} {mean : ExcName → Option Value} {mg mb : Str → Option Value} {dp un : Nat} {gd : Option (List Code)} {cn : Str} {sn : List (Str × NameKind)} {sg si : Bool} {so : List (Str × Const)} {ca : Addr} {ccd : Value} {cl : List (Str × Addr)} {outer : List Env} {A₀ : Around} {base h₀ : Heap} {L : Addr} {m : Str → Option Value} {news : List (Addr × Obj)} {s : Shared} {Q E : Value → Shared → Prop}
theorem laid_use (hx : StrsAre fs xs) (hy : StrsAre ms ys) (hlen : ms.length = fs.length) (hz : fs.length ≤ 30)
    (B : Below A₀ base outer h₀) (F : Fr h₀ L s.heap m) (X : Frag.In (Mine.K2 w.params) h₀) (N : News h₀ L s.heap news) (T : Top p loose mean mg mb h₀) (hd : dp + 24 < recursionLimit) (hu : un + 192 < cLine) (ha : s.heap.IsList a fs.toArray) (hb : s.heap.IsList b ms.toArray)
    {zs : List Str} (hz' : ∀ ks : List Str, ks.Nodup → (∀ k, k ∈ ys ↔ k ∈ ks) → sortedS ks = true → ks.flatMap (sel xs ys) = zs)
    (ret : ∀ D vs' e h' tk' dr, StrsAre vs' zs → Fr h₀ L h' m → News h₀ L h' ((D, listOf vs'.toArray e) :: news) → AllNe D news → Q (.ref D) { s with heap := h', toks := tk', drawn := dr }) :
    wpAny (model prog w) (ktrTop dp un gd cn { kind := .function, names := sn, isGenerator := sg, isCoroutine := si, more := so } L ca ccd cl outer) (call (.ref 208) [.ref a, .ref b] []) Q E s := by
  refine con_laid prog w a b fs ms xs ys hx hy hlen hz _ _ _ _ _ _ _ _ _ _ _ _ _ _ _ _ _ _ _ _ _ _ _ _ _ B F X T hd hu ha hb fun D vs' ks e h' tk' dr hnd hmem hs hv hn hD hE F' => ?_
  refine ret D vs' e h' tk' dr (hz' ks hnd hmem hs ▸ hv) F' ?_ (allNe_of fun q hq e => ?_)
  · intro q hq
    rcases List.mem_cons.mp hq with rfl | hq
    · refine ⟨hD, fun e => ?_, ?_⟩
      · obtain ⟨oL, _, _, hL, _⟩ := F.ns
        have e : D = L := e
        rw [e] at hn
        exact absurd (hL.symm.trans hn) (by simp)
      · cases q : h₀.get? D with
        | none => rfl
        | some o => exact absurd ((F.keep _ _ q).symm.trans hn) (by simp)
    · exact ⟨hE _ _ (N q hq).1, (N q hq).2⟩
  · rw [← e] at hn
    exact absurd ((N q hq).1.symm.trans hn) (by simp)
end
end
section
open PySem PySem.W PyProof.Rows PySem.Calls
set_option maxRecDepth 100000
theorem strs_rev {vs : List Value} {xs : List Str} (h : StrsAre vs xs) : StrsAre vs.reverse xs.reverse := by
  induction h with
  | nil => exact .nil
  | cons y t _ ih => rw [List.reverse_cons, List.reverse_cons]; exact strs_app ih (.cons y t .nil)
abbrev grp (l : List Int) (j : Nat) : List Int := l.filter fun n => nj n == j
structure Grp (nm : Str) (l : List Int) (As Ms Cs : List Int) : Prop where
  eq : sortBy [2, 1, 0] l = As ++ (Ms ++ Cs)
  mid : Ms = l.filter fun n => nameOf n == nm
  lo : ∀ m ∈ As, slt (nameOf m) nm = true ∧ slt nm (nameOf m) = false
  at' : ∀ m ∈ Ms, slt (nameOf m) nm = false ∧ slt nm (nameOf m) = false
  hi : ∀ m ∈ Cs, slt (nameOf m) nm = false ∧ slt nm (nameOf m) = true
theorem nameOf_grp {l : List Int} {j : Nat} {m : Int} (h : m ∈ grp l j) : nameOf m = nms.getD j (Str.ofString "") := by
  unfold nameOf
  rw [mem_group h]
theorem mid_of (nm : Str) (l : List Int) (j : Nat) (h : ∀ i, i < 3 → ((nms.getD i (Str.ofString "") == nm) = (i == j))) : (l.filter fun n => nameOf n == nm) = grp l j :=
  List.filter_congr fun n _ => h _ (nj_lt n)
theorem mid_none (nm : Str) (l : List Int) (h : ∀ i, i < 3 → (nms.getD i (Str.ofString "") == nm) = false) : (l.filter fun n => nameOf n == nm) = [] :=
  List.filter_eq_nil_iff.mpr fun n _ q => by
    have := h _ (nj_lt n)
    unfold nameOf at q
    rw [this] at q
    cases q
theorem grp_x (l : List Int) : Grp (Str.ofString "x") l [] (l.filter fun n => nameOf n == Str.ofString "x") (grp l 1 ++ grp l 0) := by
  rw [mid_of _ l 2 (by decide +kernel)]
  refine ⟨by simp [sortBy, grp], (mid_of _ l 2 (by decide +kernel)).symm, fun m hm => (nomatch hm), fun m hm => ?_, fun m hm => ?_⟩
  · rw [nameOf_grp hm]; decide +kernel
  · rcases List.mem_append.mp hm with hm | hm <;> rw [nameOf_grp hm] <;> decide +kernel
theorem grp_y (l : List Int) : Grp (Str.ofString "y.b") l (grp l 2) (l.filter fun n => nameOf n == Str.ofString "y.b") (grp l 0) := by
  rw [mid_of _ l 1 (by decide +kernel)]
  refine ⟨by simp [sortBy, grp], (mid_of _ l 1 (by decide +kernel)).symm, fun m hm => ?_, fun m hm => ?_, fun m hm => ?_⟩
  · rw [nameOf_grp hm]; decide +kernel
  · rw [nameOf_grp hm]; decide +kernel
  · rw [nameOf_grp hm]; decide +kernel
theorem grp_z (l : List Int) : Grp (Str.ofString "z.a") l (grp l 2 ++ grp l 1) (l.filter fun n => nameOf n == Str.ofString "z.a") [] := by
  rw [mid_of _ l 0 (by decide +kernel)]
  refine ⟨by simp [sortBy, grp], (mid_of _ l 0 (by decide +kernel)).symm, fun m hm => ?_, fun m hm => ?_, fun m hm => (nomatch hm)⟩
  · rcases List.mem_append.mp hm with hm | hm <;> rw [nameOf_grp hm] <;> decide +kernel
  · rw [nameOf_grp hm]; decide +kernel
theorem grp_w (l : List Int) : Grp (Str.ofString "w") l [] (l.filter fun n => nameOf n == Str.ofString "w") (grp l 2 ++ (grp l 1 ++ grp l 0)) := by
  rw [mid_none _ l (by decide +kernel)]
  refine ⟨by simp [sortBy, grp], (mid_none _ l (by decide +kernel)).symm, fun m hm => (nomatch hm), fun m hm => (nomatch hm), fun m hm => ?_⟩
  rcases List.mem_append.mp hm with hm | hm
  · rw [nameOf_grp hm]; decide +kernel
  · rcases List.mem_append.mp hm with hm | hm <;> rw [nameOf_grp hm] <;> decide +kernel
theorem grp_len (l : List Int) (j : Nat) : (grp l.reverse j).length = (grp l j).length := by
  show (l.reverse.filter _).length = _
  rw [List.filter_reverse, List.length_reverse]
abbrev four : List Str := [Str.ofString "x", Str.ofString "y.b", Str.ofString "z.a", Str.ofString "w"]
theorem grp_both {nm : Str} (h : nm ∈ four) (l : List Int) : ∃ As Cs As' Cs', Grp nm l As (l.filter fun n => nameOf n == nm) Cs ∧ Grp nm l.reverse As' (l.reverse.filter fun n => nameOf n == nm) Cs' ∧ As'.length = As.length := by
  simp only [four, List.mem_cons, List.not_mem_nil, or_false] at h
  rcases h with rfl | rfl | rfl | rfl
  · exact ⟨_, _, _, _, grp_x l, grp_x l.reverse, rfl⟩
  · exact ⟨_, _, _, _, grp_y l, grp_y l.reverse, grp_len l 2⟩
  · exact ⟨_, _, _, _, grp_z l, grp_z l.reverse, by rw [List.length_append, List.length_append, grp_len, grp_len]⟩
  · exact ⟨_, _, _, _, grp_w l, grp_w l.reverse, rfl⟩
section
variable {l : Addr} {nm : Str} {t : Tok} {is As Ms Cs : List Int} {vs : List Value}
theorem leftIs (prog : Program) (w : World) (hS : StrsAre vs ((sortBy [2, 1, 0] is).map fileOf)) (g : Grp nm is As Ms Cs) (hlen : is.length ≤ 17) :
    Con prog w 64 [.ref l, .str nm t] [(Str.ofString "key", .ref 182)] (fun h => h.IsList l vs.toArray) 16 (fun r => ∃ u, r = .int (As.length : Nat) u) := by
  have hl := strs_len hS
  have h3 := sortBy_len is 2 1 0
  rw [List.length_map] at hl
  have hk := keyOk_base prog w hS
  rw [g.eq, List.map_append] at hS hk
  have hl' := strs_len hS
  have lo : ∀ y ∈ As.map fileOf, (!slt (bnF y) nm) = false := fun y hy => by
    obtain ⟨m, hm, rfl⟩ := List.mem_map.mp hy
    rw [file_bn, (g.lo m hm).1]; rfl
  have hi : ∀ y ∈ (Ms ++ Cs).map fileOf, (!slt (bnF y) nm) = true := fun y hy => by
    obtain ⟨m, hm, rfl⟩ := List.mem_map.mp hy
    rw [file_bn]
    rcases List.mem_append.mp hm with hm | hm
    · rw [(g.at' m hm).1]; rfl
    · rw [(g.hi m hm).1]; rfl
  refine con_mono (bisL1 prog w l nm t 0 vs _ hS (by omega) bnF (fun i j hij hj h => ?_) hk) ?_
  · rw [hl'] at hj
    cases q : slt (bnF ((As.map fileOf ++ (Ms ++ Cs).map fileOf).getD i (Str.ofString ""))) nm with
    | true => rfl
    | false =>
      have := split_mono (P := fun y => !slt (bnF y) nm) lo hi i j hij hj (by show (!slt _ nm) = true; rw [q]; rfl)
      have this : (!slt (bnF ((As.map fileOf ++ (Ms ++ Cs).map fileOf).getD j (Str.ofString ""))) nm) = true := this
      rw [h] at this
      cases this
  · rintro r ⟨k, u, rfl, h1, h2, h4⟩
    have := split_at (P := fun y => !slt (bnF y) nm) lo hi (k := k) (d := Str.ofString "") (by omega) (fun i hi => by show (!slt _ nm) = false; rw [h2 i hi]; rfl) (fun i hi hj => by show (!slt _ nm) = true; rw [h4 i hi (by omega)]; rfl)
    rw [List.length_map] at this
    exact ⟨u, by rw [this]⟩
theorem rightIs (prog : Program) (w : World) (hS : StrsAre vs ((sortBy [2, 1, 0] is).map fileOf)) (g : Grp nm is As Ms Cs) (hlen : is.length ≤ 17) :
    Con prog w 46 [.ref l, .str nm t] [(Str.ofString "key", .ref 182)] (fun h => h.IsList l vs.toArray) 16 (fun r => ∃ u, r = .int (As.length + Ms.length : Nat) u) := by
  have hl := strs_len hS
  have h3 := sortBy_len is 2 1 0
  rw [List.length_map] at hl
  have hk := keyOk_base prog w hS
  rw [g.eq, ← List.append_assoc, List.map_append] at hS hk
  have hl' := strs_len hS
  have lo : ∀ y ∈ (As ++ Ms).map fileOf, slt nm (bnF y) = false := fun y hy => by
    obtain ⟨m, hm, rfl⟩ := List.mem_map.mp hy
    rw [file_bn]
    rcases List.mem_append.mp hm with hm | hm
    · exact (g.lo m hm).2
    · exact (g.at' m hm).2
  have hi : ∀ y ∈ Cs.map fileOf, slt nm (bnF y) = true := fun y hy => by
    obtain ⟨m, hm, rfl⟩ := List.mem_map.mp hy
    rw [file_bn]; exact (g.hi m hm).2
  refine con_mono (bisR1 prog w l nm t 0 vs _ hS (by omega) bnF (fun i j hij hj h => ?_) hk) ?_
  · rw [hl'] at hj
    exact split_mono (P := fun y => slt nm (bnF y)) lo hi i j hij hj h
  · rintro r ⟨k, u, rfl, h1, h2, h4⟩
    have := split_at (P := fun y => slt nm (bnF y)) lo hi (k := k) (d := Str.ofString "") (by omega) h2 (fun i hi hj => h4 i hi (by omega))
    rw [List.length_map, List.length_append] at this
    exact ⟨u, by rw [this]⟩
theorem run_mid (hS : StrsAre vs ((sortBy [2, 1, 0] is).map fileOf)) (g : Grp nm is As Ms Cs) : StrsAre ((vs.drop As.length).take Ms.length) (Ms.map fileOf) := by
  have e : (((sortBy [2, 1, 0] is).map fileOf).drop As.length).take Ms.length = Ms.map fileOf := by
    rw [g.eq, List.map_append, List.map_append]
    rw [List.drop_left' (by rw [List.length_map]), List.take_left' (by rw [List.length_map])]
  rw [← e]
  exact strs_take (strs_drop hS _) _
end
end
section
open PySem PySem.W PyProof.Rows PySem.Calls PySem.Spec
set_option maxRecDepth 100000
section
variable {prog : Program} {w : World} {A : Around} {E : Value → Shared → Prop} {s : Shared} {g : Heap} {L : Addr} {l : Addr} {vs : List Value} {xs : List Str} {Q : Value → Shared → Prop} {news : List (Addr × Obj)} {nn : Nat}
theorem len_made (N : News g L s.heap news) (hm : (l, listOf vs.toArray nn) ∈ news) (hfit : vs.length ≤ 1000) (h : ∀ t tk, Q (.int vs.length t) { s with toks := tk }) : wpAny (model prog w) A (PySem.call (.builtin "len") [.ref l]) Q E s := by
  refine len_list (News.isList N hm) ?_ ?_
  · simp only [List.size_toArray]; omega
  · simpa only [List.size_toArray] using h _ _
theorem item_made {value slice : PySem.Expr} {k : Int} {u : Tok} (N : News g L s.heap news) (hm : (l, listOf vs.toArray nn) ∈ news) (hx : StrsAre vs xs) (hfit : vs.length ≤ 1000) (h0 : 0 ≤ k) (h1 : k < vs.length)
    (h : ∀ t, Q (.str (xs.getD k.toNat (Str.ofString "")) t) s)
    (hs : subscripted slice false (.ref l) (.int k u) = operate [.ref l, .int k u] (getItem (.ref l) (.int k u)) := by with_unfolding_all rfl) (hg : ∀ r, letTemporaryGo value (.ref l) r = pure () := by intro _; with_unfolding_all rfl) :
    wpAny (model prog w) A (subscriptTail value slice (.ref l) (.int k u)) Q E s := by
  obtain ⟨t, ht⟩ := strs_get hx k.toNat (by omega)
  exact item_list (News.isList N hm) h0 (by omega) (by simpa using ht) (h t) hs hg
end
end
section
open PySem PySem.W PyProof.Rows PySem.Calls PySem.Spec
set_option maxRecDepth 100000
section
variable {prog : Program} {w : World} {A : Around} {E : Value → Shared → Prop} {s : Shared} {h₀ : Heap} {L l : Addr} {m : Str → Option Value} {news : List (Addr × Obj)} {value slice : PySem.Expr} {vs : List Value} {nn : Nat} {Q : Value → Shared → Prop}
theorem run_made {a k : Nat} {ta tb : Tok} (F : Fr h₀ L s.heap m) (N : News h₀ L s.heap news) (hm : (l, listOf vs.toArray nn) ∈ news) (hb : a + k ≤ vs.length) (hfit : vs.length ≤ 1000)
    (h : ∀ D h', Fr h₀ L h' m → News h₀ L h' ((D, listOf ((vs.drop a).take k).toArray 0) :: news) → (∀ p ∈ news, p.1 < D) → Q (.ref D) { s with heap := h' })
    (hs : subscripted slice false (.ref l) (.ref s.heap.objs.size) = operate [.ref s.heap.objs.size, .ref l] (getItem (.ref l) (.ref s.heap.objs.size)) := by with_unfolding_all rfl) (ht : ∀ r, letTemporaryGo value (.ref l) r = pure () := by intro _; with_unfolding_all rfl) :
    wpAny (model prog w) A (subscriptTail value slice (.ref l) (.ref s.heap.objs.size)) Q E { s with heap := s.heap.push { cls := .type "slice", data := .fields #[.int (a : Nat) ta, .int (a + k : Nat) tb, .none] } } := by
  refine kmk_slice F N (News.isList N hm) (.int _ _) (.int _ _) (fun D h' F' N' l1 => h D h' F' ?_ l1) hs ht ?_
  · rw [slicePick_run vs.toArray a (a + k) (by rw [List.size_toArray]; exact hb) (by omega), Nat.add_sub_cancel_left] at N'
    exact N'
  · rw [List.size_toArray, sizeLine_eq]; omega
theorem rev_made {ops : List Value} {tk : Tok} (F : Fr h₀ L s.heap m) (N : News h₀ L s.heap news) (hm : (l, listOf vs.toArray nn) ∈ news) (hfit : vs.length ≤ 1000)
    (h : ∀ D h', Fr h₀ L h' m → News h₀ L h' ((D, listOf vs.reverse.toArray 0) :: news) → (∀ p ∈ news, p.1 < D) → Q (.ref D) { s with heap := h' })
    (hs : subscripted slice false (.ref l) (.ref s.heap.objs.size) = operate ops (getItem (.ref l) (.ref s.heap.objs.size)) := by with_unfolding_all rfl) (ht : ∀ r, letTemporaryGo value (.ref l) r = pure () := by intro _; with_unfolding_all rfl) :
    wpAny (model prog w) A (subscriptTail value slice (.ref l) (.ref s.heap.objs.size)) Q E { s with heap := s.heap.push { cls := .type "slice", data := .fields #[.none, .none, .int (-1) tk] } } :=
  krv_lit (its := vs.toArray) (zs := vs.reverse) F N (News.isList N hm) (.int _ _) rfl h hs ht (by rw [List.size_toArray, sizeLine_eq]; omega)
end
structure TurnPlan (prog : Program) (w : World) (nm : Str) (v1 v2 vs6 : List Value) (p k : Nat) (xs : List Str) : Prop where
  b1 : p + k ≤ v1.length
  b2 : p + k ≤ v2.length
  f1 : v1.length ≤ 1000
  f2 : v2.length ≤ 1000
  f6 : vs6.length ≤ 1000
  c1 : ∀ l t, Con prog w 64 [.ref l, .str nm t] [(Str.ofString "key", .ref 182)] (fun h => h.IsList l v1.toArray) 16 (fun r => ∃ u, r = .int (p : Nat) u)
  c2 : ∀ l t, Con prog w 46 [.ref l, .str nm t] [(Str.ofString "key", .ref 182)] (fun h => h.IsList l v1.toArray) 16 (fun r => ∃ u, r = .int (p + k : Nat) u)
  c3 : ∀ l t, Con prog w 64 [.ref l, .str nm t] [(Str.ofString "key", .ref 182)] (fun h => h.IsList l v2.toArray) 16 (fun r => ∃ u, r = .int (p : Nat) u)
  m1 : StrsAre ((v1.drop p).take k) xs
  m2 : StrsAre ((v2.drop p).take k) xs.reverse
  m6 : StrsAre vs6 xs
  m7 : StrsAre vs6.reverse xs.reverse
  o1 : Oks xs
  o2 : Oks xs.reverse
theorem turn_plan (prog : Program) (w : World) {nm : Str} (hnm : nm ∈ four) {ns : List Int} {v1 v2 vs6 : List Value} (hn17 : ns.length ≤ 17)
    (hf1 : StrsAre v1 ((sortBy [2, 1, 0] ns).map fileOf)) (hf2 : StrsAre v2 ((sortBy [2, 1, 0] ns.reverse).map fileOf))
    (hS6 : StrsAre vs6 ((ns.filter fun n => nameOf n == nm).map fileOf)) : ∃ p k xs, TurnPlan prog w nm v1 v2 vs6 p k xs := by
  obtain ⟨As, Cs, As', Cs', g1, g2, eA⟩ := grp_both hnm ns
  have hn18 : ns.reverse.length ≤ 17 := by rw [List.length_reverse]; exact hn17
  have h1 := strs_len hf1
  have h2 := strs_len hf2
  have h6 := strs_len hS6
  have q1 := sortBy_len ns 2 1 0
  have q2 := sortBy_len ns.reverse 2 1 0
  have q6 := List.length_filter_le (fun n => nameOf n == nm) ns
  rw [List.length_map] at h1 h2 h6
  have e1 := congrArg List.length g1.eq
  have e2 := congrArg List.length g2.eq
  rw [List.length_append, List.length_append] at e1 e2
  rw [List.filter_reverse] at g2 e2
  rw [List.length_reverse] at e2
  have m2 := run_mid hf2 g2
  rw [eA, List.length_reverse, List.map_reverse] at m2
  refine ⟨As.length, (ns.filter fun n => nameOf n == nm).length, _, ?_, ?_, by omega, by omega, by omega, fun l t => leftIs prog w hf1 g1 hn17, fun l t => rightIs prog w hf1 g1 hn17, fun l t => ?_, run_mid hf1 g1, m2, hS6, strs_rev hS6, oks_map, fun x hx => oks_map x (List.mem_reverse.mp hx)⟩
  · omega
  · omega
  · have := leftIs prog w (l := l) (t := t) hf2 g2 hn18
    rw [eA] at this
    exact this
theorem allNe_to {d : Addr} : ∀ {l : List (Addr × Obj)}, AllNe d l → ∀ p ∈ l, p.1 ≠ d
  | [], _, _, hp => nomatch hp
  | _ :: _, h, p, hp => by
    rcases List.mem_cons.mp hp with rfl | q
    · exact h.1
    · exact allNe_to h.2 p q
theorem strs_mem {vs : List Value} {ns : List Int} (h : StrsAre vs (ns.map fileOf)) {v : Value} (hv : v ∈ vs) : ∃ n t, v = .str (fileOf n) t := by
  obtain ⟨i, _, hv⟩ := List.mem_iff_getElem.mp hv
  obtain ⟨n, t, e, _⟩ := strs_turn h (List.getElem?_eq_some_iff.mpr ⟨_, hv⟩)
  exact ⟨n, t, e⟩
theorem paired_none {F : Value → Value → Prop} {vs ys : List Value} (h : Paired F (vs.filter fun _ => false) ys) : StrsAre ys [] := by
  have e : vs.filter (fun _ => false) = [] := by simp
  rw [e] at h
  cases h
  exact .nil
theorem nm_len : ∀ j, j < 3 → (nms.getD j (Str.ofString "")).length ≤ 64 := by decide +kernel
theorem bn_len (n : Int) : (bnF (fileOf n)).length ≤ 64 := by
  rw [file_bn]
  exact nm_len _ (nj_lt n)
end
section
open PySem PySem.W PyProof.Rows PySem.Calls
set_option maxRecDepth 100000
local macro_rules | `(tactic| walk_at "exec Assign cons ListComp") => `(tactic| (k_here; refine Stop.out ?_))
local macro_rules | `(tactic| walk_at "exec For Name Name cons nil") => `(tactic| (k_here; refine Stop.out ?_))
local macro_rules | `(tactic| walk_at "exec For Name List cons nil") => `(tactic| (k_here; refine Stop.out ?_))
local macro_rules | `(tactic| walk_at "ForPost") => `(tactic| (dsimp only [ForPost]))
local macro_rules | `(tactic| walk_at "newList") => `(tactic| (k_here; k_dflt (refine' newList_X ?k1 ?k2 ?_ ?z; (case k1 => k_asm); (case k2 => k_asm); (case z => size_fits)); intro l' h' E' F' N' l1; (try replace E' := Ext.trans (by assumption) E'); (try k_lt l1); (try k_sweep)))
local macro_rules | `(tactic| walk_at "call builtin:len") => `(tactic| (k_here; (with_reducible show wpAny _ _ (PySem.call (Value.builtin "len") [Value.ref _]) _ _ _); k_dflt (refine' len_made ?k1 ?k2 ?k3 ?_; (case k1 => k_asm); (case k2 => k_mem); (case k3 => omega)); intro tl' tk'; (try dsimp only)))
local macro_rules | `(tactic| walk_at "subscriptTail Name Name ref int") => `(tactic| (k_here; k_dflt (refine' item_made ?k1 ?k2 ?k3 ?k6 ?k4 ?k5 ?_; (case k1 => k_asm); (case k2 => k_mem); (case k3 => assumption); (case k6 => omega); (case k4 => omega); (case k5 => omega))))
local macro_rules | `(tactic| walk_at "compareOp NotEq ref ref") => `(tactic| (k_here; refine Stop.out ?_))
local macro_rules | `(tactic| walk_at "subscriptTail Name Slice ref ref") => `(tactic| (k_here; (with_reducible show wpAny _ _ (subscriptTail _ (PySem.Expr.Slice (some _) (some _) none _) (Value.ref _) (Value.ref _)) _ _ _); k_dflt (refine' run_made ?k1 ?k2 ?k3 ?k4 ?k5 ?_; (case k1 => k_asm); (case k2 => k_asm); (case k3 => k_mem); (case k4 => first | exact TurnPlan.b1 (by assumption) | exact TurnPlan.b2 (by assumption)); (case k5 => first | exact TurnPlan.f1 (by assumption) | exact TurnPlan.f2 (by assumption))); intro D' h' F' N' l1; (try k_lt l1); (try k_sweep)))
local macro_rules | `(tactic| walk_at "subscriptTail Name Slice ref ref") => `(tactic| (k_here; (with_reducible show wpAny _ _ (subscriptTail _ (PySem.Expr.Slice none none (some _) _) (Value.ref _) (Value.ref _)) _ _ _); k_dflt (refine' rev_made ?k1 ?k2 ?k3 ?k5 ?_; (case k1 => k_asm); (case k2 => k_asm); (case k3 => k_mem); (case k5 => exact TurnPlan.f6 (by assumption))); intro D' h' F' N' l1; (try k_lt l1); (try k_sweep)))
local macro_rules | `(tactic| walk_at "compareOp Eq ref ref") => `(tactic| (k_here; refine Stop.out ?_))
set_option wide.arm 6000 in
set_option maxHeartbeats 8000000 in
theorem walk : Mine.rw2.Holds := Mine.hd (by
  k_go0
  (all_goals try k_fold)
  rename World => W53
  k_steps
  refine ⟨?_⟩
  refine comp_start (fun _ => true) (fun v y => ∃ n t u, v = Value.int n t ∧ y = Value.str (fileOf n) u) rfl (by decide) rfl (by decide) rfl ?_
  k_steps
  rename IntsAre _ _ => hI1
  obtain ⟨ns, hI, hn17⟩ : ∃ ns, IntsAre _ ns ∧ ns.length ≤ 17 := ⟨_, hI1, by simp; omega⟩
  clear hI1
  have hl17 := IntsAre.length hI
  refine comp_list rfl (by assumption) (by assumption) (by k_mem) ?len1 ?ht1 ?he1 ?h1
  case len1 => omega
  case ht1 => exact fun _ _ _ _ _ _ _ _ _ _ => wpAny_pure ⟨rfl, keeps_refl _⟩
  case he1 =>
    intro C v s₃ m₃ E' hv _ hC hx F3 N3
    obtain ⟨n, t, rfl, _⟩ := ints_mem hI v hv
    have E0 := Ext.refl s₃.heap
    rename Fr _ _ _ _ => Fo
    k_steps
    refine ⟨?_⟩
    k_dflt (refine' con_useK (con_file _ _ _ _) ?kBe1 ?kFe1 ?kXe1 ?kTe1 ?kde1 ?kue1 ?kpe1 ?_; (case kBe1 => k_asm); (case kFe1 => k_asm); (case kXe1 => k_asm); (case kTe1 => k_asm); (case kde1 => ktr_room); (case kue1 => ktr_units); (case kpe1 => exact trivial); k_whole)
    intro re1 he1 tke1 hre1 Ee1 Fe1
    replace Ee1 := Ext.trans E0 Ee1
    clear E0
    obtain ⟨ue1, hre1⟩ := hre1
    subst hre1
    (try dsimp only)
    k_steps
    exact ⟨⟨_, _, _, rfl, rfl⟩, ⟨_, _, rfl, by assumption⟩⟩
  intro D1 h1 tk1 fs nf F1 N1 ne1 hp1
  have hS1 := paired_texts hI hp1
  clear hp1
  simp only [AllNe, and_true] at ne1
  have ja1 := ne1.1
  have ja2 := ne1.2.1
  have ja3 := ne1.2.2.1
  have ja4 := ne1.2.2.2.1
  have ja5 := ne1.2.2.2.2.1
  have ja6 := ne1.2.2.2.2.2.1
  have ja7 := ne1.2.2.2.2.2.2.1
  have ja8 := ne1.2.2.2.2.2.2.2.1
  have ja9 := ne1.2.2.2.2.2.2.2.2.1
  have ja10 := ne1.2.2.2.2.2.2.2.2.2
  clear ne1
  k_steps
  refine ⟨?_⟩
  refine comp_start (fun _ => true) (fun v y => ∃ n t u, v = Value.int n t ∧ y = Value.str (nameOf n) u) rfl (by decide) rfl (by decide) rfl ?_
  k_steps
  refine comp_list rfl (by assumption) (by assumption) (by k_mem) ?len2 ?ht2 ?he2 ?h2
  case len2 => omega
  case ht2 => exact fun _ _ _ _ _ _ _ _ _ _ => wpAny_pure ⟨rfl, keeps_refl _⟩
  case he2 =>
    intro C v s₃ m₃ E' hv _ hC hx F3 N3
    obtain ⟨n, t, rfl, _⟩ := ints_mem hI v hv
    have E0 := Ext.refl s₃.heap
    k_steps
    all_goals (
      rename ((n.fdiv 4).fmod 3 = _) => c
      exact ⟨⟨_, _, _, rfl, congrArg (Value.str · _) (by unfold nameOf nj; rw [c]; rfl)⟩, ⟨_, _, rfl, by assumption⟩⟩)
  intro D2 h2 tk2 gs nf2 F2 N2 ne2 hp2
  have hS2 := paired_texts hI hp2
  clear hp2
  simp only [AllNe, and_true] at ne2
  have jb1 := ne2.1
  have jb2 := ne2.2.1
  have jb3 := ne2.2.2.1
  have jb4 := ne2.2.2.2.1
  have jb5 := ne2.2.2.2.2.1
  have jb6 := ne2.2.2.2.2.2.1
  have jb7 := ne2.2.2.2.2.2.2.1
  have jb8 := ne2.2.2.2.2.2.2.2.1
  have jb9 := ne2.2.2.2.2.2.2.2.2.1
  have jb10 := ne2.2.2.2.2.2.2.2.2.2.1
  have jb11 := ne2.2.2.2.2.2.2.2.2.2.2
  clear ne2
  k_steps
  refine ⟨?_⟩
  rename News _ _ _ _ => NL
  rename_i S _ _ _ _ _ _ _ _ _ _ _ _ _ _ _ _ _ _ _ _ _ _ _ _ _ _ _ _ _ _ _ _ _ _ _ _ _ _ _ _ _ _ _ _ _ _ _ c3 _ _ _ _ _ _ _ _ _ _ _ _ _ _ _ _ _ dn ws _ _ l1 _ _ _ l2 _ _ _ l3 _ _ _ _ _ _ _ _ _ _ _ _ _ _ _ _ _ _ _ c1 _ _ c2 _ _
  have NN := news_under (news_tail NL) fun a => news_under a fun a => news_under (news_tail a) fun a => news_under a fun a => news_under a fun a => news_under a fun a => news_tail (news_tail a)
  clear NL
  rename Fr _ _ _ _ => lF
  with_unfolding_all refine' For_invVF lF ?q1 ?q2 ?q3
  case q1 => exact rfl
  case q2 => exact rfl
  k_steps
  refine ⟨?_⟩
  refine for_listF (fun i nx => ∃ v1 n1 v2 n2 v3 n3, FirstIs l1 v1 n1 (ns.take i) ∧ SecondIs l2 v2 n2 (ns.take i) ∧ ThirdIs l3 v3 n3 (ns.take i) ∧ nx = [(D2, W.listOf gs.toArray nf2), (D1, W.listOf fs.toArray nf), (l3, W.listOf v3.toArray n3), (l2, W.listOf v2.toArray n2), (l1, W.listOf v1.toArray n1), (dn, W.listOf ws.toArray 0), (S.heap.objs.size + 1 + 1 + 1, c3), (S.heap.objs.size + 1 + 1, c2), (S.heap.objs.size + 1, c1)])
    rfl (by assumption) NN (by k_mem) ?j0 ?jl ?ja ?turn ?done
  case j0 => exact ⟨[], 0, [], 0, [], 0, ⟨.nil⟩, ⟨.nil⟩, ⟨.nil⟩, rfl⟩
  case jl => rintro i nx ⟨v1, n1, v2, n2, v3, n3, _, _, _, rfl⟩; k_mem
  case ja => rintro i nx ⟨v1, n1, v2, n2, v3, n3, _, _, _, rfl⟩; rfl
  case turn =>
    intro Q3 I io i v nx3 h3 tk3 hv hJ3 hI F5 N5
    refine ex6 hJ3 fun v1 n1 v2 n2 v3 n3 hP3 => ?_
    have hs1 := hP3.1
    have hs2 := hP3.2.1
    have hs3 := hP3.2.2.1
    have e3 := hP3.2.2.2
    subst e3
    clear hJ3 hP3
    obtain ⟨n, t, rfl, en⟩ := strs_turn hS1 hv
    have hlen : (ns.take i).length ≤ 17 := by rw [List.length_take]; omega
    k_lt hI
    clear NN
    k_steps
    refine ⟨?_⟩
    k_dflt (refine' conU_use (step1 (by assumption) (by assumption)) ?k1i1 ?k2i1 ?k3i1 ?k4i1 ?kUi1 ?k5i1 ?kdi1 ?kui1 ?_; (case k1i1 => k_asm); (case k2i1 => k_asm); (case k3i1 => k_asm); (case k4i1 => k_asm); (case kUi1 => k_updF); (case k5i1 => k_asm); (case kdi1 => ktr_room); (case kui1 => ktr_units); k_whole)
    rintro _ _ hi1 tki1 ⟨rfl, vsi1, rfl, hsi1⟩ Fi1 Ni1
    (try dsimp only at Ni1)
    (try dsimp only)
    (try k_fold)
    k_steps
    refine ⟨?_⟩
    k_dflt (refine' conU_use (step2 (by assumption) (by assumption)) ?k1i2 ?k2i2 ?k3i2 ?k4i2 ?kUi2 ?k5i2 ?kdi2 ?kui2 ?_; (case k1i2 => k_asm); (case k2i2 => k_asm); (case k3i2 => k_asm); (case k4i2 => k_asm); (case kUi2 => k_updF); (case k5i2 => k_asm); (case kdi2 => ktr_room); (case kui2 => ktr_units); k_whole)
    rintro _ _ hi2 tki2 ⟨rfl, vsi2, rfl, hsi2⟩ Fi2 Ni2
    (try dsimp only at Ni2)
    (try dsimp only)
    (try k_fold)
    k_steps
    refine ⟨?_⟩
    k_dflt (refine' conU_use (step3 (by assumption) (by assumption)) ?k1i3 ?k2i3 ?k3i3 ?k4i3 ?kUi3 ?k5i3 ?kdi3 ?kui3 ?_; (case k1i3 => k_asm); (case k2i3 => k_asm); (case k3i3 => k_asm); (case k4i3 => k_asm); (case kUi3 => k_updF); (case k5i3 => k_asm); (case kdi3 => ktr_room); (case kui3 => ktr_units); k_whole)
    rintro _ _ hi3 tki3 ⟨rfl, vsi3, rfl, hsi3⟩ Fi3 Ni3
    (try dsimp only at Ni3)
    (try dsimp only)
    (try k_fold)
    k_steps
    exact ⟨⟨_, _, _, _, rfl, by assumption, by assumption, fun z hz => if_neg hz, _, _, _, _, _, _, (by rw [en]; assumption), (by rw [en]; assumption), (by rw [en]; assumption), rfl⟩⟩
  clear NN
  intro u nx6 h6 tk6 hJ6 F6 N6
  refine ex6 hJ6 fun v1 n1 v2 n2 v3 n3 hP6 => ?_
  have hs1 := hP6.1
  have hs2 := hP6.2.1
  have hs3 := hP6.2.2.1
  have e6 := hP6.2.2.2
  subst e6
  clear hJ6 hP6
  have hfl := strs_len hS1
  rw [List.length_map] at hfl
  rw [hfl, List.take_length] at hs1 hs2 hs3
  k_steps
  refine ⟨?_⟩
  refine comp_startA (fun _ => true) (fun v y => ∃ n t u, v = Value.int n t ∧ y = Value.str (extOf n) u) ?sw3 rfl (by decide) rfl (by decide) rfl rfl rfl ?_
  case sw3 => with_unfolding_all rfl
  k_steps
  refine comp_listA rfl (by assumption) (by assumption) (by k_mem) ?len3 ?ht3 ?he3 ?h3
  case len3 => omega
  case ht3 => exact fun _ _ _ _ _ _ _ _ _ _ => wpAny_pure ⟨rfl, keeps_refl _⟩
  case he3 =>
    intro C v s₃ m₃ E' hv _ hC hx F3 N3
    obtain ⟨n, t, rfl, _⟩ := ints_mem hI v hv
    have E0 := Ext.refl s₃.heap
    k_steps
    all_goals (
      rename ((n.fdiv 4).fmod 3 = _) => c
      exact ⟨⟨_, _, _, rfl, congrArg (Value.str · _) (by unfold extOf nj; rw [c]; rfl)⟩, ⟨_, _, rfl, by assumption⟩⟩)
  intro D3 h7 tk7 es nf3 F7 N7 ne3 hp3
  have hS3 := paired_texts hI hp3
  clear hp3
  simp only [AllNe, and_true] at ne3
  k_steps
  have hf1 := hs1.of
  have hf2 := hs2.of
  have hf3 := hs3.of
  have lg := strs_len hS2
  have le := strs_len hS3
  rw [List.length_map] at lg le
  refine ⟨?_⟩
  k_dflt (refine' laid_use hS1 hS2 ?laa ?lba ?kBa ?kFa ?kXa ?kNa ?kTa ?kda ?kua ?haa ?hba (zs := (sortBy [2, 1, 0] ns).map fileOf) ?kza ?_; (case laa => omega); (case lba => omega); (case kBa => k_asm); (case kFa => k_asm); (case kXa => k_asm); (case kNa => k_asm); (case kTa => k_asm); (case kda => ktr_room); (case kua => ktr_units); (case haa => exact News.isList (by k_asm) (by k_mem)); (case hba => exact News.isList (by k_asm) (by k_mem)); (case kza => exact fun ks h1 h2 h3 => laid_names ns ks h1 h2 h3); k_whole)
  intro La wa ea hha tta dra hWa F1a N1a nea
  (try dsimp only)
  simp only [AllNe, and_true] at nea
  k_steps
  refine ⟨?_⟩
  refine es_ne_same (News.isList (by k_asm) (by k_mem)) (News.isList (by k_asm) (by k_mem)) hf1 hWa oks_map (by ke_room) ?_
  k_steps
  rename Fr _ _ _ _ => Fb0
  rename News _ _ _ _ => Nb0
  dsimp only at Fb0 Nb0 ⊢
  rw [krv_pick, krv_pick] at Nb0
  have hR1 := strs_rev hS1
  have hR2 := strs_rev hS2
  rw [← List.map_reverse] at hR1 hR2
  refine ⟨?_⟩
  k_dflt (refine' laid_use hR1 hR2 ?lab ?lbb ?kBb ?kFb ?kXb ?kNb ?kTb ?kdb ?kub ?hab ?hbb (zs := (sortBy [2, 1, 0] ns.reverse).map fileOf) ?kzb ?_; (case lab => simp only [List.length_reverse]; omega); (case lbb => simp only [List.length_reverse]; omega); (case kBb => k_asm); (case kFb => k_asm); (case kXb => k_asm); (case kNb => k_asm); (case kTb => k_asm); (case kdb => ktr_room); (case kub => ktr_units); (case hab => exact News.isList (by k_asm) (by k_mem)); (case hbb => exact News.isList (by k_asm) (by k_mem)); (case kzb => exact fun ks h1 h2 h3 => laid_names ns.reverse ks h1 h2 h3); k_whole)
  intro Lb wb eb hhb ttb drb hWb F1b N1b neb
  (try dsimp only)
  simp only [AllNe, and_true] at neb
  k_steps
  refine ⟨?_⟩
  refine es_ne_same (News.isList (by k_asm) (by k_mem)) (News.isList (by k_asm) (by k_mem)) hf2 hWb oks_map (by ke_room) ?_
  k_steps
  refine ⟨?_⟩
  k_dflt (refine' laid_use hS1 hS3 ?lac ?lbc ?kBc ?kFc ?kXc ?kNc ?kTc ?kdc ?kuc ?hac ?hbc (zs := (sortBy [2, 0, 1] ns).map fileOf) ?kzc ?_; (case lac => omega); (case lbc => omega); (case kBc => k_asm); (case kFc => k_asm); (case kXc => k_asm); (case kNc => k_asm); (case kTc => k_asm); (case kdc => ktr_room); (case kuc => ktr_units); (case hac => exact News.isList (by k_asm) (by k_mem)); (case hbc => exact News.isList (by k_asm) (by k_mem)); (case kzc => exact fun ks h1 h2 h3 => laid_ends ns ks h1 h2 h3); k_whole)
  intro Lc wc ec hhc ttc drc hWc F1c N1c nec
  (try dsimp only)
  simp only [AllNe, and_true] at nec
  k_steps
  refine ⟨?_⟩
  refine es_ne_same (News.isList (by k_asm) (by k_mem)) (News.isList (by k_asm) (by k_mem)) hf3 hWc oks_map (by ke_room) ?_
  k_steps
  refine ⟨?_⟩
  rename Fr _ _ _ _ => F20
  rename News _ _ _ _ => N20
  have N21 := news_under (news_tail (news_tail (news_tail (news_tail (news_tail (news_tail N20)))))) fun a => news_under a fun a => news_under (news_tail a) fun a => news_under a fun a => news_tail a
  clear N20
  with_unfolding_all refine' For_turns F20 ?_
  k_steps
  refine ⟨?_⟩
  rename Fr _ _ _ _ => F22
  rename News _ _ _ _ => N22
  rename_i lx hx22 l1x xx22
  refine for_listT (fun i m nx => m (Str.ofString "first") = some (.ref l1) ∧ m (Str.ofString "second") = some (.ref l2) ∧ ∃ c3' v0, c3'.data = .cell v0 ∧ nx = [(lx, W.listOf [Value.str (Str.ofString "x") ttc, Value.str (Str.ofString "y.b") (ttc + 1), Value.str (Str.ofString "z.a") (ttc + 1 + 1), Value.str (Str.ofString "w") (ttc + 1 + 1 + 1)].toArray 0), (D2, W.listOf gs.toArray nf2), (D1, W.listOf fs.toArray nf), (l2, W.listOf v2.toArray n2), (l1, W.listOf v1.toArray n1), (S.heap.objs.size + 1 + 1 + 1, c3'), (S.heap.objs.size + 1 + 1, c2), (S.heap.objs.size + 1, c1)])
    rfl F22 N22 (by k_mem) ⟨rfl, rfl, c3, none, by assumption, rfl⟩ ?jl5 ?turn5 ?done5
  case jl5 => rintro i m nx ⟨_, _, c3', v0, _, rfl⟩; k_mem
  case turn5 =>
    intro Q5 I5 io5 i5 v5 m5 nx5 h25 tk25 hv5 hJ5 hI5 hnI5 F25 N25
    have hm1 := hJ5.1
    have hm2 := hJ5.2.1
    refine ex2 hJ5.2.2 fun c3' v0 hP5 => ?_
    have hc3 := hP5.1
    have e5 := hP5.2
    subst e5
    clear hJ5 hP5
    clear F22 N22
    (try clear F20)
    (try clear N21)
    have em : m5 = fun y => if y = Str.ofString "first" then some (.ref l1) else if y = Str.ofString "second" then some (.ref l2) else m5 y := funext fun y => by
      by_cases hy : y = Str.ofString "first"
      · rw [hy, if_pos rfl]; exact hm1
      · rw [if_neg hy]
        by_cases hy : y = Str.ofString "second"
        · rw [hy, if_pos rfl]; exact hm2
        · rw [if_neg hy]
    rw [em] at F25
    clear em
    obtain ⟨nm, tv5, rfl, hnm⟩ : ∃ nm t, v5 = Value.str nm t ∧ nm ∈ four := by
      have := List.mem_of_getElem? hv5
      simp only [List.mem_cons, List.not_mem_nil, or_false] at this
      rcases this with h | h | h | h <;> exact ⟨_, _, h, by simp [four]⟩
    replace F25 : Fr _ S.heap.objs.size h25 _ := F25
    replace N25 : News _ S.heap.objs.size h25 _ := N25
    k_lt hI5
    have hnI5' := allNe_of hnI5
    have hnK := allNe_of hnI5
    clear hnI5
    simp only [AllNe, and_true] at hnI5'
    clear ja1 ja2 ja3 ja4 ja5 ja6 ja7 ja9 ja10 jb1 jb2 jb3 jb4 jb5 jb6 jb7 jb8 jb10 jb11 ne3 nea neb nec hnI5'
    (try dsimp only)
    k_steps
    rename Fr _ _ _ _ => F26
    rename News _ _ _ _ => N26
    refine ⟨?_⟩
    refine comp_startA (laidP (ns.map nameOf) nm) (laidF (ns.map fileOf)) ?sw6 rfl (by decide) rfl (by decide) rfl rfl rfl ?_
    case sw6 => with_unfolding_all rfl
    have hl1 := strs_len hS1
    rw [List.length_map] at hl1
    k_steps
    rename IsRange _ _ _ _ _ _ _ _ => hr6
    refine comp_rangeA (n := fs.length) rfl (by k_asm) (by k_asm) hr6 (by omega) ?ht6 ?he6 ?h6
    case ht6 =>
      intro C k tk s₃ m₃ E' hk hC hx F3 N3
      have E0 := Ext.refl s₃.heap
      k_steps
      exact ⟨rfl, ⟨_, _, rfl, by assumption⟩⟩
    case he6 =>
      intro C k tk s₃ m₃ E' hk hp hC hx F3 N3
      have E0 := Ext.refl s₃.heap
      k_steps
      exact ⟨⟨_, rfl⟩, ⟨_, _, rfl, by assumption⟩⟩
    intro D6 h26 tk26 vs6 ts6 k6 F27 N27 ne6 hp6
    have hS6 := sel_strs (by rw [List.length_map, ← hl1]; exact hp6)
    clear hp6
    rw [sel_map] at hS6
    clear ne6
    refine ex3 (turn_plan Mine.rw2.row.prog W53 hnm hn17 hf1 hf2 hS6) fun kp kk xs6 P6 => ?_
    clear hS6 hf1 hf2 hf3 hS3 hnm le lg
    k_steps
    refine ⟨?_⟩
    k_dflt (refine' con_use (P6.c1 _ _) ?kBx1 ?kFx1 ?kXx1 ?kNx1 ?kTx1 ?kdx1 ?kux1 ?kpx1 ?_; (case kBx1 => k_asm); (case kFx1 => k_asm); (case kXx1 => k_asm); (case kNx1 => k_asm); (case kTx1 => k_asm); (case kdx1 => ktr_room); (case kux1 => ktr_units); (case kpx1 => exact News.isList (by k_asm) (by k_mem)); k_whole)
    rintro _ hx1 tkx1 ⟨ux1, rfl⟩ Fx1 Nx1
    (try dsimp only)
    k_steps
    refine ⟨?_⟩
    k_dflt (refine' con_use (P6.c2 _ _) ?kBx2 ?kFx2 ?kXx2 ?kNx2 ?kTx2 ?kdx2 ?kux2 ?kpx2 ?_; (case kBx2 => k_asm); (case kFx2 => k_asm); (case kXx2 => k_asm); (case kNx2 => k_asm); (case kTx2 => k_asm); (case kdx2 => ktr_room); (case kux2 => ktr_units); (case kpx2 => exact News.isList (by k_asm) (by k_mem)); k_whole)
    rintro _ hx2 tkx2 ⟨ux2, rfl⟩ Fx2 Nx2
    (try dsimp only)
    k_steps
    refine ⟨?_⟩
    refine es_ne_same (News.isList (by k_asm) (by k_mem)) (News.isList (by k_asm) (by k_mem)) P6.m1 P6.m6 P6.o1 (by ke_room) ?_
    k_steps
    refine ⟨?_⟩
    refine es_ne_same (News.isList (by k_asm) (by k_mem)) (News.isList (by k_asm) (by k_mem)) P6.m2 P6.m7 P6.o2 (by ke_room) ?_
    k_steps
    refine ⟨?_⟩
    k_dflt (refine' con_use (P6.c3 _ _) ?kBx3 ?kFx3 ?kXx3 ?kNx3 ?kTx3 ?kdx3 ?kux3 ?kpx3 ?_; (case kBx3 => k_asm); (case kFx3 => k_asm); (case kXx3 => k_asm); (case kNx3 => k_asm); (case kTx3 => k_asm); (case kdx3 => ktr_room); (case kux3 => ktr_units); (case kpx3 => exact News.isList (by k_asm) (by k_mem)); k_whole)
    rintro _ hx3 tkx3 ⟨ux3, rfl⟩ Fx3 Nx3
    (try dsimp only)
    k_steps
    · rename ((_ : Int) ≠ _) => q9
      exact absurd rfl q9
    · have N28 := news_tail (news_tail (news_tail (news_tail (news_tail Nx3))))
      show ForEndT _ _ _ _ _ _ _
      exact ⟨⟨_, _, _, _, rfl, Fx3, N28, allNe_to hnK, rfl, rfl, _, _, by assumption, rfl⟩⟩
  case done5 =>
    intro m9 nx9 h9 tk9 hJ9 F30 N30
    refine ex2 hJ9.2.2 fun c3' v0 hP9 => ?_
    have hc3 := hP9.1
    have e9 := hP9.2
    subst e9
    clear hJ9 hP9
    replace F30 : Fr _ S.heap.objs.size h9 _ := F30
    replace N30 : News _ S.heap.objs.size h9 _ := N30
    clear F22 N22
    (try clear F20)
    (try clear N21)
    clear ja1 ja2 ja3 ja4 ja5 ja6 ja7 ja8 ja9 ja10 jb1 jb2 jb3 jb4 jb5 jb6 jb7 jb8 jb9 jb10 jb11 ne3 nea neb nec
    (try dsimp only)
    k_steps
    refine ⟨?_⟩
    refine comp_start (fun _ => false) (fun _ _ => True) rfl (by decide) rfl (by decide) rfl ?_
    k_steps
    refine comp_list rfl (by assumption) (by assumption) (by k_mem) ?len9 ?ht9 ?he9 ?h9
    case len9 => rw [hfl]; omega
    case he9 => exact fun _ _ _ _ _ _ h => absurd h (by decide)
    case ht9 =>
      intro C v s₃ m₃ E' hv hC hx F3 N3
      obtain ⟨n, t, rfl⟩ := strs_mem hS1 hv
      have E0 := Ext.refl s₃.heap
      k_steps
      refine ⟨?_⟩
      k_dflt (refine' con_useK (con_dir _ _ _ _ (file_len n)) ?kBd1 ?kFd1 ?kXd1 ?kTd1 ?kdd1 ?kud1 ?kpd1 ?_; (case kBd1 => k_asm); (case kFd1 => k_asm); (case kXd1 => k_asm); (case kTd1 => k_asm); (case kdd1 => ktr_room); (case kud1 => ktr_units); (case kpd1 => exact trivial); k_whole)
      intro rd1 hd1 tkd1 hrd1 Ed1 Fd1
      replace Ed1 := Ext.trans E0 Ed1
      clear E0
      obtain ⟨ud1, hrd1⟩ := hrd1
      subst hrd1
      (try dsimp only)
      k_steps
      refine ⟨?_⟩
      k_dflt (refine' con_useK (con_base _ _ _ _ (file_len n)) ?kBd2 ?kFd2 ?kXd2 ?kTd2 ?kdd2 ?kud2 ?kpd2 ?_; (case kBd2 => k_asm); (case kFd2 => k_asm); (case kXd2 => k_asm); (case kTd2 => k_asm); (case kdd2 => ktr_room); (case kud2 => ktr_units); (case kpd2 => exact trivial); k_whole)
      intro rd2 hd2 tkd2 hrd2 Ed2 Fd2
      replace Ed2 := Ext.trans Ed1 Ed2
      clear Ed1
      obtain ⟨ud2, hrd2⟩ := hrd2
      subst hrd2
      (try dsimp only)
      k_steps
      refine ⟨?_⟩
      k_dflt (refine' con_useK (con_join _ _ _ _ _ _ (dir_len n) (bn_len n)) ?kBd3 ?kFd3 ?kXd3 ?kTd3 ?kdd3 ?kud3 ?kpd3 ?_; (case kBd3 => k_asm); (case kFd3 => k_asm); (case kXd3 => k_asm); (case kTd3 => k_asm); (case kdd3 => ktr_room); (case kud3 => ktr_units); (case kpd3 => exact trivial); k_whole)
      intro rd3 hd3 tkd3 hrd3 Ed3 Fd3
      replace Ed3 := Ext.trans Ed2 Ed3
      clear Ed2
      obtain ⟨ud3, hrd3⟩ := hrd3
      rw [file_join] at hrd3
      subst hrd3
      (try dsimp only)
      k_steps
      exact ⟨by simp, ⟨_, _, rfl, by assumption⟩⟩
    intro D9 h9a tk9a ys9 k9 F9 N9 ne9 hp9
    have hq9 := paired_none hp9
    clear hp9
    simp only [AllNe, and_true] at ne9
    clear ne9
    k_steps
    refine ⟨?_⟩
    refine es_eq_nil (News.isList (by k_asm) (by k_mem)) (News.isList (by k_asm) (by k_mem)) hq9 .nil (by ke_room) ?_
    k_steps
)
end
end
end Mine
end
set_option maxRecDepth 100000 in
theorem PySem.Challenge.cw_ij0053_01_holds : PySem.Challenge.rw_ij0053_01.Holds := by
  exact Mine.rw2_eq ▸ Mine.walk

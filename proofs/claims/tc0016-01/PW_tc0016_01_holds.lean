import PyProof.Rows.All
import Wide.All
import OpenK.AllK
import Wide.FinOn
import Lean
import PySem.Challenge.RW_tc0016_01
set_option linter.all false
set_option compiler.extract_closed false
open PySem PySem.W PyProof.Rows PySem.Calls
set_option Elab.async false
namespace Mine
-- kk
-- plain
-- the written part of the heap after the program's top: the module's names, the defs and their codes
noncomputable def kN : Stmt → Str
  | .FunctionDef n _ _ _ _ _ _ _ _ _ => n
  | _ => ""
noncomputable def kB : Stmt → List Stmt
  | .FunctionDef _ _ b _ _ _ _ _ _ _ => b
  | _ => []
noncomputable def kP : Stmt → Arguments
  | .FunctionDef _ p _ _ _ _ _ _ _ _ => p
  | _ => default
noncomputable def kS : Stmt → Scope
  | .FunctionDef _ _ _ _ _ _ s _ _ _ => s
  | _ => default
noncomputable def kst (i : Nat) : Stmt := PySem.Challenge.pw_tc0016_01.main.body.getD i (.Pass ⟨0, 0, 0, 0⟩)
noncomputable def kfn (i : Nat) (md : Value) (cd : Addr) : Obj := { cls := Value.type "function", data := Data.func { name := kN (kst i), qualname := kN (kst i), params := kP (kst i), body := .stmts (kB (kst i)), scope := kS (kst i), globals := 3, closure := [], defaults := Value.none, kwdefaults := Value.none, pyModule := md, code := Value.ref cd } }
noncomputable def kF : Str := "/claim/cut.py"
noncomputable def kcod (i t : Nat) (ln na fl : Int) (A B C D E F : Value) (u : Int) (v : Nat) : Obj := { cls := Value.type "code", data := Data.fields #[Value.str (kN (kst i)) t, Value.str (kN (kst i)) (t + 1), Value.str kF (t + 2), Value.int ln 0, Value.int na 0, Value.int 0 0, Value.int 0 0, Value.int fl 0, A, Value.bool true, Value.int 181 0, B, C, D, E, F, Value.int u 0, Value.int ln 0, Value.str kF v] }
noncomputable def kM0 : Str := "cpy313._pylong"
noncomputable def kM1 : Str := "cpy313.operator"
noncomputable def kM2 : Str := "cpy313.traceback"
noncomputable def kM3 : Str := "law_tc0016_01"
set_option maxRecDepth 100000 in
noncomputable def kq : Params → Frag := fun P =>
   (nat_lit 3, { cls := Value.type "dict", data := Data.dict #[{ hash := PyData.keyHash P (Str.ofString "__name__"), key := Value.str (Str.ofString "__name__") 165, val := Value.str (Str.ofString "law_tc0016_01") 356 }, { hash := PyData.keyHash P (Str.ofString "__doc__"), key := Value.str (Str.ofString "__doc__") 166, val := Value.none }, { hash := PyData.keyHash P (Str.ofString "__package__"), key := Value.str (Str.ofString "__package__") 167, val := Value.none }, { hash := PyData.keyHash P (Str.ofString "__loader__"), key := Value.str (Str.ofString "__loader__") 168, val := Value.builtin "__main__.__loader__#opaque" }, { hash := PyData.keyHash P (Str.ofString "__spec__"), key := Value.str (Str.ofString "__spec__") 169, val := Value.none }, { hash := PyData.keyHash P (Str.ofString "__annotations__"), key := Value.str (Str.ofString "__annotations__") 170, val := Value.ref 6 }, { hash := PyData.keyHash P (Str.ofString "__builtins__"), key := Value.str (Str.ofString "__builtins__") 171, val := Value.ref 4 }, { hash := PyData.keyHash P (Str.ofString "__file__"), key := Value.str (Str.ofString "__file__") 173, val := Value.str (kF) 172 }, { hash := PyData.keyHash P (Str.ofString "__cached__"), key := Value.str (Str.ofString "__cached__") 174, val := Value.none }, { hash := PyData.keyHash P (Str.ofString "_DIV_LIMIT"), key := Value.str (Str.ofString "_DIV_LIMIT") 190, val := Value.int 4000 189 }, { hash := PyData.keyHash P (kN (kst 2)), key := Value.str (kN (kst 2)) 207, val := Value.ref 21 }, { hash := PyData.keyHash P (kN (kst 3)), key := Value.str (kN (kst 3)) 221, val := Value.ref 28 }, { hash := PyData.keyHash P (kN (kst 4)), key := Value.str (kN (kst 4)) 232, val := Value.ref 35 }, { hash := PyData.keyHash P (kN (kst 5)), key := Value.str (kN (kst 5)) 243, val := Value.ref 42 }, { hash := PyData.keyHash P (kN (kst 6)), key := Value.str (kN (kst 6)) 258, val := Value.ref 49 }, { hash := PyData.keyHash P (kN (kst 7)), key := Value.str (kN (kst 7)) 268, val := Value.ref 56 }, { hash := PyData.keyHash P (kN (kst 9)), key := Value.str (kN (kst 9)) 278, val := Value.ref 63 }, { hash := PyData.keyHash P (kN (kst 10)), key := Value.str (kN (kst 10)) 286, val := Value.ref 70 }, { hash := PyData.keyHash P (kN (kst 11)), key := Value.str (kN (kst 11)) 294, val := Value.ref 77 }, { hash := PyData.keyHash P (kN (kst 12)), key := Value.str (kN (kst 12)) 302, val := Value.ref 84 }, { hash := PyData.keyHash P (kN (kst 13)), key := Value.str (kN (kst 13)) 311, val := Value.ref 91 }, { hash := PyData.keyHash P (kN (kst 14)), key := Value.str (kN (kst 14)) 319, val := Value.ref 98 }, { hash := PyData.keyHash P (Str.ofString "_MAX_STRING_SIZE"), key := Value.str (Str.ofString "_MAX_STRING_SIZE") 323, val := Value.int 40 322 }, { hash := PyData.keyHash P (Str.ofString "_MOVE_COST"), key := Value.str (Str.ofString "_MOVE_COST") 325, val := Value.int 2 324 }, { hash := PyData.keyHash P (Str.ofString "_CASE_COST"), key := Value.str (Str.ofString "_CASE_COST") 327, val := Value.int 1 326 }, { hash := PyData.keyHash P (kN (kst 19)), key := Value.str (kN (kst 19)) 335, val := Value.ref 105 }, { hash := PyData.keyHash P (kN (kst 20)), key := Value.str (kN (kst 20)) 355, val := Value.ref 112 }, { hash := PyData.keyHash P (kN (kst 22)), key := Value.str (kN (kst 22)) 363, val := Value.ref 117 }, { hash := PyData.keyHash P (kN (kst 23)), key := Value.str (kN (kst 23)) 369, val := Value.ref 122 }, { hash := PyData.keyHash P (kN (kst 24)), key := Value.str (kN (kst 24)) 379, val := Value.ref 129 }, { hash := PyData.keyHash P (kN (kst 25)), key := Value.str (kN (kst 25)) 395, val := Value.ref 136 }, { hash := PyData.keyHash P (kN (kst 26)), key := Value.str (kN (kst 26)) 406, val := Value.ref 143 }, { hash := PyData.keyHash P (kN (kst 27)), key := Value.str (kN (kst 27)) 419, val := Value.ref 150 }, { hash := PyData.keyHash P (kN (kst 28)), key := Value.str (kN (kst 28)) 425, val := Value.ref 155 }, { hash := PyData.keyHash P (kN (kst 29)), key := Value.str (kN (kst 29)) 431, val := Value.ref 160 }] 35 }) ::
    (nat_lit 20, kcod 2 191 3 3 3 (Value.ref 15) (Value.ref 16) (Value.none) (Value.ref 17) (Value.ref 18) (Value.ref 19) 205 206) ::
    (nat_lit 21, kfn 2 (Value.str kM0 187) 20) ::
    (nat_lit 27, kcod 3 208 19 6 3 (Value.ref 22) (Value.ref 23) (Value.none) (Value.ref 24) (Value.ref 25) (Value.ref 26) 219 220) ::
    (nat_lit 28, kfn 3 (Value.str kM0 187) 27) ::
    (nat_lit 34, kcod 4 222 29 2 3 (Value.ref 29) (Value.ref 30) (Value.none) (Value.ref 31) (Value.ref 32) (Value.ref 33) 230 231) ::
    (nat_lit 35, kfn 4 (Value.str kM0 187) 34) ::
    (nat_lit 41, kcod 5 233 45 2 3 (Value.ref 36) (Value.ref 37) (Value.none) (Value.ref 38) (Value.ref 39) (Value.ref 40) 241 242) ::
    (nat_lit 42, kfn 5 (Value.str kM0 187) 41) ::
    (nat_lit 48, kcod 6 244 54 2 3 (Value.ref 43) (Value.ref 44) (Value.none) (Value.ref 45) (Value.ref 46) (Value.ref 47) 256 257) ::
    (nat_lit 49, kfn 6 (Value.str kM0 187) 48) ::
    (nat_lit 55, kcod 7 259 65 2 3 (Value.ref 50) (Value.ref 51) (Value.none) (Value.ref 52) (Value.ref 53) (Value.ref 54) 266 267) ::
    (nat_lit 56, kfn 7 (Value.str kM0 187) 55) ::
    (nat_lit 62, kcod 9 271 77 2 3 (Value.ref 57) (Value.ref 58) (Value.none) (Value.ref 59) (Value.ref 60) (Value.ref 61) 276 277) ::
    (nat_lit 63, kfn 9 (Value.str kM1 269) 62) ::
    (nat_lit 69, kcod 10 279 79 2 3 (Value.ref 64) (Value.ref 65) (Value.none) (Value.ref 66) (Value.ref 67) (Value.ref 68) 284 285) ::
    (nat_lit 70, kfn 10 (Value.str kM1 269) 69) ::
    (nat_lit 76, kcod 11 287 81 2 3 (Value.ref 71) (Value.ref 72) (Value.none) (Value.ref 73) (Value.ref 74) (Value.ref 75) 292 293) ::
    (nat_lit 77, kfn 11 (Value.str kM1 269) 76) ::
    (nat_lit 83, kcod 12 295 83 2 3 (Value.ref 78) (Value.ref 79) (Value.none) (Value.ref 80) (Value.ref 81) (Value.ref 82) 300 301) ::
    (nat_lit 84, kfn 12 (Value.str kM1 269) 83) ::
    (nat_lit 90, kcod 13 303 85 3 3 (Value.ref 85) (Value.ref 86) (Value.none) (Value.ref 87) (Value.ref 88) (Value.ref 89) 309 310) ::
    (nat_lit 91, kfn 13 (Value.str kM1 269) 90) ::
    (nat_lit 97, kcod 14 312 87 2 3 (Value.ref 92) (Value.ref 93) (Value.none) (Value.ref 94) (Value.ref 95) (Value.ref 96) 317 318) ::
    (nat_lit 98, kfn 14 (Value.str kM1 269) 97) ::
    (nat_lit 104, kcod 19 328 94 2 3 (Value.ref 99) (Value.ref 100) (Value.none) (Value.ref 101) (Value.ref 102) (Value.ref 103) 333 334) ::
    (nat_lit 105, kfn 19 (Value.str kM2 320) 104) ::
    (nat_lit 111, kcod 20 336 100 3 3 (Value.ref 106) (Value.ref 107) (Value.none) (Value.ref 108) (Value.ref 109) (Value.ref 110) 353 354) ::
    (nat_lit 112, kfn 20 (Value.str kM2 320) 111) ::
    (nat_lit 116, kcod 22 358 139 1 3 (Value.ref 113) (Value.ref 114) (Value.none) (Value.none) (Value.none) (Value.ref 115) 361 362) ::
    (nat_lit 117, kfn 22 (Value.str kM3 356) 116) ::
    (nat_lit 121, kcod 23 364 142 2 3 (Value.ref 118) (Value.ref 119) (Value.none) (Value.none) (Value.none) (Value.ref 120) 367 368) ::
    (nat_lit 122, kfn 23 (Value.str kM3 356) 121) ::
    (nat_lit 128, kcod 24 370 146 4 3 (Value.ref 123) (Value.ref 124) (Value.none) (Value.ref 125) (Value.ref 126) (Value.ref 127) 377 378) ::
    (nat_lit 129, kfn 24 (Value.str kM3 356) 128) ::
    (nat_lit 135, kcod 25 380 154 3 3 (Value.ref 130) (Value.ref 131) (Value.none) (Value.ref 132) (Value.ref 133) (Value.ref 134) 393 394) ::
    (nat_lit 136, kfn 25 (Value.str kM3 356) 135) ::
    (nat_lit 142, kcod 26 396 168 2 3 (Value.ref 137) (Value.ref 138) (Value.none) (Value.ref 139) (Value.ref 140) (Value.ref 141) 404 405) ::
    (nat_lit 143, kfn 26 (Value.str kM3 356) 142) ::
    (nat_lit 149, kcod 27 407 174 2 3 (Value.ref 144) (Value.ref 145) (Value.none) (Value.ref 146) (Value.ref 147) (Value.ref 148) 417 418) ::
    (nat_lit 150, kfn 27 (Value.str kM3 356) 149) ::
    (nat_lit 154, kcod 28 420 187 2 3 (Value.ref 151) (Value.ref 152) (Value.none) (Value.none) (Value.none) (Value.ref 153) 423 424) ::
    (nat_lit 155, kfn 28 (Value.str kM3 356) 154) ::
    (nat_lit 159, kcod 29 426 189 1 3 (Value.ref 156) (Value.ref 157) (Value.none) (Value.none) (Value.none) (Value.ref 158) 429 430) ::
    (nat_lit 160, kfn 29 (Value.str kM3 356) 159) :: []
set_option maxRecDepth 100000 in
noncomputable def kk : Params → Frag := fun P =>
   (fun (n2 : Str) (b2 : List Stmt) (p2 : Arguments) (s2 : Scope) (n3 : Str) (b3 : List Stmt) (p3 : Arguments) (s3 : Scope) (n4 : Str) (b4 : List Stmt) (p4 : Arguments) (s4 : Scope) (n5 : Str) (b5 : List Stmt) (p5 : Arguments) (s5 : Scope) (n6 : Str) (b6 : List Stmt) (p6 : Arguments) (s6 : Scope) (n7 : Str) (b7 : List Stmt) (p7 : Arguments) (s7 : Scope) (n9 : Str) (b9 : List Stmt) (p9 : Arguments) (s9 : Scope) (n10 : Str) (b10 : List Stmt) (p10 : Arguments) (s10 : Scope) (n11 : Str) (b11 : List Stmt) (p11 : Arguments) (s11 : Scope) (n12 : Str) (b12 : List Stmt) (p12 : Arguments) (s12 : Scope) (n13 : Str) (b13 : List Stmt) (p13 : Arguments) (s13 : Scope) (n14 : Str) (b14 : List Stmt) (p14 : Arguments) (s14 : Scope) (n19 : Str) (b19 : List Stmt) (p19 : Arguments) (s19 : Scope) (n20 : Str) (b20 : List Stmt) (p20 : Arguments) (s20 : Scope) (n22 : Str) (b22 : List Stmt) (p22 : Arguments) (s22 : Scope) (n23 : Str) (b23 : List Stmt) (p23 : Arguments) (s23 : Scope) (n24 : Str) (b24 : List Stmt) (p24 : Arguments) (s24 : Scope) (n25 : Str) (b25 : List Stmt) (p25 : Arguments) (s25 : Scope) (n26 : Str) (b26 : List Stmt) (p26 : Arguments) (s26 : Scope) (n27 : Str) (b27 : List Stmt) (p27 : Arguments) (s27 : Scope) (n28 : Str) (b28 : List Stmt) (p28 : Arguments) (s28 : Scope) (n29 : Str) (b29 : List Stmt) (p29 : Arguments) (s29 : Scope) (_ : kN (kst 2) = n2) (_ : kB (kst 2) = b2) (_ : kP (kst 2) = p2) (_ : kS (kst 2) = s2) (_ : kN (kst 3) = n3) (_ : kB (kst 3) = b3) (_ : kP (kst 3) = p3) (_ : kS (kst 3) = s3) (_ : kN (kst 4) = n4) (_ : kB (kst 4) = b4) (_ : kP (kst 4) = p4) (_ : kS (kst 4) = s4) (_ : kN (kst 5) = n5) (_ : kB (kst 5) = b5) (_ : kP (kst 5) = p5) (_ : kS (kst 5) = s5) (_ : kN (kst 6) = n6) (_ : kB (kst 6) = b6) (_ : kP (kst 6) = p6) (_ : kS (kst 6) = s6) (_ : kN (kst 7) = n7) (_ : kB (kst 7) = b7) (_ : kP (kst 7) = p7) (_ : kS (kst 7) = s7) (_ : kN (kst 9) = n9) (_ : kB (kst 9) = b9) (_ : kP (kst 9) = p9) (_ : kS (kst 9) = s9) (_ : kN (kst 10) = n10) (_ : kB (kst 10) = b10) (_ : kP (kst 10) = p10) (_ : kS (kst 10) = s10) (_ : kN (kst 11) = n11) (_ : kB (kst 11) = b11) (_ : kP (kst 11) = p11) (_ : kS (kst 11) = s11) (_ : kN (kst 12) = n12) (_ : kB (kst 12) = b12) (_ : kP (kst 12) = p12) (_ : kS (kst 12) = s12) (_ : kN (kst 13) = n13) (_ : kB (kst 13) = b13) (_ : kP (kst 13) = p13) (_ : kS (kst 13) = s13) (_ : kN (kst 14) = n14) (_ : kB (kst 14) = b14) (_ : kP (kst 14) = p14) (_ : kS (kst 14) = s14) (_ : kN (kst 19) = n19) (_ : kB (kst 19) = b19) (_ : kP (kst 19) = p19) (_ : kS (kst 19) = s19) (_ : kN (kst 20) = n20) (_ : kB (kst 20) = b20) (_ : kP (kst 20) = p20) (_ : kS (kst 20) = s20) (_ : kN (kst 22) = n22) (_ : kB (kst 22) = b22) (_ : kP (kst 22) = p22) (_ : kS (kst 22) = s22) (_ : kN (kst 23) = n23) (_ : kB (kst 23) = b23) (_ : kP (kst 23) = p23) (_ : kS (kst 23) = s23) (_ : kN (kst 24) = n24) (_ : kB (kst 24) = b24) (_ : kP (kst 24) = p24) (_ : kS (kst 24) = s24) (_ : kN (kst 25) = n25) (_ : kB (kst 25) = b25) (_ : kP (kst 25) = p25) (_ : kS (kst 25) = s25) (_ : kN (kst 26) = n26) (_ : kB (kst 26) = b26) (_ : kP (kst 26) = p26) (_ : kS (kst 26) = s26) (_ : kN (kst 27) = n27) (_ : kB (kst 27) = b27) (_ : kP (kst 27) = p27) (_ : kS (kst 27) = s27) (_ : kN (kst 28) = n28) (_ : kB (kst 28) = b28) (_ : kP (kst 28) = p28) (_ : kS (kst 28) = s28) (_ : kN (kst 29) = n29) (_ : kB (kst 29) = b29) (_ : kP (kst 29) = p29) (_ : kS (kst 29) = s29) =>
   ((nat_lit 3, { cls := Value.type "dict", data := Data.dict #[{ hash := PyData.keyHash P (Str.ofString "__name__"), key := Value.str (Str.ofString "__name__") 165, val := Value.str (Str.ofString "law_tc0016_01") 356 }, { hash := PyData.keyHash P (Str.ofString "__doc__"), key := Value.str (Str.ofString "__doc__") 166, val := Value.none }, { hash := PyData.keyHash P (Str.ofString "__package__"), key := Value.str (Str.ofString "__package__") 167, val := Value.none }, { hash := PyData.keyHash P (Str.ofString "__loader__"), key := Value.str (Str.ofString "__loader__") 168, val := Value.builtin "__main__.__loader__#opaque" }, { hash := PyData.keyHash P (Str.ofString "__spec__"), key := Value.str (Str.ofString "__spec__") 169, val := Value.none }, { hash := PyData.keyHash P (Str.ofString "__annotations__"), key := Value.str (Str.ofString "__annotations__") 170, val := Value.ref 6 }, { hash := PyData.keyHash P (Str.ofString "__builtins__"), key := Value.str (Str.ofString "__builtins__") 171, val := Value.ref 4 }, { hash := PyData.keyHash P (Str.ofString "__file__"), key := Value.str (Str.ofString "__file__") 173, val := Value.str (Str.ofString "/claim/cut.py") 172 }, { hash := PyData.keyHash P (Str.ofString "__cached__"), key := Value.str (Str.ofString "__cached__") 174, val := Value.none }, { hash := PyData.keyHash P (Str.ofString "_DIV_LIMIT"), key := Value.str (Str.ofString "_DIV_LIMIT") 190, val := Value.int 4000 189 }, { hash := PyData.keyHash P (Str.ofString "_div2n1n"), key := Value.str (Str.ofString "_div2n1n") 207, val := Value.ref 21 }, { hash := PyData.keyHash P (Str.ofString "_div3n2n"), key := Value.str (Str.ofString "_div3n2n") 221, val := Value.ref 28 }, { hash := PyData.keyHash P (Str.ofString "_int2digits"), key := Value.str (Str.ofString "_int2digits") 232, val := Value.ref 35 }, { hash := PyData.keyHash P (Str.ofString "_digits2int"), key := Value.str (Str.ofString "_digits2int") 243, val := Value.ref 42 }, { hash := PyData.keyHash P (Str.ofString "_divmod_pos"), key := Value.str (Str.ofString "_divmod_pos") 258, val := Value.ref 49 }, { hash := PyData.keyHash P (Str.ofString "int_divmod"), key := Value.str (Str.ofString "int_divmod") 268, val := Value.ref 56 }, { hash := PyData.keyHash P (Str.ofString "add"), key := Value.str (Str.ofString "add") 278, val := Value.ref 63 }, { hash := PyData.keyHash P (Str.ofString "mul"), key := Value.str (Str.ofString "mul") 286, val := Value.ref 70 }, { hash := PyData.keyHash P (Str.ofString "sub"), key := Value.str (Str.ofString "sub") 294, val := Value.ref 77 }, { hash := PyData.keyHash P (Str.ofString "getitem"), key := Value.str (Str.ofString "getitem") 302, val := Value.ref 84 }, { hash := PyData.keyHash P (Str.ofString "setitem"), key := Value.str (Str.ofString "setitem") 311, val := Value.ref 91 }, { hash := PyData.keyHash P (Str.ofString "ipow"), key := Value.str (Str.ofString "ipow") 319, val := Value.ref 98 }, { hash := PyData.keyHash P (Str.ofString "_MAX_STRING_SIZE"), key := Value.str (Str.ofString "_MAX_STRING_SIZE") 323, val := Value.int 40 322 }, { hash := PyData.keyHash P (Str.ofString "_MOVE_COST"), key := Value.str (Str.ofString "_MOVE_COST") 325, val := Value.int 2 324 }, { hash := PyData.keyHash P (Str.ofString "_CASE_COST"), key := Value.str (Str.ofString "_CASE_COST") 327, val := Value.int 1 326 }, { hash := PyData.keyHash P (Str.ofString "_substitution_cost"), key := Value.str (Str.ofString "_substitution_cost") 335, val := Value.ref 105 }, { hash := PyData.keyHash P (Str.ofString "_levenshtein_distance"), key := Value.str (Str.ofString "_levenshtein_distance") 355, val := Value.ref 112 }, { hash := PyData.keyHash P (Str.ofString "_law_heaps"), key := Value.str (Str.ofString "_law_heaps") 363, val := Value.ref 117 }, { hash := PyData.keyHash P (Str.ofString "_law_word"), key := Value.str (Str.ofString "_law_word") 369, val := Value.ref 122 }, { hash := PyData.keyHash P (Str.ofString "_law_told"), key := Value.str (Str.ofString "_law_told") 379, val := Value.ref 129 }, { hash := PyData.keyHash P (Str.ofString "_law_shares"), key := Value.str (Str.ofString "_law_shares") 395, val := Value.ref 136 }, { hash := PyData.keyHash P (Str.ofString "_law_turned"), key := Value.str (Str.ofString "_law_turned") 406, val := Value.ref 143 }, { hash := PyData.keyHash P (Str.ofString "_law_butterflies"), key := Value.str (Str.ofString "_law_butterflies") 419, val := Value.ref 150 }, { hash := PyData.keyHash P (Str.ofString "_law_shared"), key := Value.str (Str.ofString "_law_shared") 425, val := Value.ref 155 }, { hash := PyData.keyHash P (Str.ofString "law"), key := Value.str (Str.ofString "law") 431, val := Value.ref 160 }] 35 }) ::
    (nat_lit 20, { cls := Value.type "code", data := Data.fields #[Value.str (Str.ofString "_div2n1n") 191, Value.str (Str.ofString "_div2n1n") 192, Value.str (Str.ofString "/claim/cut.py") 193, Value.int 3 0, Value.int 3 0, Value.int 0 0, Value.int 0 0, Value.int 3 0, Value.ref 15, Value.bool true, Value.int 181 0, Value.ref 16, Value.none, Value.ref 17, Value.ref 18, Value.ref 19, Value.int 205 0, Value.int 3 0, Value.str (Str.ofString "/claim/cut.py") 206] }) ::
    (nat_lit 21, { cls := Value.type "function", data := Data.func { name := n2, qualname := n2, params := p2, body := .stmts b2, scope := s2, globals := 3, closure := [], defaults := Value.none, kwdefaults := Value.none, pyModule := Value.str (Str.ofString "cpy313._pylong") 187, code := Value.ref 20 } }) ::
    (nat_lit 27, { cls := Value.type "code", data := Data.fields #[Value.str (Str.ofString "_div3n2n") 208, Value.str (Str.ofString "_div3n2n") 209, Value.str (Str.ofString "/claim/cut.py") 210, Value.int 19 0, Value.int 6 0, Value.int 0 0, Value.int 0 0, Value.int 3 0, Value.ref 22, Value.bool true, Value.int 181 0, Value.ref 23, Value.none, Value.ref 24, Value.ref 25, Value.ref 26, Value.int 219 0, Value.int 19 0, Value.str (Str.ofString "/claim/cut.py") 220] }) ::
    (nat_lit 28, { cls := Value.type "function", data := Data.func { name := n3, qualname := n3, params := p3, body := .stmts b3, scope := s3, globals := 3, closure := [], defaults := Value.none, kwdefaults := Value.none, pyModule := Value.str (Str.ofString "cpy313._pylong") 187, code := Value.ref 27 } }) ::
    (nat_lit 34, { cls := Value.type "code", data := Data.fields #[Value.str (Str.ofString "_int2digits") 222, Value.str (Str.ofString "_int2digits") 223, Value.str (Str.ofString "/claim/cut.py") 224, Value.int 29 0, Value.int 2 0, Value.int 0 0, Value.int 0 0, Value.int 3 0, Value.ref 29, Value.bool true, Value.int 181 0, Value.ref 30, Value.none, Value.ref 31, Value.ref 32, Value.ref 33, Value.int 230 0, Value.int 29 0, Value.str (Str.ofString "/claim/cut.py") 231] }) ::
    (nat_lit 35, { cls := Value.type "function", data := Data.func { name := n4, qualname := n4, params := p4, body := .stmts b4, scope := s4, globals := 3, closure := [], defaults := Value.none, kwdefaults := Value.none, pyModule := Value.str (Str.ofString "cpy313._pylong") 187, code := Value.ref 34 } }) ::
    (nat_lit 41, { cls := Value.type "code", data := Data.fields #[Value.str (Str.ofString "_digits2int") 233, Value.str (Str.ofString "_digits2int") 234, Value.str (Str.ofString "/claim/cut.py") 235, Value.int 45 0, Value.int 2 0, Value.int 0 0, Value.int 0 0, Value.int 3 0, Value.ref 36, Value.bool true, Value.int 181 0, Value.ref 37, Value.none, Value.ref 38, Value.ref 39, Value.ref 40, Value.int 241 0, Value.int 45 0, Value.str (Str.ofString "/claim/cut.py") 242] }) ::
    (nat_lit 42, { cls := Value.type "function", data := Data.func { name := n5, qualname := n5, params := p5, body := .stmts b5, scope := s5, globals := 3, closure := [], defaults := Value.none, kwdefaults := Value.none, pyModule := Value.str (Str.ofString "cpy313._pylong") 187, code := Value.ref 41 } }) ::
    (nat_lit 48, { cls := Value.type "code", data := Data.fields #[Value.str (Str.ofString "_divmod_pos") 244, Value.str (Str.ofString "_divmod_pos") 245, Value.str (Str.ofString "/claim/cut.py") 246, Value.int 54 0, Value.int 2 0, Value.int 0 0, Value.int 0 0, Value.int 3 0, Value.ref 43, Value.bool true, Value.int 181 0, Value.ref 44, Value.none, Value.ref 45, Value.ref 46, Value.ref 47, Value.int 256 0, Value.int 54 0, Value.str (Str.ofString "/claim/cut.py") 257] }) ::
    (nat_lit 49, { cls := Value.type "function", data := Data.func { name := n6, qualname := n6, params := p6, body := .stmts b6, scope := s6, globals := 3, closure := [], defaults := Value.none, kwdefaults := Value.none, pyModule := Value.str (Str.ofString "cpy313._pylong") 187, code := Value.ref 48 } }) ::
    (nat_lit 55, { cls := Value.type "code", data := Data.fields #[Value.str (Str.ofString "int_divmod") 259, Value.str (Str.ofString "int_divmod") 260, Value.str (Str.ofString "/claim/cut.py") 261, Value.int 65 0, Value.int 2 0, Value.int 0 0, Value.int 0 0, Value.int 3 0, Value.ref 50, Value.bool true, Value.int 181 0, Value.ref 51, Value.none, Value.ref 52, Value.ref 53, Value.ref 54, Value.int 266 0, Value.int 65 0, Value.str (Str.ofString "/claim/cut.py") 267] }) ::
    (nat_lit 56, { cls := Value.type "function", data := Data.func { name := n7, qualname := n7, params := p7, body := .stmts b7, scope := s7, globals := 3, closure := [], defaults := Value.none, kwdefaults := Value.none, pyModule := Value.str (Str.ofString "cpy313._pylong") 187, code := Value.ref 55 } }) ::
    (nat_lit 62, { cls := Value.type "code", data := Data.fields #[Value.str (Str.ofString "add") 271, Value.str (Str.ofString "add") 272, Value.str (Str.ofString "/claim/cut.py") 273, Value.int 77 0, Value.int 2 0, Value.int 0 0, Value.int 0 0, Value.int 3 0, Value.ref 57, Value.bool true, Value.int 181 0, Value.ref 58, Value.none, Value.ref 59, Value.ref 60, Value.ref 61, Value.int 276 0, Value.int 77 0, Value.str (Str.ofString "/claim/cut.py") 277] }) ::
    (nat_lit 63, { cls := Value.type "function", data := Data.func { name := n9, qualname := n9, params := p9, body := .stmts b9, scope := s9, globals := 3, closure := [], defaults := Value.none, kwdefaults := Value.none, pyModule := Value.str (Str.ofString "cpy313.operator") 269, code := Value.ref 62 } }) ::
    (nat_lit 69, { cls := Value.type "code", data := Data.fields #[Value.str (Str.ofString "mul") 279, Value.str (Str.ofString "mul") 280, Value.str (Str.ofString "/claim/cut.py") 281, Value.int 79 0, Value.int 2 0, Value.int 0 0, Value.int 0 0, Value.int 3 0, Value.ref 64, Value.bool true, Value.int 181 0, Value.ref 65, Value.none, Value.ref 66, Value.ref 67, Value.ref 68, Value.int 284 0, Value.int 79 0, Value.str (Str.ofString "/claim/cut.py") 285] }) ::
    (nat_lit 70, { cls := Value.type "function", data := Data.func { name := n10, qualname := n10, params := p10, body := .stmts b10, scope := s10, globals := 3, closure := [], defaults := Value.none, kwdefaults := Value.none, pyModule := Value.str (Str.ofString "cpy313.operator") 269, code := Value.ref 69 } }) ::
    (nat_lit 76, { cls := Value.type "code", data := Data.fields #[Value.str (Str.ofString "sub") 287, Value.str (Str.ofString "sub") 288, Value.str (Str.ofString "/claim/cut.py") 289, Value.int 81 0, Value.int 2 0, Value.int 0 0, Value.int 0 0, Value.int 3 0, Value.ref 71, Value.bool true, Value.int 181 0, Value.ref 72, Value.none, Value.ref 73, Value.ref 74, Value.ref 75, Value.int 292 0, Value.int 81 0, Value.str (Str.ofString "/claim/cut.py") 293] }) ::
    (nat_lit 77, { cls := Value.type "function", data := Data.func { name := n11, qualname := n11, params := p11, body := .stmts b11, scope := s11, globals := 3, closure := [], defaults := Value.none, kwdefaults := Value.none, pyModule := Value.str (Str.ofString "cpy313.operator") 269, code := Value.ref 76 } }) ::
    (nat_lit 83, { cls := Value.type "code", data := Data.fields #[Value.str (Str.ofString "getitem") 295, Value.str (Str.ofString "getitem") 296, Value.str (Str.ofString "/claim/cut.py") 297, Value.int 83 0, Value.int 2 0, Value.int 0 0, Value.int 0 0, Value.int 3 0, Value.ref 78, Value.bool true, Value.int 181 0, Value.ref 79, Value.none, Value.ref 80, Value.ref 81, Value.ref 82, Value.int 300 0, Value.int 83 0, Value.str (Str.ofString "/claim/cut.py") 301] }) ::
    (nat_lit 84, { cls := Value.type "function", data := Data.func { name := n12, qualname := n12, params := p12, body := .stmts b12, scope := s12, globals := 3, closure := [], defaults := Value.none, kwdefaults := Value.none, pyModule := Value.str (Str.ofString "cpy313.operator") 269, code := Value.ref 83 } }) ::
    (nat_lit 90, { cls := Value.type "code", data := Data.fields #[Value.str (Str.ofString "setitem") 303, Value.str (Str.ofString "setitem") 304, Value.str (Str.ofString "/claim/cut.py") 305, Value.int 85 0, Value.int 3 0, Value.int 0 0, Value.int 0 0, Value.int 3 0, Value.ref 85, Value.bool true, Value.int 181 0, Value.ref 86, Value.none, Value.ref 87, Value.ref 88, Value.ref 89, Value.int 309 0, Value.int 85 0, Value.str (Str.ofString "/claim/cut.py") 310] }) ::
    (nat_lit 91, { cls := Value.type "function", data := Data.func { name := n13, qualname := n13, params := p13, body := .stmts b13, scope := s13, globals := 3, closure := [], defaults := Value.none, kwdefaults := Value.none, pyModule := Value.str (Str.ofString "cpy313.operator") 269, code := Value.ref 90 } }) ::
    (nat_lit 97, { cls := Value.type "code", data := Data.fields #[Value.str (Str.ofString "ipow") 312, Value.str (Str.ofString "ipow") 313, Value.str (Str.ofString "/claim/cut.py") 314, Value.int 87 0, Value.int 2 0, Value.int 0 0, Value.int 0 0, Value.int 3 0, Value.ref 92, Value.bool true, Value.int 181 0, Value.ref 93, Value.none, Value.ref 94, Value.ref 95, Value.ref 96, Value.int 317 0, Value.int 87 0, Value.str (Str.ofString "/claim/cut.py") 318] }) ::
    (nat_lit 98, { cls := Value.type "function", data := Data.func { name := n14, qualname := n14, params := p14, body := .stmts b14, scope := s14, globals := 3, closure := [], defaults := Value.none, kwdefaults := Value.none, pyModule := Value.str (Str.ofString "cpy313.operator") 269, code := Value.ref 97 } }) ::
    (nat_lit 104, { cls := Value.type "code", data := Data.fields #[Value.str (Str.ofString "_substitution_cost") 328, Value.str (Str.ofString "_substitution_cost") 329, Value.str (Str.ofString "/claim/cut.py") 330, Value.int 94 0, Value.int 2 0, Value.int 0 0, Value.int 0 0, Value.int 3 0, Value.ref 99, Value.bool true, Value.int 181 0, Value.ref 100, Value.none, Value.ref 101, Value.ref 102, Value.ref 103, Value.int 333 0, Value.int 94 0, Value.str (Str.ofString "/claim/cut.py") 334] }) ::
    (nat_lit 105, { cls := Value.type "function", data := Data.func { name := n19, qualname := n19, params := p19, body := .stmts b19, scope := s19, globals := 3, closure := [], defaults := Value.none, kwdefaults := Value.none, pyModule := Value.str (Str.ofString "cpy313.traceback") 320, code := Value.ref 104 } }) ::
    (nat_lit 111, { cls := Value.type "code", data := Data.fields #[Value.str (Str.ofString "_levenshtein_distance") 336, Value.str (Str.ofString "_levenshtein_distance") 337, Value.str (Str.ofString "/claim/cut.py") 338, Value.int 100 0, Value.int 3 0, Value.int 0 0, Value.int 0 0, Value.int 3 0, Value.ref 106, Value.bool true, Value.int 181 0, Value.ref 107, Value.none, Value.ref 108, Value.ref 109, Value.ref 110, Value.int 353 0, Value.int 100 0, Value.str (Str.ofString "/claim/cut.py") 354] }) ::
    (nat_lit 112, { cls := Value.type "function", data := Data.func { name := n20, qualname := n20, params := p20, body := .stmts b20, scope := s20, globals := 3, closure := [], defaults := Value.none, kwdefaults := Value.none, pyModule := Value.str (Str.ofString "cpy313.traceback") 320, code := Value.ref 111 } }) ::
    (nat_lit 116, { cls := Value.type "code", data := Data.fields #[Value.str (Str.ofString "_law_heaps") 358, Value.str (Str.ofString "_law_heaps") 359, Value.str (Str.ofString "/claim/cut.py") 360, Value.int 139 0, Value.int 1 0, Value.int 0 0, Value.int 0 0, Value.int 3 0, Value.ref 113, Value.bool true, Value.int 181 0, Value.ref 114, Value.none, Value.none, Value.none, Value.ref 115, Value.int 361 0, Value.int 139 0, Value.str (Str.ofString "/claim/cut.py") 362] }) ::
    (nat_lit 117, { cls := Value.type "function", data := Data.func { name := n22, qualname := n22, params := p22, body := .stmts b22, scope := s22, globals := 3, closure := [], defaults := Value.none, kwdefaults := Value.none, pyModule := Value.str (Str.ofString "law_tc0016_01") 356, code := Value.ref 116 } }) ::
    (nat_lit 121, { cls := Value.type "code", data := Data.fields #[Value.str (Str.ofString "_law_word") 364, Value.str (Str.ofString "_law_word") 365, Value.str (Str.ofString "/claim/cut.py") 366, Value.int 142 0, Value.int 2 0, Value.int 0 0, Value.int 0 0, Value.int 3 0, Value.ref 118, Value.bool true, Value.int 181 0, Value.ref 119, Value.none, Value.none, Value.none, Value.ref 120, Value.int 367 0, Value.int 142 0, Value.str (Str.ofString "/claim/cut.py") 368] }) ::
    (nat_lit 122, { cls := Value.type "function", data := Data.func { name := n23, qualname := n23, params := p23, body := .stmts b23, scope := s23, globals := 3, closure := [], defaults := Value.none, kwdefaults := Value.none, pyModule := Value.str (Str.ofString "law_tc0016_01") 356, code := Value.ref 121 } }) ::
    (nat_lit 128, { cls := Value.type "code", data := Data.fields #[Value.str (Str.ofString "_law_told") 370, Value.str (Str.ofString "_law_told") 371, Value.str (Str.ofString "/claim/cut.py") 372, Value.int 146 0, Value.int 4 0, Value.int 0 0, Value.int 0 0, Value.int 3 0, Value.ref 123, Value.bool true, Value.int 181 0, Value.ref 124, Value.none, Value.ref 125, Value.ref 126, Value.ref 127, Value.int 377 0, Value.int 146 0, Value.str (Str.ofString "/claim/cut.py") 378] }) ::
    (nat_lit 129, { cls := Value.type "function", data := Data.func { name := n24, qualname := n24, params := p24, body := .stmts b24, scope := s24, globals := 3, closure := [], defaults := Value.none, kwdefaults := Value.none, pyModule := Value.str (Str.ofString "law_tc0016_01") 356, code := Value.ref 128 } }) ::
    (nat_lit 135, { cls := Value.type "code", data := Data.fields #[Value.str (Str.ofString "_law_shares") 380, Value.str (Str.ofString "_law_shares") 381, Value.str (Str.ofString "/claim/cut.py") 382, Value.int 154 0, Value.int 3 0, Value.int 0 0, Value.int 0 0, Value.int 3 0, Value.ref 130, Value.bool true, Value.int 181 0, Value.ref 131, Value.none, Value.ref 132, Value.ref 133, Value.ref 134, Value.int 393 0, Value.int 154 0, Value.str (Str.ofString "/claim/cut.py") 394] }) ::
    (nat_lit 136, { cls := Value.type "function", data := Data.func { name := n25, qualname := n25, params := p25, body := .stmts b25, scope := s25, globals := 3, closure := [], defaults := Value.none, kwdefaults := Value.none, pyModule := Value.str (Str.ofString "law_tc0016_01") 356, code := Value.ref 135 } }) ::
    (nat_lit 142, { cls := Value.type "code", data := Data.fields #[Value.str (Str.ofString "_law_turned") 396, Value.str (Str.ofString "_law_turned") 397, Value.str (Str.ofString "/claim/cut.py") 398, Value.int 168 0, Value.int 2 0, Value.int 0 0, Value.int 0 0, Value.int 3 0, Value.ref 137, Value.bool true, Value.int 181 0, Value.ref 138, Value.none, Value.ref 139, Value.ref 140, Value.ref 141, Value.int 404 0, Value.int 168 0, Value.str (Str.ofString "/claim/cut.py") 405] }) ::
    (nat_lit 143, { cls := Value.type "function", data := Data.func { name := n26, qualname := n26, params := p26, body := .stmts b26, scope := s26, globals := 3, closure := [], defaults := Value.none, kwdefaults := Value.none, pyModule := Value.str (Str.ofString "law_tc0016_01") 356, code := Value.ref 142 } }) ::
    (nat_lit 149, { cls := Value.type "code", data := Data.fields #[Value.str (Str.ofString "_law_butterflies") 407, Value.str (Str.ofString "_law_butterflies") 408, Value.str (Str.ofString "/claim/cut.py") 409, Value.int 174 0, Value.int 2 0, Value.int 0 0, Value.int 0 0, Value.int 3 0, Value.ref 144, Value.bool true, Value.int 181 0, Value.ref 145, Value.none, Value.ref 146, Value.ref 147, Value.ref 148, Value.int 417 0, Value.int 174 0, Value.str (Str.ofString "/claim/cut.py") 418] }) ::
    (nat_lit 150, { cls := Value.type "function", data := Data.func { name := n27, qualname := n27, params := p27, body := .stmts b27, scope := s27, globals := 3, closure := [], defaults := Value.none, kwdefaults := Value.none, pyModule := Value.str (Str.ofString "law_tc0016_01") 356, code := Value.ref 149 } }) ::
    (nat_lit 154, { cls := Value.type "code", data := Data.fields #[Value.str (Str.ofString "_law_shared") 420, Value.str (Str.ofString "_law_shared") 421, Value.str (Str.ofString "/claim/cut.py") 422, Value.int 187 0, Value.int 2 0, Value.int 0 0, Value.int 0 0, Value.int 3 0, Value.ref 151, Value.bool true, Value.int 181 0, Value.ref 152, Value.none, Value.none, Value.none, Value.ref 153, Value.int 423 0, Value.int 187 0, Value.str (Str.ofString "/claim/cut.py") 424] }) ::
    (nat_lit 155, { cls := Value.type "function", data := Data.func { name := n28, qualname := n28, params := p28, body := .stmts b28, scope := s28, globals := 3, closure := [], defaults := Value.none, kwdefaults := Value.none, pyModule := Value.str (Str.ofString "law_tc0016_01") 356, code := Value.ref 154 } }) ::
    (nat_lit 159, { cls := Value.type "code", data := Data.fields #[Value.str (Str.ofString "law") 426, Value.str (Str.ofString "law") 427, Value.str (Str.ofString "/claim/cut.py") 428, Value.int 189 0, Value.int 1 0, Value.int 0 0, Value.int 0 0, Value.int 3 0, Value.ref 156, Value.bool true, Value.int 181 0, Value.ref 157, Value.none, Value.none, Value.none, Value.ref 158, Value.int 429 0, Value.int 189 0, Value.str (Str.ofString "/claim/cut.py") 430] }) ::
    (nat_lit 160, { cls := Value.type "function", data := Data.func { name := n29, qualname := n29, params := p29, body := .stmts b29, scope := s29, globals := 3, closure := [], defaults := Value.none, kwdefaults := Value.none, pyModule := Value.str (Str.ofString "law_tc0016_01") 356, code := Value.ref 159 } }) :: []) : _)
   _ _ _ _ _ _ _ _ _ _ _ _ _ _ _ _ _ _ _ _ _ _ _ _ _ _ _ _ _ _ _ _ _ _ _ _ _ _ _ _ _ _ _ _ _ _ _ _ _ _ _ _ _ _ _ _ _ _ _ _ _ _ _ _ _ _ _ _ _ _ _ _ _ _ _ _ _ _ _ _ _ _ _ _ _ _ _ _
   (by conv => lhs; whnf) (by conv => lhs; whnf) (by conv => lhs; whnf) (by conv => lhs; whnf) (by conv => lhs; whnf) (by conv => lhs; whnf) (by conv => lhs; whnf) (by conv => lhs; whnf) (by conv => lhs; whnf) (by conv => lhs; whnf) (by conv => lhs; whnf) (by conv => lhs; whnf) (by conv => lhs; whnf) (by conv => lhs; whnf) (by conv => lhs; whnf) (by conv => lhs; whnf) (by conv => lhs; whnf) (by conv => lhs; whnf) (by conv => lhs; whnf) (by conv => lhs; whnf) (by conv => lhs; whnf) (by conv => lhs; whnf) (by conv => lhs; whnf) (by conv => lhs; whnf) (by conv => lhs; whnf) (by conv => lhs; whnf) (by conv => lhs; whnf) (by conv => lhs; whnf) (by conv => lhs; whnf) (by conv => lhs; whnf) (by conv => lhs; whnf) (by conv => lhs; whnf) (by conv => lhs; whnf) (by conv => lhs; whnf) (by conv => lhs; whnf) (by conv => lhs; whnf) (by conv => lhs; whnf) (by conv => lhs; whnf) (by conv => lhs; whnf) (by conv => lhs; whnf) (by conv => lhs; whnf) (by conv => lhs; whnf) (by conv => lhs; whnf) (by conv => lhs; whnf) (by conv => lhs; whnf) (by conv => lhs; whnf) (by conv => lhs; whnf) (by conv => lhs; whnf) (by conv => lhs; whnf) (by conv => lhs; whnf) (by conv => lhs; whnf) (by conv => lhs; whnf) (by conv => lhs; whnf) (by conv => lhs; whnf) (by conv => lhs; whnf) (by conv => lhs; whnf) (by conv => lhs; whnf) (by conv => lhs; whnf) (by conv => lhs; whnf) (by conv => lhs; whnf) (by conv => lhs; whnf) (by conv => lhs; whnf) (by conv => lhs; whnf) (by conv => lhs; whnf) (by conv => lhs; whnf) (by conv => lhs; whnf) (by conv => lhs; whnf) (by conv => lhs; whnf) (by conv => lhs; whnf) (by conv => lhs; whnf) (by conv => lhs; whnf) (by conv => lhs; whnf) (by conv => lhs; whnf) (by conv => lhs; whnf) (by conv => lhs; whnf) (by conv => lhs; whnf) (by conv => lhs; whnf) (by conv => lhs; whnf) (by conv => lhs; whnf) (by conv => lhs; whnf) (by conv => lhs; whnf) (by conv => lhs; whnf) (by conv => lhs; whnf) (by conv => lhs; whnf) (by conv => lhs; whnf) (by conv => lhs; whnf) (by conv => lhs; whnf) (by conv => lhs; whnf)
theorem kk_eq : kk = kq := rfl
theorem kk_in {P : Params} {h : Heap} (X : (kq P).In h) : (kk P).In h := by
  rw [kk_eq]
  exact X

-- common
-- plain
theorem all_ne {d e : Addr} {l : List (Addr × Obj)} (h : ∀ p ∈ l, p.1 < e) (k : @LE.le Nat _ e d) : ∀ p ∈ l, p.1 ≠ d := fun p hp => Nat.ne_of_lt (Nat.lt_of_lt_of_le (h p hp) k)
theorem all_neA {d e : Addr} {l : List (Addr × Obj)} (h : AllLt e l) (k : @LE.le Nat _ e d) : ∀ p ∈ l, p.1 ≠ d := all_ne (ktn_ltOf h) k
theorem all_neO {d : Addr} : ∀ {l : List (Addr × Obj)}, LCg.Off1 d l → ∀ p ∈ l, p.1 ≠ d
  | [], _, _, hp => nomatch hp
  | q :: r, h, p, hp => by
    rcases List.mem_cons.mp hp with rfl | hp
    · exact h.1
    · exact all_neO h.2 p hp
theorem news_sub {h₀ h : Heap} {L : Addr} {news news' : List (Addr × Obj)} (N : News h₀ L h news') (hs : ∀ p ∈ news, p ∈ news') : News h₀ L h news := fun p hp => N p (hs p hp)
-- a frame's map: the names fx with their values, the names fr with whatever, the rest as in m₀
noncomputable def frm (u : Str → Option Value) (fr : List Str) (m₀ : Str → Option Value) : List (Str × Value) → Str → Option Value
  | [] => fun z => if fr.contains z then u z else m₀ z
  | q :: r => fun z => if z = q.1 then some q.2 else frm u fr m₀ r z
theorem frm_at {c m₀ : Str → Option Value} {fr : List Str} {z : Str} : ∀ {fx : List (Str × Value)}, (∀ q ∈ fx, c q.1 = some q.2) → (fr.contains z = false → (∀ q ∈ fx, z ≠ q.1) → c z = m₀ z) → c z = frm c fr m₀ fx z
  | [], _, h2 => by
    show c z = if fr.contains z then c z else m₀ z
    split
    · rfl
    · rename_i h
      exact h2 (by simpa using h) (by intro q hq; cases hq)
  | q :: r, h1, h2 => by
    show c z = if z = q.1 then some q.2 else frm c fr m₀ r z
    split
    · rename_i h
      rw [h]
      exact h1 q (.head _)
    · rename_i h
      exact frm_at (fun q hq => h1 q (.tail _ hq)) fun h3 h4 => h2 h3 (List.forall_mem_cons.mpr ⟨h, h4⟩)
theorem frm_eq {c m₀ : Str → Option Value} {fr : List Str} {fx : List (Str × Value)} (h1 : ∀ q ∈ fx, c q.1 = some q.2) (h2 : ∀ z, fr.contains z = false → (∀ q ∈ fx, z ≠ q.1) → c z = m₀ z) : c = frm c fr m₀ fx := by
  funext z
  exact frm_at h1 (h2 z)

theorem ne_fr {fr : List Str} {z x : Str} (h1 : fr.contains z = false) (hx : fr.contains x = true) : z ≠ x := fun e => by
  rw [e, hx] at h1
  exact Bool.noConfusion h1
theorem fr_sub {z : Str} {fr fr' : List Str} (h1 : fr.contains z = false) (hs : fr'.all (fun x => fr.contains x) = true) : fr'.contains z = false := by
  rw [← Bool.not_eq_true]
  intro h
  have := List.all_eq_true.mp hs z (List.contains_iff_mem.mp h)
  rw [h1] at this
  exact Bool.noConfusion this
theorem frm_rest {u m₀ : Str → Option Value} {fr : List Str} {z : Str} (h1 : fr.contains z = false) : ∀ {fx : List (Str × Value)}, (∀ q ∈ fx, z ≠ q.1) → frm u fr m₀ fx z = m₀ z
  | [], _ => by
    show (if fr.contains z then u z else m₀ z) = m₀ z
    rw [if_neg (by rw [h1]; exact Bool.false_ne_true)]
  | q :: r, h2 => (if_neg (h2 q (.head _))).trans (frm_rest h1 fun p hp => h2 p (.tail _ hp))
theorem ints_rev {vs : List Value} {ns : List Int} (h : IntsAre vs ns) : IntsAre vs.reverse ns.reverse := by
  induction h with
  | nil => exact .nil
  | cons i t _ ih =>
    rw [List.reverse_cons, List.reverse_cons]
    exact IntsAre.append ih (.cons i t .nil)

noncomputable def LoopEnd {ε : Type} (h₀ : Heap) (L : Addr) (fr : List Str) (m₀ : Str → Option Value) (fx : ε → List (Str × Value)) (led : ε → List (Addr × Obj)) (P : ε → Prop) (own : List (Addr × Obj)) (s₁ : Shared) (Q : Flow → Shared → Prop) (f : Flow) (s₂ : Shared) : Prop :=
  match f with
  | .ret v => Q (.ret v) s₂
  | .brk => Q .next s₂
  | _ => ∃ (e : ε) (h' : Heap) (tk : Nat) (c : Str → Option Value) (news' : List (Addr × Obj)), P e ∧ s₂ = { s₁ with heap := h', toks := tk } ∧ Fr h₀ L h' c ∧ News h₀ L h' news' ∧ (∀ q ∈ fx e, c q.1 = some q.2) ∧
      (∀ z, fr.contains z = false → (∀ q ∈ fx e, z ≠ q.1) → c z = m₀ z) ∧ (∀ p ∈ led e, p ∈ news') ∧ ∀ p ∈ own, p ∈ news'
theorem LoopEnd.next {ε : Type} {h₀ : Heap} {L : Addr} {fr : List Str} {m₀ : Str → Option Value} {fx : ε → List (Str × Value)} {led : ε → List (Addr × Obj)} {P : ε → Prop} {own : List (Addr × Obj)} {s₁ : Shared} {Q : Flow → Shared → Prop}
    {h' : Heap} {tk : Nat} {c : Str → Option Value} {news' : List (Addr × Obj)} (e : ε) (hP : P e) (F : Fr h₀ L h' c) (N : News h₀ L h' news') (h1 : ∀ q ∈ fx e, c q.1 = some q.2) (h2 : ∀ z, fr.contains z = false → (∀ q ∈ fx e, z ≠ q.1) → c z = m₀ z)
    (h3 : ∀ p ∈ led e, p ∈ news') (h4 : ∀ p ∈ own, p ∈ news') : LoopEnd h₀ L fr m₀ fx led P own s₁ Q .next { s₁ with heap := h', toks := tk } := ⟨e, h', tk, c, news', hP, rfl, F, N, h1, h2, h3, h4⟩

section
variable {prog : Program} {w : World} {A : Around} {E : Value → Shared → Prop} {s : Shared} {env : Env} {h₀ : Heap} {x : Str} {body : List Stmt} {Q : Flow → Shared → Prop}
theorem for_range {σ ε : Type} {r : Addr} {a₀ b₀ : Int} {t₀ u₀ v₀ : Tok} {n : Nat} {m₀ : Str → Option Value} (P : σ → ε → Prop) (fx : σ → ε → List (Str × Value)) (led : σ → ε → List (Addr × Obj)) (fr : List Str) (g : σ → Int → σ) (c₀ : σ) (e₀ : ε)
    (hh : A.handled = none) (hr : IsRange s.heap r a₀ b₀ 1 t₀ u₀ v₀) (hsmall : Builtin.Range.small a₀ b₀ 1 = true) (hn : Builtin.Range.rangeSize a₀ b₀ 1 = (n : Int)) (F : Fr h₀ env.locals s.heap m₀) (N : News h₀ env.locals s.heap (led c₀ e₀))
    (hP : P c₀ e₀) (hfx : ∀ q ∈ fx c₀ e₀, m₀ q.1 = some q.2) (hadr : ∀ a e, (led a e).map (·.1) = (led c₀ e₀).map (·.1))
    (turn : ∀ k t a e u h tk own, k ∈ rangeKs a₀ n → OwnOff own ((led c₀ e₀).map (·.1)) → P a e → Fr h₀ env.locals h (fun y => if y = x then some (.int k t) else frm u fr m₀ (fx a e) y) → News h₀ env.locals h (led a e ++ own) →
      wpAny (model prog w) A (execs body env) (LoopEnd h₀ env.locals fr m₀ (fx (g a k)) (led (g a k)) (P (g a k)) own { s with heap := h, toks := tk } Q) E { s with heap := h, toks := tk })
    (done : ∀ e u h tk, P ((rangeKs a₀ n).foldl g c₀) e → Fr h₀ env.locals h (frm u fr m₀ (fx ((rangeKs a₀ n).foldl g c₀) e)) → News h₀ env.locals h (led ((rangeKs a₀ n).foldl g c₀) e) → Q .next { s with heap := h, toks := tk }) :
    wpAny (model prog w) A (pyIter (.ref r)) (fun it s₂ => LoopAtV prog w A h₀ env x body Q E it s₂) E s := by
  refine iter_rangeS (σ := σ) (fun a m nx => ∃ e u, P a e ∧ m = frm u fr m₀ (fx a e) ∧ nx = led a e) g c₀ hh hr hsmall hn F N ⟨e₀, m₀, hP, frm_eq hfx (fun _ _ _ => rfl), rfl⟩ ?_ ?_
  · rintro k t a m₁ nx h tk own hk ho ⟨e, u, hPe, rfl, rfl⟩ F₁ N₁
    refine wpAny_mono (turn k t a e u h tk own hk ho hPe F₁ N₁) (fun f s₂ p => ?_) fun _ _ e => e
    have fin : LoopEnd h₀ env.locals fr m₀ (fx (g a k)) (led (g a k)) (P (g a k)) own { s with heap := h, toks := tk } Q .next s₂ →
        InvEndN h₀ env.locals (fun m nx => ∃ e u, P (g a k) e ∧ m = frm u fr m₀ (fx (g a k) e) ∧ nx = led (g a k) e) own ((led c₀ e₀).map (·.1)) { s with heap := h, toks := tk } s₂ := by
      rintro ⟨e', h', tk', c, news', hP', e2, F', N', q1, q2, q3, q4⟩
      exact ⟨h', tk', c, news', led (g a k) e', e2, F', N', q3, q4, hadr _ _, e', c, hP', frm_eq q1 q2, rfl⟩
    cases f with
    | ret v => exact p
    | brk => exact p
    | next => exact fin p
    | cont => exact fin p
  · rintro m₁ nx h tk ⟨e, u, hPe, rfl, rfl⟩ F₁ N₁
    exact done e u h tk hPe F₁ N₁
theorem for_rev {σ ε : Type} {ax I : Addr} {vs : List Value} {ns : List Int} {nn : Nat} {m₀ : Str → Option Value} (P : σ → ε → Prop) (fx : σ → ε → List (Str × Value)) (led : σ → ε → List (Addr × Obj)) (fr : List Str) (g : σ → Int → σ) (c₀ : σ) (e₀ : ε)
    (hh : A.handled = none) (hl : (ax, listOf vs.toArray nn) ∈ led c₀ e₀) (hi : IntsAre vs ns) (F : Fr h₀ env.locals s.heap m₀) (N : News h₀ env.locals s.heap ((I, revObj ax ((vs.length : Int) - 1)) :: led c₀ e₀))
    (hP : P c₀ e₀) (hfx : ∀ q ∈ fx c₀ e₀, m₀ q.1 = some q.2) (hoff : ∀ a e, P a e → ∀ p ∈ led a e, p.1 ≠ I) (hlm : ∀ a e, P a e → (ax, listOf vs.toArray nn) ∈ led a e)
    (turn : ∀ k t a e u it h tk pre, k ∈ ns → (∃ post, ns.reverse = pre ++ k :: post) → a = pre.foldl g c₀ → P a e → Fr h₀ env.locals h (fun y => if y = x then some (.int k t) else frm u fr m₀ (fx a e) y) → News h₀ env.locals h ((I, it) :: led a e) →
      wpAny (model prog w) A (execs body env) (LoopEnd h₀ env.locals fr m₀ (fx (g a k)) (led (g a k)) (P (g a k)) [(I, it)] { s with heap := h, toks := tk } Q) E { s with heap := h, toks := tk })
    (done : ∀ e u h tk, P (ns.reverse.foldl g c₀) e → Fr h₀ env.locals h (frm u fr m₀ (fx (ns.reverse.foldl g c₀) e)) → News h₀ env.locals h (led (ns.reverse.foldl g c₀) e) → Q .next { s with heap := h, toks := tk }) :
    wpAny (model prog w) A (pyIter (.ref I)) (fun it s₂ => LoopAtV prog w A h₀ env x body Q E it s₂) E s := by
  have rest : ∀ (ks : List Int) (r : List Value), IntsAre r ks → ∀ pre, ns.reverse = pre ++ ks → ∀ a e u, P a e → a = pre.foldl g c₀ →
      RevRest prog w A E h₀ env x body Q s I (ax, listOf vs.toArray nn) r (frm u fr m₀ (fx a e)) (led a e) := by
    intro ks
    induction ks with
    | nil =>
      intro r hr pre hpre a e u hPe hf
      cases hr
      refine RevRest.zero fun h tk F' N' => ?_
      have ha : a = ns.reverse.foldl g c₀ := by rw [hpre, List.append_nil]; exact hf
      subst ha
      exact done e u h tk hPe F' N'
    | cons k ks ih =>
      intro r hr pre hpre a e u hPe hf
      cases hr with
      | cons _ t hr' =>
        rename_i r'
        refine RevRest.succ fun it h tk hc F' N' => ?_
        refine wpAny_mono (turn k t a e u it h tk pre (List.mem_reverse.mp (by rw [hpre]; exact List.mem_append_right _ (.head _))) ⟨_, hpre⟩ hf hPe F' N') (fun f s₂ p => ?_) fun _ _ e => e
        have fin : LoopEnd h₀ env.locals fr m₀ (fx (g a k)) (led (g a k)) (P (g a k)) [(I, it)] { s with heap := h, toks := tk } Q .next s₂ →
            UnrEnd h₀ env.locals { s with heap := h, toks := tk } I it (fun m' n' => (ax, listOf vs.toArray nn) ∈ n' ∧ RevRest prog w A E h₀ env x body Q s I (ax, listOf vs.toArray nn) r' m' n') s₂ := by
          rintro ⟨e', h', tk', c, news', hP', e2, F2, N2, q1, q2, q3, q4⟩
          refine ⟨h', tk', c, led (g a k) e', e2, F2, fun p hp => ?_, hoff _ _ hP', hlm _ _ hP', ?_⟩
          · rcases List.mem_cons.mp hp with rfl | hp
            · exact N2 _ (q4 _ (.head _))
            · exact N2 _ (q3 p hp)
          · rw [frm_eq q1 q2]
            exact ih _ hr' (pre ++ [k]) (by rw [hpre, List.append_assoc]; rfl) _ _ _ hP' (by rw [hf, List.foldl_append]; rfl)
        cases f with
        | ret v => exact p
        | brk => exact p
        | next => exact fin p
        | cont => exact fin p
  refine iter_revUnr hh F N ?_ hl rfl rfl ?_
  · have : ∀ l : List (Addr × Obj), (∀ p ∈ l, p.1 ≠ I) → OffI I (revObj ax ((vs.length : Int) - 1)) l := by
      intro l
      induction l with
      | nil => exact fun _ => trivial
      | cons p r ih => exact fun h => ⟨Or.inl (h p (.head _)), ih fun q hq => h q (.tail _ hq)⟩
    exact this _ (hoff _ _ hP)
  · have hr := rest ns.reverse vs.reverse (ints_rev hi) [] rfl c₀ e₀ m₀ hP rfl
    rwa [← frm_eq hfx (fun _ _ _ => rfl)] at hr
theorem for_list {σ ε : Type} {l : Addr} {vs : List Value} {ns : List Int} {nn : Nat} {m₀ : Str → Option Value} (P : σ → ε → Prop) (fx : σ → ε → List (Str × Value)) (led : σ → ε → List (Addr × Obj)) (fr : List Str) (g : σ → Int → σ) (c₀ : σ) (e₀ : ε)
    (hh : A.handled = none) (hl : (l, listOf vs.toArray nn) ∈ led c₀ e₀) (hi : IntsAre vs ns) (F : Fr h₀ env.locals s.heap m₀) (N : News h₀ env.locals s.heap (led c₀ e₀))
    (hP : P c₀ e₀) (hfx : ∀ q ∈ fx c₀ e₀, m₀ q.1 = some q.2) (hadr : ∀ a e, (led a e).map (·.1) = (led c₀ e₀).map (·.1)) (hlm : ∀ a e, P a e → (l, listOf vs.toArray nn) ∈ led a e)
    (turn : ∀ k t a e u h tk own, k ∈ ns → OwnOff own ((led c₀ e₀).map (·.1)) → P a e → Fr h₀ env.locals h (fun y => if y = x then some (.int k t) else frm u fr m₀ (fx a e) y) → News h₀ env.locals h (led a e ++ own) →
      wpAny (model prog w) A (execs body env) (LoopEnd h₀ env.locals fr m₀ (fx (g a k)) (led (g a k)) (P (g a k)) own { s with heap := h, toks := tk } Q) E { s with heap := h, toks := tk })
    (done : ∀ e u h tk, P (ns.foldl g c₀) e → Fr h₀ env.locals h (frm u fr m₀ (fx (ns.foldl g c₀) e)) → News h₀ env.locals h (led (ns.foldl g c₀) e) → Q .next { s with heap := h, toks := tk }) :
    wpAny (model prog w) A (pyIter (.ref l)) (fun it s₂ => LoopAtV prog w A h₀ env x body Q E it s₂) E s := by
  refine iter_invNL (fun i m nx => ∃ e u, P ((ns.take i).foldl g c₀) e ∧ m = frm u fr m₀ (fx ((ns.take i).foldl g c₀) e) ∧ nx = led ((ns.take i).foldl g c₀) e) hh hl hi F N ⟨e₀, m₀, hP, frm_eq hfx (fun _ _ _ => rfl), rfl⟩ ?_ ?_
  · rintro i k t m₁ nx h tk own hk _ ho _ ⟨e, u, hPe, rfl, rfl⟩ F₁ N₁
    have hs : (ns.take (i + 1)).foldl g c₀ = g ((ns.take i).foldl g c₀) k := by
      rw [List.take_add_one, hk]; simp
    refine wpAny_mono (turn k t _ e u h tk own (List.mem_of_getElem? hk) ho hPe F₁ N₁) (fun f s₂ p => ?_) fun _ _ e => e
    generalize hA : (ns.take i).foldl g c₀ = a at *
    rw [hs]
    have fin : LoopEnd h₀ env.locals fr m₀ (fx (g a k)) (led (g a k)) (P (g a k)) own { s with heap := h, toks := tk } Q .next s₂ →
        InvEndN h₀ env.locals (fun m nx => (l, listOf vs.toArray nn) ∈ nx ∧ ∃ e u, P (g a k) e ∧ m = frm u fr m₀ (fx (g a k) e) ∧ nx = led (g a k) e) own ((led c₀ e₀).map (·.1)) { s with heap := h, toks := tk } s₂ := by
      rintro ⟨e', h', tk', c, news', hP', e2, F', N', q1, q2, q3, q4⟩
      exact ⟨h', tk', c, news', led (g a k) e', e2, F', N', q3, q4, hadr _ _, hlm _ _ hP', e', c, hP', frm_eq q1 q2, rfl⟩
    cases f with
    | ret v => exact p
    | brk => exact p
    | next => exact fin p
    | cont => exact fin p
  · rintro m₁ nx h tk _ ⟨e, u, hPe, rfl, rfl⟩ F₁ N₁
    rw [List.take_length] at hPe F₁ N₁
    exact done e u h tk hPe F₁ N₁
end
noncomputable def Hold (P : Prop) : Prop := P
theorem hold {P : Prop} (h : Hold P) : P := h
theorem Hold.out {P : Prop} (h : P) : Hold P := h
theorem news_third {h₀ h : Heap} {L : Addr} {x y z : Addr × Obj} {r : List (Addr × Obj)} (N : News h₀ L h (x :: y :: z :: r)) : News h₀ L h (z :: x :: y :: r) := news_sub N fun p hp => by
  simp only [List.mem_cons] at hp ⊢
  rcases hp with h | h | h | h <;> simp only [h, true_or, or_true]
theorem news_second {h₀ h : Heap} {L : Addr} {x y : Addr × Obj} {r : List (Addr × Obj)} (N : News h₀ L h (x :: y :: r)) : News h₀ L h (y :: x :: r) := news_sub N fun p hp => by
  simp only [List.mem_cons] at hp ⊢
  rcases hp with h | h | h <;> simp only [h, true_or, or_true]
-- a mark in the context: a line that stops the walk once
noncomputable def MarkS (_ : Nat) : Prop := True
theorem MarkS.mk (n : Nat) : MarkS n := trivial
-- a list's items, each told of an int
noncomputable def RelAre (R : Int → Value → Prop) : List Value → List Int → Prop
  | [], [] => True
  | y :: ys, k :: ks => R k y ∧ RelAre R ys ks
  | _, _ => False
theorem RelAre.snoc {R : Int → Value → Prop} {y : Value} {k : Int} : ∀ {ys : List Value} {ks : List Int}, RelAre R ys ks → R k y → RelAre R (ys ++ [y]) (ks ++ [k])
  | [], [], _, h => ⟨h, trivial⟩
  | _ :: _, _ :: _, h, h' => ⟨h.1, RelAre.snoc h.2 h'⟩
noncomputable def CEl (news : List (Addr × Obj)) (R : Value → Prop) (y : Value) (news' : List (Addr × Obj)) : Prop := news' = news ∧ R y
section
variable {prog : Program} {w : World} {A : Around} {h₀ : Heap} {L : Addr} {m : Str → Option Value} {env : Env} {elt : Expr} {x : Str} {scope : Scope} {cl : List (Str × Addr)} {s : Shared} {S : List (Addr × Obj) → Prop} {P : Nat → Value → Prop} {Fin : List Value → List (Addr × Obj) → Prop} {news : List (Addr × Obj)}
theorem comp_rel {n : Nat} {ks : List Int} (R : Int → Value → Prop) (hks : ks.length = n) (hP : ∀ i v, i < n → P i v → ∃ k t, ks[i]? = some k ∧ v = .int k t)
    (turn : ∀ k t I oI C oC D m₂ ys h tk (E' : Value → Shared → Prop), k ∈ ks → LCg.NsObj oC m₂ → m₂ x = some (.int k t) → Fr h₀ L h m → News h₀ L h ((I, oI) :: (C, oC) :: (D, LCg.lst ys) :: news) → LCg.Off3 I C D news → ((@Ne Nat I C) ∧ (@Ne Nat I D) ∧ (@Ne Nat C D)) →
      wpAny (model prog w) A (eval elt (compEnvC scope cl C env)) (LCg.CompEnd h₀ L m { s with heap := h, toks := tk } I oI C oC D (LCg.lst ys) S (fun y news' => CEl news (R k) y news')) E' { s with heap := h, toks := tk })
    (fin : ∀ ys, RelAre R ys ks → Fin ys news) : LCg.CompRest prog w A h₀ L m env elt x scope cl s S P Fin n 0 [] news := by
  have key : ∀ (j i : Nat) (ys : List Value), i + j = n → RelAre R ys (ks.take i) → LCg.CompRest prog w A h₀ L m env elt x scope cl s S P Fin j i ys news := by
    intro j
    induction j with
    | zero =>
      intro i ys hi hy
      have e : i = ks.length := by omega
      subst e
      rw [List.take_length] at hy
      exact LCg.CompRest.zero (fin ys hy)
    | succ j ih =>
      intro i ys hi hy
      refine LCg.CompRest.succ ?_
      intro v I oI C oC D m₂ h tk E' hv hC hx F N off ne
      obtain ⟨k, t, hk, hv'⟩ := hP i v (by omega) hv
      rw [hv'] at hx
      refine wpAny_mono (turn k t I oI C oC D m₂ ys h tk E' (List.mem_of_getElem? hk) hC hx F N off ne) (fun y s₂ hq => ?_) fun _ _ e => e
      obtain ⟨h', tk', nw, e, F', N', off', hS, hn, hy'⟩ := hq
      rw [hn] at N' off' hS
      refine ⟨h', tk', news, e, F', N', off', hS, ?_⟩
      refine ih (i + 1) _ (by omega) ?_
      rw [List.take_add_one, hk]
      exact RelAre.snoc hy hy'
  exact key n 0 [] (by omega) (by rw [List.take_zero]; exact trivial)
theorem comp_range {n : Nat} {a : Int} (R : Int → Value → Prop)
    (turn : ∀ k t I oI C oC D m₂ ys h tk (E' : Value → Shared → Prop), a ≤ k → k < a + (n : Int) → LCg.NsObj oC m₂ → m₂ x = some (.int k t) → Fr h₀ L h m → News h₀ L h ((I, oI) :: (C, oC) :: (D, LCg.lst ys) :: news) → LCg.Off3 I C D news → ((@Ne Nat I C) ∧ (@Ne Nat I D) ∧ (@Ne Nat C D)) →
      wpAny (model prog w) A (eval elt (compEnvC scope cl C env)) (LCg.CompEnd h₀ L m { s with heap := h, toks := tk } I oI C oC D (LCg.lst ys) S (fun y news' => CEl news (R k) y news')) E' { s with heap := h, toks := tk })
    (fin : ∀ ys, RelAre R ys (rangeKs a n) → Fin ys news) : LCg.CompRest prog w A h₀ L m env elt x scope cl s S (fun i v => ∃ t, v = .int (a + (i : Int)) t) Fin n 0 [] news :=
  comp_rel (ks := rangeKs a n) R (rangeKs_length a n) (fun i v hi hv => by
    obtain ⟨t, e⟩ := hv
    exact ⟨a + (i : Int), t, by simp [rangeKs, hi], e⟩)
    (fun k t I oI C oC D m₂ ys h tk E' hk hC hx F N off ne => turn k t I oI C oC D m₂ ys h tk E' (mem_rangeKs hk).1 (mem_rangeKs hk).2 hC hx F N off ne) fin
theorem comp_list {vs : List Value} {ns : List Int} (R : Int → Value → Prop) (hi : IntsAre vs ns)
    (turn : ∀ k t I oI C oC D m₂ ys h tk (E' : Value → Shared → Prop), k ∈ ns → LCg.NsObj oC m₂ → m₂ x = some (.int k t) → Fr h₀ L h m → News h₀ L h ((I, oI) :: (C, oC) :: (D, LCg.lst ys) :: news) → LCg.Off3 I C D news → ((@Ne Nat I C) ∧ (@Ne Nat I D) ∧ (@Ne Nat C D)) →
      wpAny (model prog w) A (eval elt (compEnvC scope cl C env)) (LCg.CompEnd h₀ L m { s with heap := h, toks := tk } I oI C oC D (LCg.lst ys) S (fun y news' => CEl news (R k) y news')) E' { s with heap := h, toks := tk })
    (fin : ∀ ys, RelAre R ys ns → Fin ys news) : LCg.CompRest prog w A h₀ L m env elt x scope cl s S (fun i v => vs.toArray[i]? = some v) Fin vs.toArray.size 0 [] news :=
  comp_rel (ks := ns) R (by rw [List.size_toArray]; exact hi.length.symm) (fun i v _ hv => by
    obtain ⟨k, t, e, hk⟩ := IntsAre.at hi i v (by simpa using hv)
    exact ⟨k, t, hk, e⟩) turn fin
end
theorem RelAre.four {R : Int → Value → Prop} {a b c d : Int} : ∀ {ys : List Value}, RelAre R ys [a, b, c, d] → ∃ y0 y1 y2 y3, ys = [y0, y1, y2, y3] ∧ R a y0 ∧ R b y1 ∧ R c y2 ∧ R d y3
  | [y0, y1, y2, y3], ⟨h0, h1, h2, h3, _⟩ => ⟨y0, y1, y2, y3, rfl, h0, h1, h2, h3⟩
theorem RelAre.two {R : Int → Value → Prop} {a b : Int} : ∀ {ys : List Value}, RelAre R ys [a, b] → ∃ y0 y1, ys = [y0, y1] ∧ R a y0 ∧ R b y1
  | [y0, y1], ⟨h0, h1, _⟩ => ⟨y0, y1, rfl, h0, h1⟩

-- wcount
-- plain
section
variable {prog : Program} {w : World} {A : Around} {E : Value → Shared → Prop} {s : Shared} {env : Env} {h₀ : Heap} {test : PySem.Expr} {body orelse : List Stmt} {Q : Flow → Shared → Prop}
noncomputable def CountEnd {ε : Type} (h₀ : Heap) (L : Addr) (fr : List Str) (m₀ : Str → Option Value) (fx : ε → List (Str × Value)) (led : List (Addr × Obj)) (P : ε → Prop) (s₁ : Shared) (f : Flow) (s₂ : Shared) : Prop :=
  match f with
  | .next => ∃ (e : ε) (h' : Heap) (tk : Nat) (c : Str → Option Value) (news' : List (Addr × Obj)), P e ∧ s₂ = { s₁ with heap := h', toks := tk } ∧ Fr h₀ L h' c ∧ News h₀ L h' news' ∧ (∀ q ∈ fx e, c q.1 = some q.2) ∧
      (∀ z, fr.contains z = false → (∀ q ∈ fx e, z ≠ q.1) → c z = m₀ z) ∧ (∀ p ∈ led, p ∈ news')
  | _ => False
theorem CountEnd.next {ε : Type} {h₀ : Heap} {L : Addr} {fr : List Str} {m₀ : Str → Option Value} {fx : ε → List (Str × Value)} {led : List (Addr × Obj)} {P : ε → Prop} {s₁ : Shared}
    {h' : Heap} {tk : Nat} {c : Str → Option Value} {news' : List (Addr × Obj)} (e : ε) (hP : P e) (F : Fr h₀ L h' c) (N : News h₀ L h' news') (h1 : ∀ q ∈ fx e, c q.1 = some q.2) (h2 : ∀ z, fr.contains z = false → (∀ q ∈ fx e, z ≠ q.1) → c z = m₀ z)
    (h3 : ∀ p ∈ led, p ∈ news') : CountEnd h₀ L fr m₀ fx led P s₁ .next { s₁ with heap := h', toks := tk } := ⟨e, h', tk, c, news', hP, rfl, F, N, h1, h2, h3⟩
-- a while loop of n turns, told by the number of the turn
theorem while_count {ε : Type} {m₀ : Str → Option Value} {led : List (Addr × Obj)} (n : Nat) (P : Nat → ε → Prop) (fx : Nat → ε → List (Str × Value)) (fr : List Str) (e₀ : ε)
    (hE : PassesOwn (model prog w) A env E) (F : Fr h₀ env.locals s.heap m₀) (N : News h₀ env.locals s.heap led)
    (hP : P 0 e₀) (hfx : ∀ q ∈ fx 0 e₀, m₀ q.1 = some q.2)
    (turn : ∀ i e u h tk, i ≤ n → P i e → Fr h₀ env.locals h (frm u fr m₀ (fx i e)) → News h₀ env.locals h led →
      wpAny (model prog w) A (isTrue test env (eval test env)) (fun b s₂ => WhlIf b (wpAny (model prog w) A (execs body env) (LoopEnd h₀ env.locals fr m₀ (fx (i + 1)) (fun _ => led) (fun e => i < n ∧ P (i + 1) e) [] s Q) E s₂) (wpAny (model prog w) A (execs orelse env) (CountEnd h₀ env.locals fr m₀ (fx i) led (fun e => i = n ∧ P i e) s) E s₂)) E { s with heap := h, toks := tk })
    (done : ∀ e u h tk, P n e → Fr h₀ env.locals h (frm u fr m₀ (fx n e)) → News h₀ env.locals h led → Q .next { s with heap := h, toks := tk }) :
    WhlRest prog w A E env test body orelse Q 0 s := by
  have fin0 : ∀ i f s₃, CountEnd h₀ env.locals fr m₀ (fx i) led (fun e => i = n ∧ P i e) s f s₃ → Q f s₃ := by
    intro i f s₃ q
    cases f with
    | ret v => exact q.elim
    | brk => exact q.elim
    | cont => exact q.elim
    | next =>
      obtain ⟨e', h', tk', c, news', ⟨hlt, hP'⟩, e2, F2, N2, q1, q2, q3⟩ := q
      subst hlt
      rw [e2]
      refine done e' c h' tk' hP' ?_ (news_sub N2 q3)
      rw [← frm_eq q1 q2]
      exact F2
  have rest : ∀ k i e u h tk, i ≤ n → n - i ≤ k → P i e → Fr h₀ env.locals h (frm u fr m₀ (fx i e)) → News h₀ env.locals h led → WhlRest prog w A E env test body orelse Q 0 { s with heap := h, toks := tk } := by
    intro k
    induction k with
    | zero =>
      intro i e u h tk hi hk hPe F' N'
      refine whl_turn (k := 0) hE (wpAny_mono (turn i e u h tk hi hPe F' N') (fun b s₂ p => ?_) fun _ _ e => e)
      unfold WhlIf at p ⊢
      cases b with
      | false => exact wpAny_mono p (fun f s₃ q => fin0 i f s₃ q) fun _ _ e => e
      | true =>
        refine wpAny_mono p (fun f s₃ q => ?_) fun _ _ e => e
        cases f with
        | ret v => exact q
        | brk => exact q
        | next => obtain ⟨e', h', tk', c, news', ⟨hlt, _⟩, _⟩ := q; omega
        | cont => obtain ⟨e', h', tk', c, news', ⟨hlt, _⟩, _⟩ := q; omega
    | succ k ih =>
      intro i e u h tk hi hk hPe F' N'
      refine whl_turn (k := 0) hE (wpAny_mono (turn i e u h tk hi hPe F' N') (fun b s₂ p => ?_) fun _ _ e => e)
      unfold WhlIf at p ⊢
      cases b with
      | false => exact wpAny_mono p (fun f s₃ q => fin0 i f s₃ q) fun _ _ e => e
      | true =>
        refine wpAny_mono p (fun f s₃ q => ?_) fun _ _ e => e
        have fin : LoopEnd h₀ env.locals fr m₀ (fx (i + 1)) (fun _ => led) (fun e => i < n ∧ P (i + 1) e) [] s Q .next s₃ → WhlRest prog w A E env test body orelse Q 0 s₃ := by
          rintro ⟨e', h', tk', c, news', ⟨hlt, hP'⟩, e2, F2, N2, q1, q2, q3, _⟩
          rw [e2]
          refine ih (i + 1) e' c h' tk' (by omega) (by omega) hP' ?_ (news_sub N2 q3)
          rw [← frm_eq q1 q2]
          exact F2
        cases f with
        | ret v => exact q
        | brk => exact q
        | next => exact fin q
        | cont => exact fin q
  have hr := rest n 0 e₀ m₀ s.heap s.toks (Nat.zero_le _) (by omega) hP (by rw [← frm_eq hfx (fun _ _ _ => rfl)]; exact F) N
  exact hr
end
section
variable {prog : Program} {w : World} {A : Around} {E : Value → Shared → Prop} {s : Shared} {env : Env} {h₀ : Heap} {x : Str} {body : List Stmt} {Q : Flow → Shared → Prop}
-- a for over a range, told by the number of the turn
theorem for_count {ε : Type} {r : Addr} {a₀ b₀ : Int} {t₀ u₀ v₀ : Tok} {n : Nat} {m₀ : Str → Option Value} (P : Nat → ε → Prop) (fx : Nat → ε → List (Str × Value)) (led : Nat → ε → List (Addr × Obj)) (fr : List Str) (e₀ : ε)
    (hh : A.handled = none) (hr : IsRange s.heap r a₀ b₀ 1 t₀ u₀ v₀) (hsmall : Builtin.Range.small a₀ b₀ 1 = true) (hn : Builtin.Range.rangeSize a₀ b₀ 1 = (n : Int)) (F : Fr h₀ env.locals s.heap m₀) (N : News h₀ env.locals s.heap (led 0 e₀))
    (hP : P 0 e₀) (hfx : ∀ q ∈ fx 0 e₀, m₀ q.1 = some q.2) (hadr : ∀ i e, (led i e).map (·.1) = (led 0 e₀).map (·.1))
    (turn : ∀ i t e u I it h tk, i < n → P i e → (∀ p ∈ led 0 e₀, p.1 < I) → Fr h₀ env.locals h (fun y => if y = x then some (.int (a₀ + (i : Int)) t) else frm u fr m₀ (fx i e) y) → News h₀ env.locals h ((I, it) :: led i e) →
      wpAny (model prog w) A (execs body env) (LoopEnd h₀ env.locals fr m₀ (fx (i + 1)) (led (i + 1)) (P (i + 1)) [(I, it)] { s with heap := h, toks := tk } Q) E { s with heap := h, toks := tk })
    (done : ∀ e u h tk, P n e → Fr h₀ env.locals h (frm u fr m₀ (fx n e)) → News h₀ env.locals h (led n e) → Q .next { s with heap := h, toks := tk }) :
    wpAny (model prog w) A (pyIter (.ref r)) (fun it s₂ => LoopAtV prog w A h₀ env x body Q E it s₂) E s := by
  refine iter_rangeUnr hh hr hsmall hn F N fun I hI => ?_
  have off : ∀ i e, ∀ p ∈ led i e, p.1 ≠ I := by
    intro i e p hp
    have : p.1 ∈ (led 0 e₀).map (·.1) := hadr i e ▸ List.mem_map_of_mem hp
    obtain ⟨q, hq, e⟩ := List.mem_map.mp this
    rw [← e]
    exact Nat.ne_of_lt (hI q hq)
  have rest : ∀ k i e u, i + k = n → P i e → RangeRest prog w A E h₀ env x body Q s I a₀ n k i (frm u fr m₀ (fx i e)) (led i e) := by
    intro k
    induction k with
    | zero =>
      intro i e u hi hPe
      have : i = n := by omega
      subst this
      exact RangeRest.zero fun h tk F' N' => done e u h tk hPe F' N'
    | succ k ih =>
      intro i e u hi hPe
      refine RangeRest.succ fun t h tk F' N' => ?_
      refine wpAny_mono (turn i t e u I _ h tk (by omega) hPe hI F' N') (fun f s₂ p => ?_) fun _ _ e => e
      have fin : LoopEnd h₀ env.locals fr m₀ (fx (i + 1)) (led (i + 1)) (P (i + 1)) [(I, itR (a₀ + ((i + 1 : Nat) : Int)) ((n : Int) - ((i + 1 : Nat) : Int)))] { s with heap := h, toks := tk } Q .next s₂ →
          UnrEnd h₀ env.locals { s with heap := h, toks := tk } I (itR (a₀ + ((i + 1 : Nat) : Int)) ((n : Int) - ((i + 1 : Nat) : Int))) (RangeRest prog w A E h₀ env x body Q s I a₀ n k (i + 1)) s₂ := by
        rintro ⟨e', h', tk', c, news', hP', e2, F2, N2, q1, q2, q3, q4⟩
        refine ⟨h', tk', c, led (i + 1) e', e2, F2, fun p hp => ?_, off _ _, ?_⟩
        · rcases List.mem_cons.mp hp with rfl | hp
          · exact N2 _ (q4 _ (.head _))
          · exact N2 _ (q3 p hp)
        · rw [frm_eq q1 q2]
          exact ih (i + 1) e' _ (by omega) hP'
      cases f with
      | ret v => exact p
      | brk => exact p
      | next => exact fin p
      | cont => exact fin p
  have hr := rest n 0 e₀ m₀ (by omega) hP
  rwa [← frm_eq hfx (fun _ _ _ => rfl)] at hr
end

-- levs
-- plain
noncomputable def lcp {α : Type} (eq : α → α → Bool) : List α → List α → Nat
  | a :: x, b :: y => if eq a b then lcp eq x y + 1 else 0
  | _, _ => 0
theorem slc_from (l : List Nat) (i : Nat) (h : i ≤ l.length) : Txt.slice ⟨l.toArray⟩ (some (i : Int)) none = ⟨(l.drop i).toArray⟩ := by
  rw [slice_from_eq (b := l.length) (by omega) (by show (i : Int) ≤ (l.toArray.size : Nat); simpa using h) (by show (l.length : Int) = (l.toArray.size : Nat); rw [List.size_toArray])]
  congr 2
  show (List.drop (Int.toNat i) l).take _ = _
  rw [List.take_of_length_le (by rw [List.length_drop]; omega), Int.toNat_natCast]
theorem slc_to (l : List Nat) (i : Nat) (h0 : 0 < i) (h : i ≤ l.length) : Txt.slice ⟨l.toArray⟩ none (some (-(i : Int))) = ⟨(l.take (l.length - i)).toArray⟩ := by
  have hs : (⟨l.toArray⟩ : Str).length = l.length := by show l.toArray.size = _; simp
  have e : Txt.slice ⟨l.toArray⟩ none (some (-(i : Int))) = Txt.slice ⟨l.toArray⟩ none (some (-(i : Int) + (⟨l.toArray⟩ : Str).length)) := by
    unfold Txt.slice
    rw [StrLaws.sliceIdx_neg_hi none _ (by omega) (by omega)]
  rw [e, hs]
  have := slice_closes_to (x := ⟨l.toArray⟩) (j := -(i : Int) + l.length) (by show _ ∧ _ ≤ ((l.toArray.toList.length : Nat) : Int); simp; omega)
  rw [eq_of_beq this]
  congr 2
  show (List.drop 0 l).take _ = _
  rw [List.drop_zero]
  congr 1
  omega
theorem slc_all (l : List Nat) : Txt.slice ⟨l.toArray⟩ none none = ⟨l.toArray⟩ := by
  have := slice_from_eq (x := ⟨l.toArray⟩) (i := 0) (b := l.length) (by omega) (by show (0 : Int) ≤ (l.toArray.size : Nat); omega) (by show (l.length : Int) = (l.toArray.size : Nat); simp)
  have e : Txt.slice ⟨l.toArray⟩ none none = Txt.slice ⟨l.toArray⟩ (some 0) none := by
    unfold Txt.slice
    have : PySem.Builtin.Str.strSliceIndices none none 1 (⟨l.toArray⟩ : Str).length = PySem.Builtin.Str.strSliceIndices (some 0) none 1 (⟨l.toArray⟩ : Str).length := by
      simp [PySem.Builtin.Str.strSliceIndices]
      congr 1
    rw [this]
  rw [e, show (0 : Int) = ((0 : Nat) : Int) from rfl, slc_from l 0 (Nat.zero_le _), List.drop_zero]
section
variable {prog : Program} {w : World} {A : Around} {E : Value → Shared → Prop} {s : Shared} {value slice : PySem.Expr} {l : List Nat} {t : Tok} {h₀ : Heap} {L : Addr} {m : Str → Option Value} {news : List (Addr × Obj)} {Q : Value → Shared → Prop}
theorem len_arr (l : List Nat) : (⟨l.toArray⟩ : Str).length = l.length := List.size_toArray ..
theorem sizes_fit (h : l.length ≤ 5) : (⟨l.toArray⟩ : Str).length ≤ sizeLine := by
  rw [len_arr, sizeLine_eq]
  omega
theorem cut_from {i : Nat} {ui : Tok} (hi : i ≤ l.length) (hz : l.length ≤ 5) (hF : Fr h₀ L s.heap m) (hN : News h₀ L s.heap news) (h : ∀ h' t' k, Fr h₀ L h' m → News h₀ L h' news → Q (.str ⟨(l.drop i).toArray⟩ t') { s with heap := h', toks := k })
    (hs : subscripted slice false (.str ⟨l.toArray⟩ t) (.ref s.heap.objs.size) = operate [.ref s.heap.objs.size, .str ⟨l.toArray⟩ t] (getItem (.str ⟨l.toArray⟩ t) (.ref s.heap.objs.size)) := by with_unfolding_all rfl)
    (ht : ∀ r, letTemporaryGo value (.str ⟨l.toArray⟩ t) r = pure () := by intro _; with_unfolding_all rfl) :
    wpAny (model prog w) A (subscriptTail value slice (.str ⟨l.toArray⟩ t) (.ref s.heap.objs.size)) Q E { s with heap := s.heap.push { cls := .type "slice", data := .fields #[.int (i : Int) ui, .none, .none] } } :=
  slice_strN_sn hF hN (fun h' t' k a b => by rw [slc_from l i hi]; exact h h' t' k a b) hs ht (sizes_fit hz)
theorem cut_to {i : Nat} {ui : Tok} (h0 : 0 < i) (hi : i ≤ l.length) (hz : l.length ≤ 5) (hF : Fr h₀ L s.heap m) (hN : News h₀ L s.heap news) (h : ∀ h' t' k, Fr h₀ L h' m → News h₀ L h' news → Q (.str ⟨(l.take (l.length - i)).toArray⟩ t') { s with heap := h', toks := k })
    (hs : subscripted slice false (.str ⟨l.toArray⟩ t) (.ref s.heap.objs.size) = operate [.ref s.heap.objs.size, .str ⟨l.toArray⟩ t] (getItem (.str ⟨l.toArray⟩ t) (.ref s.heap.objs.size)) := by with_unfolding_all rfl)
    (ht : ∀ r, letTemporaryGo value (.str ⟨l.toArray⟩ t) r = pure () := by intro _; with_unfolding_all rfl) :
    wpAny (model prog w) A (subscriptTail value slice (.str ⟨l.toArray⟩ t) (.ref s.heap.objs.size)) Q E { s with heap := s.heap.push { cls := .type "slice", data := .fields #[.none, .int (-(i : Int)) ui, .none] } } :=
  slice_strN_ns hF hN (fun h' t' k a b => by rw [slc_to l i h0 hi]; exact h h' t' k a b) hs ht (sizes_fit hz)
theorem cut_all (hz : l.length ≤ 5) (hF : Fr h₀ L s.heap m) (hN : News h₀ L s.heap news) (h : ∀ h' t' k, Fr h₀ L h' m → News h₀ L h' news → Q (.str ⟨l.toArray⟩ t') { s with heap := h', toks := k })
    (hs : subscripted slice false (.str ⟨l.toArray⟩ t) (.ref s.heap.objs.size) = operate [.ref s.heap.objs.size, .str ⟨l.toArray⟩ t] (getItem (.str ⟨l.toArray⟩ t) (.ref s.heap.objs.size)) := by with_unfolding_all rfl)
    (ht : ∀ r, letTemporaryGo value (.str ⟨l.toArray⟩ t) r = pure () := by intro _; with_unfolding_all rfl) :
    wpAny (model prog w) A (subscriptTail value slice (.str ⟨l.toArray⟩ t) (.ref s.heap.objs.size)) Q E { s with heap := s.heap.push { cls := .type "slice", data := .fields #[.none, .none, .none] } } :=
  slice_strN_nn hF hN (fun h' t' k a b => by rw [slc_all l]; exact h h' t' k a b) hs ht (sizes_fit hz)
theorem text_truthy {n : Nat} {Q : Bool → Shared → Prop} (hn : l.length = n) (hz : n ≤ 10) (h : ∀ k, Q ((n : Int) != 0) { s with toks := k }) : wpAny (model prog w) A (PySem.truthy (.str ⟨l.toArray⟩ t)) Q E s := by
  subst hn
  have e : (⟨l.toArray⟩ : Str).length = l.length := len_arr l
  have := @SBL.truthy prog w A E s ⟨l.toArray⟩ t Q (by rw [e]; omega) (by rw [e]; exact h _)
  exact this
theorem text_len {n : Nat} {Q : Value → Shared → Prop} (hn : l.length = n) (hz : n ≤ 10) (h : ∀ t k, Q (.int n t) { s with toks := k }) : wpAny (model prog w) A (call (.builtin "len") [.str ⟨l.toArray⟩ t]) Q E s := by
  subst hn
  have e : (⟨l.toArray⟩ : Str).length = l.length := len_arr l
  refine SBL.len (by rw [e]; omega) ?_
  rw [e]
  exact h _ _
theorem arr_get (l : List Nat) (j : Nat) : (⟨l.toArray⟩ : Str).cps.getD j 0 = l.getD j 0 := by
  show l.toArray.getD j 0 = _
  simp
theorem text_at {i : Int} {u : Tok} {Q : Value → Shared → Prop} (h0 : 0 ≤ i) (h1 : i < l.length) (hz : l.length ≤ 10) (h : Q (.str ⟨#[l.getD i.toNat 0]⟩ s.toks) { s with toks := s.toks + 1 })
    (hs : subscripted slice false (.str ⟨l.toArray⟩ t) (.int i u) = operate [.str ⟨l.toArray⟩ t, .int i u] (getItem (.str ⟨l.toArray⟩ t) (.int i u)) := by with_unfolding_all rfl)
    (ht : ∀ r, letTemporaryGo value (.str ⟨l.toArray⟩ t) r = pure () := by intro _; with_unfolding_all rfl) :
    wpAny (model prog w) A (subscriptTail value slice (.str ⟨l.toArray⟩ t) (.int i u)) Q E s := by
  have e : (⟨l.toArray⟩ : Str).length = l.length := len_arr l
  refine KXi.item e (by omega) h1 (by omega) (fun _ => ?_) hs ht
  rw [eq_of_beq (item_closes (x := ⟨l.toArray⟩) (i := i) ⟨h0, by rw [e]; exact h1⟩), arr_get]
  exact h
theorem text_back {i : Int} {u : Tok} {Q : Value → Shared → Prop} (h0 : i < 0) (h1 : -(l.length : Int) ≤ i) (hz : l.length ≤ 10) (h : Q (.str ⟨#[l.getD (i + l.length).toNat 0]⟩ s.toks) { s with toks := s.toks + 1 })
    (hs : subscripted slice false (.str ⟨l.toArray⟩ t) (.int i u) = operate [.str ⟨l.toArray⟩ t, .int i u] (getItem (.str ⟨l.toArray⟩ t) (.int i u)) := by with_unfolding_all rfl)
    (ht : ∀ r, letTemporaryGo value (.str ⟨l.toArray⟩ t) r = pure () := by intro _; with_unfolding_all rfl) :
    wpAny (model prog w) A (subscriptTail value slice (.str ⟨l.toArray⟩ t) (.int i u)) Q E s := by
  have e : (⟨l.toArray⟩ : Str).length = l.length := len_arr l
  refine KXi.item e h1 (by omega) (by omega) (fun _ => ?_) hs ht
  rw [eq_of_beq (item_closes_neg (x := ⟨l.toArray⟩) (i := i) (j := i + l.length) h0 (by rw [e]; exact h1) (by rw [e])), arr_get]
  exact h
end
theorem sign_eq (a b : Nat) : ((⟨#[a]⟩ : Str) == ⟨#[b]⟩) = (a == b) := by
  by_cases h : a = b
  · subst h; simp
  · have : ((⟨#[a]⟩ : Str) == ⟨#[b]⟩) = false := by
      rw [beq_eq_false_iff_ne]
      intro h'
      injection h' with h'
      simp at h'
      exact h h'
    rw [this]
    simp [h]
theorem text_eq (x y : List Nat) : ((⟨x.toArray⟩ : Str) == ⟨y.toArray⟩) = decide (x = y) := by
  by_cases h : x = y
  · subst h; simp
  · have : ((⟨x.toArray⟩ : Str) == ⟨y.toArray⟩) = false := by
      rw [beq_eq_false_iff_ne]
      intro h'
      injection h' with h'
      have := congrArg Array.toList h'
      exact h this
    rw [this]
    simp [h]
theorem lcp_le {α : Type} (eq : α → α → Bool) : ∀ x y : List α, lcp eq x y ≤ x.length ∧ lcp eq x y ≤ y.length
  | [], _ => ⟨Nat.zero_le _, Nat.zero_le _⟩
  | _ :: _, [] => ⟨Nat.zero_le _, Nat.zero_le _⟩
  | a :: x, b :: y => by
    have := lcp_le eq x y
    unfold lcp
    split
    · simp only [List.length_cons]; omega
    · simp
theorem lcp_at {α : Type} (eq : α → α → Bool) : ∀ (x y : List α) (i : Nat), i ≤ lcp eq x y → ∀ (hx : i < x.length) (hy : i < y.length), (i < lcp eq x y ↔ eq x[i] y[i] = true)
  | a :: x, b :: y, 0, _, _, _ => by
    unfold lcp
    simp only [List.getElem_cons_zero]
    split <;> simp_all
  | a :: x, b :: y, i + 1, hi, hx, hy => by
    unfold lcp at hi ⊢
    simp only [List.getElem_cons_succ]
    split at hi
    · have := lcp_at eq x y i (by omega) (by simpa using hx) (by simpa using hy)
      rename_i h
      rw [if_pos h]
      constructor
      · intro h; exact this.mp (by omega)
      · intro h; have := this.mpr h; omega
    · omega
theorem pre_go {x y : List Nat} {i : Nat} (hi : i ≤ lcp (· == ·) x y) (hx : i < x.length) (hy : i < y.length) (h : ((⟨#[x.getD (i : Int).toNat 0]⟩ : Str) == ⟨#[y.getD (i : Int).toNat 0]⟩) = true) : i < lcp (· == ·) x y := by
  refine (lcp_at _ x y i hi hx hy).mpr ?_
  rw [sign_eq, Int.toNat_natCast] at h
  simpa [hx, hy] using h
theorem pre_stop {x y : List Nat} {i : Nat} (hi : i ≤ lcp (· == ·) x y) (hx : i < x.length) (hy : i < y.length) (h : ((⟨#[x.getD (i : Int).toNat 0]⟩ : Str) == ⟨#[y.getD (i : Int).toNat 0]⟩) = false) : i = lcp (· == ·) x y := by
  have a := lcp_at (· == ·) x y i hi hx hy
  rw [sign_eq, Int.toNat_natCast] at h
  have : ¬ (x[i] == y[i]) = true := by simpa [hx, hy] using h
  have : ¬ i < lcp (· == ·) x y := fun h => this (a.mp h)
  omega
theorem rev_at (x : List Nat) (i : Nat) (h : i < x.length) : x.getD (-(i : Int) - 1 + x.length).toNat 0 = x.reverse[i]'(by simpa using h) := by
  have : (-(i : Int) - 1 + x.length).toNat = x.length - 1 - i := by omega
  rw [this, List.getElem_reverse]
  rw [List.getD_eq_getElem?_getD, List.getElem?_eq_getElem (by omega)]
  rfl
theorem post_go {x y : List Nat} {i : Nat} (hi : i ≤ lcp (· == ·) x.reverse y.reverse) (hx : i < x.length) (hy : i < y.length) (h : ((⟨#[x.getD (-(i : Int) - 1 + x.length).toNat 0]⟩ : Str) == ⟨#[y.getD (-(i : Int) - 1 + y.length).toNat 0]⟩) = true) : i < lcp (· == ·) x.reverse y.reverse := by
  refine (lcp_at _ _ _ i hi (by simpa using hx) (by simpa using hy)).mpr ?_
  rw [sign_eq, rev_at x i hx, rev_at y i hy] at h
  exact h
theorem post_stop {x y : List Nat} {i : Nat} (hi : i ≤ lcp (· == ·) x.reverse y.reverse) (hx : i < x.length) (hy : i < y.length) (h : ((⟨#[x.getD (-(i : Int) - 1 + x.length).toNat 0]⟩ : Str) == ⟨#[y.getD (-(i : Int) - 1 + y.length).toNat 0]⟩) = false) : i = lcp (· == ·) x.reverse y.reverse := by
  have a := lcp_at (· == ·) x.reverse y.reverse i hi (by simpa using hx) (by simpa using hy)
  rw [sign_eq, rev_at x i hx, rev_at y i hy] at h
  have : ¬ i < lcp (· == ·) x.reverse y.reverse := fun h' => by
    have := a.mp h'
    rw [this] at h
    exact Bool.noConfusion h
  omega
theorem neg0_val {c : Option Value} {t : Tok} (h : c = some (.int 0 t)) : c = some (.int (-((0 : Nat) : Int)) t) := h
theorem negs_val {c : Option Value} {t : Tok} {i : Nat} (h : c = some (.int (-(i : Int) - 1) t)) : c = some (.int (-((i + 1 : Nat) : Int)) t) := by
  rw [h, show -(i : Int) - 1 = -((i + 1 : Nat) : Int) by omega]
noncomputable def row0 (n : Nat) : List Int := (List.range n).map fun (j : Nat) => 2 + (j : Int) * 2
theorem row0_ints : ∀ (vs : List Value) (a : Int) (n : Nat), vs.length = n → (∀ (j : Nat) (v : Value), vs[j]? = some v → ∃ t, v = .int (a + j * 2) t) → IntsAre vs ((List.range n).map fun (j : Nat) => a + (j : Int) * 2)
  | [], a, n, e, _ => by
    subst e
    exact IntsAre.nil
  | v :: r, a, n, e, h => by
    subst e
    rw [List.length_cons, List.range_succ_eq_map, List.map_cons, List.map_map]
    obtain ⟨t, ht⟩ := h 0 v rfl
    subst ht
    refine IntsAre.cons _ _ ?_
    have := row0_ints r (a + 2) r.length rfl fun j v hj => by
      obtain ⟨t', ht'⟩ := h (j + 1) v hj
      refine ⟨t', ht'.trans ?_⟩
      congr 1
      omega
    have e : ((fun (j : Nat) => a + (j : Int) * 2) ∘ Nat.succ) = fun (j : Nat) => (a + 2) + (j : Int) * 2 := by
      funext j
      show a + ((j + 1 : Nat) : Int) * 2 = _
      omega
    rw [e]
    exact this
section
variable {prog : Program} {w : World} {A : Around} {E : Value → Shared → Prop} {s : Shared} {h₀ : Heap} {L r : Addr} {m : Str → Option Value} {news : List (Addr × Obj)} {t₀ u₀ v₀ : Tok} {n : Nat} {Q : Value → Shared → Prop}
theorem range2_small : ∀ n : Nat, n ≤ 5 → Builtin.Range.small 2 (2 * ((n : Int) + 1)) 2 = true ∧ Builtin.Range.rangeSize 2 (2 * ((n : Int) + 1)) 2 = (n : Int) := by decide +kernel
theorem list_range2 (hn : n ≤ 5) (hh : A.handled = none) (F : Fr h₀ L s.heap m) (N : News h₀ L s.heap news) (hr : IsRange s.heap r 2 (2 * ((n : Int) + 1)) 2 t₀ u₀ v₀)
    (h : ∀ D us c h' tk, Fr h₀ L h' m → News h₀ L h' ((D, listOf (List.toArray us) c) :: news) → (∀ p ∈ news, p.1 < D) → IntsAre us (row0 n) → Q (.ref D) { s with heap := h', toks := tk }) :
    wpAny (model prog w) A (call (.type "list") [.ref r]) Q E s := by
  refine call_list_range hh hr (range2_small n hn).1 (range2_small n hn).2 (by omega) fun h' tk acc c hk hD hI => ?_
  have hD' : h'.get? s.heap.objs.size = some (listOf (List.toArray acc.toList) c) := by
    rw [Array.toArray_toList]
    exact hD
  exact h _ acc.toList c h' tk (F.keeps hk) (news_pushed F N hk hD' rfl) (fun p hp => Heap.lt_size (N p hp).1) (row0_ints _ _ _ (by rw [Array.length_toList]; exact hI.1) fun j v hj => hI.2 j v (by rw [← hj, Array.getElem?_toList]))
end
-- one turn of the inner loop on (distance, result, minimum, row)
noncomputable def lvTurn (f : Nat → Int) (st : Int × Int × Int × List Int) (k : Nat) : Int × Int × Int × List Int :=
  let c := st.2.2.2.getD k 0
  let d := (if c < st.2.1 then c else st.2.1) + 2
  let r := if st.1 + f k < d then st.1 + f k else d
  (c, r, (if r < st.2.2.1 then r else st.2.2.1), st.2.2.2.set k r)
noncomputable def lvCells (f : Nat → Int) (i : Nat) (row : List Int) : Nat → Int × Int × Int × List Int
  | 0 => ((i : Int) * 2, (i : Int) * 2, 9223372036854775807, row)
  | k + 1 => lvTurn f (lvCells f i row k) k
noncomputable def lvState (f : Nat → Nat → Int) (n : Nat) : Nat → Int × List Int
  | 0 => (0, row0 n)
  | i + 1 => ((lvCells (f i) i (lvState f n i).2 n).2.1, (lvCells (f i) i (lvState f n i).2 n).2.2.2)
noncomputable def lvMin (f : Nat → Nat → Int) (n i : Nat) : Int := (lvCells (f i) i (lvState f n i).2 n).2.2.1
noncomputable def lvOut (f : Nat → Nat → Int) (n k : Nat) (mx : Int) : Int := if (List.range k).all (fun i => decide (lvMin f n i ≤ mx)) then (lvState f n k).1 else mx + 1
theorem lvOut_early {f : Nat → Nat → Int} {n k i : Nat} {mx : Int} (hi : i < k) (h : mx < lvMin f n i) : lvOut f n k mx = mx + 1 := by
  unfold lvOut
  rw [if_neg]
  intro h'
  have := List.all_eq_true.mp h' i (List.mem_range.mpr hi)
  have := of_decide_eq_true this
  omega
theorem lvOut_end {f : Nat → Nat → Int} {n k : Nat} {mx : Int} (h : ∀ i, i < k → lvMin f n i ≤ mx) : lvOut f n k mx = (lvState f n k).1 := by
  unfold lvOut
  rw [if_pos]
  exact List.all_eq_true.mpr fun i hi => decide_eq_true (h i (List.mem_range.mp hi))
noncomputable def levC (g : Nat → Nat → Int) (sa sb : List Nat) (mx : Int) : Int := if mx < ((sb.length : Int) - sa.length) * 2 then mx + 1 else lvOut (fun i k => g (sb.getD i 0) (sa.getD k 0)) sa.length sb.length mx
noncomputable def levB (g : Nat → Nat → Int) (p q : List Nat) (mx : Int) : Int := if p.length = 0 ∨ q.length = 0 then 2 * ((p.length : Int) + q.length) else if q.length < p.length then levC g q p mx else levC g p q mx
noncomputable def levA (g : Nat → Nat → Int) (x y : List Nat) (n : Nat) (mx : Int) : Int := levB g (x.take (x.length - n)) (y.take (y.length - n)) mx
noncomputable def lev (g : Nat → Nat → Int) (x y : List Nat) (mx : Int) : Int := if x = y then 0 else levA g (x.drop (lcp (fun a b => a == b) x y)) (y.drop (lcp (fun a b => a == b) x y)) (lcp (fun a b => a == b) (x.drop (lcp (fun a b => a == b) x y)).reverse (y.drop (lcp (fun a b => a == b) x y)).reverse) mx
theorem levA_zero {g : Nat → Nat → Int} {x y : List Nat} {n : Nat} {mx : Int} (h : -(n : Int) = 0) : levA g x y n mx = levB g x y mx := by
  have : n = 0 := by omega
  subst this
  unfold levA
  rw [Nat.sub_zero, Nat.sub_zero, List.take_length, List.take_length]
theorem lev_same {g : Nat → Nat → Int} {x y : List Nat} {mx : Int} (h : ((⟨x.toArray⟩ : Str) == ⟨y.toArray⟩) = true) : lev g x y mx = 0 := by
  rw [text_eq] at h
  exact if_pos (of_decide_eq_true h)
theorem lev_else {g : Nat → Nat → Int} {x y : List Nat} {mx : Int} (h : ((⟨x.toArray⟩ : Str) == ⟨y.toArray⟩) = false) : lev g x y mx = levA g (x.drop (lcp (fun a b => a == b) x y)) (y.drop (lcp (fun a b => a == b) x y)) (lcp (fun a b => a == b) (x.drop (lcp (fun a b => a == b) x y)).reverse (y.drop (lcp (fun a b => a == b) x y)).reverse) mx := by
  rw [text_eq] at h
  exact if_neg (of_decide_eq_false h)
theorem lvCells_len (f : Nat → Int) (i : Nat) (row : List Int) : ∀ k, (lvCells f i row k).2.2.2.length = row.length
  | 0 => rfl
  | k + 1 => by
    show ((lvCells f i row k).2.2.2.set k _).length = _
    rw [List.length_set, lvCells_len f i row k]
theorem lvState_len (f : Nat → Nat → Int) (n : Nat) : ∀ i, (lvState f n i).2.length = n
  | 0 => by simp [lvState, row0]
  | i + 1 => by
    show (lvCells _ _ _ n).2.2.2.length = n
    rw [lvCells_len, lvState_len f n i]

-- i2din
-- plain
noncomputable def fnBody : Stmt → List Stmt
  | .FunctionDef _ _ b _ _ _ _ _ _ _ => b
  | _ => []
noncomputable def fnPars : Stmt → Arguments
  | .FunctionDef _ p _ _ _ _ _ _ _ _ => p
  | _ => default
noncomputable def fnScope : Stmt → Scope
  | .FunctionDef _ _ _ _ _ _ s _ _ _ => s
  | _ => default
noncomputable def fnPos : Stmt → Pos
  | .FunctionDef _ _ _ _ _ _ _ _ _ p => p
  | _ => ⟨0, 0, 0, 0⟩
noncomputable def innA : Stmt := (fnBody (PySem.Challenge.pw_tc0016_01.main.body.getD 4 (.Pass ⟨0, 0, 0, 0⟩))).getD 1 (.Pass ⟨0, 0, 0, 0⟩)
noncomputable def innB : Stmt := (fnBody (PySem.Challenge.pw_tc0016_01.main.body.getD 5 (.Pass ⟨0, 0, 0, 0⟩))).getD 0 (.Pass ⟨0, 0, 0, 0⟩)
-- the table of a def that makes a def: empty, or it holds the inner one's code
noncomputable def TabOk (i : Stmt) (qual : Str) (ps : Array Value) (news : List (Addr × Obj)) : Prop :=
  ps = #[] ∨ ∃ (c : Addr) (oc : Obj) (vs : Array Value) (t : Tok), ps = #[rawInt (fnPos i).line, rawInt (fnPos i).col, .ref c] ∧ (c, oc) ∈ news ∧ oc.data = .fields vs ∧ vs[1]? = some (.str qual t)
-- places lo .. hi - 1 hold the figures of x to the base b, the lowest first
noncomputable def Filled (ns ns' : List Int) (lo hi b x : Nat) : Prop := ns'.length = ns.length ∧ ∀ j, ns'.getD j 0 = if lo ≤ j ∧ j < hi then ((x / b ^ (j - lo) % b : Nat) : Int) else ns.getD j 0
noncomputable def InnASays (w : World) (p : Program) (loose : List Str) (mean : ExcName → Option Value) (mg mb : Str → Option Value) (n : Int) (sz : Nat) : Prop :=
  ∀ {dp un : Nat} {gd : Option (List Code)} {cn : Str} {cs : Scope} {a : Addr} {ccd : Value} {cl : List (Str × Addr)} {outer : List Env} {A₀ : Around} {base h₀ : Heap} {L : Addr} {m : Str → Option Value} {news : List (Addr × Obj)} {s : Shared} {Q E : Value → Shared → Prop}
    {f c cA cI cN D : Addr} {oc oA oI oN : Obj} {cvs : Array Value} {tq : Tok} {qual : Str} {doc pm ctv : Value} {vs : List Value} {ns : List Int} {k : Nat} {x lo hi : Int} {tx tl th tn : Tok} {X : Nat},
    Below A₀ base outer h₀ → Fr h₀ L s.heap m → (kk w.params).In h₀ → Top p loose mean mg mb h₀ → cs.kind = .function → CodeHd base 34 30 → dp + sz + 1 < recursionLimit → un + 8 * (sz + 1) < cLine →
    News h₀ L s.heap ((D, listOf vs.toArray k) :: news) → (∀ q ∈ news, q.1 ≠ D) →
    (f, fnMade "inner" qual (fnPars innA) (fnBody innA) (fnScope innA) [("n", cN), ("inner", cI), ("a_digits", cA)] doc pm c ctv) ∈ news → (c, oc) ∈ news → oc.data = .fields cvs → cvs[1]? = some (.str qual tq) →
    (cN, oN) ∈ news → oN.data = .cell (some (.int n tn)) → (cI, oI) ∈ news → oI.data = .cell (some (.ref f)) → (cA, oA) ∈ news → oA.data = .cell (some (.ref D)) →
    IntsAre vs ns → 0 ≤ lo → lo < hi → hi ≤ ns.length → hi ≤ 1000 → hi - lo ≤ sz → x = X → X < (2 ^ n.toNat) ^ (hi - lo).toNat →
    (∀ us ns' h' tk', Fr h₀ L h' m → News h₀ L h' ((D, listOf (List.toArray us) k) :: news) → IntsAre us ns' → Filled ns ns' lo.toNat hi.toNat (2 ^ n.toNat) X → Q .none { s with heap := h', toks := tk' }) →
    wpAny (model PySem.Challenge.rw_tc0016_01.row.prog w) (ktrTop dp un gd cn cs L a ccd cl outer) (call (.ref f) [.int x tx, .int lo tl, .int hi th]) Q E s

-- mth
-- plain
theorem pow2_cast (s : Nat) : ((2 ^ s : Nat) : Int) = (2 : Int) ^ s := by simp
theorem fdiv_nat (X s : Nat) : ((X : Int)).fdiv (2 ^ s) = ((X / 2 ^ s : Nat) : Int) := by
  rw [← pow2_cast, Int.fdiv_eq_ediv_of_nonneg _ (Int.natCast_nonneg _), Int.natCast_ediv]
theorem land_shift (X s : Nat) : X &&& (X / 2 ^ s * 2 ^ s) = X / 2 ^ s * 2 ^ s := by
  apply Nat.eq_of_testBit_eq
  intro i
  rw [Nat.testBit_and, ← Nat.shiftRight_eq_div_pow, ← Nat.shiftLeft_eq, Nat.testBit_shiftLeft, Nat.testBit_shiftRight]
  by_cases h : s ≤ i
  · rw [show s + (i - s) = i by omega]; simp
  · simp [h]
theorem xor_low (X s : Nat) : Builtin.bitXor (X : Int) (((X : Int)).fdiv (2 ^ s) * 2 ^ s) = ((X % 2 ^ s : Nat) : Int) := by
  rw [bitXor_and, fdiv_nat, ← pow2_cast, ← Int.natCast_mul, bitAnd_pp (Int.natCast_nonneg _) (Int.natCast_nonneg _), Int.toNat_natCast, Int.toNat_natCast, land_shift]
  have h := Nat.div_add_mod X (2 ^ s)
  rw [Nat.mul_comm] at h
  omega
theorem filled_join {ns ns1 ns2 : List Int} {lo mid hi b X : Nat} (h1 : lo ≤ mid) (h2 : mid ≤ hi) (f1 : Filled ns ns1 lo mid b (X % b ^ (mid - lo))) (f2 : Filled ns1 ns2 mid hi b (X / b ^ (mid - lo))) : Filled ns ns2 lo hi b X := by
  refine ⟨f2.1.trans f1.1, fun j => ?_⟩
  rw [f2.2 j]
  by_cases hj : mid ≤ j ∧ j < hi
  · rw [if_pos hj, if_pos ⟨by omega, hj.2⟩, Nat.div_div_eq_div_mul, ← Nat.pow_add, show mid - lo + (j - mid) = j - lo by omega]
  · rw [if_neg hj, f1.2 j]
    by_cases hk : lo ≤ j ∧ j < mid
    · rw [if_pos hk, if_pos ⟨hk.1, by omega⟩]
      congr 1
      have e : b ^ (mid - lo) = b ^ (j - lo) * (b * b ^ (mid - j - 1)) := by
        rw [← Nat.pow_succ', ← Nat.pow_add]
        congr 1
        omega
      rw [e, Nat.mod_mul_right_div_self, Nat.mod_mul_right_mod]
    · rw [if_neg hk, if_neg (by omega)]
theorem filled_one {ns : List Int} {lo b X : Nat} (h : lo < ns.length) (hX : X < b) : Filled ns (ns.set lo (X : Int)) lo (lo + 1) b X := by
  refine ⟨List.length_set .., fun j => ?_⟩
  by_cases hj : lo = j
  · subst hj
    rw [if_pos ⟨Nat.le_refl _, Nat.lt_succ_self _⟩, Nat.sub_self, Nat.pow_zero, Nat.div_one, Nat.mod_eq_of_lt hX, List.getD_eq_getElem?_getD, List.getElem?_set_self h]
    rfl
  · rw [if_neg (by omega), List.getD_eq_getElem?_getD, List.getElem?_set_ne hj, ← List.getD_eq_getElem?_getD]
-- what the inner one's turn needs of its numbers
theorem inn_mid {lo hi : Int} (h : lo < hi) (hne : lo + 1 ≠ hi) : lo < (lo + hi).fdiv (2 ^ Int.toNat 1) ∧ (lo + hi).fdiv (2 ^ Int.toNat 1) < hi := by
  have e : (2 : Int) ^ Int.toNat 1 = 2 := by decide
  rw [e, Int.fdiv_eq_ediv_of_nonneg _ (by decide)]
  omega
theorem inn_mid0 {lo hi : Int} (h : lo < hi) : lo ≤ (lo + hi).fdiv (2 ^ Int.toNat 1) ∧ (lo + hi).fdiv (2 ^ Int.toNat 1) < hi := by
  have e : (2 : Int) ^ Int.toNat 1 = 2 := by decide
  rw [e, Int.fdiv_eq_ediv_of_nonneg _ (by decide)]
  omega
theorem inn_shift {lo mid n : Int} (h : lo ≤ mid) (hn : 0 < n) : ((mid - lo) * n).toNat = (mid - lo).toNat * n.toNat := by
  have h1 : ((mid - lo).toNat : Int) = mid - lo := Int.toNat_of_nonneg (by omega)
  have h2 : (n.toNat : Int) = n := Int.toNat_of_nonneg (by omega)
  have h3 : (mid - lo) * n = (((mid - lo).toNat * n.toNat : Nat) : Int) := by rw [Int.natCast_mul, h1, h2]
  rw [h3, Int.toNat_natCast]
theorem inn_bits {X a c : Nat} (h : X < (2 ^ a) ^ c) (ha : a ≤ 100) (hc : c ≤ 1000) : Builtin.Int.intBits (X : Int) ≤ 100000 := by
  refine intBits_le_iff.mpr ?_
  rw [Int.natAbs_natCast]
  rw [← Nat.pow_mul] at h
  exact Nat.lt_of_lt_of_le h (Nat.pow_le_pow_right (by decide) (Nat.le_trans (Nat.mul_le_mul ha hc) (by decide)))
theorem inn_fits {x y sh lo mid n hi : Int} (hb : Builtin.Int.intBits x ≤ 100000) (h0 : 0 ≤ lo) (h1 : lo ≤ mid) (h2 : mid ≤ hi) (h3 : hi ≤ 1000) (hn : 0 < n) (hn' : n ≤ 100) (hs : sh = (mid - lo) * n) : (Builtin.Int.intBits (x.fdiv y) : Int) + sh ≤ 2 ^ 27 := by
  have b := intBits_fdiv_le (y := y) hb
  have c : (mid - lo) * n ≤ 1000 * 100 := Int.mul_le_mul (by omega) hn' (by omega) (by decide)
  have e : (2 : Int) ^ 27 = 134217728 := by decide
  rw [e, hs]
  omega
theorem inn_split {X b lo mid hi : Nat} (h1 : lo ≤ mid) (h2 : mid ≤ hi) (hX : X < b ^ (hi - lo)) : X / b ^ (mid - lo) < b ^ (hi - mid) := by
  rcases Nat.eq_zero_or_pos b with rfl | hb
  · rcases Nat.eq_or_lt_of_le (Nat.le_trans h1 h2) with e | e
    · have e1 : mid - lo = 0 := by omega
      have e2 : hi - mid = 0 := by omega
      have e3 : hi - lo = 0 := by omega
      rw [e3, Nat.pow_zero] at hX
      rw [e1, e2, Nat.pow_zero, Nat.div_one]
      exact hX
    · rw [Nat.zero_pow (by omega)] at hX
      omega
  · refine Nat.div_lt_of_lt_mul ?_
    rw [← Nat.pow_add, show mid - lo + (hi - mid) = hi - lo by omega]
    exact hX
theorem inn_low {x lo mid n : Int} {X : Nat} (hx : x = X) (h : lo ≤ mid) (hn : 0 < n) : Builtin.bitXor x (x.fdiv (2 ^ ((mid - lo) * n).toNat) * 2 ^ ((mid - lo) * n).toNat) = ((X % (2 ^ n.toNat) ^ (mid - lo).toNat : Nat) : Int) := by
  rw [hx, inn_shift h hn, xor_low, ← Nat.pow_mul, Nat.mul_comm]
theorem inn_up {x lo mid n : Int} {X : Nat} (hx : x = X) (h : lo ≤ mid) (hn : 0 < n) : x.fdiv (2 ^ ((mid - lo) * n).toNat) = ((X / (2 ^ n.toNat) ^ (mid - lo).toNat : Nat) : Int) := by
  rw [hx, inn_shift h hn, fdiv_nat, ← Nat.pow_mul, Nat.mul_comm]
theorem tsub {a b : Int} (h0 : 0 ≤ a) (h1 : a ≤ b) : (b - a).toNat = b.toNat - a.toNat := by
  obtain ⟨m, rfl⟩ := Int.eq_ofNat_of_zero_le h0
  obtain ⟨n, rfl⟩ := Int.eq_ofNat_of_zero_le (Int.le_trans h0 h1)
  exact Int.toNat_sub n m
theorem tadd {a b c : Int} (h0 : a ≤ b) (h1 : b ≤ c) : (c - a).toNat = (b - a).toNat + (c - b).toNat := by
  rw [← Int.toNat_add (Int.sub_nonneg.mpr h0) (Int.sub_nonneg.mpr h1)]
  congr 1
  omega
theorem inn_upX {lo mid hi : Int} {b X : Nat} (h0 : 0 ≤ lo) (h1 : lo ≤ mid) (h2 : mid ≤ hi) (hX : X < b ^ (hi - lo).toNat) : X / b ^ (mid - lo).toNat < b ^ (hi - mid).toNat := by
  rw [tsub h0 (Int.le_trans h1 h2)] at hX
  rw [tsub h0 h1, tsub (Int.le_trans h0 h1) h2]
  exact inn_split (Int.toNat_le_toNat h1) (Int.toNat_le_toNat h2) hX
theorem filled_joinI {ns ns1 ns2 : List Int} {lo mid hi : Int} {b X : Nat} (h0 : 0 ≤ lo) (h1 : lo ≤ mid) (h2 : mid ≤ hi) (f1 : Filled ns ns1 lo.toNat mid.toNat b (X % b ^ (mid - lo).toNat)) (f2 : Filled ns1 ns2 mid.toNat hi.toNat b (X / b ^ (mid - lo).toNat)) : Filled ns ns2 lo.toNat hi.toNat b X := by
  rw [tsub h0 h1] at f1 f2
  exact filled_join (Int.toNat_le_toNat h1) (Int.toNat_le_toNat h2) f1 f2
theorem filled_oneI {ns : List Int} {lo hi x : Int} {b X : Nat} (h0 : 0 ≤ lo) (h1 : lo + 1 = hi) (h : hi ≤ ns.length) (hx : x = X) (hX : X < b ^ (hi - lo).toNat) : Filled ns (ns.set lo.toNat x) lo.toNat hi.toNat b X := by
  have e : (hi - lo).toNat = 1 := by omega
  have e2 : hi.toNat = lo.toNat + 1 := by omega
  rw [e, Nat.pow_one] at hX
  rw [e2, hx]
  exact filled_one (by omega) hX
-- how many figures
noncomputable def ndig (n : Int) (X : Nat) : Int := ((Builtin.Int.intBits (X : Int) : Int) + n - 1).fdiv n
noncomputable def digs (b k x : Nat) : List Int := (List.range k).map fun j => ((x / b ^ j % b : Nat) : Int)
theorem digs_length (b k x : Nat) : (digs b k x).length = k := by simp [digs]
theorem digs_getD {b k x j : Nat} (h : j < k) : (digs b k x).getD j 0 = ((x / b ^ j % b : Nat) : Int) := by
  simp [digs, List.getD_eq_getElem?_getD, h]
theorem filled_digs {ns' : List Int} {k b X : Nat} (f : Filled (List.replicate k (0 : Int)) ns' 0 k b X) : ns' = digs b k X := by
  have hl : ns'.length = k := by rw [f.1, List.length_replicate]
  refine List.ext_getElem (by rw [hl, digs_length]) fun j h1 h2 => ?_
  have h3 : j < k := by rw [← hl]; exact h1
  have e := f.2 j
  rw [if_pos ⟨Nat.zero_le _, h3⟩, Nat.sub_zero] at e
  have e2 : ns'.getD j 0 = ns'[j] := by simp [List.getD_eq_getElem?_getD, h1]
  rw [← e2, e]
  simp [digs]
theorem ndig_facts {n : Int} {X : Nat} (hn : 0 < n) : 0 ≤ ndig n X ∧ n * (ndig n X) < (Builtin.Int.intBits (X : Int) : Int) + n ∧ (Builtin.Int.intBits (X : Int) : Int) ≤ n * ndig n X := by
  unfold ndig
  rw [Int.fdiv_eq_ediv_of_nonneg _ (by omega)]
  have h1 := Int.mul_ediv_add_emod ((Builtin.Int.intBits (X : Int) : Int) + n - 1) n
  have h2 := Int.emod_nonneg ((Builtin.Int.intBits (X : Int) : Int) + n - 1) (show n ≠ 0 by omega)
  have h3 := Int.emod_lt_of_pos ((Builtin.Int.intBits (X : Int) : Int) + n - 1) hn
  refine ⟨Int.ediv_nonneg (by omega) (by omega), by omega, by omega⟩
theorem ndig_zero {n : Int} (hn : 0 < n) : ndig n 0 = 0 := by
  unfold ndig
  rw [Int.fdiv_eq_ediv_of_nonneg _ (by omega)]
  have e : (Builtin.Int.intBits ((0 : Nat) : Int) : Int) = 0 := by decide
  rw [e]
  exact Int.ediv_eq_zero_of_lt (by omega) (by omega)
theorem ndig_pos {n : Int} {X : Nat} (hn : 0 < n) (hX : X ≠ 0) : 0 < ndig n X := by
  have h := ndig_facts (X := X) hn
  have hb : 0 < Builtin.Int.intBits (X : Int) := by
    rcases Nat.eq_zero_or_pos (Builtin.Int.intBits (X : Int)) with e | e
    · have := intBits_le_iff.mp (Nat.le_of_eq e)
      rw [Int.natAbs_natCast] at this
      omega
    · exact e
  rcases Int.lt_or_le 0 (ndig n X) with e | e
  · exact e
  · have e0 : ndig n X = 0 := by omega
    rw [e0] at h
    omega
theorem ndig_top {n : Int} {X : Nat} (hn : 0 < n) : X < (2 ^ n.toNat) ^ (ndig n X).toNat := by
  have h := ndig_facts (X := X) hn
  rw [← Nat.pow_mul]
  have hx : X < 2 ^ Builtin.Int.intBits (X : Int) := by
    have := intBits_le_iff.mp (Nat.le_refl (Builtin.Int.intBits (X : Int)))
    rwa [Int.natAbs_natCast] at this
  refine Nat.lt_of_lt_of_le hx (Nat.pow_le_pow_right (by decide) ?_)
  have e1 : (n.toNat : Int) = n := Int.toNat_of_nonneg (by omega)
  have e2 : ((ndig n X).toNat : Int) = ndig n X := Int.toNat_of_nonneg h.1
  have e3 : ((n.toNat * (ndig n X).toNat : Nat) : Int) = n * ndig n X := by rw [Int.natCast_mul, e1, e2]
  omega
theorem i2d_end {n : Int} {X n1 : Nat} {us : List Value} {ns' : List Int} (hn : 0 < n) (I : IntsAre us ns') (f : Filled (List.replicate (ndig n X).toNat [(0 : Int)]).flatten ns' (0 : Int).toNat ((n1 : Nat) : Int).toNat (2 ^ n.toNat) X) (e : 0 ≤ ndig n X → ((n1 : Nat) : Int) = ((0 + 1 : Nat) : Int) * ndig n X) :
    IntsAre us (digs (2 ^ n.toNat) (ndig n X).toNat X) := by
  have h0 := (ndig_facts (X := X) hn).1
  have e1 := e h0
  rw [krep_flat, show ((n1 : Nat) : Int).toNat = (ndig n X).toNat by omega, Int.toNat_zero] at f
  rw [← filled_digs f]
  exact I
theorem i2d_none {n : Int} {X : Nat} {us : List Value} (hn : 0 < n) (hX : X = 0) (I : IntsAre us (List.replicate (ndig n X).toNat [(0 : Int)]).flatten) : IntsAre us (digs (2 ^ n.toNat) (ndig n X).toNat X) := by
  subst hX
  rw [ndig_zero hn] at I ⊢
  exact I
theorem i2d_top {n : Int} {X n1 : Nat} (hn : 0 < n) (e : 0 ≤ ndig n X → ((n1 : Nat) : Int) = ((0 + 1 : Nat) : Int) * ndig n X) : X < (2 ^ n.toNat) ^ (((n1 : Nat) : Int) - 0).toNat := by
  have h0 := (ndig_facts (X := X) hn).1
  have e1 := e h0
  rw [show (((n1 : Nat) : Int) - 0).toNat = (ndig n X).toNat by omega]
  exact ndig_top hn
-- the number that figures make, the lowest first (they may lie below nought)
noncomputable def d2i (b : Nat) : List Int → Int
  | [] => 0
  | a :: r => a + (b : Int) * d2i b r
theorem d2i_append (b : Nat) : ∀ l r : List Int, d2i b (l ++ r) = d2i b l + ((b ^ l.length : Nat) : Int) * d2i b r
  | [], r => by simp [d2i]
  | a :: l, r => by
    show a + (b : Int) * d2i b (l ++ r) = a + (b : Int) * d2i b l + ((b ^ (l.length + 1) : Nat) : Int) * d2i b r
    rw [d2i_append b l r, Nat.pow_succ, Int.natCast_mul, Int.mul_add, Int.add_assoc, ← Int.mul_assoc, Int.mul_comm (b : Int) ((b ^ l.length : Nat) : Int)]
theorem d2i_bound {b M : Nat} (hb : 2 ≤ b) : ∀ {l : List Int}, (∀ a ∈ l, a.natAbs ≤ M) → (d2i b l).natAbs ≤ M * (b ^ l.length - 1)
  | [], _ => by simp [d2i]
  | a :: l, h => by
    have h1 := h a (.head _)
    have h2 := d2i_bound hb (l := l) fun x hx => h x (.tail _ hx)
    show (a + (b : Int) * d2i b l).natAbs ≤ M * (b ^ (l.length + 1) - 1)
    have h3 : (a + (b : Int) * d2i b l).natAbs ≤ a.natAbs + b * (d2i b l).natAbs := Nat.le_trans (Int.natAbs_add_le ..) (by rw [Int.natAbs_mul, Int.natAbs_natCast]; exact Nat.le_refl _)
    have hp : 1 ≤ b ^ l.length := Nat.pow_pos (by omega)
    have h4 : b * (d2i b l).natAbs ≤ b * (M * (b ^ l.length - 1)) := Nat.mul_le_mul_left b h2
    have h5 : b * (M * (b ^ l.length - 1)) = M * (b ^ (l.length + 1) - b) := by
      rw [Nat.pow_succ, Nat.mul_left_comm, Nat.mul_sub_one, Nat.mul_comm b (b ^ l.length)]
    have h6 : M + M * (b ^ (l.length + 1) - b) = M * (1 + (b ^ (l.length + 1) - b)) := by rw [Nat.mul_add, Nat.mul_one]
    have h7 : b ≤ b ^ (l.length + 1) := by rw [Nat.pow_succ]; exact Nat.le_mul_of_pos_left b hp
    have h8 : M * (1 + (b ^ (l.length + 1) - b)) ≤ M * (b ^ (l.length + 1) - 1) := Nat.mul_le_mul_left M (by omega)
    omega
noncomputable def d2iAt (b : Nat) (ns : List Int) (lo hi : Int) : Int := d2i b ((ns.drop lo.toNat).take (hi - lo).toNat)
theorem d2iAt_one {b : Nat} {ns : List Int} {lo hi : Int} (h0 : 0 ≤ lo) (h1 : lo + 1 = hi) (h : hi ≤ ns.length) : ns.getD lo.toNat 0 = d2iAt b ns lo hi := by
  have e : (hi - lo).toNat = 1 := by omega
  have hl : lo.toNat < ns.length := by omega
  unfold d2iAt
  rw [e, List.drop_eq_getElem_cons hl]
  show _ = ns[lo.toNat] + (b : Int) * d2i b (List.take 0 _)
  rw [List.take_zero]
  show _ = ns[lo.toNat] + (b : Int) * 0
  rw [Int.mul_zero, Int.add_zero, List.getD_eq_getElem?_getD, List.getElem?_eq_getElem hl, Option.getD_some]
theorem d2iAt_join {n lo mid hi : Int} {ns : List Int} (hn : 0 < n) (h0 : 0 ≤ lo) (h1 : lo ≤ mid) (h2 : mid ≤ hi) (h : hi ≤ ns.length) :
    d2iAt (2 ^ n.toNat) ns mid hi * 2 ^ ((mid - lo) * n).toNat + d2iAt (2 ^ n.toNat) ns lo mid = d2iAt (2 ^ n.toNat) ns lo hi := by
  unfold d2iAt
  have e1 : (hi - lo).toNat = (mid - lo).toNat + (hi - mid).toNat := tadd h1 h2
  have e2 : mid.toNat = lo.toNat + (mid - lo).toNat := by rw [tsub h0 h1, Nat.add_sub_cancel' (Int.toNat_le_toNat h1)]
  rw [e1, List.take_add, d2i_append, List.drop_drop, ← e2, List.length_take, List.length_drop, inn_shift h1 hn]
  have e3 : min (mid - lo).toNat (ns.length - lo.toNat) = (mid - lo).toNat := by omega
  rw [e3, ← Nat.pow_mul, Nat.mul_comm n.toNat, pow2_cast, Int.mul_comm, Int.add_comm]
theorem d2iAt_bits {n lo hi : Int} {ns : List Int} {k : Nat} (hn : 0 < n) (hn' : n ≤ 100) (h0 : 0 ≤ lo) (h1 : lo ≤ hi) (h3 : hi ≤ 1000) (hk : k ≤ 1000) (hb : ∀ j, Builtin.Int.intBits (ns.getD j 0) ≤ k) : Builtin.Int.intBits (d2iAt (2 ^ n.toNat) ns lo hi) ≤ 102000 := by
  refine intBits_le_iff.mpr ?_
  unfold d2iAt
  generalize hl : (ns.drop lo.toNat).take (hi - lo).toNat = l
  have hlen : l.length ≤ 1000 := by rw [← hl, List.length_take]; omega
  have hb2 : 2 ≤ 2 ^ n.toNat := by
    have : 2 ^ 1 ≤ 2 ^ n.toNat := Nat.pow_le_pow_right (by decide) (by omega)
    simpa using this
  have hm : ∀ a ∈ l, a.natAbs ≤ 2 ^ k := by
    intro a ha
    rw [← hl] at ha
    have ha2 : a ∈ ns := List.mem_of_mem_drop (List.mem_of_mem_take ha)
    obtain ⟨j, hj, e⟩ := List.getElem_of_mem ha2
    have := hb j
    rw [List.getD_eq_getElem?_getD, List.getElem?_eq_getElem hj, Option.getD_some, e] at this
    exact Nat.le_of_lt (intBits_le_iff.mp this)
  have h := d2i_bound hb2 hm
  have hp : (2 ^ n.toNat) ^ l.length ≤ 2 ^ (100 * 1000) := by
    rw [← Nat.pow_mul]
    exact Nat.pow_le_pow_right (by decide) (Nat.mul_le_mul (by omega) hlen)
  have hq : 2 ^ k * ((2 ^ n.toNat) ^ l.length - 1) < 2 ^ 102000 := by
    refine Nat.lt_of_le_of_lt (Nat.mul_le_mul (Nat.pow_le_pow_right (by decide) hk) (Nat.le_trans (Nat.sub_le _ _) hp)) ?_
    rw [← Nat.pow_add]
    exact Nat.pow_lt_pow_right (by decide) (by decide)
  omega
theorem d2iAt_fits {x sh lo mid n hi : Int} (hb : Builtin.Int.intBits x ≤ 102000) (h0 : 0 ≤ lo) (h1 : lo ≤ mid) (h2 : mid ≤ hi) (h3 : hi ≤ 1000) (hn : 0 < n) (hn' : n ≤ 100) (hs : sh = (mid - lo) * n) : (Builtin.Int.intBits x : Int) + sh ≤ 2 ^ 27 := by
  have c : (mid - lo) * n ≤ 1000 * 100 := Int.mul_le_mul (by omega) hn' (by omega) (by decide)
  have e : (2 : Int) ^ 27 = 134217728 := by decide
  rw [e, hs]
  omega
theorem d2iAt_all {b n1 : Nat} {ns : List Int} (h : ns.length = n1) : d2iAt b ns 0 ((n1 : Nat) : Int) = d2i b ns := by
  unfold d2iAt
  rw [Int.toNat_zero, List.drop_zero, Int.sub_zero, Int.toNat_natCast, ← h, List.take_length]
theorem d2i_none {b : Nat} {ns : List Int} (h : ns.length = 0) : (0 : Int) = d2i b ns := by
  rw [List.length_eq_zero_iff.mp h]
  rfl

-- innBs
-- plain
noncomputable def InnBSays (w : World) (p : Program) (loose : List Str) (mean : ExcName → Option Value) (mg mb : Str → Option Value) (n : Int) (sz : Nat) : Prop :=
  ∀ {dp un : Nat} {gd : Option (List Code)} {cn : Str} {cs : Scope} {a : Addr} {ccd : Value} {cl : List (Str × Addr)} {outer : List Env} {A₀ : Around} {base h₀ : Heap} {L : Addr} {m : Str → Option Value} {news : List (Addr × Obj)} {s : Shared} {Q E : Value → Shared → Prop}
    {f c cA cI cN D : Addr} {oc oA oI oN : Obj} {cvs : Array Value} {tq : Tok} {qual : Str} {doc pm ctv : Value} {vs : List Value} {ns : List Int} {k : Nat} {lo hi : Int} {tl th tn : Tok},
    Below A₀ base outer h₀ → Fr h₀ L s.heap m → (kk w.params).In h₀ → Top p loose mean mg mb h₀ → cs.kind = .function → CodeHd base 41 37 → dp + sz + 1 < recursionLimit → un + 8 * (sz + 1) < cLine →
    News h₀ L s.heap news → (D, listOf vs.toArray k) ∈ news → (∀ j, Builtin.Int.intBits (ns.getD j 0) ≤ 1000) →
    (f, fnMade "inner" qual (fnPars innB) (fnBody innB) (fnScope innB) [("n", cN), ("inner", cI), ("digits", cA)] doc pm c ctv) ∈ news → (c, oc) ∈ news → oc.data = .fields cvs → cvs[1]? = some (.str qual tq) →
    (cN, oN) ∈ news → oN.data = .cell (some (.int n tn)) → (cI, oI) ∈ news → oI.data = .cell (some (.ref f)) → (cA, oA) ∈ news → oA.data = .cell (some (.ref D)) →
    IntsAre vs ns → 0 ≤ lo → lo < hi → hi ≤ ns.length → hi ≤ 1000 → hi - lo ≤ sz →
    (∀ t h' tk', Fr h₀ L h' m → News h₀ L h' news → Q (.int (d2iAt (2 ^ n.toNat) ns lo hi) t) { s with heap := h', toks := tk' }) →
    wpAny (model PySem.Challenge.rw_tc0016_01.row.prog w) (ktrTop dp un gd cn cs L a ccd cl outer) (call (.ref f) [.int lo tl, .int hi th]) Q E s

-- mdm
-- plain
-- long division by figures, the highest first
noncomputable def dmStep (n b : Int) (a : List Int × Int) (d : Int) : List Int × Int := (a.1 ++ [(a.2 * 2 ^ n.toNat + d).fdiv b], (a.2 * 2 ^ n.toNat + d).fmod b)
theorem fdm {b : Int} (hb : 0 < b) (t : Int) : t.fdiv b * b + t.fmod b = t ∧ 0 ≤ t.fmod b ∧ t.fmod b < b := by
  rw [Int.fdiv_eq_ediv_of_nonneg _ (Int.le_of_lt hb), Int.fmod_eq_emod_of_nonneg _ (Int.le_of_lt hb)]
  exact ⟨Int.ediv_mul_add_emod t b, Int.emod_nonneg _ (by omega), Int.emod_lt_of_pos _ hb⟩
theorem d2i_snoc (b : Nat) (l : List Int) (d : Int) : d2i b (l ++ [d]) = d2i b l + ((b ^ l.length : Nat) : Int) * d := by
  rw [d2i_append]
  show _ + _ * (d + (b : Int) * 0) = _
  rw [Int.mul_zero, Int.add_zero]
theorem dm_inv {n b : Int} (hb : 0 < b) : ∀ (ds : List Int) (a : List Int × Int),
    d2i (2 ^ n.toNat) (ds.foldl (dmStep n b) a).1.reverse * b + (ds.foldl (dmStep n b) a).2 = (d2i (2 ^ n.toNat) a.1.reverse * b + a.2) * (((2 ^ n.toNat) ^ ds.length : Nat) : Int) + d2i (2 ^ n.toNat) ds.reverse
  | [], a => by simp [d2i]
  | d :: ds, a => by
    rw [List.foldl_cons, dm_inv hb ds (dmStep n b a d), List.reverse_cons, d2i_snoc, List.length_reverse, List.length_cons]
    have h := (fdm hb (a.2 * 2 ^ n.toNat + d)).1
    have e : d2i (2 ^ n.toNat) (dmStep n b a d).1.reverse * b + (dmStep n b a d).2 = (d2i (2 ^ n.toNat) a.1.reverse * b + a.2) * 2 ^ n.toNat + d := by
      show d2i _ (a.1 ++ [_]).reverse * b + (a.2 * 2 ^ n.toNat + d).fmod b = _
      rw [List.reverse_append]
      show ((a.2 * 2 ^ n.toNat + d).fdiv b + ((2 ^ n.toNat : Nat) : Int) * d2i (2 ^ n.toNat) a.1.reverse) * b + _ = _
      rw [pow2_cast, Int.add_mul, Int.add_mul, Int.add_right_comm, h, Int.add_assoc, Int.add_comm _ (2 ^ n.toNat * _ * b), ← Int.add_assoc, Int.add_right_comm, Int.mul_assoc, Int.mul_comm (2 ^ n.toNat) (_ * b), Int.add_comm (a.2 * _)]
      omega
    rw [e, Nat.pow_succ, Int.natCast_mul, pow2_cast, Int.add_mul, Int.mul_assoc, Int.mul_comm ((((2 ^ n.toNat) ^ ds.length : Nat)) : Int) (2 ^ n.toNat), Int.mul_comm d, Int.add_assoc, Int.add_comm (_ * d)]
theorem dm_rest {n b : Int} (hb : 0 < b) : ∀ (ds : List Int) (a : List Int × Int), 0 ≤ a.2 → a.2 < b → 0 ≤ (ds.foldl (dmStep n b) a).2 ∧ (ds.foldl (dmStep n b) a).2 < b
  | [], _, h0, h1 => ⟨h0, h1⟩
  | d :: ds, a, _, _ => dm_rest hb ds _ (fdm hb _).2.1 (fdm hb _).2.2
theorem d2i_digs {b : Nat} (hb : 0 < b) : ∀ (k x : Nat), x < b ^ k → d2i b (digs b k x) = x
  | 0, x, h => by
    rw [Nat.pow_zero] at h
    have : x = 0 := by omega
    subst this
    rfl
  | k + 1, x, h => by
    have e : digs b (k + 1) x = ((x % b : Nat) : Int) :: digs b k (x / b) := by
      unfold digs
      rw [List.range_succ_eq_map, List.map_cons, List.map_map]
      congr 1
      · rw [Nat.pow_zero, Nat.div_one]
      · apply List.map_congr_left
        intro j _
        show ((x / b ^ (j + 1) % b : Nat) : Int) = ((x / b / b ^ j % b : Nat) : Int)
        rw [Nat.div_div_eq_div_mul, Nat.pow_succ, Nat.mul_comm]
    rw [e]
    show ((x % b : Nat) : Int) + (b : Int) * d2i b (digs b k (x / b)) = x
    rw [d2i_digs hb k (x / b) (Nat.div_lt_of_lt_mul (by rw [Nat.mul_comm, ← Nat.pow_succ]; exact h)), ← Int.natCast_mul, ← Int.natCast_add, Nat.mod_add_div]
theorem digs_mem {b k x : Nat} {d : Int} (hb : 0 < b) (h : d ∈ digs b k x) : 0 ≤ d ∧ d < b := by
  obtain ⟨j, _, rfl⟩ := List.mem_map.mp h
  exact ⟨Int.natCast_nonneg _, by have := Nat.mod_lt (x / b ^ j) hb; omega⟩
theorem fdm_unique {b q r x : Int} (h : q * b + r = x) (h0 : 0 ≤ r) (h1 : r < b) : x.fdiv b = q ∧ x.fmod b = r := by
  have hb : 0 < b := by omega
  rw [Int.fdiv_eq_ediv_of_nonneg _ (Int.le_of_lt hb), Int.fmod_eq_emod_of_nonneg _ (Int.le_of_lt hb), ← h]
  constructor
  · rw [Int.add_comm, Int.add_mul_ediv_right _ _ (by omega), Int.ediv_eq_zero_of_lt h0 h1, Int.zero_add]
  · rw [Int.add_comm, Int.add_mul_emod_self_right, Int.emod_eq_of_lt h0 h1]
theorem dm_all {n b : Int} {k X : Nat} (hb : 0 < b) (hX : X < (2 ^ n.toNat) ^ k) :
    d2i (2 ^ n.toNat) ((digs (2 ^ n.toNat) k X).reverse.foldl (dmStep n b) ([], 0)).1.reverse = (X : Int).fdiv b ∧ ((digs (2 ^ n.toNat) k X).reverse.foldl (dmStep n b) ([], 0)).2 = (X : Int).fmod b := by
  have h := dm_inv (n := n) hb (digs (2 ^ n.toNat) k X).reverse ([], 0)
  rw [List.reverse_reverse, d2i_digs (Nat.pow_pos (by decide)) k X hX] at h
  have e : (d2i (2 ^ n.toNat) (([] : List Int), (0 : Int)).1.reverse * b + (([] : List Int), (0 : Int)).2) = 0 := by simp [d2i]
  rw [e, Int.zero_mul, Int.zero_add] at h
  obtain ⟨r0, r1⟩ := dm_rest (n := n) hb (digs (2 ^ n.toNat) k X).reverse ([], 0) (Int.le_refl _) hb
  obtain ⟨h1, h2⟩ := fdm_unique h r0 r1
  exact ⟨h1.symm, h2.symm⟩
theorem dm_length {n b : Int} : ∀ (ds : List Int) (a : List Int × Int), (ds.foldl (dmStep n b) a).1.length = a.1.length + ds.length
  | [], a => rfl
  | d :: ds, a => by
    rw [List.foldl_cons, dm_length ds, List.length_cons]
    show (a.1 ++ [_]).length + _ = _
    rw [List.length_append, List.length_singleton]
    omega
-- the sizes: r below b, a figure below 2 ^ n
theorem dm_t {n b r d : Int} (hn : n ≤ 100) (hb : Builtin.Int.intBits b ≤ 100) (h0 : 0 ≤ r) (h1 : r < b) (h2 : 0 ≤ d) (h3 : d < ((2 ^ n.toNat : Nat) : Int)) : Builtin.Int.intBits (r * 2 ^ n.toNat + d) ≤ 301 := by
  have br : Builtin.Int.intBits r ≤ 100 := intBits_le_of_natAbs (y := b) (by omega) hb
  have bd : Builtin.Int.intBits d ≤ 100 := by
    refine intBits_le_iff.mpr ?_
    have : (2 : Nat) ^ n.toNat ≤ 2 ^ 100 := Nat.pow_le_pow_right (by decide) (by omega)
    omega
  have bp : Builtin.Int.intBits ((2 : Int) ^ n.toNat) ≤ 200 := by
    refine intBits_le_iff.mpr ?_
    rw [← pow2_cast, Int.natAbs_natCast]
    exact Nat.pow_lt_pow_right (by decide) (by omega)
  exact Nat.le_trans (intBits_add_le (intBits_mul_le br bp) bd) (by decide)
theorem dm_bits {n b : Int} (hb : 0 < b) (hn : n ≤ 100) (hbb : Builtin.Int.intBits b ≤ 100) : ∀ (ds : List Int) (a : List Int × Int), 0 ≤ a.2 → a.2 < b → (∀ d ∈ ds, 0 ≤ d ∧ d < ((2 ^ n.toNat : Nat) : Int)) → (∀ q ∈ a.1, Builtin.Int.intBits q ≤ 400) → ∀ q ∈ (ds.foldl (dmStep n b) a).1, Builtin.Int.intBits q ≤ 400
  | [], _, _, _, _, h => h
  | d :: ds, a, h0, h1, hd, h => dm_bits hb hn hbb ds _ (fdm hb _).2.1 (fdm hb _).2.2 (fun x hx => hd x (.tail _ hx)) fun q hq => by
    rcases List.mem_append.mp hq with hq | hq
    · exact h q hq
    · rw [List.mem_singleton.mp hq]
      obtain ⟨d0, d1⟩ := hd d (.head _)
      exact Nat.le_trans (intBits_fdiv_le (dm_t hn hbb h0 h1 d0 d1)) (by decide)
theorem bits_getD {l : List Int} {k : Nat} (h : ∀ q ∈ l, Builtin.Int.intBits q ≤ k) (j : Nat) : Builtin.Int.intBits (l.getD j 0) ≤ k := by
  rw [List.getD_eq_getElem?_getD]
  rcases Nat.lt_or_ge j l.length with hj | hj
  · rw [List.getElem?_eq_getElem hj, Option.getD_some]
    exact h _ (List.getElem_mem hj)
  · rw [List.getElem?_eq_none hj]
    exact Nat.zero_le _
theorem bits_pos {b : Int} (hb : 0 < b) : 0 < (Builtin.Int.intBits b : Int) := by
  rcases Nat.eq_zero_or_pos (Builtin.Int.intBits b) with e | e
  · have := intBits_le_iff.mp (Nat.le_of_eq e)
    rw [Nat.pow_zero] at this
    omega
  · omega
theorem inv_fdm {x b : Int} (hb : 0 < b) : -((-x - 1).fdiv b) - 1 = x.fdiv b ∧ b + (-((-x - 1).fmod b) - 1) = x.fmod b := by
  obtain ⟨h1, h2, h3⟩ := fdm hb (-x - 1)
  have h := fdm_unique (b := b) (q := -((-x - 1).fdiv b) - 1) (r := b + (-((-x - 1).fmod b) - 1)) (x := x) (by rw [Int.sub_mul, Int.neg_mul, Int.one_mul]; omega) (by omega) (by omega)
  exact ⟨h.1.symm, h.2.symm⟩
theorem ndig_le {x b : Int} {X : Nat} (hb : 0 < b) (hX : Builtin.Int.intBits (X : Int) ≤ Builtin.Int.intBits x) (h : (Builtin.Int.intBits x : Int) ≤ 16 * (Builtin.Int.intBits b : Int)) : ndig (Builtin.Int.intBits b : Int) X ≤ 16 := by
  have hn := bits_pos hb
  obtain ⟨_, h2, _⟩ := ndig_facts (X := X) hn
  rcases Int.lt_or_le 16 (ndig (Builtin.Int.intBits b : Int) X) with e | e
  · have h3 : (Builtin.Int.intBits b : Int) * 17 ≤ (Builtin.Int.intBits b : Int) * ndig (Builtin.Int.intBits b : Int) X := Int.mul_le_mul_of_nonneg_left (by omega) (by omega)
    omega
  · exact e
theorem bits_neg (x : Int) : Builtin.Int.intBits (-x) = Builtin.Int.intBits x := Nat.le_antisymm (intBits_le_of_natAbs (by omega) (Nat.le_refl _)) (intBits_le_of_natAbs (by omega) (Nat.le_refl _))
theorem bits_inv {x : Int} (h : x < 0) : Builtin.Int.intBits (-x - 1) ≤ Builtin.Int.intBits x := intBits_le_of_natAbs (by omega) (Nat.le_refl _)
theorem neg_fdm {x b : Int} : (-x).fdiv (-b) = x.fdiv b ∧ -((-x).fmod (-b)) = x.fmod b := by
  rw [Int.fmod_def, Int.fmod_def]
  have h : (-x).fdiv (-b) = x.fdiv b := by simp
  rw [h]
  refine ⟨rfl, ?_⟩
  rw [Int.neg_mul]
  omega

-- xcomp
-- plain
-- a list comprehension over a range whose name is a cell of its own (a comprehension inside reads it)
section
variable {prog : Program} {w : World} {A : Around} {E : Value → Shared → Prop} {s : Shared} {h₀ : Heap} {L : Addr} {m : Str → Option Value} {env : Env}
noncomputable def XEnd (h₀ : Heap) (L : Addr) (m : Str → Option Value) (s₁ : Shared) (all : List (Addr × Obj)) (R : Value → Prop) (y : Value) (s₂ : Shared) : Prop :=
  ∃ h' tk, s₂ = { s₁ with heap := h', toks := tk } ∧ Fr h₀ L h' m ∧ News h₀ L h' all ∧ R y
theorem XEnd.intro {s₁ : Shared} {all all' : List (Addr × Obj)} {R : Value → Prop} {y : Value} {h' : Heap} {tk : Nat} (F : Fr h₀ L h' m) (N : News h₀ L h' all') (sub : ∀ p ∈ all, p ∈ all') (r : R y) :
    XEnd h₀ L m s₁ all R y { s₁ with heap := h', toks := tk } := ⟨h', tk, rfl, F, fun p hp => N p (sub p hp), r⟩
noncomputable def XSrc (prog : Program) (w : World) (A : Around) (h₀ : Heap) (L : Addr) (m : Str → Option Value) (env : Env) (elt : PySem.Expr) (x : Str) (scope : Scope) (cl : List (Str × Addr)) (Q : Value → Shared → Prop) (xv : Value) (s₁ : Shared) : Prop :=
  ∃ (n : Nat) (R : Int → Value → Prop) (r : Addr) (t u v : Tok) (news : List (Addr × Obj)), xv = .ref r ∧ A.handled = none ∧ Fr h₀ L s₁.heap m ∧ News h₀ L s₁.heap news ∧ IsRange s₁.heap r 0 (n : Int) 1 t u v ∧ Builtin.Range.small 0 (n : Int) 1 = true ∧ Builtin.Range.rangeSize 0 (n : Int) 1 = (n : Int) ∧ n ≤ sizeLine ∧
   (∀ k t' I oI C oC Kc oK D ys h tk (E' : Value → Shared → Prop), 0 ≤ k → k < (n : Int) → oK.data = .cell (some (.int k t')) → Fr h₀ L h m → News h₀ L h ((I, oI) :: (C, oC) :: (Kc, oK) :: (D, LCg.lst ys) :: news) → LCg.Off1 I ((C, oC) :: (Kc, oK) :: (D, LCg.lst ys) :: news) → LCg.Off1 C ((Kc, oK) :: (D, LCg.lst ys) :: news) → LCg.Off1 Kc ((D, LCg.lst ys) :: news) → LCg.Off1 D news →
     wpAny (model prog w) A (eval elt (compEnvC scope ((x, Kc) :: cl) C env)) (XEnd h₀ L m { s₁ with heap := h, toks := tk } ((I, oI) :: (C, oC) :: (Kc, oK) :: (D, LCg.lst ys) :: news) (R k)) E' { s₁ with heap := h, toks := tk }) ∧
   (∀ ys D h tk, RelAre R ys (rangeKs 0 n) → Fr h₀ L h m → News h₀ L h ((D, LCg.lst ys) :: news) → LCg.Off1 D news → Q (.ref D) { s₁ with heap := h, toks := tk })
theorem newEnv_one {M : Model} {x : Str} {scope : Scope} {globals : Addr} {cl : List (Str × Addr)} {qual : Str} {Q : Env → Shared → Prop}
    (hcells : ∀ b, cellsFrom b scope.names cl = (x, b) :: cl) (hpush : ∀ h : Heap, pushCells h scope.names = h.push { cls := .type "cell", data := .cell none })
    (hQ : Q { scope := scope, locals := s.heap.objs.size, globals := globals, cells := (x, s.heap.objs.size + 1) :: cl, qual := qual, func := none, code := env.code, frame := env.frame, builtins := env.builtins } { s with heap := (s.heap.push { cls := .type "dict", data := .dict #[] }).push { cls := .type "cell", data := .cell none } }) :
    wpAny M A (newFunctionEnv scope globals cl [] qual none .none (some env)) Q E s := by
  simp only [newFunctionEnv, Option.isSome_some, if_true]
  refine wpAny_bind (wpAny_alloc ?_)
  refine wpAny_bind (wpAny_layCells _ (fun name kind cells => by cases hkc : kind == NameKind.cell <;> simp [hkc]) _ _ _ _ ?_)
  rw [show ({ s with heap := s.heap.push { cls := .type "dict", data := .dict #[] } } : Shared).heap.objs.size = s.heap.objs.size + 1 from Heap.size_push .., hcells]
  dsimp only
  rw [hpush]
  refine wpAny_bind ?_
  rw [List.forIn_nil]
  exact wpAny_pure (wpAny_pure hQ)
theorem off1_of {D : Addr} : ∀ {l : List (Addr × Obj)}, (∀ p ∈ l, p.1 ≠ D) → LCg.Off1 D l
  | [], _ => trivial
  | p :: _, h => ⟨h p (.head _), off1_of fun q hq => h q (.tail _ hq)⟩
theorem ListComp_X {elt iter : PySem.Expr} {x : Str} {px : Pos} {scope : Scope} {cl : List (Str × Addr)} {pos : Pos} {Q : Value → Shared → Prop} (_F₀ : Fr h₀ L s.heap m)
    (hclos : closureFor scope env = pure cl) (hcells : ∀ b, cellsFrom b scope.names cl = (x, b) :: cl) (hpush : ∀ h : Heap, pushCells h scope.names = h.push { cls := .type "cell", data := .cell none }) (hkind : scope.kind = .function)
    (hnames : ∀ y ∈ scope.names, y.2 = .local → scope.names.lookup y.1 = some .local) (hx : ∀ Kc C, (compEnvC scope ((x, Kc) :: cl) C env).kindOf x = some .cell)
    (h : wpAny (model prog w) A (eval iter env) (XSrc prog w A h₀ L m env elt x scope cl Q) E s)
    (hs : ∀ x, foldedSetIterable iter env x = pure x := by intro _; rfl) :
    wpAny (model prog w) A (eval (.ListComp elt [⟨.Name x px, iter, [], 0⟩] scope pos) env) Q E s := by
  rw [eval_ListComp]
  refine wpAny_comprehension_free (use := none) rfl hs hclos hkind hnames (wpAny_mono h (fun xv s₁ h₁ => ?_) fun _ _ e => e)
  obtain ⟨n, R, r, t, u, v, news, rfl, hh, F, N, hr, hsm, hn, hsz, turn, fin⟩ := h₁
  refine wpAny_pyIter_range hr hsm ?_
  rw [hn]
  refine wpAny_newObj_type (newEnv_one hcells hpush ?_)
  dsimp only
  have up : ∀ b o, s₁.heap.get? b = some o → (s₁.heap.push { cls := .type "range_iterator", data := .fields #[rawInt 0, rawInt n, rawInt 1] }).get? b = some o := fun b o e => Heap.get?_push_of_some _ e
  have hI0 : (s₁.heap.push { cls := .type "range_iterator", data := .fields #[rawInt 0, rawInt n, rawInt 1] }).get? s₁.heap.objs.size = some { cls := .type "range_iterator", data := .fields #[rawInt 0, rawInt n, rawInt 1] } := Heap.get?_push_size _ rfl
  have z1 : (s₁.heap.push { cls := .type "range_iterator", data := .fields #[rawInt 0, rawInt n, rawInt 1] }).objs.size = s₁.heap.objs.size + 1 := Heap.size_push ..
  generalize s₁.heap.push { cls := .type "range_iterator", data := .fields #[rawInt 0, rawInt n, rawInt 1] } = H1 at up hI0 z1 ⊢
  have up2 : ∀ b o, H1.get? b = some o → (H1.push (LCg.lst [])).get? b = some o := fun b o e => Heap.get?_push_of_some _ e
  have hD2 : (H1.push (LCg.lst [])).get? H1.objs.size = some (LCg.lst []) := Heap.get?_push_size _ rfl
  have z2 : (H1.push (LCg.lst [])).objs.size = H1.objs.size + 1 := Heap.size_push ..
  show codeAny _ _ (.compStart _ 0 _ _ _) _ { s₁ with heap := ((H1.push (LCg.lst [])).push _).push _ }
  generalize H1.push (LCg.lst []) = H2 at up2 hD2 z2 ⊢
  have up3 : ∀ b o, H2.get? b = some o → (H2.push { cls := .type "dict", data := .dict #[] }).get? b = some o := fun b o e => Heap.get?_push_of_some _ e
  have hC3 := Heap.Ns.new H2 (.type "dict")
  have z3 : (H2.push { cls := .type "dict", data := .dict #[] }).objs.size = H2.objs.size + 1 := Heap.size_push ..
  generalize H2.push { cls := .type "dict", data := .dict #[] } = H3 at up3 hC3 z3 ⊢
  have up4 : ∀ b o, H3.get? b = some o → (H3.push { cls := .type "cell", data := .cell none }).get? b = some o := fun b o e => Heap.get?_push_of_some _ e
  have hK4 : (H3.push { cls := .type "cell", data := .cell none }).get? H3.objs.size = some { cls := .type "cell", data := .cell none } := Heap.get?_push_size _ rfl
  rw [z3] at hK4
  generalize H3.push { cls := .type "cell", data := .cell none } = H4 at up4 hK4 ⊢
  have hI4 := up4 _ _ (up3 _ _ (up2 _ _ hI0))
  have hD4 := up4 _ _ (up3 _ _ hD2)
  have hC4 := hC3.keeps up4
  have old : ∀ b o, s₁.heap.get? b = some o → H4.get? b = some o := fun b o e => up4 _ _ (up3 _ _ (up2 _ _ (up b o e)))
  have below : ∀ b, b < s₁.heap.objs.size → b ≠ s₁.heap.objs.size ∧ b ≠ H1.objs.size ∧ b ≠ H2.objs.size ∧ b ≠ H2.objs.size + 1 := fun b hb => ⟨by omega, by omega, by omega, by omega⟩
  have fresh : ∀ a, s₁.heap.objs.size ≤ a → h₀.get? a = none := fun a ha => by
    cases e : h₀.get? a with
    | none => rfl
    | some o' => exact absurd (Heap.lt_size (F.keep a o' e)) (Nat.not_lt.mpr ha)
  have hI₀ := fresh s₁.heap.objs.size (Nat.le_refl _)
  have hD₀ := fresh H1.objs.size (by omega)
  have hC₀ := fresh H2.objs.size (by omega)
  have hK₀ := fresh (H2.objs.size + 1) (by omega)
  have hL := below L F.ns.lt
  have nID : s₁.heap.objs.size ≠ H1.objs.size := by omega
  have nIC : s₁.heap.objs.size ≠ H2.objs.size := by omega
  have nIK : s₁.heap.objs.size ≠ H2.objs.size + 1 := by omega
  have nDC : H1.objs.size ≠ H2.objs.size := by omega
  have nDK : H1.objs.size ≠ H2.objs.size + 1 := by omega
  have nCK : H2.objs.size ≠ H2.objs.size + 1 := by omega
  have nb : ∀ p ∈ news, p.1 ≠ s₁.heap.objs.size ∧ p.1 ≠ H1.objs.size ∧ p.1 ≠ H2.objs.size ∧ p.1 ≠ H2.objs.size + 1 := fun p hp => below _ (Heap.lt_size (N p hp).1)
  clear up up2 up3 up4 hI0 hD2 hC3 below fresh z1 z2 z3
  generalize H1.objs.size = D at *
  generalize H2.objs.size = C at *
  generalize hKc : C + 1 = Kc at *
  generalize s₁.heap.objs.size = I at *
  have W := LCg.range_walks (prog := prog) (w := w) (I := I) hh 0 n
  have hst₁ : IsRangeIter H4 I (0 + ((0 : Nat) : Int) * 1) ((n : Int) - ((0 : Nat) : Int)) 1 := by
    show H4.get? I = some _
    rw [hI4]
    simp
  have loop : ∀ s₃ : Shared, s₃ = { s₁ with heap := H4 } →
      codeAny (model prog w) A (.compLoop (.ListComp elt [⟨.Name x px, iter, [], 0⟩] scope pos) 0 (.ref I) (.ref D) (compEnvC scope ((x, Kc) :: cl) C env)) (compPost (model prog w) A E none Q (.ref D) C) s₃ := by
    rintro s₃ rfl
    refine codeAny_compLoop_tests
      (fun k s' => ∃ h' tk i ys m' oK cv, s' = { s₁ with heap := h', toks := tk } ∧ i ≤ n ∧ k = n + 1 - i ∧ RelAre R ys ((rangeKs 0 n).take i) ∧ ys.length = i ∧ IsRangeIter h' I (0 + ((i : Nat) : Int) * 1) ((n : Int) - ((i : Nat) : Int)) 1 ∧ Fr h₀ L h' m ∧ h'.Ns C m' ∧ h'.get? Kc = some oK ∧ oK.data = .cell cv ∧ News h₀ L h' ((D, LCg.lst ys) :: news)) ?_ (n + 1)
      ⟨H4, _, 0, [], _, _, none, rfl, Nat.zero_le _, rfl, by rw [List.take_zero]; exact trivial, rfl, hst₁, F.keeps old, hC4, hK4, rfl, ?_⟩
    · rintro k s' ⟨h', tk, i, ys, m', oK, cv, rfl, hi, rfl, hR, hyl, hst, F', hn', hK', hcv, N'⟩
      by_cases hlt : i < n
      · refine W.item i _ _ _ hlt hst fun v h₂ tk₂ hPv hst₂ hk₂ => ?_
        obtain ⟨t', rfl⟩ := hPv
        refine wpAny_assign_Name (wpAny_storeName_cell (v₀ := cv) (by simp [compEnvC, relabel, hkind]) (hx Kc C) (by simp [compEnvC]) ⟨oK, hk₂ Kc oK (by simpa using Ne.symm nIK) hK', hcv⟩ fun h₃ hc₃ hs₃ => ?_)
        refine wpAny_tests_nil ?_
        simp only [if_true]
        obtain ⟨oK3, eK3, dK3⟩ := hc₃
        have hst₃ : IsRangeIter h₃ I (0 + ((i + 1 : Nat) : Int) * 1) ((n : Int) - ((i + 1 : Nat) : Int)) 1 := hs₃.extBut _ _ nIK hst₂
        obtain ⟨oC, heC, hoC⟩ := LCg.ns_obj (hn'.at' fun o e => hs₃.extBut _ _ nCK (hk₂ _ o (by simpa using Ne.symm nIC) e))
        have F₃ : Fr h₀ L h₃ m := (LCg.fr_but F' hk₂ hL.1 hI₀).change hs₃ (Ne.symm hL.2.2.2) hK₀
        have N₂ : News h₀ L h₂ ((D, LCg.lst ys) :: news) := LCg.news_but N' hk₂ fun p hp => by
          rcases List.mem_cons.mp hp with rfl | hp
          · exact Ne.symm nID
          · exact (nb p hp).1
        obtain ⟨oI, heI⟩ : ∃ oI, h₃.get? I = some oI := ⟨_, hst₃⟩
        have N₃ : News h₀ L h₃ ((I, oI) :: (C, oC) :: (Kc, oK3) :: (D, LCg.lst ys) :: news) := by
          refine List.forall_mem_cons.mpr ⟨⟨heI, Ne.symm hL.1, hI₀⟩, List.forall_mem_cons.mpr ⟨⟨heC, Ne.symm hL.2.2.1, hC₀⟩, List.forall_mem_cons.mpr ⟨⟨eK3, Ne.symm hL.2.2.2, hK₀⟩, fun p hp => ?_⟩⟩⟩
          have z := N₂ p hp
          refine ⟨hs₃.extBut _ _ ?_ z.1, z.2⟩
          rcases List.mem_cons.mp hp with rfl | hp
          · exact nDK
          · exact (nb p hp).2.2.2
        refine wpAny_mono (turn (0 + (i : Int)) t' I oI C oC Kc oK3 D ys h₃ tk₂ _ (by omega) (by omega) dK3 F₃ N₃ ?_ ?_ ?_ ?_) (fun y s₄ h₄ => ?_) fun _ _ e => e
        · exact ⟨Ne.symm nIC, Ne.symm nIK, Ne.symm nID, off1_of fun p hp => (nb p hp).1⟩
        · exact ⟨Ne.symm nCK, nDC, off1_of fun p hp => (nb p hp).2.2.1⟩
        · exact ⟨nDK, off1_of fun p hp => (nb p hp).2.2.2⟩
        · exact off1_of fun p hp => (nb p hp).2.1
        obtain ⟨h₄, tk₄, rfl, F₄, N₄, hy⟩ := h₄
        have zI := (N₄ _ (.head _)).1
        have zC := (N₄ _ (.tail _ (.head _))).1
        have zK := (N₄ _ (.tail _ (.tail _ (.head _)))).1
        have zD := (N₄ _ (.tail _ (.tail _ (.tail _ (.head _))))).1
        refine append_at (hsz := by show ys.toArray.size ≤ sizeLine; rw [List.size_toArray, hyl]; exact Nat.le_trans hi hsz) zD fun h₅ hs₅ hD₅ => ?_
        refine ⟨n + 1 - (i + 1), by omega, h₅, tk₄, i + 1, ys ++ [y], _, oK3, _, rfl, hlt, rfl, ?_, by rw [List.length_append, List.length_singleton, hyl], (hs₅.extBut _ _ nID zI).trans (heI.symm.trans hst₃), F₄.change hs₅ (Ne.symm hL.2.1) hD₀, (hoC.ns zC).sameBut hs₅ (Ne.symm nDC), hs₅.extBut _ _ (Ne.symm nDK) zK, dK3, fun p hp => ?_⟩
        · rw [List.take_add_one, show (rangeKs 0 n)[i]? = some (0 + (i : Int)) by simp [rangeKs, hlt]]
          exact RelAre.snoc hR hy
        · rcases List.mem_cons.mp hp with rfl | hp
          · exact ⟨hD₅.trans (congrArg some (LCg.lst_snoc ys y)), Ne.symm hL.2.1, hD₀⟩
          · have z := N₄ p (.tail _ (.tail _ (.tail _ (.tail _ hp))))
            exact ⟨hs₅.extBut _ _ (nb p hp).2.1 z.1, z.2⟩
      · obtain rfl : i = n := Nat.le_antisymm hi (Nat.not_lt.mp hlt)
        refine W.done _ _ _ hst fun h₂ tk₂ hk₂ => ?_
        rw [show (rangeKs 0 i).take i = rangeKs 0 i from List.take_of_length_le (by rw [rangeKs_length]; exact Nat.le_refl _)] at hR
        refine ⟨m', hn'.at' fun o e => hk₂ _ o (by simpa using Ne.symm nIC) e, fun h'' hs'' => fin ys D h'' tk₂ hR ((LCg.fr_but F' hk₂ hL.1 hI₀).change hs'' (Ne.symm hL.2.2.1) hC₀) (fun p hp => ?_) (off1_of fun p hp => (nb p hp).2.1)⟩
        have z := LCg.news_but N' hk₂ (fun p hp => by
          rcases List.mem_cons.mp hp with rfl | hp
          · exact Ne.symm nID
          · exact (nb p hp).1) p hp
        refine ⟨hs''.extBut _ _ ?_ z.1, z.2⟩
        rcases List.mem_cons.mp hp with rfl | hp
        · exact nDC
        · exact (nb p hp).2.2.1
    · intro p hp
      rcases List.mem_cons.mp hp with rfl | hp
      · exact ⟨hD4, Ne.symm hL.2.1, hD₀⟩
      · exact ⟨old _ _ (N p hp).1, (N p hp).2⟩
  exact codeAny_compStart_list (loop _ rfl) (W.self 0 _ _ _ hst₁ (loop _ rfl))
end

-- xcompt
-- plain
-- a comprehension with one test over a range: the items that pass, each told of its number
section
variable {prog : Program} {w : World} {A : Around} {h₀ : Heap} {L : Addr} {m : Str → Option Value} {env : Env} {ct elt : PySem.Expr} {x : Str} {scope : Scope} {cl : List (Str × Addr)} {s : Shared} {S : List (Addr × Obj) → Prop} {P : Nat → Value → Prop} {Fin : List Value → List (Addr × Obj) → Prop} {news : List (Addr × Obj)}
theorem compT_rel {n : Nat} {ks : List Int} (R : Int → Value → Prop) (tt : Int → Bool) (hks : ks.length = n) (hP : ∀ i v, i < n → P i v → ∃ k t, ks[i]? = some k ∧ v = .int k t)
    (turn : ∀ k t I oI C oC D m₂ ys h tk (E' : Value → Shared → Prop), k ∈ ks → LCg.NsObj oC m₂ → m₂ x = some (.int k t) → Fr h₀ L h m → News h₀ L h ((I, oI) :: (C, oC) :: (D, LCg.lst ys) :: news) → LCg.Off3 I C D news → ((@Ne Nat I C) ∧ (@Ne Nat I D) ∧ (@Ne Nat C D)) →
      wpAny (model prog w) A (isTrue ct (compEnvC scope cl C env) (eval ct (compEnvC scope cl C env))) (fun ok s' => if ok = true then
        wpAny (model prog w) A (eval elt (compEnvC scope cl C env)) (LCg.CompEnd h₀ L m { s with heap := h, toks := tk } I oI C oC D (LCg.lst ys) S (fun y news' => CEl news (fun y => tt k = true ∧ R k y) y news')) E' s'
        else LCg.CompEnd h₀ L m { s with heap := h, toks := tk } I oI C oC D (LCg.lst ys) S (fun y news' => CEl news (fun _ => tt k = false) y news') Value.none s') E' { s with heap := h, toks := tk })
    (fin : ∀ ys, RelAre R ys (ks.filter tt) → Fin ys news) : LCt.CompRestT prog w A h₀ L m env ct elt x scope cl s S P Fin n 0 [] news := by
  have key : ∀ (j i : Nat) (ys : List Value), i + j = n → RelAre R ys ((ks.take i).filter tt) → LCt.CompRestT prog w A h₀ L m env ct elt x scope cl s S P Fin j i ys news := by
    intro j
    induction j with
    | zero =>
      intro i ys hi hy
      have e : i = ks.length := by omega
      subst e
      rw [List.take_length] at hy
      exact LCt.CompRestT.zero (fin ys hy)
    | succ j ih =>
      intro i ys hi hy
      refine LCt.CompRestT.succ ?_
      intro v I oI C oC D m₂ h tk E' hv hC hx F N off ne
      obtain ⟨k, t, hk, hv'⟩ := hP i v (by omega) hv
      rw [hv'] at hx
      have st : ∀ ys', RelAre R ys' ((ks.take i).filter tt ++ [k].filter tt) → LCt.CompRestT prog w A h₀ L m env ct elt x scope cl s S P Fin j (i + 1) ys' news := fun ys' h' => ih (i + 1) ys' (by omega) (by rw [List.take_add_one, hk, List.filter_append]; exact h')
      refine wpAny_mono (turn k t I oI C oC D m₂ ys h tk E' (List.mem_of_getElem? hk) hC hx F N off ne) (fun ok s₁ h₁ => ?_) fun _ _ e => e
      cases ok with
      | true =>
        refine wpAny_mono h₁ (fun y s₂ hq => ?_) fun _ _ e => e
        obtain ⟨h', tk', nw, e, F', N', off', hS, hn, ht, hy'⟩ := hq
        rw [hn] at N' off' hS
        refine ⟨h', tk', news, e, F', N', off', hS, st _ ?_⟩
        rw [show [k].filter tt = [k] by simp [ht]]
        exact RelAre.snoc hy hy'
      | false =>
        obtain ⟨h', tk', nw, e, F', N', off', hS, hn, ht⟩ := h₁
        rw [hn] at N' off' hS
        refine ⟨h', tk', news, e, F', N', off', hS, st _ ?_⟩
        rw [show [k].filter tt = [] by simp [ht], List.append_nil]
        exact hy
  exact key n 0 [] (by omega) (by rw [List.take_zero]; exact trivial)
theorem compT_range {n : Nat} {a : Int} (R : Int → Value → Prop) (tt : Int → Bool)
    (turn : ∀ k t I oI C oC D m₂ ys h tk (E' : Value → Shared → Prop), a ≤ k → k < a + (n : Int) → LCg.NsObj oC m₂ → m₂ x = some (.int k t) → Fr h₀ L h m → News h₀ L h ((I, oI) :: (C, oC) :: (D, LCg.lst ys) :: news) → LCg.Off3 I C D news → ((@Ne Nat I C) ∧ (@Ne Nat I D) ∧ (@Ne Nat C D)) →
      wpAny (model prog w) A (isTrue ct (compEnvC scope cl C env) (eval ct (compEnvC scope cl C env))) (fun ok s' => if ok = true then
        wpAny (model prog w) A (eval elt (compEnvC scope cl C env)) (LCg.CompEnd h₀ L m { s with heap := h, toks := tk } I oI C oC D (LCg.lst ys) S (fun y news' => CEl news (fun y => tt k = true ∧ R k y) y news')) E' s'
        else LCg.CompEnd h₀ L m { s with heap := h, toks := tk } I oI C oC D (LCg.lst ys) S (fun y news' => CEl news (fun _ => tt k = false) y news') Value.none s') E' { s with heap := h, toks := tk })
    (fin : ∀ ys, RelAre R ys ((rangeKs a n).filter tt) → Fin ys news) : LCt.CompRestT prog w A h₀ L m env ct elt x scope cl s S (fun i v => ∃ t, v = .int (a + (i : Int)) t) Fin n 0 [] news :=
  compT_rel (ks := rangeKs a n) R tt (rangeKs_length a n) (fun i v hi hv => by
    obtain ⟨t, e⟩ := hv
    exact ⟨a + (i : Int), t, by simp [rangeKs, hi], e⟩)
    (fun k t I oI C oC D m₂ ys h tk E' hk hC hx F N off ne => turn k t I oI C oC D m₂ ys h tk E' (mem_rangeKs hk).1 (mem_rangeKs hk).2 hC hx F N off ne) fin
end

example : True := by
  w_top off
  trivial
example (P : Params) : kk P = kk P → PySem.Challenge.rw_tc0016_01 = PySem.Challenge.rw_tc0016_01 := by k_fill; intro _; rfl
theorem neW : Nonempty World := ⟨⟨fun _ _ => 0, { strHash := fun _ => 0, shareClass := fun _ => 0, mergeTok := fun t => t, idOf := fun _ => 0, idOfShared := fun _ _ => 0, followText := fun _ => false, idOfImm := fun _ => 0 }⟩⟩
theorem ex_all {T : Type} {P : T → Prop} (ne : Nonempty T) : ∃ c : T, P c → ∀ v, P v := by
  rcases Classical.em (∀ v, P v) with h | h
  · exact ⟨Classical.choice ne, fun _ => h⟩
  · obtain ⟨v, hv⟩ := Classical.not_forall.mp h
    exact ⟨v, fun h1 => absurd h1 hv⟩
example : True := by
  k_with "h9_0" => (refine wpAny_call ?_; k_dflt (first
      | (refine' code_def ?k1_0 ?k2_0 ?k3_0 ?k4_0 ?k5_0 ?kA_0 ?kF_0 ?kK_0 ?k6_0 ?k7_0 ?k8_0 ?k9_0 ?kB_0 ?_ ?c2_0 ?c3_0 ?c4_0 ?c5_0; (case kA_0 | kF_0 => exact rfl); (case kK_0 => assumption); (case k1_0 | k2_0 | k3_0 | k4_0 | k5_0 => k_asm); (case k6_0 | k7_0 => k_is); (case k8_0 => ktr_room); (case k9_0 => exact BindsTo.of_eq rfl); (case c5_0 => decide); (case kB_0 => exact locs rfl); (case c2_0 | c3_0 | c4_0 => exact rfl); k_whole; intro g_0' L_0' h_0' FG_0' F_0' N_0' B_0' X_0' T_0'; (try dsimp only); (try k_lift B_0'); (try k_fold))
      | (refine' code_defC ?k1_0 ?k2_0 ?k3_0 ?k4_0 ?k5_0 ?kA_0 ?kF_0 ?kK_0 ?k6_0 ?k7_0 ?k8_0 ?k9_0 ?kB_0 ?kD_0 ?_ ?c2_0 ?c3_0 ?c4_0; (case kA_0 | kF_0 => exact rfl); (case kK_0 => assumption); (case k1_0 | k2_0 | k3_0 | k4_0 | k5_0 => k_asm); (case k6_0 | k7_0 => k_is); (case k8_0 => ktr_room); (case k9_0 => exact BindsTo.of_eq rfl); (case kB_0 => exact rfl); (case kD_0 => decide +kernel); (case c2_0 | c3_0 | c4_0 => exact rfl); k_whole; intro g_0' L_0' h_0' tk_0' cells_0' FG_0' F_0' N_0' Y_0' B_0' X_0' T_0' l1_0; (try k_lt l1_0); k_cells Y_0'; (try simp only [List.cons_append, List.nil_append] at N_0'); (try dsimp only); (try k_lift B_0'); (try k_fold))))
  k_with "h9_0" => (refine wpAny_call ?_; k_dflt (first
      | (refine' code_def ?k1_1 ?k2_1 ?k3_1 ?k4_1 ?k5_1 ?kA_1 ?kF_1 ?kK_1 ?k6_1 ?k7_1 ?k8_1 ?k9_1 ?kB_1 ?_ ?c2_1 ?c3_1 ?c4_1 ?c5_1; (case kA_1 | kF_1 => exact rfl); (case kK_1 => assumption); (case k1_1 | k2_1 | k3_1 | k4_1 | k5_1 => k_asm); (case k6_1 | k7_1 => k_is); (case k8_1 => ktr_room); (case k9_1 => exact BindsTo.of_eq rfl); (case c5_1 => decide); (case kB_1 => exact locs rfl); (case c2_1 | c3_1 | c4_1 => exact rfl); k_whole; intro g_1' L_1' h_1' FG_1' F_1' N_1' B_1' X_1' T_1'; (try dsimp only); (try k_lift B_1'); (try k_fold))
      | (refine' code_defC ?k1_1 ?k2_1 ?k3_1 ?k4_1 ?k5_1 ?kA_1 ?kF_1 ?kK_1 ?k6_1 ?k7_1 ?k8_1 ?k9_1 ?kB_1 ?kD_1 ?_ ?c2_1 ?c3_1 ?c4_1; (case kA_1 | kF_1 => exact rfl); (case kK_1 => assumption); (case k1_1 | k2_1 | k3_1 | k4_1 | k5_1 => k_asm); (case k6_1 | k7_1 => k_is); (case k8_1 => ktr_room); (case k9_1 => exact BindsTo.of_eq rfl); (case kB_1 => exact rfl); (case kD_1 => decide +kernel); (case c2_1 | c3_1 | c4_1 => exact rfl); k_whole; intro g_1' L_1' h_1' tk_1' cells_1' FG_1' F_1' N_1' Y_1' B_1' X_1' T_1' l1_1; (try k_lt l1_1); k_cells Y_1'; (try simp only [List.cons_append, List.nil_append] at N_1'); (try dsimp only); (try k_lift B_1'); (try k_fold))))
  k_with "h9_0" => (refine wpAny_call ?_; k_dflt (first
      | (refine' code_def ?k1_2 ?k2_2 ?k3_2 ?k4_2 ?k5_2 ?kA_2 ?kF_2 ?kK_2 ?k6_2 ?k7_2 ?k8_2 ?k9_2 ?kB_2 ?_ ?c2_2 ?c3_2 ?c4_2 ?c5_2; (case kA_2 | kF_2 => exact rfl); (case kK_2 => assumption); (case k1_2 | k2_2 | k3_2 | k4_2 | k5_2 => k_asm); (case k6_2 | k7_2 => k_is); (case k8_2 => ktr_room); (case k9_2 => exact BindsTo.of_eq rfl); (case c5_2 => decide); (case kB_2 => exact locs rfl); (case c2_2 | c3_2 | c4_2 => exact rfl); k_whole; intro g_2' L_2' h_2' FG_2' F_2' N_2' B_2' X_2' T_2'; (try dsimp only); (try k_lift B_2'); (try k_fold))
      | (refine' code_defC ?k1_2 ?k2_2 ?k3_2 ?k4_2 ?k5_2 ?kA_2 ?kF_2 ?kK_2 ?k6_2 ?k7_2 ?k8_2 ?k9_2 ?kB_2 ?kD_2 ?_ ?c2_2 ?c3_2 ?c4_2; (case kA_2 | kF_2 => exact rfl); (case kK_2 => assumption); (case k1_2 | k2_2 | k3_2 | k4_2 | k5_2 => k_asm); (case k6_2 | k7_2 => k_is); (case k8_2 => ktr_room); (case k9_2 => exact BindsTo.of_eq rfl); (case kB_2 => exact rfl); (case kD_2 => decide +kernel); (case c2_2 | c3_2 | c4_2 => exact rfl); k_whole; intro g_2' L_2' h_2' tk_2' cells_2' FG_2' F_2' N_2' Y_2' B_2' X_2' T_2' l1_2; (try k_lt l1_2); k_cells Y_2'; (try simp only [List.cons_append, List.nil_append] at N_2'); (try dsimp only); (try k_lift B_2'); (try k_fold))))
  k_with "h9_0" => (refine wpAny_call ?_; k_dflt (first
      | (refine' code_def ?k1_3 ?k2_3 ?k3_3 ?k4_3 ?k5_3 ?kA_3 ?kF_3 ?kK_3 ?k6_3 ?k7_3 ?k8_3 ?k9_3 ?kB_3 ?_ ?c2_3 ?c3_3 ?c4_3 ?c5_3; (case kA_3 | kF_3 => exact rfl); (case kK_3 => assumption); (case k1_3 | k2_3 | k3_3 | k4_3 | k5_3 => k_asm); (case k6_3 | k7_3 => k_is); (case k8_3 => ktr_room); (case k9_3 => exact BindsTo.of_eq rfl); (case c5_3 => decide); (case kB_3 => exact locs rfl); (case c2_3 | c3_3 | c4_3 => exact rfl); k_whole; intro g_3' L_3' h_3' FG_3' F_3' N_3' B_3' X_3' T_3'; (try dsimp only); (try k_lift B_3'); (try k_fold))
      | (refine' code_defC ?k1_3 ?k2_3 ?k3_3 ?k4_3 ?k5_3 ?kA_3 ?kF_3 ?kK_3 ?k6_3 ?k7_3 ?k8_3 ?k9_3 ?kB_3 ?kD_3 ?_ ?c2_3 ?c3_3 ?c4_3; (case kA_3 | kF_3 => exact rfl); (case kK_3 => assumption); (case k1_3 | k2_3 | k3_3 | k4_3 | k5_3 => k_asm); (case k6_3 | k7_3 => k_is); (case k8_3 => ktr_room); (case k9_3 => exact BindsTo.of_eq rfl); (case kB_3 => exact rfl); (case kD_3 => decide +kernel); (case c2_3 | c3_3 | c4_3 => exact rfl); k_whole; intro g_3' L_3' h_3' tk_3' cells_3' FG_3' F_3' N_3' Y_3' B_3' X_3' T_3' l1_3; (try k_lt l1_3); k_cells Y_3'; (try simp only [List.cons_append, List.nil_append] at N_3'); (try dsimp only); (try k_lift B_3'); (try k_fold))))
  k_with "h9_0" => (refine wpAny_call ?_; k_dflt (first
      | (refine' code_def ?k1_4 ?k2_4 ?k3_4 ?k4_4 ?k5_4 ?kA_4 ?kF_4 ?kK_4 ?k6_4 ?k7_4 ?k8_4 ?k9_4 ?kB_4 ?_ ?c2_4 ?c3_4 ?c4_4 ?c5_4; (case kA_4 | kF_4 => exact rfl); (case kK_4 => assumption); (case k1_4 | k2_4 | k3_4 | k4_4 | k5_4 => k_asm); (case k6_4 | k7_4 => k_is); (case k8_4 => ktr_room); (case k9_4 => exact BindsTo.of_eq rfl); (case c5_4 => decide); (case kB_4 => exact locs rfl); (case c2_4 | c3_4 | c4_4 => exact rfl); k_whole; intro g_4' L_4' h_4' FG_4' F_4' N_4' B_4' X_4' T_4'; (try dsimp only); (try k_lift B_4'); (try k_fold))
      | (refine' code_defC ?k1_4 ?k2_4 ?k3_4 ?k4_4 ?k5_4 ?kA_4 ?kF_4 ?kK_4 ?k6_4 ?k7_4 ?k8_4 ?k9_4 ?kB_4 ?kD_4 ?_ ?c2_4 ?c3_4 ?c4_4; (case kA_4 | kF_4 => exact rfl); (case kK_4 => assumption); (case k1_4 | k2_4 | k3_4 | k4_4 | k5_4 => k_asm); (case k6_4 | k7_4 => k_is); (case k8_4 => ktr_room); (case k9_4 => exact BindsTo.of_eq rfl); (case kB_4 => exact rfl); (case kD_4 => decide +kernel); (case c2_4 | c3_4 | c4_4 => exact rfl); k_whole; intro g_4' L_4' h_4' tk_4' cells_4' FG_4' F_4' N_4' Y_4' B_4' X_4' T_4' l1_4; (try k_lt l1_4); k_cells Y_4'; (try simp only [List.cons_append, List.nil_append] at N_4'); (try dsimp only); (try k_lift B_4'); (try k_fold))))
  k_with "h9_0" => (refine wpAny_call ?_; k_dflt (first
      | (refine' code_def ?k1_5 ?k2_5 ?k3_5 ?k4_5 ?k5_5 ?kA_5 ?kF_5 ?kK_5 ?k6_5 ?k7_5 ?k8_5 ?k9_5 ?kB_5 ?_ ?c2_5 ?c3_5 ?c4_5 ?c5_5; (case kA_5 | kF_5 => exact rfl); (case kK_5 => assumption); (case k1_5 | k2_5 | k3_5 | k4_5 | k5_5 => k_asm); (case k6_5 | k7_5 => k_is); (case k8_5 => ktr_room); (case k9_5 => exact BindsTo.of_eq rfl); (case c5_5 => decide); (case kB_5 => exact locs rfl); (case c2_5 | c3_5 | c4_5 => exact rfl); k_whole; intro g_5' L_5' h_5' FG_5' F_5' N_5' B_5' X_5' T_5'; (try dsimp only); (try k_lift B_5'); (try k_fold))
      | (refine' code_defC ?k1_5 ?k2_5 ?k3_5 ?k4_5 ?k5_5 ?kA_5 ?kF_5 ?kK_5 ?k6_5 ?k7_5 ?k8_5 ?k9_5 ?kB_5 ?kD_5 ?_ ?c2_5 ?c3_5 ?c4_5; (case kA_5 | kF_5 => exact rfl); (case kK_5 => assumption); (case k1_5 | k2_5 | k3_5 | k4_5 | k5_5 => k_asm); (case k6_5 | k7_5 => k_is); (case k8_5 => ktr_room); (case k9_5 => exact BindsTo.of_eq rfl); (case kB_5 => exact rfl); (case kD_5 => decide +kernel); (case c2_5 | c3_5 | c4_5 => exact rfl); k_whole; intro g_5' L_5' h_5' tk_5' cells_5' FG_5' F_5' N_5' Y_5' B_5' X_5' T_5' l1_5; (try k_lt l1_5); k_cells Y_5'; (try simp only [List.cons_append, List.nil_append] at N_5'); (try dsimp only); (try k_lift B_5'); (try k_fold))))
  k_with "h9_1" => (intro z_0 h1_0 h2_0; (repeat first
      | exact rfl
      | (refine Eq.trans (frm_rest (fr_sub h1_0 rfl) ?_) ?_; (next => first | exact List.forall_mem_nil _ | exact List.forall_mem_cons.mpr ⟨fun e9 => h2_0 _ (.head _) e9, List.forall_mem_nil _⟩ | exact List.forall_mem_cons.mpr ⟨fun e9 => h2_0 _ (.head _) e9, List.forall_mem_cons.mpr ⟨fun e9 => h2_0 _ (.tail _ (.head _)) e9, List.forall_mem_nil _⟩⟩ | exact List.forall_mem_cons.mpr ⟨fun e9 => h2_0 _ (.head _) e9, List.forall_mem_cons.mpr ⟨fun e9 => h2_0 _ (.tail _ (.head _)) e9, List.forall_mem_cons.mpr ⟨fun e9 => h2_0 _ (.tail _ (.tail _ (.head _))) e9, List.forall_mem_nil _⟩⟩⟩))
      | (refine Eq.trans (if_neg ?_) ?_; (next => first | exact ne_fr h1_0 rfl | exact fun e9 => h2_0 _ (.head _) e9 | exact fun e9 => h2_0 _ (.tail _ (.head _)) e9 | exact fun e9 => h2_0 _ (.tail _ (.tail _ (.head _))) e9))))
  k_with "h9_1" => (intro z_1 h1_1 h2_1; (repeat first
      | exact rfl
      | (refine Eq.trans (frm_rest (fr_sub h1_1 rfl) ?_) ?_; (next => first | exact List.forall_mem_nil _ | exact List.forall_mem_cons.mpr ⟨fun e9 => h2_1 _ (.head _) e9, List.forall_mem_nil _⟩ | exact List.forall_mem_cons.mpr ⟨fun e9 => h2_1 _ (.head _) e9, List.forall_mem_cons.mpr ⟨fun e9 => h2_1 _ (.tail _ (.head _)) e9, List.forall_mem_nil _⟩⟩ | exact List.forall_mem_cons.mpr ⟨fun e9 => h2_1 _ (.head _) e9, List.forall_mem_cons.mpr ⟨fun e9 => h2_1 _ (.tail _ (.head _)) e9, List.forall_mem_cons.mpr ⟨fun e9 => h2_1 _ (.tail _ (.tail _ (.head _))) e9, List.forall_mem_nil _⟩⟩⟩))
      | (refine Eq.trans (if_neg ?_) ?_; (next => first | exact ne_fr h1_1 rfl | exact fun e9 => h2_1 _ (.head _) e9 | exact fun e9 => h2_1 _ (.tail _ (.head _)) e9 | exact fun e9 => h2_1 _ (.tail _ (.tail _ (.head _))) e9))))
  k_with "h9_1" => (intro z_2 h1_2 h2_2; (repeat first
      | exact rfl
      | (refine Eq.trans (frm_rest (fr_sub h1_2 rfl) ?_) ?_; (next => first | exact List.forall_mem_nil _ | exact List.forall_mem_cons.mpr ⟨fun e9 => h2_2 _ (.head _) e9, List.forall_mem_nil _⟩ | exact List.forall_mem_cons.mpr ⟨fun e9 => h2_2 _ (.head _) e9, List.forall_mem_cons.mpr ⟨fun e9 => h2_2 _ (.tail _ (.head _)) e9, List.forall_mem_nil _⟩⟩ | exact List.forall_mem_cons.mpr ⟨fun e9 => h2_2 _ (.head _) e9, List.forall_mem_cons.mpr ⟨fun e9 => h2_2 _ (.tail _ (.head _)) e9, List.forall_mem_cons.mpr ⟨fun e9 => h2_2 _ (.tail _ (.tail _ (.head _))) e9, List.forall_mem_nil _⟩⟩⟩))
      | (refine Eq.trans (if_neg ?_) ?_; (next => first | exact ne_fr h1_2 rfl | exact fun e9 => h2_2 _ (.head _) e9 | exact fun e9 => h2_2 _ (.tail _ (.head _)) e9 | exact fun e9 => h2_2 _ (.tail _ (.tail _ (.head _))) e9))))
  k_with "h9_1" => (intro z_3 h1_3 h2_3; (repeat first
      | exact rfl
      | (refine Eq.trans (frm_rest (fr_sub h1_3 rfl) ?_) ?_; (next => first | exact List.forall_mem_nil _ | exact List.forall_mem_cons.mpr ⟨fun e9 => h2_3 _ (.head _) e9, List.forall_mem_nil _⟩ | exact List.forall_mem_cons.mpr ⟨fun e9 => h2_3 _ (.head _) e9, List.forall_mem_cons.mpr ⟨fun e9 => h2_3 _ (.tail _ (.head _)) e9, List.forall_mem_nil _⟩⟩ | exact List.forall_mem_cons.mpr ⟨fun e9 => h2_3 _ (.head _) e9, List.forall_mem_cons.mpr ⟨fun e9 => h2_3 _ (.tail _ (.head _)) e9, List.forall_mem_cons.mpr ⟨fun e9 => h2_3 _ (.tail _ (.tail _ (.head _))) e9, List.forall_mem_nil _⟩⟩⟩))
      | (refine Eq.trans (if_neg ?_) ?_; (next => first | exact ne_fr h1_3 rfl | exact fun e9 => h2_3 _ (.head _) e9 | exact fun e9 => h2_3 _ (.tail _ (.head _)) e9 | exact fun e9 => h2_3 _ (.tail _ (.tail _ (.head _))) e9))))
  k_with "h9_1" => (intro z_4 h1_4 h2_4; (repeat first
      | exact rfl
      | (refine Eq.trans (frm_rest (fr_sub h1_4 rfl) ?_) ?_; (next => first | exact List.forall_mem_nil _ | exact List.forall_mem_cons.mpr ⟨fun e9 => h2_4 _ (.head _) e9, List.forall_mem_nil _⟩ | exact List.forall_mem_cons.mpr ⟨fun e9 => h2_4 _ (.head _) e9, List.forall_mem_cons.mpr ⟨fun e9 => h2_4 _ (.tail _ (.head _)) e9, List.forall_mem_nil _⟩⟩ | exact List.forall_mem_cons.mpr ⟨fun e9 => h2_4 _ (.head _) e9, List.forall_mem_cons.mpr ⟨fun e9 => h2_4 _ (.tail _ (.head _)) e9, List.forall_mem_cons.mpr ⟨fun e9 => h2_4 _ (.tail _ (.tail _ (.head _))) e9, List.forall_mem_nil _⟩⟩⟩))
      | (refine Eq.trans (if_neg ?_) ?_; (next => first | exact ne_fr h1_4 rfl | exact fun e9 => h2_4 _ (.head _) e9 | exact fun e9 => h2_4 _ (.tail _ (.head _)) e9 | exact fun e9 => h2_4 _ (.tail _ (.tail _ (.head _))) e9))))
  k_with "h9_1" => (intro z_5 h1_5 h2_5; (repeat first
      | exact rfl
      | (refine Eq.trans (frm_rest (fr_sub h1_5 rfl) ?_) ?_; (next => first | exact List.forall_mem_nil _ | exact List.forall_mem_cons.mpr ⟨fun e9 => h2_5 _ (.head _) e9, List.forall_mem_nil _⟩ | exact List.forall_mem_cons.mpr ⟨fun e9 => h2_5 _ (.head _) e9, List.forall_mem_cons.mpr ⟨fun e9 => h2_5 _ (.tail _ (.head _)) e9, List.forall_mem_nil _⟩⟩ | exact List.forall_mem_cons.mpr ⟨fun e9 => h2_5 _ (.head _) e9, List.forall_mem_cons.mpr ⟨fun e9 => h2_5 _ (.tail _ (.head _)) e9, List.forall_mem_cons.mpr ⟨fun e9 => h2_5 _ (.tail _ (.tail _ (.head _))) e9, List.forall_mem_nil _⟩⟩⟩))
      | (refine Eq.trans (if_neg ?_) ?_; (next => first | exact ne_fr h1_5 rfl | exact fun e9 => h2_5 _ (.head _) e9 | exact fun e9 => h2_5 _ (.tail _ (.head _)) e9 | exact fun e9 => h2_5 _ (.tail _ (.tail _ (.head _))) e9))))
  k_with "h9_2" => (refine wpAny_call ?_; k_dflt (refine' code_nest ?k1_0 ?k2_0 ?k3_0 ?k4_0 ?k5_0 ?kA_0 ?kF_0 ?kK_0 ?k6_0 ?k7_0 ?k8_0 ?k9_0 ?kB_0 ?_ ?c2_0 ?c3_0 ?c4_0 ?c5_0; (case kA_0 | kF_0 => exact rfl); (case kK_0 => assumption); (case k1_0 | k2_0 | k3_0 | k4_0 | k5_0 => k_asm); (case k6_0 => k_mem); (case k7_0 => exact codeRec_news (by k_asm) (by k_mem) (by assumption) (by assumption)); (case k8_0 => ktr_room); (case k9_0 => exact BindsTo.of_eq rfl); (case c5_0 => decide); (case kB_0 => exact locs rfl); (case c2_0 | c3_0 | c4_0 => exact rfl); k_whole; intro g_0' L_0' h_0' FG_0' F_0' N_0' B_0' X_0' T_0'; (try dsimp only); (try k_lift B_0'); (try k_fold)))
  k_with "h9_2" => (refine wpAny_call ?_; k_dflt (refine' code_nest ?k1_1 ?k2_1 ?k3_1 ?k4_1 ?k5_1 ?kA_1 ?kF_1 ?kK_1 ?k6_1 ?k7_1 ?k8_1 ?k9_1 ?kB_1 ?_ ?c2_1 ?c3_1 ?c4_1 ?c5_1; (case kA_1 | kF_1 => exact rfl); (case kK_1 => assumption); (case k1_1 | k2_1 | k3_1 | k4_1 | k5_1 => k_asm); (case k6_1 => k_mem); (case k7_1 => exact codeRec_news (by k_asm) (by k_mem) (by assumption) (by assumption)); (case k8_1 => ktr_room); (case k9_1 => exact BindsTo.of_eq rfl); (case c5_1 => decide); (case kB_1 => exact locs rfl); (case c2_1 | c3_1 | c4_1 => exact rfl); k_whole; intro g_1' L_1' h_1' FG_1' F_1' N_1' B_1' X_1' T_1'; (try dsimp only); (try k_lift B_1'); (try k_fold)))
  k_with "h9_2" => (refine wpAny_call ?_; k_dflt (refine' code_nest ?k1_2 ?k2_2 ?k3_2 ?k4_2 ?k5_2 ?kA_2 ?kF_2 ?kK_2 ?k6_2 ?k7_2 ?k8_2 ?k9_2 ?kB_2 ?_ ?c2_2 ?c3_2 ?c4_2 ?c5_2; (case kA_2 | kF_2 => exact rfl); (case kK_2 => assumption); (case k1_2 | k2_2 | k3_2 | k4_2 | k5_2 => k_asm); (case k6_2 => k_mem); (case k7_2 => exact codeRec_news (by k_asm) (by k_mem) (by assumption) (by assumption)); (case k8_2 => ktr_room); (case k9_2 => exact BindsTo.of_eq rfl); (case c5_2 => decide); (case kB_2 => exact locs rfl); (case c2_2 | c3_2 | c4_2 => exact rfl); k_whole; intro g_2' L_2' h_2' FG_2' F_2' N_2' B_2' X_2' T_2'; (try dsimp only); (try k_lift B_2'); (try k_fold)))
  k_with "h9_2" => (refine wpAny_call ?_; k_dflt (refine' code_nest ?k1_3 ?k2_3 ?k3_3 ?k4_3 ?k5_3 ?kA_3 ?kF_3 ?kK_3 ?k6_3 ?k7_3 ?k8_3 ?k9_3 ?kB_3 ?_ ?c2_3 ?c3_3 ?c4_3 ?c5_3; (case kA_3 | kF_3 => exact rfl); (case kK_3 => assumption); (case k1_3 | k2_3 | k3_3 | k4_3 | k5_3 => k_asm); (case k6_3 => k_mem); (case k7_3 => exact codeRec_news (by k_asm) (by k_mem) (by assumption) (by assumption)); (case k8_3 => ktr_room); (case k9_3 => exact BindsTo.of_eq rfl); (case c5_3 => decide); (case kB_3 => exact locs rfl); (case c2_3 | c3_3 | c4_3 => exact rfl); k_whole; intro g_3' L_3' h_3' FG_3' F_3' N_3' B_3' X_3' T_3'; (try dsimp only); (try k_lift B_3'); (try k_fold)))
  k_with "h9_2" => (refine wpAny_call ?_; k_dflt (refine' code_nest ?k1_4 ?k2_4 ?k3_4 ?k4_4 ?k5_4 ?kA_4 ?kF_4 ?kK_4 ?k6_4 ?k7_4 ?k8_4 ?k9_4 ?kB_4 ?_ ?c2_4 ?c3_4 ?c4_4 ?c5_4; (case kA_4 | kF_4 => exact rfl); (case kK_4 => assumption); (case k1_4 | k2_4 | k3_4 | k4_4 | k5_4 => k_asm); (case k6_4 => k_mem); (case k7_4 => exact codeRec_news (by k_asm) (by k_mem) (by assumption) (by assumption)); (case k8_4 => ktr_room); (case k9_4 => exact BindsTo.of_eq rfl); (case c5_4 => decide); (case kB_4 => exact locs rfl); (case c2_4 | c3_4 | c4_4 => exact rfl); k_whole; intro g_4' L_4' h_4' FG_4' F_4' N_4' B_4' X_4' T_4'; (try dsimp only); (try k_lift B_4'); (try k_fold)))
  k_with "h9_2" => (refine wpAny_call ?_; k_dflt (refine' code_nest ?k1_5 ?k2_5 ?k3_5 ?k4_5 ?k5_5 ?kA_5 ?kF_5 ?kK_5 ?k6_5 ?k7_5 ?k8_5 ?k9_5 ?kB_5 ?_ ?c2_5 ?c3_5 ?c4_5 ?c5_5; (case kA_5 | kF_5 => exact rfl); (case kK_5 => assumption); (case k1_5 | k2_5 | k3_5 | k4_5 | k5_5 => k_asm); (case k6_5 => k_mem); (case k7_5 => exact codeRec_news (by k_asm) (by k_mem) (by assumption) (by assumption)); (case k8_5 => ktr_room); (case k9_5 => exact BindsTo.of_eq rfl); (case c5_5 => decide); (case kB_5 => exact locs rfl); (case c2_5 | c3_5 | c4_5 => exact rfl); k_whole; intro g_5' L_5' h_5' FG_5' F_5' N_5' B_5' X_5' T_5'; (try dsimp only); (try k_lift B_5'); (try k_fold)))
  trivial
section
local macro_rules | `(tactic| k_room) => `(tactic| ktr_room)
local macro_rules | `(tactic| k_all) => `(tactic| first
  | assumption
  | exact List.forall_mem_nil _
  | (refine' List.forall_mem_cons.mpr ⟨?a, ?b⟩; (case a => k_ne); (case b => k_all))
  | (refine' List.forall_mem_append.mpr ⟨?a, ?b⟩; (case a | b => k_all))
  | exact OwnOff.ne (by assumption) (by k_memK)
  | exact all_neA (by assumption) (by omega)
  | exact all_ne (by assumption) (by omega)
  | exact all_neO (by assumption)
  | ((rename AllLt _ _ => h9); clear h9; k_all)
  | ((rename (∀ p ∈ _, p.1 < _) => h9); clear h9; k_all))
local macro_rules | `(tactic| walk_at "my enter") => `(tactic| k_extra "h9_0")
local macro_rules | `(tactic| walk_at "fr rest") => `(tactic| k_extra "h9_1")
local macro_rules | `(tactic| k_mem) => `(tactic| first
  | exact List.Mem.head _
  | assumption
  | (refine' List.mem_cons_of_mem _ ?_; k_mem)
  | (refine' List.mem_append_left _ ?_; k_mem)
  | (refine' List.mem_append_right _ ?_; k_mem))
local macro_rules | `(tactic| walk_at "my nest") => `(tactic| k_extra "h9_2")

example : True := by
  k_with "h10_0" => (k_here; (with_reducible refine mul_int ?_ ?kbm_0); (case kbm_0 => assumption))
  k_with "h10_0" => (k_here; (with_reducible refine mul_int ?_ ?kbm_1); (case kbm_1 => assumption))
  k_with "h10_0" => (k_here; (with_reducible refine mul_int ?_ ?kbm_2); (case kbm_2 => assumption))
  k_with "h10_0" => (k_here; (with_reducible refine mul_int ?_ ?kbm_3); (case kbm_3 => assumption))
  k_with "h10_0" => (k_here; (with_reducible refine mul_int ?_ ?kbm_4); (case kbm_4 => assumption))
  k_with "h10_0" => (k_here; (with_reducible refine mul_int ?_ ?kbm_5); (case kbm_5 => assumption))
  k_with "h10_1" => (k_here; (with_reducible refine ipow_int ?kb1_0 ?kb2_0 ?_); (case kb1_0 | kb2_0 => assumption))
  k_with "h10_1" => (k_here; (with_reducible refine ipow_int ?kb1_1 ?kb2_1 ?_); (case kb1_1 | kb2_1 => assumption))
  k_with "h10_1" => (k_here; (with_reducible refine ipow_int ?kb1_2 ?kb2_2 ?_); (case kb1_2 | kb2_2 => assumption))
  k_with "h10_1" => (k_here; (with_reducible refine ipow_int ?kb1_3 ?kb2_3 ?_); (case kb1_3 | kb2_3 => assumption))
  k_with "h10_1" => (k_here; (with_reducible refine ipow_int ?kb1_4 ?kb2_4 ?_); (case kb1_4 | kb2_4 => assumption))
  k_with "h10_1" => (k_here; (with_reducible refine ipow_int ?kb1_5 ?kb2_5 ?_); (case kb1_5 | kb2_5 => assumption))
  trivial
section
example : True := by
  w_top off
  trivial
-- ops
-- the operator module's functions
set_option maxRecDepth 100000 in
theorem c_add {w : World} {dp : Nat} {un : Nat} {gd : Option (List Code)} {cn : Str} {cs : Scope} {a : Addr} {ccd : Value} {cl : List (Str × Addr)} {outer : List Env} {A₀ : Around} {base : Heap} {h₀ : Heap} {L : Addr} {m : Str → Option Value} {p : Program} {loose : List Str} {mean : ExcName → Option Value} {mg : Str → Option Value} {mb : Str → Option Value} {news : List (Addr × Obj)} {s : Shared} {Q : Value → Shared → Prop} {E : Value → Shared → Prop} {x y : Int} {tx ty : Tok} (B : Below A₀ base outer h₀) (F : Fr h₀ L s.heap m) (KX : (kk w.params).In h₀) (T : Top p loose mean mg mb h₀) (hk : cs.kind = .function) (hdp : dp + 2 < recursionLimit) (hun : un + 16 < cLine) (N : News h₀ L s.heap news) (ret : ∀ t h' tk', Fr h₀ L h' m → News h₀ L h' news → Q (.int (x + y) t) { s with heap := h', toks := tk' }) :
   wpAny (model PySem.Challenge.rw_tc0016_01.row.prog w) (ktrTop dp un gd cn cs L a ccd cl outer) (call (.ref 63) [.int x tx, .int y ty]) Q E s := by
  walk_at "my enter"
  k_steps
  refine ret _ _ _ ?_ ?_ <;> assumption
local macro_rules | `(tactic| walk_at "binaryOp Mult int int") => `(tactic| k_extra "h10_0")
set_option maxRecDepth 100000 in
theorem c_mul {w : World} {dp : Nat} {un : Nat} {gd : Option (List Code)} {cn : Str} {cs : Scope} {a : Addr} {ccd : Value} {cl : List (Str × Addr)} {outer : List Env} {A₀ : Around} {base : Heap} {h₀ : Heap} {L : Addr} {m : Str → Option Value} {p : Program} {loose : List Str} {mean : ExcName → Option Value} {mg : Str → Option Value} {mb : Str → Option Value} {news : List (Addr × Obj)} {s : Shared} {Q : Value → Shared → Prop} {E : Value → Shared → Prop} {x y : Int} {tx ty : Tok} (B : Below A₀ base outer h₀) (F : Fr h₀ L s.heap m) (KX : (kk w.params).In h₀) (T : Top p loose mean mg mb h₀) (hk : cs.kind = .function) (hdp : dp + 2 < recursionLimit) (hun : un + 16 < cLine) (N : News h₀ L s.heap news) (hok : IntMulOk x y) (ret : ∀ t h' tk', Fr h₀ L h' m → News h₀ L h' news → Q (.int (x * y) t) { s with heap := h', toks := tk' }) :
   wpAny (model PySem.Challenge.rw_tc0016_01.row.prog w) (ktrTop dp un gd cn cs L a ccd cl outer) (call (.ref 70) [.int x tx, .int y ty]) Q E s := by
  walk_at "my enter"
  k_steps
  refine ret _ _ _ ?_ ?_ <;> assumption
set_option maxRecDepth 100000 in
theorem c_sub {w : World} {dp : Nat} {un : Nat} {gd : Option (List Code)} {cn : Str} {cs : Scope} {a : Addr} {ccd : Value} {cl : List (Str × Addr)} {outer : List Env} {A₀ : Around} {base : Heap} {h₀ : Heap} {L : Addr} {m : Str → Option Value} {p : Program} {loose : List Str} {mean : ExcName → Option Value} {mg : Str → Option Value} {mb : Str → Option Value} {news : List (Addr × Obj)} {s : Shared} {Q : Value → Shared → Prop} {E : Value → Shared → Prop} {x y z : Int} {tx ty : Tok} (B : Below A₀ base outer h₀) (F : Fr h₀ L s.heap m) (KX : (kk w.params).In h₀) (T : Top p loose mean mg mb h₀) (hk : cs.kind = .function) (hdp : dp + 2 < recursionLimit) (hun : un + 16 < cLine) (N : News h₀ L s.heap news) (e : x - y = z) (ret : ∀ t h' tk', Fr h₀ L h' m → News h₀ L h' news → Q (.int z t) { s with heap := h', toks := tk' }) :
   wpAny (model PySem.Challenge.rw_tc0016_01.row.prog w) (ktrTop dp un gd cn cs L a ccd cl outer) (call (.ref 77) [.int x tx, .int y ty]) Q E s := by
  walk_at "my enter"
  k_steps
  rw [e]
  refine ret _ _ _ ?_ ?_ <;> assumption
set_option maxRecDepth 100000 in
theorem c_getitem {w : World} {dp : Nat} {un : Nat} {gd : Option (List Code)} {cn : Str} {cs : Scope} {a : Addr} {ccd : Value} {cl : List (Str × Addr)} {outer : List Env} {A₀ : Around} {base : Heap} {h₀ : Heap} {L : Addr} {m : Str → Option Value} {p : Program} {loose : List Str} {mean : ExcName → Option Value} {mg : Str → Option Value} {mb : Str → Option Value} {news : List (Addr × Obj)} {s : Shared} {Q : Value → Shared → Prop} {E : Value → Shared → Prop} {l : Addr} {n : Nat} {vs : List Value} {ns : List Int} {k : Int} {tk : Tok} (B : Below A₀ base outer h₀) (F : Fr h₀ L s.heap m) (KX : (kk w.params).In h₀) (T : Top p loose mean mg mb h₀) (hk : cs.kind = .function) (hdp : dp + 2 < recursionLimit) (hun : un + 16 < cLine) (N : News h₀ L s.heap news) (hm : (l, listOf vs.toArray n) ∈ news) (hi : IntsAre vs ns) (hl : ns.length ≤ 100) (h0 : 0 ≤ k) (h1 : k < ns.length) (ret : ∀ t h' tk', Fr h₀ L h' m → News h₀ L h' news → Q (.int (ns.getD k.toNat 0) t) { s with heap := h', toks := tk' }) :
   wpAny (model PySem.Challenge.rw_tc0016_01.row.prog w) (ktrTop dp un gd cn cs L a ccd cl outer) (call (.ref 84) [.ref l, .int k tk]) Q E s := by
  walk_at "my enter"
  k_steps
  refine ret _ _ _ ?_ ?_ <;> assumption
local macro_rules | `(tactic| walk_at "inplaceOp Pow int int") => `(tactic| k_extra "h10_1")
set_option maxRecDepth 100000 in
theorem c_ipow {w : World} {dp : Nat} {un : Nat} {gd : Option (List Code)} {cn : Str} {cs : Scope} {a : Addr} {ccd : Value} {cl : List (Str × Addr)} {outer : List Env} {A₀ : Around} {base : Heap} {h₀ : Heap} {L : Addr} {m : Str → Option Value} {p : Program} {loose : List Str} {mean : ExcName → Option Value} {mg : Str → Option Value} {mb : Str → Option Value} {news : List (Addr × Obj)} {s : Shared} {Q : Value → Shared → Prop} {E : Value → Shared → Prop} {x n : Int} {tx tn : Tok} (B : Below A₀ base outer h₀) (F : Fr h₀ L s.heap m) (KX : (kk w.params).In h₀) (T : Top p loose mean mg mb h₀) (hk : cs.kind = .function) (hdp : dp + 2 < recursionLimit) (hun : un + 16 < cLine) (N : News h₀ L s.heap news) (h0 : 0 ≤ n) (hf : (Builtin.Int.intBits x : Int) * n ≤ 2 ^ 27) (ret : ∀ t h' tk', Fr h₀ L h' m → News h₀ L h' news → Q (.int (x ^ n.toNat) t) { s with heap := h', toks := tk' }) :
   wpAny (model PySem.Challenge.rw_tc0016_01.row.prog w) (ktrTop dp un gd cn cs L a ccd cl outer) (call (.ref 98) [.int x tx, .int n tn]) Q E s := by
  walk_at "my enter"
  k_steps
  refine ret _ _ _ ?_ ?_ <;> assumption

end
example : True := by
  k_with "h11_0" => (k_here; (with_reducible refine floordiv_int ?kbe_0 ?_ (Or.inl (PyProof.noPylong_small ?kbp_0))); (case kbe_0 => exact (steps_mem (by assumption)).1); (case kbp_0 => exact (steps_mem (by assumption)).2))
  k_with "h11_0" => (k_here; (with_reducible refine floordiv_int ?kbe_1 ?_ (Or.inl (PyProof.noPylong_small ?kbp_1))); (case kbe_1 => exact (steps_mem (by assumption)).1); (case kbp_1 => exact (steps_mem (by assumption)).2))
  k_with "h11_0" => (k_here; (with_reducible refine floordiv_int ?kbe_2 ?_ (Or.inl (PyProof.noPylong_small ?kbp_2))); (case kbe_2 => exact (steps_mem (by assumption)).1); (case kbp_2 => exact (steps_mem (by assumption)).2))
  k_with "h11_0" => (k_here; (with_reducible refine floordiv_int ?kbe_3 ?_ (Or.inl (PyProof.noPylong_small ?kbp_3))); (case kbe_3 => exact (steps_mem (by assumption)).1); (case kbp_3 => exact (steps_mem (by assumption)).2))
  k_with "h11_0" => (k_here; (with_reducible refine floordiv_int ?kbe_4 ?_ (Or.inl (PyProof.noPylong_small ?kbp_4))); (case kbe_4 => exact (steps_mem (by assumption)).1); (case kbp_4 => exact (steps_mem (by assumption)).2))
  k_with "h11_0" => (k_here; (with_reducible refine floordiv_int ?kbe_5 ?_ (Or.inl (PyProof.noPylong_small ?kbp_5))); (case kbe_5 => exact (steps_mem (by assumption)).1); (case kbp_5 => exact (steps_mem (by assumption)).2))
  trivial
section
example : True := by
  w_top off
  trivial
-- shared
theorem steps_mem {k : Int} (h : k ∈ [1, 2, 4, 8]) : k ≠ 0 ∧ k.natAbs < 1073741824 := by
  simp only [List.mem_cons, List.not_mem_nil, or_false] at h; omega
local macro_rules | `(tactic| walk_at "binaryOp FloorDiv int int") => `(tactic| k_extra "h11_0")
noncomputable def shared (x y : Int) : Int := (List.map (fun k : Int => (x.fdiv k).fmod 2 * (y.fdiv k).fmod 2) [1, 2, 4, 8]).sum
namespace X_c_shared
noncomputable def P0 (w : World) (dp : Nat) (un : Nat) (gd : Option (List Code)) (cn : Str) (cs : Scope) (a : Addr) (ccd : Value) (cl : List (Str × Addr)) (outer : List Env) (A₀ : Around) (base : Heap) (h₀ : Heap) (L : Addr) (m : Str → Option Value) (p : Program) (loose : List Str) (mean : ExcName → Option Value) (mg : Str → Option Value) (mb : Str → Option Value) (news : List (Addr × Obj)) (s : Shared) (Q : Value → Shared → Prop) (E : Value → Shared → Prop) (x : Int) (y : Int) (tx : Tok) (ty : Tok) : Prop := ∀  (B : Below A₀ base outer h₀) (F : Fr h₀ L s.heap m) (KX : (kk w.params).In h₀) (T : Top p loose mean mg mb h₀) (hk : cs.kind = .function) (hdp : dp + 2 < recursionLimit) (hun : un + 16 < cLine) (N : News h₀ L s.heap news) (ret : ∀ t h' tk', Fr h₀ L h' m → News h₀ L h' news → Q (.int (shared x y) t) { s with heap := h', toks := tk' }),
   wpAny (model PySem.Challenge.rw_tc0016_01.row.prog w) (ktrTop dp un gd cn cs L a ccd cl outer) (call (.ref 155) [.int x tx, .int y ty]) Q E s
abbrev T : Type := World × Nat × Nat × (Option (List Code)) × Str × Scope × Addr × Value × (List (Str × Addr)) × (List Env) × Around × Heap × Heap × Addr × (Str → Option Value) × Program × (List Str) × (ExcName → Option Value) × (Str → Option Value) × (Str → Option Value) × (List (Addr × Obj)) × Shared × (Value → Shared → Prop) × (Value → Shared → Prop) × Int × Int × Tok × Tok
noncomputable def P (v : T) : Prop := P0 v.1 v.2.1 v.2.2.1 v.2.2.2.1 v.2.2.2.2.1 v.2.2.2.2.2.1 v.2.2.2.2.2.2.1 v.2.2.2.2.2.2.2.1 v.2.2.2.2.2.2.2.2.1 v.2.2.2.2.2.2.2.2.2.1 v.2.2.2.2.2.2.2.2.2.2.1 v.2.2.2.2.2.2.2.2.2.2.2.1 v.2.2.2.2.2.2.2.2.2.2.2.2.1 v.2.2.2.2.2.2.2.2.2.2.2.2.2.1 v.2.2.2.2.2.2.2.2.2.2.2.2.2.2.1 v.2.2.2.2.2.2.2.2.2.2.2.2.2.2.2.1 v.2.2.2.2.2.2.2.2.2.2.2.2.2.2.2.2.1 v.2.2.2.2.2.2.2.2.2.2.2.2.2.2.2.2.2.1 v.2.2.2.2.2.2.2.2.2.2.2.2.2.2.2.2.2.2.1 v.2.2.2.2.2.2.2.2.2.2.2.2.2.2.2.2.2.2.2.1 v.2.2.2.2.2.2.2.2.2.2.2.2.2.2.2.2.2.2.2.2.1 v.2.2.2.2.2.2.2.2.2.2.2.2.2.2.2.2.2.2.2.2.2.1 v.2.2.2.2.2.2.2.2.2.2.2.2.2.2.2.2.2.2.2.2.2.2.1 v.2.2.2.2.2.2.2.2.2.2.2.2.2.2.2.2.2.2.2.2.2.2.2.1 v.2.2.2.2.2.2.2.2.2.2.2.2.2.2.2.2.2.2.2.2.2.2.2.2.1 v.2.2.2.2.2.2.2.2.2.2.2.2.2.2.2.2.2.2.2.2.2.2.2.2.2.1 v.2.2.2.2.2.2.2.2.2.2.2.2.2.2.2.2.2.2.2.2.2.2.2.2.2.2.1 v.2.2.2.2.2.2.2.2.2.2.2.2.2.2.2.2.2.2.2.2.2.2.2.2.2.2.2
theorem ex : ∃ c : T, P c → ∀ v, P v := ex_all ⟨((Classical.choice neW), 0, 0, none, default, default, (0 : Nat), .none, [], [], {}, {}, {}, (0 : Nat), (fun _ => none), default, [], (fun _ => none), (fun _ => none), (fun _ => none), [], {}, (fun _ _ => False), (fun _ _ => False), 0, 0, (0 : Nat), (0 : Nat))⟩
@[irreducible] noncomputable def cT : T := Classical.choose ex
theorem cS : P cT → ∀ v, P v := by
  unfold cT
  exact Classical.choose_spec ex
set_option maxRecDepth 100000 in
set_option maxHeartbeats 0 in
theorem main : P0 cT.1 cT.2.1 cT.2.2.1 cT.2.2.2.1 cT.2.2.2.2.1 cT.2.2.2.2.2.1 cT.2.2.2.2.2.2.1 cT.2.2.2.2.2.2.2.1 cT.2.2.2.2.2.2.2.2.1 cT.2.2.2.2.2.2.2.2.2.1 cT.2.2.2.2.2.2.2.2.2.2.1 cT.2.2.2.2.2.2.2.2.2.2.2.1 cT.2.2.2.2.2.2.2.2.2.2.2.2.1 cT.2.2.2.2.2.2.2.2.2.2.2.2.2.1 cT.2.2.2.2.2.2.2.2.2.2.2.2.2.2.1 cT.2.2.2.2.2.2.2.2.2.2.2.2.2.2.2.1 cT.2.2.2.2.2.2.2.2.2.2.2.2.2.2.2.2.1 cT.2.2.2.2.2.2.2.2.2.2.2.2.2.2.2.2.2.1 cT.2.2.2.2.2.2.2.2.2.2.2.2.2.2.2.2.2.2.1 cT.2.2.2.2.2.2.2.2.2.2.2.2.2.2.2.2.2.2.2.1 cT.2.2.2.2.2.2.2.2.2.2.2.2.2.2.2.2.2.2.2.2.1 cT.2.2.2.2.2.2.2.2.2.2.2.2.2.2.2.2.2.2.2.2.2.1 cT.2.2.2.2.2.2.2.2.2.2.2.2.2.2.2.2.2.2.2.2.2.2.1 cT.2.2.2.2.2.2.2.2.2.2.2.2.2.2.2.2.2.2.2.2.2.2.2.1 cT.2.2.2.2.2.2.2.2.2.2.2.2.2.2.2.2.2.2.2.2.2.2.2.2.1 cT.2.2.2.2.2.2.2.2.2.2.2.2.2.2.2.2.2.2.2.2.2.2.2.2.2.1 cT.2.2.2.2.2.2.2.2.2.2.2.2.2.2.2.2.2.2.2.2.2.2.2.2.2.2.1 cT.2.2.2.2.2.2.2.2.2.2.2.2.2.2.2.2.2.2.2.2.2.2.2.2.2.2.2 := by
  unfold P0
  intro  B F KX T hk hdp hun N ret
  walk_at "my enter"
  k_steps
  refine ret _ _ _ (by k_asm) (news_sub (by assumption) ?_)
  intro q hq
  simp only [List.mem_cons, hq, or_true]
end X_c_shared
theorem c_shared {w : World} {dp : Nat} {un : Nat} {gd : Option (List Code)} {cn : Str} {cs : Scope} {a : Addr} {ccd : Value} {cl : List (Str × Addr)} {outer : List Env} {A₀ : Around} {base : Heap} {h₀ : Heap} {L : Addr} {m : Str → Option Value} {p : Program} {loose : List Str} {mean : ExcName → Option Value} {mg : Str → Option Value} {mb : Str → Option Value} {news : List (Addr × Obj)} {s : Shared} {Q : Value → Shared → Prop} {E : Value → Shared → Prop} {x : Int} {y : Int} {tx : Tok} {ty : Tok} (B : Below A₀ base outer h₀) (F : Fr h₀ L s.heap m) (KX : (kk w.params).In h₀) (T : Top p loose mean mg mb h₀) (hk : cs.kind = .function) (hdp : dp + 2 < recursionLimit) (hun : un + 16 < cLine) (N : News h₀ L s.heap news) (ret : ∀ t h' tk', Fr h₀ L h' m → News h₀ L h' news → Q (.int (shared x y) t) { s with heap := h', toks := tk' }) :
   wpAny (model PySem.Challenge.rw_tc0016_01.row.prog w) (ktrTop dp un gd cn cs L a ccd cl outer) (call (.ref 155) [.int x tx, .int y ty]) Q E s :=
  X_c_shared.cS X_c_shared.main (w, dp, un, gd, cn, cs, a, ccd, cl, outer, A₀, base, h₀, L, m, p, loose, mean, mg, mb, news, s, Q, E, x, y, tx, ty) B F KX T hk hdp hun N ret

end
example : True := by
  k_with "h12_0" => (k_here; (with_reducible show wpAny _ _ (call (Value.builtin "sum") [Value.ref _]) _ _ _); (refine' sum_pick ?k0_0 ?k1_0 ?k2_0 ?k3_0 ?k4_0 ?_; (case k0_0 => with_unfolding_all rfl); (case k1_0 | k2_0 => k_asm); (case k3_0 => k_mem); (case k4_0 => assumption); k_whole); intro h_0' tk_0' t_0' F_0' N_0')
  k_with "h12_0" => (k_here; (with_reducible show wpAny _ _ (call (Value.builtin "sum") [Value.ref _]) _ _ _); (refine' sum_pick ?k0_1 ?k1_1 ?k2_1 ?k3_1 ?k4_1 ?_; (case k0_1 => with_unfolding_all rfl); (case k1_1 | k2_1 => k_asm); (case k3_1 => k_mem); (case k4_1 => assumption); k_whole); intro h_1' tk_1' t_1' F_1' N_1')
  k_with "h12_0" => (k_here; (with_reducible show wpAny _ _ (call (Value.builtin "sum") [Value.ref _]) _ _ _); (refine' sum_pick ?k0_2 ?k1_2 ?k2_2 ?k3_2 ?k4_2 ?_; (case k0_2 => with_unfolding_all rfl); (case k1_2 | k2_2 => k_asm); (case k3_2 => k_mem); (case k4_2 => assumption); k_whole); intro h_2' tk_2' t_2' F_2' N_2')
  k_with "h12_0" => (k_here; (with_reducible show wpAny _ _ (call (Value.builtin "sum") [Value.ref _]) _ _ _); (refine' sum_pick ?k0_3 ?k1_3 ?k2_3 ?k3_3 ?k4_3 ?_; (case k0_3 => with_unfolding_all rfl); (case k1_3 | k2_3 => k_asm); (case k3_3 => k_mem); (case k4_3 => assumption); k_whole); intro h_3' tk_3' t_3' F_3' N_3')
  k_with "h12_0" => (k_here; (with_reducible show wpAny _ _ (call (Value.builtin "sum") [Value.ref _]) _ _ _); (refine' sum_pick ?k0_4 ?k1_4 ?k2_4 ?k3_4 ?k4_4 ?_; (case k0_4 => with_unfolding_all rfl); (case k1_4 | k2_4 => k_asm); (case k3_4 => k_mem); (case k4_4 => assumption); k_whole); intro h_4' tk_4' t_4' F_4' N_4')
  k_with "h12_0" => (k_here; (with_reducible show wpAny _ _ (call (Value.builtin "sum") [Value.ref _]) _ _ _); (refine' sum_pick ?k0_5 ?k1_5 ?k2_5 ?k3_5 ?k4_5 ?_; (case k0_5 => with_unfolding_all rfl); (case k1_5 | k2_5 => k_asm); (case k3_5 => k_mem); (case k4_5 => assumption); k_whole); intro h_5' tk_5' t_5' F_5' N_5')
  trivial
section
example : True := by
  w_top off
  trivial
local macro_rules | `(tactic| walk_at "pad 0") => `(tactic| skip)
local macro_rules | `(tactic| walk_at "pad 1") => `(tactic| skip)
-- heaps
theorem ints_filt {vs : List Value} {ns : List Int} (h : IntsAre vs ns) (r : List Nat) : IntsAre (r.filterMap fun x => vs.toArray[x]?) (r.filterMap fun x => ns[x]?) := by
  induction r with
  | nil => exact .nil
  | cons j r ih =>
    rcases Nat.lt_or_ge j ns.length with hj | hj
    · obtain ⟨t, ht⟩ := h.get j ns[j] (by simp [hj])
      have e1 : vs.toArray[j]? = some (Value.int ns[j] t) := by simpa using ht
      have e2 : ns[j]? = some ns[j] := by simp [hj]
      rw [List.filterMap_cons, List.filterMap_cons, e1, e2]
      exact .cons _ _ ih
    · have e1 : vs.toArray[j]? = none := by simp [h.length]; exact hj
      have e2 : ns[j]? = none := by simp; exact hj
      rw [List.filterMap_cons, List.filterMap_cons, e1, e2]
      exact ih
noncomputable def pickSum (ns : List Int) (lo hi st : Option Int) : Int :=
  ((sliceRange (sliceBounds lo hi st ns.length).1 (sliceBounds lo hi st ns.length).2.1 (sliceBounds lo hi st ns.length).2.2).filterMap fun x => ns[x]?).sum
theorem sum_pick {prog : Program} {w : World} {A : Around} {E : Value → Shared → Prop} {s : Shared} {h₀ : Heap} {L D : Addr} {m : Str → Option Value} {news : List (Addr × Obj)} {vs : List Value} {ns : List Int} {n : Nat} {lo hi st : Option Int} {Q : Value → Shared → Prop}
    (hh : A.handled = none) (F : Fr h₀ L s.heap m) (N : News h₀ L s.heap news) (hm : (D, ({ cls := .type "list", data := .seq (slicePick vs.toArray lo hi st) n } : Obj)) ∈ news) (hi' : IntsAre vs ns)
    (h : ∀ h' tk t', Fr h₀ L h' m → News h₀ L h' news → Q (.int (pickSum ns lo hi st) t') { s with heap := h', toks := tk }) :
    wpAny (model prog w) A (call (.builtin "sum") [.ref D]) Q E s := by
  have hl : vs.toArray.size = ns.length := by simp [hi'.length]
  refine sumK (ns := _) hh F N ?_ (ints_filt hi' (sliceRange (sliceBounds lo hi st ns.length).1 (sliceBounds lo hi st ns.length).2.1 (sliceBounds lo hi st ns.length).2.2)) h
  refine ⟨_, (N _ hm).1, rfl, n, ?_⟩
  show Data.seq (slicePick vs.toArray lo hi st) n = _
  unfold slicePick
  rw [hl]
local macro_rules | `(tactic| walk_at "call builtin:sum") => `(tactic| k_extra "h12_0")
namespace X_c_heaps
noncomputable def P0 (w : World) (dp : Nat) (un : Nat) (gd : Option (List Code)) (cn : Str) (cs : Scope) (a : Addr) (ccd : Value) (cl : List (Str × Addr)) (outer : List Env) (A₀ : Around) (base : Heap) (h₀ : Heap) (L : Addr) (m : Str → Option Value) (p : Program) (loose : List Str) (mean : ExcName → Option Value) (mg : Str → Option Value) (mb : Str → Option Value) (news : List (Addr × Obj)) (s : Shared) (Q : Value → Shared → Prop) (E : Value → Shared → Prop) (l : Addr) (vs : List Value) (ns : List Int) : Prop := ∀  (B : Below A₀ base outer h₀) (F : Fr h₀ L s.heap m) (KX : (kk w.params).In h₀) (T : Top p loose mean mg mb h₀) (hk : cs.kind = .function) (hdp : dp + 2 < recursionLimit) (hun : un + 16 < cLine) (N : News h₀ L s.heap news) (hl : base.IsList l vs.toArray) (hi : IntsAre vs ns) (hn : ns.length ≤ 63) (ret : ∀ D us hs h' tk', Fr h₀ L h' m → News h₀ L h' ((D, LCg.lst us) :: news) → LCg.Off1 D news → IntsAre us hs → hs.length = 10 → Q (.ref D) { s with heap := h', toks := tk' }),
   wpAny (model PySem.Challenge.rw_tc0016_01.row.prog w) (ktrTop dp un gd cn cs L a ccd cl outer) (call (.ref 117) [.ref l]) Q E s
abbrev T : Type := World × Nat × Nat × (Option (List Code)) × Str × Scope × Addr × Value × (List (Str × Addr)) × (List Env) × Around × Heap × Heap × Addr × (Str → Option Value) × Program × (List Str) × (ExcName → Option Value) × (Str → Option Value) × (Str → Option Value) × (List (Addr × Obj)) × Shared × (Value → Shared → Prop) × (Value → Shared → Prop) × Addr × (List Value) × (List Int)
noncomputable def P (v : T) : Prop := P0 v.1 v.2.1 v.2.2.1 v.2.2.2.1 v.2.2.2.2.1 v.2.2.2.2.2.1 v.2.2.2.2.2.2.1 v.2.2.2.2.2.2.2.1 v.2.2.2.2.2.2.2.2.1 v.2.2.2.2.2.2.2.2.2.1 v.2.2.2.2.2.2.2.2.2.2.1 v.2.2.2.2.2.2.2.2.2.2.2.1 v.2.2.2.2.2.2.2.2.2.2.2.2.1 v.2.2.2.2.2.2.2.2.2.2.2.2.2.1 v.2.2.2.2.2.2.2.2.2.2.2.2.2.2.1 v.2.2.2.2.2.2.2.2.2.2.2.2.2.2.2.1 v.2.2.2.2.2.2.2.2.2.2.2.2.2.2.2.2.1 v.2.2.2.2.2.2.2.2.2.2.2.2.2.2.2.2.2.1 v.2.2.2.2.2.2.2.2.2.2.2.2.2.2.2.2.2.2.1 v.2.2.2.2.2.2.2.2.2.2.2.2.2.2.2.2.2.2.2.1 v.2.2.2.2.2.2.2.2.2.2.2.2.2.2.2.2.2.2.2.2.1 v.2.2.2.2.2.2.2.2.2.2.2.2.2.2.2.2.2.2.2.2.2.1 v.2.2.2.2.2.2.2.2.2.2.2.2.2.2.2.2.2.2.2.2.2.2.1 v.2.2.2.2.2.2.2.2.2.2.2.2.2.2.2.2.2.2.2.2.2.2.2.1 v.2.2.2.2.2.2.2.2.2.2.2.2.2.2.2.2.2.2.2.2.2.2.2.2.1 v.2.2.2.2.2.2.2.2.2.2.2.2.2.2.2.2.2.2.2.2.2.2.2.2.2.1 v.2.2.2.2.2.2.2.2.2.2.2.2.2.2.2.2.2.2.2.2.2.2.2.2.2.2
theorem ex : ∃ c : T, P c → ∀ v, P v := ex_all ⟨((Classical.choice neW), 0, 0, none, default, default, (0 : Nat), .none, [], [], {}, {}, {}, (0 : Nat), (fun _ => none), default, [], (fun _ => none), (fun _ => none), (fun _ => none), [], {}, (fun _ _ => False), (fun _ _ => False), (0 : Nat), [], [])⟩
@[irreducible] noncomputable def cT : T := Classical.choose ex
theorem cS : P cT → ∀ v, P v := by
  unfold cT
  exact Classical.choose_spec ex
set_option maxRecDepth 100000 in
set_option maxHeartbeats 0 in
theorem main : P0 cT.1 cT.2.1 cT.2.2.1 cT.2.2.2.1 cT.2.2.2.2.1 cT.2.2.2.2.2.1 cT.2.2.2.2.2.2.1 cT.2.2.2.2.2.2.2.1 cT.2.2.2.2.2.2.2.2.1 cT.2.2.2.2.2.2.2.2.2.1 cT.2.2.2.2.2.2.2.2.2.2.1 cT.2.2.2.2.2.2.2.2.2.2.2.1 cT.2.2.2.2.2.2.2.2.2.2.2.2.1 cT.2.2.2.2.2.2.2.2.2.2.2.2.2.1 cT.2.2.2.2.2.2.2.2.2.2.2.2.2.2.1 cT.2.2.2.2.2.2.2.2.2.2.2.2.2.2.2.1 cT.2.2.2.2.2.2.2.2.2.2.2.2.2.2.2.2.1 cT.2.2.2.2.2.2.2.2.2.2.2.2.2.2.2.2.2.1 cT.2.2.2.2.2.2.2.2.2.2.2.2.2.2.2.2.2.2.1 cT.2.2.2.2.2.2.2.2.2.2.2.2.2.2.2.2.2.2.2.1 cT.2.2.2.2.2.2.2.2.2.2.2.2.2.2.2.2.2.2.2.2.1 cT.2.2.2.2.2.2.2.2.2.2.2.2.2.2.2.2.2.2.2.2.2.1 cT.2.2.2.2.2.2.2.2.2.2.2.2.2.2.2.2.2.2.2.2.2.2.1 cT.2.2.2.2.2.2.2.2.2.2.2.2.2.2.2.2.2.2.2.2.2.2.2.1 cT.2.2.2.2.2.2.2.2.2.2.2.2.2.2.2.2.2.2.2.2.2.2.2.2.1 cT.2.2.2.2.2.2.2.2.2.2.2.2.2.2.2.2.2.2.2.2.2.2.2.2.2.1 cT.2.2.2.2.2.2.2.2.2.2.2.2.2.2.2.2.2.2.2.2.2.2.2.2.2.2 := by
  unfold P0
  intro  B F KX T hk hdp hun N hl hi hn ret
  walk_at "my enter"
  k_steps
  rename (_ ∧ _ ∧ _ ∧ LCg.Off1 _ _) => o9
  refine ret _ _ _ _ _ (by k_asm) (news_sub (by assumption) ?_) o9.2.2.2 (by assumption) (by simp [rangeKs])
  intro q hq
  rcases List.mem_cons.mp hq with rfl | hq
  · exact .head _
  · simp only [List.mem_cons, hq, or_true]
end X_c_heaps
theorem c_heaps {w : World} {dp : Nat} {un : Nat} {gd : Option (List Code)} {cn : Str} {cs : Scope} {a : Addr} {ccd : Value} {cl : List (Str × Addr)} {outer : List Env} {A₀ : Around} {base : Heap} {h₀ : Heap} {L : Addr} {m : Str → Option Value} {p : Program} {loose : List Str} {mean : ExcName → Option Value} {mg : Str → Option Value} {mb : Str → Option Value} {news : List (Addr × Obj)} {s : Shared} {Q : Value → Shared → Prop} {E : Value → Shared → Prop} {l : Addr} {vs : List Value} {ns : List Int} (B : Below A₀ base outer h₀) (F : Fr h₀ L s.heap m) (KX : (kk w.params).In h₀) (T : Top p loose mean mg mb h₀) (hk : cs.kind = .function) (hdp : dp + 2 < recursionLimit) (hun : un + 16 < cLine) (N : News h₀ L s.heap news) (hl : base.IsList l vs.toArray) (hi : IntsAre vs ns) (hn : ns.length ≤ 63) (ret : ∀ D us hs h' tk', Fr h₀ L h' m → News h₀ L h' ((D, LCg.lst us) :: news) → LCg.Off1 D news → IntsAre us hs → hs.length = 10 → Q (.ref D) { s with heap := h', toks := tk' }) :
   wpAny (model PySem.Challenge.rw_tc0016_01.row.prog w) (ktrTop dp un gd cn cs L a ccd cl outer) (call (.ref 117) [.ref l]) Q E s :=
  X_c_heaps.cS X_c_heaps.main (w, dp, un, gd, cn, cs, a, ccd, cl, outer, A₀, base, h₀, L, m, p, loose, mean, mg, mb, news, s, Q, E, l, vs, ns) B F KX T hk hdp hun N hl hi hn ret

end
example : True := by
  k_with "h13_0" => (k_here; (with_reducible show wpAny _ _ (call (Value.ref 63) _) _ _ _); k_dflt (refine' c_add ?k1_0 ?k2_0 ?k3_0 ?k5_0 ?kK_0 ?kd_0 ?ku_0 ?kN_0 ?_; (case k1_0 | k2_0 | k3_0 | k5_0 => k_asm); (case kK_0 => first | exact rfl | assumption); (case kd_0 => ktr_room); (case ku_0 => ktr_units); (case kN_0 => k_asm); k_whole); intro _ _ _ _ _; (try dsimp only); (try k_sweep); (try k_fold))
  k_with "h13_0" => (k_here; (with_reducible show wpAny _ _ (call (Value.ref 63) _) _ _ _); k_dflt (refine' c_add ?k1_1 ?k2_1 ?k3_1 ?k5_1 ?kK_1 ?kd_1 ?ku_1 ?kN_1 ?_; (case k1_1 | k2_1 | k3_1 | k5_1 => k_asm); (case kK_1 => first | exact rfl | assumption); (case kd_1 => ktr_room); (case ku_1 => ktr_units); (case kN_1 => k_asm); k_whole); intro _ _ _ _ _; (try dsimp only); (try k_sweep); (try k_fold))
  k_with "h13_0" => (k_here; (with_reducible show wpAny _ _ (call (Value.ref 63) _) _ _ _); k_dflt (refine' c_add ?k1_2 ?k2_2 ?k3_2 ?k5_2 ?kK_2 ?kd_2 ?ku_2 ?kN_2 ?_; (case k1_2 | k2_2 | k3_2 | k5_2 => k_asm); (case kK_2 => first | exact rfl | assumption); (case kd_2 => ktr_room); (case ku_2 => ktr_units); (case kN_2 => k_asm); k_whole); intro _ _ _ _ _; (try dsimp only); (try k_sweep); (try k_fold))
  k_with "h13_0" => (k_here; (with_reducible show wpAny _ _ (call (Value.ref 63) _) _ _ _); k_dflt (refine' c_add ?k1_3 ?k2_3 ?k3_3 ?k5_3 ?kK_3 ?kd_3 ?ku_3 ?kN_3 ?_; (case k1_3 | k2_3 | k3_3 | k5_3 => k_asm); (case kK_3 => first | exact rfl | assumption); (case kd_3 => ktr_room); (case ku_3 => ktr_units); (case kN_3 => k_asm); k_whole); intro _ _ _ _ _; (try dsimp only); (try k_sweep); (try k_fold))
  k_with "h13_0" => (k_here; (with_reducible show wpAny _ _ (call (Value.ref 63) _) _ _ _); k_dflt (refine' c_add ?k1_4 ?k2_4 ?k3_4 ?k5_4 ?kK_4 ?kd_4 ?ku_4 ?kN_4 ?_; (case k1_4 | k2_4 | k3_4 | k5_4 => k_asm); (case kK_4 => first | exact rfl | assumption); (case kd_4 => ktr_room); (case ku_4 => ktr_units); (case kN_4 => k_asm); k_whole); intro _ _ _ _ _; (try dsimp only); (try k_sweep); (try k_fold))
  k_with "h13_0" => (k_here; (with_reducible show wpAny _ _ (call (Value.ref 63) _) _ _ _); k_dflt (refine' c_add ?k1_5 ?k2_5 ?k3_5 ?k5_5 ?kK_5 ?kd_5 ?ku_5 ?kN_5 ?_; (case k1_5 | k2_5 | k3_5 | k5_5 => k_asm); (case kK_5 => first | exact rfl | assumption); (case kd_5 => ktr_room); (case ku_5 => ktr_units); (case kN_5 => k_asm); k_whole); intro _ _ _ _ _; (try dsimp only); (try k_sweep); (try k_fold))
  k_with "h13_1" => (k_here; (with_reducible show wpAny _ _ (call (Value.ref 70) _) _ _ _); k_dflt (refine' c_mul ?k1_0 ?k2_0 ?k3_0 ?k5_0 ?kK_0 ?kd_0 ?ku_0 ?kN_0 ?kok_0 ?_; (case k1_0 | k2_0 | k3_0 | k5_0 => k_asm); (case kK_0 => first | exact rfl | assumption); (case kd_0 => ktr_room); (case ku_0 => ktr_units); (case kN_0 => k_asm); (case kok_0 => mul_fits); k_whole); intro _ _ _ _ _; (try dsimp only); (try k_sweep); (try k_fold))
  k_with "h13_1" => (k_here; (with_reducible show wpAny _ _ (call (Value.ref 70) _) _ _ _); k_dflt (refine' c_mul ?k1_1 ?k2_1 ?k3_1 ?k5_1 ?kK_1 ?kd_1 ?ku_1 ?kN_1 ?kok_1 ?_; (case k1_1 | k2_1 | k3_1 | k5_1 => k_asm); (case kK_1 => first | exact rfl | assumption); (case kd_1 => ktr_room); (case ku_1 => ktr_units); (case kN_1 => k_asm); (case kok_1 => mul_fits); k_whole); intro _ _ _ _ _; (try dsimp only); (try k_sweep); (try k_fold))
  k_with "h13_1" => (k_here; (with_reducible show wpAny _ _ (call (Value.ref 70) _) _ _ _); k_dflt (refine' c_mul ?k1_2 ?k2_2 ?k3_2 ?k5_2 ?kK_2 ?kd_2 ?ku_2 ?kN_2 ?kok_2 ?_; (case k1_2 | k2_2 | k3_2 | k5_2 => k_asm); (case kK_2 => first | exact rfl | assumption); (case kd_2 => ktr_room); (case ku_2 => ktr_units); (case kN_2 => k_asm); (case kok_2 => mul_fits); k_whole); intro _ _ _ _ _; (try dsimp only); (try k_sweep); (try k_fold))
  k_with "h13_1" => (k_here; (with_reducible show wpAny _ _ (call (Value.ref 70) _) _ _ _); k_dflt (refine' c_mul ?k1_3 ?k2_3 ?k3_3 ?k5_3 ?kK_3 ?kd_3 ?ku_3 ?kN_3 ?kok_3 ?_; (case k1_3 | k2_3 | k3_3 | k5_3 => k_asm); (case kK_3 => first | exact rfl | assumption); (case kd_3 => ktr_room); (case ku_3 => ktr_units); (case kN_3 => k_asm); (case kok_3 => mul_fits); k_whole); intro _ _ _ _ _; (try dsimp only); (try k_sweep); (try k_fold))
  k_with "h13_1" => (k_here; (with_reducible show wpAny _ _ (call (Value.ref 70) _) _ _ _); k_dflt (refine' c_mul ?k1_4 ?k2_4 ?k3_4 ?k5_4 ?kK_4 ?kd_4 ?ku_4 ?kN_4 ?kok_4 ?_; (case k1_4 | k2_4 | k3_4 | k5_4 => k_asm); (case kK_4 => first | exact rfl | assumption); (case kd_4 => ktr_room); (case ku_4 => ktr_units); (case kN_4 => k_asm); (case kok_4 => mul_fits); k_whole); intro _ _ _ _ _; (try dsimp only); (try k_sweep); (try k_fold))
  k_with "h13_1" => (k_here; (with_reducible show wpAny _ _ (call (Value.ref 70) _) _ _ _); k_dflt (refine' c_mul ?k1_5 ?k2_5 ?k3_5 ?k5_5 ?kK_5 ?kd_5 ?ku_5 ?kN_5 ?kok_5 ?_; (case k1_5 | k2_5 | k3_5 | k5_5 => k_asm); (case kK_5 => first | exact rfl | assumption); (case kd_5 => ktr_room); (case ku_5 => ktr_units); (case kN_5 => k_asm); (case kok_5 => mul_fits); k_whole); intro _ _ _ _ _; (try dsimp only); (try k_sweep); (try k_fold))
  k_with "h13_2" => (k_here; (with_reducible show wpAny _ _ (call (Value.ref 77) _) _ _ _); k_dflt (refine' c_sub ?k1_0 ?k2_0 ?k3_0 ?k5_0 ?kK_0 ?kd_0 ?ku_0 ?kN_0 ?ke_0 ?_; (case k1_0 | k2_0 | k3_0 | k5_0 => k_asm); (case kK_0 => first | exact rfl | assumption); (case kd_0 => ktr_room); (case ku_0 => ktr_units); (case kN_0 => k_asm); (case ke_0 => rfl); k_whole); intro _ _ _ _ _; (try dsimp only); (try k_sweep); (try k_fold))
  k_with "h13_2" => (k_here; (with_reducible show wpAny _ _ (call (Value.ref 77) _) _ _ _); k_dflt (refine' c_sub ?k1_1 ?k2_1 ?k3_1 ?k5_1 ?kK_1 ?kd_1 ?ku_1 ?kN_1 ?ke_1 ?_; (case k1_1 | k2_1 | k3_1 | k5_1 => k_asm); (case kK_1 => first | exact rfl | assumption); (case kd_1 => ktr_room); (case ku_1 => ktr_units); (case kN_1 => k_asm); (case ke_1 => rfl); k_whole); intro _ _ _ _ _; (try dsimp only); (try k_sweep); (try k_fold))
  k_with "h13_2" => (k_here; (with_reducible show wpAny _ _ (call (Value.ref 77) _) _ _ _); k_dflt (refine' c_sub ?k1_2 ?k2_2 ?k3_2 ?k5_2 ?kK_2 ?kd_2 ?ku_2 ?kN_2 ?ke_2 ?_; (case k1_2 | k2_2 | k3_2 | k5_2 => k_asm); (case kK_2 => first | exact rfl | assumption); (case kd_2 => ktr_room); (case ku_2 => ktr_units); (case kN_2 => k_asm); (case ke_2 => rfl); k_whole); intro _ _ _ _ _; (try dsimp only); (try k_sweep); (try k_fold))
  k_with "h13_2" => (k_here; (with_reducible show wpAny _ _ (call (Value.ref 77) _) _ _ _); k_dflt (refine' c_sub ?k1_3 ?k2_3 ?k3_3 ?k5_3 ?kK_3 ?kd_3 ?ku_3 ?kN_3 ?ke_3 ?_; (case k1_3 | k2_3 | k3_3 | k5_3 => k_asm); (case kK_3 => first | exact rfl | assumption); (case kd_3 => ktr_room); (case ku_3 => ktr_units); (case kN_3 => k_asm); (case ke_3 => rfl); k_whole); intro _ _ _ _ _; (try dsimp only); (try k_sweep); (try k_fold))
  k_with "h13_2" => (k_here; (with_reducible show wpAny _ _ (call (Value.ref 77) _) _ _ _); k_dflt (refine' c_sub ?k1_4 ?k2_4 ?k3_4 ?k5_4 ?kK_4 ?kd_4 ?ku_4 ?kN_4 ?ke_4 ?_; (case k1_4 | k2_4 | k3_4 | k5_4 => k_asm); (case kK_4 => first | exact rfl | assumption); (case kd_4 => ktr_room); (case ku_4 => ktr_units); (case kN_4 => k_asm); (case ke_4 => rfl); k_whole); intro _ _ _ _ _; (try dsimp only); (try k_sweep); (try k_fold))
  k_with "h13_2" => (k_here; (with_reducible show wpAny _ _ (call (Value.ref 77) _) _ _ _); k_dflt (refine' c_sub ?k1_5 ?k2_5 ?k3_5 ?k5_5 ?kK_5 ?kd_5 ?ku_5 ?kN_5 ?ke_5 ?_; (case k1_5 | k2_5 | k3_5 | k5_5 => k_asm); (case kK_5 => first | exact rfl | assumption); (case kd_5 => ktr_room); (case ku_5 => ktr_units); (case kN_5 => k_asm); (case ke_5 => rfl); k_whole); intro _ _ _ _ _; (try dsimp only); (try k_sweep); (try k_fold))
  k_with "h13_3" => (k_here; (with_reducible show wpAny _ _ (call (Value.ref 84) _) _ _ _); k_dflt (refine' c_getitem ?k1_0 ?k2_0 ?k3_0 ?k5_0 ?kK_0 ?kd_0 ?ku_0 ?kN_0 ?km_0 ?ki_0 ?kxl_0 ?kx0_0 ?kx1_0 ?_; (case k1_0 | k2_0 | k3_0 | k5_0 => k_asm); (case kK_0 => first | exact rfl | assumption); (case kd_0 => ktr_room); (case ku_0 => ktr_units); (case kN_0 => k_asm); (case km_0 => k_mem); (case ki_0 => assumption); (case kxl_0 | kx0_0 | kx1_0 => l_idx); k_whole); intro _ _ _ _ _; (try dsimp only); (try k_sweep); (try k_fold))
  k_with "h13_3" => (k_here; (with_reducible show wpAny _ _ (call (Value.ref 84) _) _ _ _); k_dflt (refine' c_getitem ?k1_1 ?k2_1 ?k3_1 ?k5_1 ?kK_1 ?kd_1 ?ku_1 ?kN_1 ?km_1 ?ki_1 ?kxl_1 ?kx0_1 ?kx1_1 ?_; (case k1_1 | k2_1 | k3_1 | k5_1 => k_asm); (case kK_1 => first | exact rfl | assumption); (case kd_1 => ktr_room); (case ku_1 => ktr_units); (case kN_1 => k_asm); (case km_1 => k_mem); (case ki_1 => assumption); (case kxl_1 | kx0_1 | kx1_1 => l_idx); k_whole); intro _ _ _ _ _; (try dsimp only); (try k_sweep); (try k_fold))
  k_with "h13_3" => (k_here; (with_reducible show wpAny _ _ (call (Value.ref 84) _) _ _ _); k_dflt (refine' c_getitem ?k1_2 ?k2_2 ?k3_2 ?k5_2 ?kK_2 ?kd_2 ?ku_2 ?kN_2 ?km_2 ?ki_2 ?kxl_2 ?kx0_2 ?kx1_2 ?_; (case k1_2 | k2_2 | k3_2 | k5_2 => k_asm); (case kK_2 => first | exact rfl | assumption); (case kd_2 => ktr_room); (case ku_2 => ktr_units); (case kN_2 => k_asm); (case km_2 => k_mem); (case ki_2 => assumption); (case kxl_2 | kx0_2 | kx1_2 => l_idx); k_whole); intro _ _ _ _ _; (try dsimp only); (try k_sweep); (try k_fold))
  k_with "h13_3" => (k_here; (with_reducible show wpAny _ _ (call (Value.ref 84) _) _ _ _); k_dflt (refine' c_getitem ?k1_3 ?k2_3 ?k3_3 ?k5_3 ?kK_3 ?kd_3 ?ku_3 ?kN_3 ?km_3 ?ki_3 ?kxl_3 ?kx0_3 ?kx1_3 ?_; (case k1_3 | k2_3 | k3_3 | k5_3 => k_asm); (case kK_3 => first | exact rfl | assumption); (case kd_3 => ktr_room); (case ku_3 => ktr_units); (case kN_3 => k_asm); (case km_3 => k_mem); (case ki_3 => assumption); (case kxl_3 | kx0_3 | kx1_3 => l_idx); k_whole); intro _ _ _ _ _; (try dsimp only); (try k_sweep); (try k_fold))
  k_with "h13_3" => (k_here; (with_reducible show wpAny _ _ (call (Value.ref 84) _) _ _ _); k_dflt (refine' c_getitem ?k1_4 ?k2_4 ?k3_4 ?k5_4 ?kK_4 ?kd_4 ?ku_4 ?kN_4 ?km_4 ?ki_4 ?kxl_4 ?kx0_4 ?kx1_4 ?_; (case k1_4 | k2_4 | k3_4 | k5_4 => k_asm); (case kK_4 => first | exact rfl | assumption); (case kd_4 => ktr_room); (case ku_4 => ktr_units); (case kN_4 => k_asm); (case km_4 => k_mem); (case ki_4 => assumption); (case kxl_4 | kx0_4 | kx1_4 => l_idx); k_whole); intro _ _ _ _ _; (try dsimp only); (try k_sweep); (try k_fold))
  k_with "h13_3" => (k_here; (with_reducible show wpAny _ _ (call (Value.ref 84) _) _ _ _); k_dflt (refine' c_getitem ?k1_5 ?k2_5 ?k3_5 ?k5_5 ?kK_5 ?kd_5 ?ku_5 ?kN_5 ?km_5 ?ki_5 ?kxl_5 ?kx0_5 ?kx1_5 ?_; (case k1_5 | k2_5 | k3_5 | k5_5 => k_asm); (case kK_5 => first | exact rfl | assumption); (case kd_5 => ktr_room); (case ku_5 => ktr_units); (case kN_5 => k_asm); (case km_5 => k_mem); (case ki_5 => assumption); (case kxl_5 | kx0_5 | kx1_5 => l_idx); k_whole); intro _ _ _ _ _; (try dsimp only); (try k_sweep); (try k_fold))
  k_with "h13_4" => (k_here; (with_reducible show wpAny _ _ (call (Value.ref 98) _) _ _ _); k_dflt (refine' c_ipow ?k1_0 ?k2_0 ?k3_0 ?k5_0 ?kK_0 ?kd_0 ?ku_0 ?kN_0 ?kx0_0 ?kf_0 ?_; (case k1_0 | k2_0 | k3_0 | k5_0 => k_asm); (case kK_0 => first | exact rfl | assumption); (case kd_0 => ktr_room); (case ku_0 => ktr_units); (case kN_0 => k_asm); (case kx0_0 => omega); (case kf_0 => (refine' pow_fits ?kbX_0 ?kbJ_0 ?kbL_0 ?kbH_0; (case kbX_0 => bits_by_make); (case kbJ_0 => decide); (case kbL_0 | kbH_0 => omega))); k_whole); intro _ _ _ _ _; (try dsimp only); (try k_sweep); (try k_fold))
  k_with "h13_4" => (k_here; (with_reducible show wpAny _ _ (call (Value.ref 98) _) _ _ _); k_dflt (refine' c_ipow ?k1_1 ?k2_1 ?k3_1 ?k5_1 ?kK_1 ?kd_1 ?ku_1 ?kN_1 ?kx0_1 ?kf_1 ?_; (case k1_1 | k2_1 | k3_1 | k5_1 => k_asm); (case kK_1 => first | exact rfl | assumption); (case kd_1 => ktr_room); (case ku_1 => ktr_units); (case kN_1 => k_asm); (case kx0_1 => omega); (case kf_1 => (refine' pow_fits ?kbX_1 ?kbJ_1 ?kbL_1 ?kbH_1; (case kbX_1 => bits_by_make); (case kbJ_1 => decide); (case kbL_1 | kbH_1 => omega))); k_whole); intro _ _ _ _ _; (try dsimp only); (try k_sweep); (try k_fold))
  k_with "h13_4" => (k_here; (with_reducible show wpAny _ _ (call (Value.ref 98) _) _ _ _); k_dflt (refine' c_ipow ?k1_2 ?k2_2 ?k3_2 ?k5_2 ?kK_2 ?kd_2 ?ku_2 ?kN_2 ?kx0_2 ?kf_2 ?_; (case k1_2 | k2_2 | k3_2 | k5_2 => k_asm); (case kK_2 => first | exact rfl | assumption); (case kd_2 => ktr_room); (case ku_2 => ktr_units); (case kN_2 => k_asm); (case kx0_2 => omega); (case kf_2 => (refine' pow_fits ?kbX_2 ?kbJ_2 ?kbL_2 ?kbH_2; (case kbX_2 => bits_by_make); (case kbJ_2 => decide); (case kbL_2 | kbH_2 => omega))); k_whole); intro _ _ _ _ _; (try dsimp only); (try k_sweep); (try k_fold))
  k_with "h13_4" => (k_here; (with_reducible show wpAny _ _ (call (Value.ref 98) _) _ _ _); k_dflt (refine' c_ipow ?k1_3 ?k2_3 ?k3_3 ?k5_3 ?kK_3 ?kd_3 ?ku_3 ?kN_3 ?kx0_3 ?kf_3 ?_; (case k1_3 | k2_3 | k3_3 | k5_3 => k_asm); (case kK_3 => first | exact rfl | assumption); (case kd_3 => ktr_room); (case ku_3 => ktr_units); (case kN_3 => k_asm); (case kx0_3 => omega); (case kf_3 => (refine' pow_fits ?kbX_3 ?kbJ_3 ?kbL_3 ?kbH_3; (case kbX_3 => bits_by_make); (case kbJ_3 => decide); (case kbL_3 | kbH_3 => omega))); k_whole); intro _ _ _ _ _; (try dsimp only); (try k_sweep); (try k_fold))
  k_with "h13_4" => (k_here; (with_reducible show wpAny _ _ (call (Value.ref 98) _) _ _ _); k_dflt (refine' c_ipow ?k1_4 ?k2_4 ?k3_4 ?k5_4 ?kK_4 ?kd_4 ?ku_4 ?kN_4 ?kx0_4 ?kf_4 ?_; (case k1_4 | k2_4 | k3_4 | k5_4 => k_asm); (case kK_4 => first | exact rfl | assumption); (case kd_4 => ktr_room); (case ku_4 => ktr_units); (case kN_4 => k_asm); (case kx0_4 => omega); (case kf_4 => (refine' pow_fits ?kbX_4 ?kbJ_4 ?kbL_4 ?kbH_4; (case kbX_4 => bits_by_make); (case kbJ_4 => decide); (case kbL_4 | kbH_4 => omega))); k_whole); intro _ _ _ _ _; (try dsimp only); (try k_sweep); (try k_fold))
  k_with "h13_4" => (k_here; (with_reducible show wpAny _ _ (call (Value.ref 98) _) _ _ _); k_dflt (refine' c_ipow ?k1_5 ?k2_5 ?k3_5 ?k5_5 ?kK_5 ?kd_5 ?ku_5 ?kN_5 ?kx0_5 ?kf_5 ?_; (case k1_5 | k2_5 | k3_5 | k5_5 => k_asm); (case kK_5 => first | exact rfl | assumption); (case kd_5 => ktr_room); (case ku_5 => ktr_units); (case kN_5 => k_asm); (case kx0_5 => omega); (case kf_5 => (refine' pow_fits ?kbX_5 ?kbJ_5 ?kbL_5 ?kbH_5; (case kbX_5 => bits_by_make); (case kbJ_5 => decide); (case kbL_5 | kbH_5 => omega))); k_whole); intro _ _ _ _ _; (try dsimp only); (try k_sweep); (try k_fold))
  k_with "h13_5" => ((with_reducible show wpAny _ _ (pyIter (Value.ref _)) (fun it s₂ => LoopAtV _ _ _ _ _ _ _ _ _ it s₂) _ _); refine hold ?_)
  trivial
section
example : True := by
  w_top off
  trivial
local macro_rules | `(tactic| walk_at "pad 0") => `(tactic| skip)
local macro_rules | `(tactic| walk_at "pad 1") => `(tactic| skip)
local macro_rules | `(tactic| walk_at "pad 2") => `(tactic| skip)
local macro_rules | `(tactic| walk_at "pad 3") => `(tactic| skip)
-- turned
noncomputable def turnStep (ns : List Int) (b : Int) (whole k : Int) : Int := whole + ns.getD k.toNat 0 * ((1 - b) ^ k.toNat * (1 + b) ^ (4 - k).toNat)
noncomputable def turned (ns : List Int) (b : Int) : Int := (rangeKs 0 5).foldl (turnStep ns b) 0
theorem pow_fits {x n : Int} {j : Nat} (hx : Builtin.Int.intBits x ≤ j) (hj : j ≤ 1000) (h0 : 0 ≤ n) (hn : n ≤ 1000) : (Builtin.Int.intBits x : Int) * n ≤ 2 ^ 27 := by
  have e : (2 : Int) ^ 27 = 134217728 := by decide
  rw [e]
  have h1 : (Builtin.Int.intBits x : Int) * n ≤ 1000 * 1000 := Int.mul_le_mul (by omega) hn h0 (by decide)
  omega
theorem bits_pow4 {x n : Int} {j : Nat} (hx : Builtin.Int.intBits x ≤ j) (hn : n ≤ 4) : Builtin.Int.intBits (x ^ n.toNat) ≤ j * 4 + 1 :=
  Nat.le_trans (intBits_pow_le hx n.toNat) (Nat.succ_le_succ (Nat.mul_le_mul_left j (by omega)))
local macro_rules | `(tactic| bits_by_make) => `(tactic| first
  | with_reducible assumption
  | ((rename (∀ _, Builtin.Int.intBits _ ≤ _) => hbB); exact hbB _)
  | (refine' bits_pow4 ?kbX ?kbN; (case kbX => bits_by_make); (case kbN => omega)))
local macro_rules | `(tactic| walk_at "call ref") => `(tactic| k_extra "h13_0")
local macro_rules | `(tactic| walk_at "call ref") => `(tactic| k_extra "h13_1")
local macro_rules | `(tactic| walk_at "call ref") => `(tactic| k_extra "h13_2")
local macro_rules | `(tactic| walk_at "call ref") => `(tactic| k_extra "h13_3")
local macro_rules | `(tactic| walk_at "call ref") => `(tactic| k_extra "h13_4")
local macro_rules | `(tactic| walk_at "pyIter ref") => `(tactic| k_extra "h13_5")
namespace X_c_turned
noncomputable def P0 (w : World) (dp : Nat) (un : Nat) (gd : Option (List Code)) (cn : Str) (cs : Scope) (a : Addr) (ccd : Value) (cl : List (Str × Addr)) (outer : List Env) (A₀ : Around) (base : Heap) (h₀ : Heap) (L : Addr) (m : Str → Option Value) (p : Program) (loose : List Str) (mean : ExcName → Option Value) (mg : Str → Option Value) (mb : Str → Option Value) (news : List (Addr × Obj)) (s : Shared) (Q : Value → Shared → Prop) (E : Value → Shared → Prop) (l : Addr) (n : Nat) (vs : List Value) (ns : List Int) (b : Int) (tb : Tok) : Prop := ∀  (B : Below A₀ base outer h₀) (F : Fr h₀ L s.heap m) (KX : (kk w.params).In h₀) (T : Top p loose mean mg mb h₀) (hk : cs.kind = .function) (hdp : dp + 4 < recursionLimit) (hun : un + 40 < cLine) (N : News h₀ L s.heap news) (hm : (l, listOf vs.toArray n) ∈ news) (hi : IntsAre vs ns) (hn : ns.length = 5) (hb : Builtin.Int.intBits b ≤ 200) (hbs : ∀ k, Builtin.Int.intBits (ns.getD k 0) ≤ 200) (ret : ∀ t h' tk', Fr h₀ L h' m → News h₀ L h' news → Q (.int (turned ns b) t) { s with heap := h', toks := tk' }),
   wpAny (model PySem.Challenge.rw_tc0016_01.row.prog w) (ktrTop dp un gd cn cs L a ccd cl outer) (call (.ref 143) [.ref l, .int b tb]) Q E s
abbrev T : Type := World × Nat × Nat × (Option (List Code)) × Str × Scope × Addr × Value × (List (Str × Addr)) × (List Env) × Around × Heap × Heap × Addr × (Str → Option Value) × Program × (List Str) × (ExcName → Option Value) × (Str → Option Value) × (Str → Option Value) × (List (Addr × Obj)) × Shared × (Value → Shared → Prop) × (Value → Shared → Prop) × Addr × Nat × (List Value) × (List Int) × Int × Tok
noncomputable def P (v : T) : Prop := P0 v.1 v.2.1 v.2.2.1 v.2.2.2.1 v.2.2.2.2.1 v.2.2.2.2.2.1 v.2.2.2.2.2.2.1 v.2.2.2.2.2.2.2.1 v.2.2.2.2.2.2.2.2.1 v.2.2.2.2.2.2.2.2.2.1 v.2.2.2.2.2.2.2.2.2.2.1 v.2.2.2.2.2.2.2.2.2.2.2.1 v.2.2.2.2.2.2.2.2.2.2.2.2.1 v.2.2.2.2.2.2.2.2.2.2.2.2.2.1 v.2.2.2.2.2.2.2.2.2.2.2.2.2.2.1 v.2.2.2.2.2.2.2.2.2.2.2.2.2.2.2.1 v.2.2.2.2.2.2.2.2.2.2.2.2.2.2.2.2.1 v.2.2.2.2.2.2.2.2.2.2.2.2.2.2.2.2.2.1 v.2.2.2.2.2.2.2.2.2.2.2.2.2.2.2.2.2.2.1 v.2.2.2.2.2.2.2.2.2.2.2.2.2.2.2.2.2.2.2.1 v.2.2.2.2.2.2.2.2.2.2.2.2.2.2.2.2.2.2.2.2.1 v.2.2.2.2.2.2.2.2.2.2.2.2.2.2.2.2.2.2.2.2.2.1 v.2.2.2.2.2.2.2.2.2.2.2.2.2.2.2.2.2.2.2.2.2.2.1 v.2.2.2.2.2.2.2.2.2.2.2.2.2.2.2.2.2.2.2.2.2.2.2.1 v.2.2.2.2.2.2.2.2.2.2.2.2.2.2.2.2.2.2.2.2.2.2.2.2.1 v.2.2.2.2.2.2.2.2.2.2.2.2.2.2.2.2.2.2.2.2.2.2.2.2.2.1 v.2.2.2.2.2.2.2.2.2.2.2.2.2.2.2.2.2.2.2.2.2.2.2.2.2.2.1 v.2.2.2.2.2.2.2.2.2.2.2.2.2.2.2.2.2.2.2.2.2.2.2.2.2.2.2.1 v.2.2.2.2.2.2.2.2.2.2.2.2.2.2.2.2.2.2.2.2.2.2.2.2.2.2.2.2.1 v.2.2.2.2.2.2.2.2.2.2.2.2.2.2.2.2.2.2.2.2.2.2.2.2.2.2.2.2.2
theorem ex : ∃ c : T, P c → ∀ v, P v := ex_all ⟨((Classical.choice neW), 0, 0, none, default, default, (0 : Nat), .none, [], [], {}, {}, {}, (0 : Nat), (fun _ => none), default, [], (fun _ => none), (fun _ => none), (fun _ => none), [], {}, (fun _ _ => False), (fun _ _ => False), (0 : Nat), 0, [], [], 0, (0 : Nat))⟩
@[irreducible] noncomputable def cT : T := Classical.choose ex
theorem cS : P cT → ∀ v, P v := by
  unfold cT
  exact Classical.choose_spec ex
noncomputable abbrev a : Addr := cT.2.2.2.2.2.2.1
noncomputable abbrev news : List (Addr × Obj) := cT.2.2.2.2.2.2.2.2.2.2.2.2.2.2.2.2.2.2.2.2.1
noncomputable abbrev n : Nat := cT.2.2.2.2.2.2.2.2.2.2.2.2.2.2.2.2.2.2.2.2.2.2.2.2.2.1
noncomputable abbrev ns : List Int := cT.2.2.2.2.2.2.2.2.2.2.2.2.2.2.2.2.2.2.2.2.2.2.2.2.2.2.2.1
noncomputable abbrev b : Int := cT.2.2.2.2.2.2.2.2.2.2.2.2.2.2.2.2.2.2.2.2.2.2.2.2.2.2.2.2.1
set_option maxRecDepth 100000 in
set_option maxHeartbeats 0 in
theorem main : P0 cT.1 cT.2.1 cT.2.2.1 cT.2.2.2.1 cT.2.2.2.2.1 cT.2.2.2.2.2.1 a cT.2.2.2.2.2.2.2.1 cT.2.2.2.2.2.2.2.2.1 cT.2.2.2.2.2.2.2.2.2.1 cT.2.2.2.2.2.2.2.2.2.2.1 cT.2.2.2.2.2.2.2.2.2.2.2.1 cT.2.2.2.2.2.2.2.2.2.2.2.2.1 cT.2.2.2.2.2.2.2.2.2.2.2.2.2.1 cT.2.2.2.2.2.2.2.2.2.2.2.2.2.2.1 cT.2.2.2.2.2.2.2.2.2.2.2.2.2.2.2.1 cT.2.2.2.2.2.2.2.2.2.2.2.2.2.2.2.2.1 cT.2.2.2.2.2.2.2.2.2.2.2.2.2.2.2.2.2.1 cT.2.2.2.2.2.2.2.2.2.2.2.2.2.2.2.2.2.2.1 cT.2.2.2.2.2.2.2.2.2.2.2.2.2.2.2.2.2.2.2.1 news cT.2.2.2.2.2.2.2.2.2.2.2.2.2.2.2.2.2.2.2.2.2.1 cT.2.2.2.2.2.2.2.2.2.2.2.2.2.2.2.2.2.2.2.2.2.2.1 cT.2.2.2.2.2.2.2.2.2.2.2.2.2.2.2.2.2.2.2.2.2.2.2.1 cT.2.2.2.2.2.2.2.2.2.2.2.2.2.2.2.2.2.2.2.2.2.2.2.2.1 n cT.2.2.2.2.2.2.2.2.2.2.2.2.2.2.2.2.2.2.2.2.2.2.2.2.2.2.1 ns b cT.2.2.2.2.2.2.2.2.2.2.2.2.2.2.2.2.2.2.2.2.2.2.2.2.2.2.2.2.2 := by
  unfold P0
  intro  B F KX T hk hdp hun N hm hi hn hb hbs ret
  walk_at "my enter"
  k_steps
  refine Hold.out ?_
  rename Fr _ _ _ _ => lF
  rename News _ _ _ _ => lN
  rename IsRange _ _ _ _ _ _ _ _ => lR
  refine for_range (n := 5) (σ := Int) (ε := Tok) (fun _ _ => True) (fun a t => [("whole", .int a t)]) (fun _ _ => news) ["k", "part"] (turnStep ns b) 0 _ (by rfl) lR (by decide) (by rfl) lF lN trivial (List.forall_mem_cons.mpr ⟨rfl, List.forall_mem_nil _⟩) (fun _ _ => rfl) ?turn ?done
  · clear lF lN lR
    intro k t a e u h tk own hk ho _ F1 N1
    obtain ⟨hk0, hk4⟩ := mem_rangeKs hk
    dsimp only at F1 N1 ⊢
    k_steps
    exact LoopEnd.next _ trivial (by assumption) (by assumption) (List.forall_mem_cons.mpr ⟨rfl, List.forall_mem_nil _⟩) (by walk_at "fr rest") (fun _ hp => List.mem_append_left _ hp) (fun _ hp => List.mem_append_right _ hp)
  · clear lF lN lR
    intro e u h tk _ F1 N1
    dsimp only at F1 N1 ⊢
    k_steps
    exact ret _ _ _ (by assumption) (by assumption)
end X_c_turned
theorem c_turned {w : World} {dp : Nat} {un : Nat} {gd : Option (List Code)} {cn : Str} {cs : Scope} {a : Addr} {ccd : Value} {cl : List (Str × Addr)} {outer : List Env} {A₀ : Around} {base : Heap} {h₀ : Heap} {L : Addr} {m : Str → Option Value} {p : Program} {loose : List Str} {mean : ExcName → Option Value} {mg : Str → Option Value} {mb : Str → Option Value} {news : List (Addr × Obj)} {s : Shared} {Q : Value → Shared → Prop} {E : Value → Shared → Prop} {l : Addr} {n : Nat} {vs : List Value} {ns : List Int} {b : Int} {tb : Tok} (B : Below A₀ base outer h₀) (F : Fr h₀ L s.heap m) (KX : (kk w.params).In h₀) (T : Top p loose mean mg mb h₀) (hk : cs.kind = .function) (hdp : dp + 4 < recursionLimit) (hun : un + 40 < cLine) (N : News h₀ L s.heap news) (hm : (l, listOf vs.toArray n) ∈ news) (hi : IntsAre vs ns) (hn : ns.length = 5) (hb : Builtin.Int.intBits b ≤ 200) (hbs : ∀ k, Builtin.Int.intBits (ns.getD k 0) ≤ 200) (ret : ∀ t h' tk', Fr h₀ L h' m → News h₀ L h' news → Q (.int (turned ns b) t) { s with heap := h', toks := tk' }) :
   wpAny (model PySem.Challenge.rw_tc0016_01.row.prog w) (ktrTop dp un gd cn cs L a ccd cl outer) (call (.ref 143) [.ref l, .int b tb]) Q E s :=
  X_c_turned.cS X_c_turned.main (w, dp, un, gd, cn, cs, a, ccd, cl, outer, A₀, base, h₀, L, m, p, loose, mean, mg, mb, news, s, Q, E, l, n, vs, ns, b, tb) B F KX T hk hdp hun N hm hi hn hb hbs ret

end
example : True := by
  k_with "h14_0" => (k_here; (with_reducible refine floordiv_int ?kbe_0 ?_ (Or.inl (PyProof.noPylong_small ?kbp_0))); (case kbe_0 => exact (bf_steps (by assumption)).1); (case kbp_0 => exact (bf_steps (by assumption)).2))
  k_with "h14_0" => (k_here; (with_reducible refine floordiv_int ?kbe_1 ?_ (Or.inl (PyProof.noPylong_small ?kbp_1))); (case kbe_1 => exact (bf_steps (by assumption)).1); (case kbp_1 => exact (bf_steps (by assumption)).2))
  k_with "h14_0" => (k_here; (with_reducible refine floordiv_int ?kbe_2 ?_ (Or.inl (PyProof.noPylong_small ?kbp_2))); (case kbe_2 => exact (bf_steps (by assumption)).1); (case kbp_2 => exact (bf_steps (by assumption)).2))
  k_with "h14_0" => (k_here; (with_reducible refine floordiv_int ?kbe_3 ?_ (Or.inl (PyProof.noPylong_small ?kbp_3))); (case kbe_3 => exact (bf_steps (by assumption)).1); (case kbp_3 => exact (bf_steps (by assumption)).2))
  k_with "h14_0" => (k_here; (with_reducible refine floordiv_int ?kbe_4 ?_ (Or.inl (PyProof.noPylong_small ?kbp_4))); (case kbe_4 => exact (bf_steps (by assumption)).1); (case kbp_4 => exact (bf_steps (by assumption)).2))
  k_with "h14_0" => (k_here; (with_reducible refine floordiv_int ?kbe_5 ?_ (Or.inl (PyProof.noPylong_small ?kbp_5))); (case kbe_5 => exact (bf_steps (by assumption)).1); (case kbp_5 => exact (bf_steps (by assumption)).2))
  k_with "h14_1" => (k_here; (with_reducible show wpAny _ _ (call (Value.ref 63) _) _ _ _); k_dflt (refine' c_add ?k1_0 ?k2_0 ?k3_0 ?k5_0 ?kK_0 ?kd_0 ?ku_0 ?kN_0 ?_; (case k1_0 | k2_0 | k3_0 | k5_0 => k_asm); (case kK_0 => first | exact rfl | assumption); (case kd_0 => ktr_room); (case ku_0 => ktr_units); (case kN_0 => k_asm); k_whole); intro _ _ _ _ _; (try dsimp only); (try k_sweep); (try k_fold))
  k_with "h14_1" => (k_here; (with_reducible show wpAny _ _ (call (Value.ref 63) _) _ _ _); k_dflt (refine' c_add ?k1_1 ?k2_1 ?k3_1 ?k5_1 ?kK_1 ?kd_1 ?ku_1 ?kN_1 ?_; (case k1_1 | k2_1 | k3_1 | k5_1 => k_asm); (case kK_1 => first | exact rfl | assumption); (case kd_1 => ktr_room); (case ku_1 => ktr_units); (case kN_1 => k_asm); k_whole); intro _ _ _ _ _; (try dsimp only); (try k_sweep); (try k_fold))
  k_with "h14_1" => (k_here; (with_reducible show wpAny _ _ (call (Value.ref 63) _) _ _ _); k_dflt (refine' c_add ?k1_2 ?k2_2 ?k3_2 ?k5_2 ?kK_2 ?kd_2 ?ku_2 ?kN_2 ?_; (case k1_2 | k2_2 | k3_2 | k5_2 => k_asm); (case kK_2 => first | exact rfl | assumption); (case kd_2 => ktr_room); (case ku_2 => ktr_units); (case kN_2 => k_asm); k_whole); intro _ _ _ _ _; (try dsimp only); (try k_sweep); (try k_fold))
  k_with "h14_1" => (k_here; (with_reducible show wpAny _ _ (call (Value.ref 63) _) _ _ _); k_dflt (refine' c_add ?k1_3 ?k2_3 ?k3_3 ?k5_3 ?kK_3 ?kd_3 ?ku_3 ?kN_3 ?_; (case k1_3 | k2_3 | k3_3 | k5_3 => k_asm); (case kK_3 => first | exact rfl | assumption); (case kd_3 => ktr_room); (case ku_3 => ktr_units); (case kN_3 => k_asm); k_whole); intro _ _ _ _ _; (try dsimp only); (try k_sweep); (try k_fold))
  k_with "h14_1" => (k_here; (with_reducible show wpAny _ _ (call (Value.ref 63) _) _ _ _); k_dflt (refine' c_add ?k1_4 ?k2_4 ?k3_4 ?k5_4 ?kK_4 ?kd_4 ?ku_4 ?kN_4 ?_; (case k1_4 | k2_4 | k3_4 | k5_4 => k_asm); (case kK_4 => first | exact rfl | assumption); (case kd_4 => ktr_room); (case ku_4 => ktr_units); (case kN_4 => k_asm); k_whole); intro _ _ _ _ _; (try dsimp only); (try k_sweep); (try k_fold))
  k_with "h14_1" => (k_here; (with_reducible show wpAny _ _ (call (Value.ref 63) _) _ _ _); k_dflt (refine' c_add ?k1_5 ?k2_5 ?k3_5 ?k5_5 ?kK_5 ?kd_5 ?ku_5 ?kN_5 ?_; (case k1_5 | k2_5 | k3_5 | k5_5 => k_asm); (case kK_5 => first | exact rfl | assumption); (case kd_5 => ktr_room); (case ku_5 => ktr_units); (case kN_5 => k_asm); k_whole); intro _ _ _ _ _; (try dsimp only); (try k_sweep); (try k_fold))
  k_with "h14_2" => (k_here; (with_reducible show wpAny _ _ (call (Value.ref 77) _) _ _ _); k_dflt (refine' c_sub ?k1_0 ?k2_0 ?k3_0 ?k5_0 ?kK_0 ?kd_0 ?ku_0 ?kN_0 ?ke_0 ?_; (case k1_0 | k2_0 | k3_0 | k5_0 => k_asm); (case kK_0 => first | exact rfl | assumption); (case kd_0 => ktr_room); (case ku_0 => ktr_units); (case kN_0 => k_asm); (case ke_0 => rfl); k_whole); intro _ _ _ _ _; (try dsimp only); (try k_sweep); (try k_fold))
  k_with "h14_2" => (k_here; (with_reducible show wpAny _ _ (call (Value.ref 77) _) _ _ _); k_dflt (refine' c_sub ?k1_1 ?k2_1 ?k3_1 ?k5_1 ?kK_1 ?kd_1 ?ku_1 ?kN_1 ?ke_1 ?_; (case k1_1 | k2_1 | k3_1 | k5_1 => k_asm); (case kK_1 => first | exact rfl | assumption); (case kd_1 => ktr_room); (case ku_1 => ktr_units); (case kN_1 => k_asm); (case ke_1 => rfl); k_whole); intro _ _ _ _ _; (try dsimp only); (try k_sweep); (try k_fold))
  k_with "h14_2" => (k_here; (with_reducible show wpAny _ _ (call (Value.ref 77) _) _ _ _); k_dflt (refine' c_sub ?k1_2 ?k2_2 ?k3_2 ?k5_2 ?kK_2 ?kd_2 ?ku_2 ?kN_2 ?ke_2 ?_; (case k1_2 | k2_2 | k3_2 | k5_2 => k_asm); (case kK_2 => first | exact rfl | assumption); (case kd_2 => ktr_room); (case ku_2 => ktr_units); (case kN_2 => k_asm); (case ke_2 => rfl); k_whole); intro _ _ _ _ _; (try dsimp only); (try k_sweep); (try k_fold))
  k_with "h14_2" => (k_here; (with_reducible show wpAny _ _ (call (Value.ref 77) _) _ _ _); k_dflt (refine' c_sub ?k1_3 ?k2_3 ?k3_3 ?k5_3 ?kK_3 ?kd_3 ?ku_3 ?kN_3 ?ke_3 ?_; (case k1_3 | k2_3 | k3_3 | k5_3 => k_asm); (case kK_3 => first | exact rfl | assumption); (case kd_3 => ktr_room); (case ku_3 => ktr_units); (case kN_3 => k_asm); (case ke_3 => rfl); k_whole); intro _ _ _ _ _; (try dsimp only); (try k_sweep); (try k_fold))
  k_with "h14_2" => (k_here; (with_reducible show wpAny _ _ (call (Value.ref 77) _) _ _ _); k_dflt (refine' c_sub ?k1_4 ?k2_4 ?k3_4 ?k5_4 ?kK_4 ?kd_4 ?ku_4 ?kN_4 ?ke_4 ?_; (case k1_4 | k2_4 | k3_4 | k5_4 => k_asm); (case kK_4 => first | exact rfl | assumption); (case kd_4 => ktr_room); (case ku_4 => ktr_units); (case kN_4 => k_asm); (case ke_4 => rfl); k_whole); intro _ _ _ _ _; (try dsimp only); (try k_sweep); (try k_fold))
  k_with "h14_2" => (k_here; (with_reducible show wpAny _ _ (call (Value.ref 77) _) _ _ _); k_dflt (refine' c_sub ?k1_5 ?k2_5 ?k3_5 ?k5_5 ?kK_5 ?kd_5 ?ku_5 ?kN_5 ?ke_5 ?_; (case k1_5 | k2_5 | k3_5 | k5_5 => k_asm); (case kK_5 => first | exact rfl | assumption); (case kd_5 => ktr_room); (case ku_5 => ktr_units); (case kN_5 => k_asm); (case ke_5 => rfl); k_whole); intro _ _ _ _ _; (try dsimp only); (try k_sweep); (try k_fold))
  k_with "h14_3" => (k_here; (with_reducible show wpAny _ _ (call (Value.ref 84) _) _ _ _); k_dflt (refine' c_getitem ?k1_0 ?k2_0 ?k3_0 ?k5_0 ?kK_0 ?kd_0 ?ku_0 ?kN_0 ?km_0 ?ki_0 ?kxl_0 ?kx0_0 ?kx1_0 ?_; (case k1_0 | k2_0 | k3_0 | k5_0 => k_asm); (case kK_0 => first | exact rfl | assumption); (case kd_0 => ktr_room); (case ku_0 => ktr_units); (case kN_0 => k_asm); (case km_0 => k_mem); (case ki_0 => assumption); (case kxl_0 | kx0_0 | kx1_0 => l_idx); k_whole); intro _ _ _ _ _; (try dsimp only); (try k_sweep); (try k_fold))
  k_with "h14_3" => (k_here; (with_reducible show wpAny _ _ (call (Value.ref 84) _) _ _ _); k_dflt (refine' c_getitem ?k1_1 ?k2_1 ?k3_1 ?k5_1 ?kK_1 ?kd_1 ?ku_1 ?kN_1 ?km_1 ?ki_1 ?kxl_1 ?kx0_1 ?kx1_1 ?_; (case k1_1 | k2_1 | k3_1 | k5_1 => k_asm); (case kK_1 => first | exact rfl | assumption); (case kd_1 => ktr_room); (case ku_1 => ktr_units); (case kN_1 => k_asm); (case km_1 => k_mem); (case ki_1 => assumption); (case kxl_1 | kx0_1 | kx1_1 => l_idx); k_whole); intro _ _ _ _ _; (try dsimp only); (try k_sweep); (try k_fold))
  k_with "h14_3" => (k_here; (with_reducible show wpAny _ _ (call (Value.ref 84) _) _ _ _); k_dflt (refine' c_getitem ?k1_2 ?k2_2 ?k3_2 ?k5_2 ?kK_2 ?kd_2 ?ku_2 ?kN_2 ?km_2 ?ki_2 ?kxl_2 ?kx0_2 ?kx1_2 ?_; (case k1_2 | k2_2 | k3_2 | k5_2 => k_asm); (case kK_2 => first | exact rfl | assumption); (case kd_2 => ktr_room); (case ku_2 => ktr_units); (case kN_2 => k_asm); (case km_2 => k_mem); (case ki_2 => assumption); (case kxl_2 | kx0_2 | kx1_2 => l_idx); k_whole); intro _ _ _ _ _; (try dsimp only); (try k_sweep); (try k_fold))
  k_with "h14_3" => (k_here; (with_reducible show wpAny _ _ (call (Value.ref 84) _) _ _ _); k_dflt (refine' c_getitem ?k1_3 ?k2_3 ?k3_3 ?k5_3 ?kK_3 ?kd_3 ?ku_3 ?kN_3 ?km_3 ?ki_3 ?kxl_3 ?kx0_3 ?kx1_3 ?_; (case k1_3 | k2_3 | k3_3 | k5_3 => k_asm); (case kK_3 => first | exact rfl | assumption); (case kd_3 => ktr_room); (case ku_3 => ktr_units); (case kN_3 => k_asm); (case km_3 => k_mem); (case ki_3 => assumption); (case kxl_3 | kx0_3 | kx1_3 => l_idx); k_whole); intro _ _ _ _ _; (try dsimp only); (try k_sweep); (try k_fold))
  k_with "h14_3" => (k_here; (with_reducible show wpAny _ _ (call (Value.ref 84) _) _ _ _); k_dflt (refine' c_getitem ?k1_4 ?k2_4 ?k3_4 ?k5_4 ?kK_4 ?kd_4 ?ku_4 ?kN_4 ?km_4 ?ki_4 ?kxl_4 ?kx0_4 ?kx1_4 ?_; (case k1_4 | k2_4 | k3_4 | k5_4 => k_asm); (case kK_4 => first | exact rfl | assumption); (case kd_4 => ktr_room); (case ku_4 => ktr_units); (case kN_4 => k_asm); (case km_4 => k_mem); (case ki_4 => assumption); (case kxl_4 | kx0_4 | kx1_4 => l_idx); k_whole); intro _ _ _ _ _; (try dsimp only); (try k_sweep); (try k_fold))
  k_with "h14_3" => (k_here; (with_reducible show wpAny _ _ (call (Value.ref 84) _) _ _ _); k_dflt (refine' c_getitem ?k1_5 ?k2_5 ?k3_5 ?k5_5 ?kK_5 ?kd_5 ?ku_5 ?kN_5 ?km_5 ?ki_5 ?kxl_5 ?kx0_5 ?kx1_5 ?_; (case k1_5 | k2_5 | k3_5 | k5_5 => k_asm); (case kK_5 => first | exact rfl | assumption); (case kd_5 => ktr_room); (case ku_5 => ktr_units); (case kN_5 => k_asm); (case km_5 => k_mem); (case ki_5 => assumption); (case kxl_5 | kx0_5 | kx1_5 => l_idx); k_whole); intro _ _ _ _ _; (try dsimp only); (try k_sweep); (try k_fold))
  k_with "h14_4" => ((with_reducible show wpAny _ _ (pyIter (Value.ref _)) (fun it s₂ => LoopAtV _ _ _ _ _ _ _ _ _ it s₂) _ _); refine hold ?_)
  trivial
section
example : True := by
  w_top off
  trivial
-- bfly
noncomputable def bfPut (ns wl : List Int) (row : List Int) (k : Int) : List Int := row.set (ns.getD k.toNat 0).toNat (row.getD (ns.getD k.toNat 0).toNat 0 + wl.getD k.toNat 0)
noncomputable def bfTurn (step : Int) (row : List Int) (k : Int) : List Int :=
  if (k.fdiv step).fmod 2 = 0 then (row.set k.toNat (row.getD k.toNat 0 + row.getD (k + step).toNat 0)).set (k + step).toNat (row.getD k.toNat 0 - row.getD (k + step).toNat 0) else row
noncomputable def bfly (ns wl : List Int) : List Int := [1, 2, 4, 8].foldl (fun row step => (rangeKs 0 16).foldl (bfTurn step) row) ((rangeKs 0 4).foldl (bfPut ns wl) (List.replicate 16 0))
theorem bf_steps {k : Int} (h : k ∈ [1, 2, 4, 8]) : k ≠ 0 ∧ k.natAbs < 1073741824 := by
  simp only [List.mem_cons, List.not_mem_nil, or_false] at h; omega
local macro_rules | `(tactic| walk_at "binaryOp FloorDiv int int") => `(tactic| k_extra "h14_0")
theorem bf_idxN : ∀ k : Fin 16, ∀ s ∈ [(1 : Int), 2, 4, 8], (((k.val : Nat) : Int).fdiv s).fmod 2 = 0 → 0 ≤ ((k.val : Nat) : Int) + s ∧ ((k.val : Nat) : Int) + s < 16 := by decide +kernel
theorem bf_idx {k step : Int} (hs : step ∈ [1, 2, 4, 8]) (h0 : 0 ≤ k) (h1 : k < 16) (hp : (k.fdiv step).fmod 2 = 0) : 0 ≤ k + step ∧ k + step < 16 := by
  obtain ⟨n, rfl⟩ := Int.eq_ofNat_of_zero_le h0
  exact bf_idxN ⟨n, Int.ofNat_lt.mp h1⟩ step hs hp
local macro_rules | `(tactic| l_idx) => `(tactic| first | omega | (have hx9 := bf_idx (by assumption) (by assumption) (by assumption) (by assumption); (try simp only [List.length_set]); omega))
local macro_rules | `(tactic| walk_at "call ref") => `(tactic| k_extra "h14_1")
local macro_rules | `(tactic| walk_at "call ref") => `(tactic| k_extra "h14_2")
local macro_rules | `(tactic| walk_at "call ref") => `(tactic| k_extra "h14_3")
local macro_rules | `(tactic| walk_at "pyIter ref") => `(tactic| k_extra "h14_4")
namespace X_c_bfly
noncomputable def P0 (w : World) (dp : Nat) (un : Nat) (gd : Option (List Code)) (cn : Str) (cs : Scope) (a : Addr) (ccd : Value) (cl : List (Str × Addr)) (outer : List Env) (A₀ : Around) (base : Heap) (h₀ : Heap) (L : Addr) (m : Str → Option Value) (p : Program) (loose : List Str) (mean : ExcName → Option Value) (mg : Str → Option Value) (mb : Str → Option Value) (news : List (Addr × Obj)) (s : Shared) (Q : Value → Shared → Prop) (E : Value → Shared → Prop) (l : Addr) (l' : Addr) (n : Nat) (n' : Nat) (vs : List Value) (ws : List Value) (ns : List Int) (wl : List Int) : Prop := ∀  (B : Below A₀ base outer h₀) (F : Fr h₀ L s.heap m) (KX : (kk w.params).In h₀) (T : Top p loose mean mg mb h₀) (hk : cs.kind = .function) (hdp : dp + 4 < recursionLimit) (hun : un + 40 < cLine) (N : News h₀ L s.heap news) (hm : (l, listOf vs.toArray n) ∈ news) (hi : IntsAre vs ns) (hn : ns.length = 4) (hm' : (l', listOf ws.toArray n') ∈ news) (hi' : IntsAre ws wl) (hn' : wl.length = 4) (hnb : ∀ j, 0 ≤ ns.getD j 0 ∧ ns.getD j 0 < 16) (ret : ∀ D us h' tk', Fr h₀ L h' m → News h₀ L h' ((D, listOf (List.toArray us) 0) :: news) → (∀ p ∈ news, p.1 < D) → IntsAre us (bfly ns wl) → (bfly ns wl).length = 16 → Q (.ref D) { s with heap := h', toks := tk' }),
   wpAny (model PySem.Challenge.rw_tc0016_01.row.prog w) (ktrTop dp un gd cn cs L a ccd cl outer) (call (.ref 150) [.ref l, .ref l']) Q E s
abbrev T : Type := World × Nat × Nat × (Option (List Code)) × Str × Scope × Addr × Value × (List (Str × Addr)) × (List Env) × Around × Heap × Heap × Addr × (Str → Option Value) × Program × (List Str) × (ExcName → Option Value) × (Str → Option Value) × (Str → Option Value) × (List (Addr × Obj)) × Shared × (Value → Shared → Prop) × (Value → Shared → Prop) × Addr × Addr × Nat × Nat × (List Value) × (List Value) × (List Int) × (List Int)
noncomputable def P (v : T) : Prop := P0 v.1 v.2.1 v.2.2.1 v.2.2.2.1 v.2.2.2.2.1 v.2.2.2.2.2.1 v.2.2.2.2.2.2.1 v.2.2.2.2.2.2.2.1 v.2.2.2.2.2.2.2.2.1 v.2.2.2.2.2.2.2.2.2.1 v.2.2.2.2.2.2.2.2.2.2.1 v.2.2.2.2.2.2.2.2.2.2.2.1 v.2.2.2.2.2.2.2.2.2.2.2.2.1 v.2.2.2.2.2.2.2.2.2.2.2.2.2.1 v.2.2.2.2.2.2.2.2.2.2.2.2.2.2.1 v.2.2.2.2.2.2.2.2.2.2.2.2.2.2.2.1 v.2.2.2.2.2.2.2.2.2.2.2.2.2.2.2.2.1 v.2.2.2.2.2.2.2.2.2.2.2.2.2.2.2.2.2.1 v.2.2.2.2.2.2.2.2.2.2.2.2.2.2.2.2.2.2.1 v.2.2.2.2.2.2.2.2.2.2.2.2.2.2.2.2.2.2.2.1 v.2.2.2.2.2.2.2.2.2.2.2.2.2.2.2.2.2.2.2.2.1 v.2.2.2.2.2.2.2.2.2.2.2.2.2.2.2.2.2.2.2.2.2.1 v.2.2.2.2.2.2.2.2.2.2.2.2.2.2.2.2.2.2.2.2.2.2.1 v.2.2.2.2.2.2.2.2.2.2.2.2.2.2.2.2.2.2.2.2.2.2.2.1 v.2.2.2.2.2.2.2.2.2.2.2.2.2.2.2.2.2.2.2.2.2.2.2.2.1 v.2.2.2.2.2.2.2.2.2.2.2.2.2.2.2.2.2.2.2.2.2.2.2.2.2.1 v.2.2.2.2.2.2.2.2.2.2.2.2.2.2.2.2.2.2.2.2.2.2.2.2.2.2.1 v.2.2.2.2.2.2.2.2.2.2.2.2.2.2.2.2.2.2.2.2.2.2.2.2.2.2.2.1 v.2.2.2.2.2.2.2.2.2.2.2.2.2.2.2.2.2.2.2.2.2.2.2.2.2.2.2.2.1 v.2.2.2.2.2.2.2.2.2.2.2.2.2.2.2.2.2.2.2.2.2.2.2.2.2.2.2.2.2.1 v.2.2.2.2.2.2.2.2.2.2.2.2.2.2.2.2.2.2.2.2.2.2.2.2.2.2.2.2.2.2.1 v.2.2.2.2.2.2.2.2.2.2.2.2.2.2.2.2.2.2.2.2.2.2.2.2.2.2.2.2.2.2.2
theorem ex : ∃ c : T, P c → ∀ v, P v := ex_all ⟨((Classical.choice neW), 0, 0, none, default, default, (0 : Nat), .none, [], [], {}, {}, {}, (0 : Nat), (fun _ => none), default, [], (fun _ => none), (fun _ => none), (fun _ => none), [], {}, (fun _ _ => False), (fun _ _ => False), (0 : Nat), (0 : Nat), 0, 0, [], [], [], [])⟩
@[irreducible] noncomputable def cT : T := Classical.choose ex
theorem cS : P cT → ∀ v, P v := by
  unfold cT
  exact Classical.choose_spec ex
noncomputable abbrev a : Addr := cT.2.2.2.2.2.2.1
noncomputable abbrev p : Program := cT.2.2.2.2.2.2.2.2.2.2.2.2.2.2.2.1
noncomputable abbrev news : List (Addr × Obj) := cT.2.2.2.2.2.2.2.2.2.2.2.2.2.2.2.2.2.2.2.2.1
noncomputable abbrev n : Nat := cT.2.2.2.2.2.2.2.2.2.2.2.2.2.2.2.2.2.2.2.2.2.2.2.2.2.2.1
noncomputable abbrev ns : List Int := cT.2.2.2.2.2.2.2.2.2.2.2.2.2.2.2.2.2.2.2.2.2.2.2.2.2.2.2.2.2.2.1
noncomputable abbrev wl : List Int := cT.2.2.2.2.2.2.2.2.2.2.2.2.2.2.2.2.2.2.2.2.2.2.2.2.2.2.2.2.2.2.2
set_option maxRecDepth 100000 in
set_option maxHeartbeats 0 in
theorem main : P0 cT.1 cT.2.1 cT.2.2.1 cT.2.2.2.1 cT.2.2.2.2.1 cT.2.2.2.2.2.1 a cT.2.2.2.2.2.2.2.1 cT.2.2.2.2.2.2.2.2.1 cT.2.2.2.2.2.2.2.2.2.1 cT.2.2.2.2.2.2.2.2.2.2.1 cT.2.2.2.2.2.2.2.2.2.2.2.1 cT.2.2.2.2.2.2.2.2.2.2.2.2.1 cT.2.2.2.2.2.2.2.2.2.2.2.2.2.1 cT.2.2.2.2.2.2.2.2.2.2.2.2.2.2.1 p cT.2.2.2.2.2.2.2.2.2.2.2.2.2.2.2.2.1 cT.2.2.2.2.2.2.2.2.2.2.2.2.2.2.2.2.2.1 cT.2.2.2.2.2.2.2.2.2.2.2.2.2.2.2.2.2.2.1 cT.2.2.2.2.2.2.2.2.2.2.2.2.2.2.2.2.2.2.2.1 news cT.2.2.2.2.2.2.2.2.2.2.2.2.2.2.2.2.2.2.2.2.2.1 cT.2.2.2.2.2.2.2.2.2.2.2.2.2.2.2.2.2.2.2.2.2.2.1 cT.2.2.2.2.2.2.2.2.2.2.2.2.2.2.2.2.2.2.2.2.2.2.2.1 cT.2.2.2.2.2.2.2.2.2.2.2.2.2.2.2.2.2.2.2.2.2.2.2.2.1 cT.2.2.2.2.2.2.2.2.2.2.2.2.2.2.2.2.2.2.2.2.2.2.2.2.2.1 n cT.2.2.2.2.2.2.2.2.2.2.2.2.2.2.2.2.2.2.2.2.2.2.2.2.2.2.2.1 cT.2.2.2.2.2.2.2.2.2.2.2.2.2.2.2.2.2.2.2.2.2.2.2.2.2.2.2.2.1 cT.2.2.2.2.2.2.2.2.2.2.2.2.2.2.2.2.2.2.2.2.2.2.2.2.2.2.2.2.2.1 ns wl := by
  unfold P0
  intro  B F KX T hk hdp hun N hm hi hn hm' hi' hn' hnb ret
  walk_at "my enter"
  k_steps
  refine Hold.out ?_
  rename Fr _ _ _ _ => lF
  rename News _ _ _ _ => lN
  rename IsRange _ _ _ _ _ _ _ _ => lR
  rename IntsAre (List.flatten _) _ => lI
  rename (_ ∧ AllLt _ _) => lA
  replace lA := lA.2
  replace lN := news_sub lN (List.forall_mem_cons.mpr ⟨.head _, fun p hp => .tail _ (.tail _ hp)⟩)
  refine for_range (n := 4) (σ := List Int) (ε := List Value) (fun a us => IntsAre us a ∧ a.length = 16) (fun _ _ => []) (fun _ us => (_, listOf (List.toArray us) 0) :: news) ["k"] (bfPut ns wl) (List.replicate 16 0) _ (by rfl) lR (by decide) (by rfl) lF lN ⟨lI, by decide⟩ (List.forall_mem_nil _) (fun _ _ => rfl) ?turn ?done
  · clear lF lN lR lI
    intro k t a us u h tk own hk ho hP F1 N1
    obtain ⟨hk0, hk4⟩ := mem_rangeKs hk
    obtain ⟨hI, hL⟩ := hP
    have hb := hnb k.toNat
    dsimp only at F1 N1 ⊢
    simp only [List.cons_append] at N1
    k_steps
    exact LoopEnd.next _ ⟨by assumption, by simp [bfPut, hL]⟩ (by assumption) (by assumption) (List.forall_mem_nil _) (by walk_at "fr rest")
      (List.forall_mem_cons.mpr ⟨.head _, fun p hp => .tail _ (List.mem_append_left _ hp)⟩) (fun _ hp => .tail _ (List.mem_append_right _ hp))
  · clear lF lN lR lI
    intro us u h tk hP F1 N1
    obtain ⟨hI, hL⟩ := hP
    dsimp only at F1 N1 ⊢
    k_steps
    refine Hold.out ?_
    rename Fr _ _ _ _ => lF
    rename News _ _ _ _ => lN
    refine for_list (ns := [1, 2, 4, 8]) (σ := List Int) (ε := List Value) (fun a us => IntsAre us a ∧ a.length = 16) (fun _ _ => []) (fun _ us => (_, listOf (List.toArray [_, _, _, _]) 0) :: (_, listOf (List.toArray us) 0) :: news) ["step", "k", "low", "high"] (fun row step => (rangeKs 0 16).foldl (bfTurn step) row) _ _ (by rfl) (.head _) (by repeat constructor) lF lN ⟨hI, hL⟩ (List.forall_mem_nil _) (fun _ _ => rfl) (fun _ _ _ => .head _) ?turn2 ?done2
    · clear lF lN hI hL
      intro step t a us u h tk own hk ho hP F1 N1
      obtain ⟨hI, hL⟩ := hP
      dsimp only at F1 N1 ⊢
      simp only [List.cons_append] at N1
      k_steps
      refine Hold.out ?_
      rename Fr _ _ _ _ => lF
      rename News _ _ _ _ => lN
      rename IsRange _ _ _ _ _ _ _ _ => lR
      refine for_range (n := 16) (σ := List Int) (ε := List Value) (fun a us => IntsAre us a ∧ a.length = 16) (fun _ _ => []) (fun _ us => (_, listOf (List.toArray [_, _, _, _]) 0) :: (_, listOf (List.toArray us) 0) :: (news ++ own)) ["k", "low", "high"] (bfTurn step) _ _ (by rfl) lR (by decide) (by rfl) lF lN ⟨hI, hL⟩ (List.forall_mem_nil _) (fun _ _ => rfl) ?turn3 ?done3
      · clear lF lN lR hI hL
        intro k t a us u h tk own' hk' ho' hP F1 N1
        obtain ⟨hk0, hk4⟩ := mem_rangeKs hk'
        replace hk4 : k < 16 := by omega
        obtain ⟨hI, hL⟩ := hP
        dsimp only at F1 N1 ⊢
        simp only [List.cons_append, List.append_assoc] at N1
        k_steps
        · exact LoopEnd.next _ ⟨by simp only [bfTurn]; rw [if_pos (by assumption)]; assumption, by simp only [bfTurn]; split <;> simp [hL]⟩ (by assumption) (by assumption) (List.forall_mem_nil _) (by walk_at "fr rest")
            (List.forall_mem_cons.mpr ⟨.head _, List.forall_mem_cons.mpr ⟨.tail _ (.head _), fun p hp => by simp only [List.mem_cons, List.mem_append] at hp ⊢; rcases hp with hp | hp <;> simp only [hp, true_or, or_true]⟩⟩) (fun p hp => by simp only [List.mem_cons, List.mem_append, hp, or_true])
        · exact LoopEnd.next us ⟨by simp only [bfTurn]; rw [if_neg (by assumption)]; assumption, by simp only [bfTurn]; split <;> simp [hL]⟩ (by assumption) (by assumption) (List.forall_mem_nil _) (by walk_at "fr rest")
            (List.forall_mem_cons.mpr ⟨.head _, List.forall_mem_cons.mpr ⟨.tail _ (.head _), fun p hp => by simp only [List.mem_cons, List.mem_append] at hp ⊢; rcases hp with hp | hp <;> simp only [hp, true_or, or_true]⟩⟩) (fun p hp => by simp only [List.mem_cons, List.mem_append, hp, or_true])
      · clear lF lN lR hI hL
        intro us u h tk hP F1 N1
        obtain ⟨hI, hL⟩ := hP
        dsimp only at F1 N1 ⊢
        k_steps
        exact LoopEnd.next us ⟨hI, hL⟩ (by assumption) (by assumption) (List.forall_mem_nil _) (by walk_at "fr rest")
            (List.forall_mem_cons.mpr ⟨.head _, List.forall_mem_cons.mpr ⟨.tail _ (.head _), fun p hp => by simp only [List.mem_cons, List.mem_append, hp, true_or, or_true]⟩⟩) (fun p hp => by simp only [List.mem_cons, List.mem_append, hp, or_true])
    · clear lF lN hI hL
      intro us u h tk hP F1 N1
      obtain ⟨hI, hL⟩ := hP
      dsimp only at F1 N1 ⊢
      k_steps
      exact ret _ us _ _ (by assumption) (news_sub (by assumption) (fun p hp => .tail _ hp)) (ktn_ltOf lA) hI hL
end X_c_bfly
theorem c_bfly {w : World} {dp : Nat} {un : Nat} {gd : Option (List Code)} {cn : Str} {cs : Scope} {a : Addr} {ccd : Value} {cl : List (Str × Addr)} {outer : List Env} {A₀ : Around} {base : Heap} {h₀ : Heap} {L : Addr} {m : Str → Option Value} {p : Program} {loose : List Str} {mean : ExcName → Option Value} {mg : Str → Option Value} {mb : Str → Option Value} {news : List (Addr × Obj)} {s : Shared} {Q : Value → Shared → Prop} {E : Value → Shared → Prop} {l : Addr} {l' : Addr} {n : Nat} {n' : Nat} {vs : List Value} {ws : List Value} {ns : List Int} {wl : List Int} (B : Below A₀ base outer h₀) (F : Fr h₀ L s.heap m) (KX : (kk w.params).In h₀) (T : Top p loose mean mg mb h₀) (hk : cs.kind = .function) (hdp : dp + 4 < recursionLimit) (hun : un + 40 < cLine) (N : News h₀ L s.heap news) (hm : (l, listOf vs.toArray n) ∈ news) (hi : IntsAre vs ns) (hn : ns.length = 4) (hm' : (l', listOf ws.toArray n') ∈ news) (hi' : IntsAre ws wl) (hn' : wl.length = 4) (hnb : ∀ j, 0 ≤ ns.getD j 0 ∧ ns.getD j 0 < 16) (ret : ∀ D us h' tk', Fr h₀ L h' m → News h₀ L h' ((D, listOf (List.toArray us) 0) :: news) → (∀ p ∈ news, p.1 < D) → IntsAre us (bfly ns wl) → (bfly ns wl).length = 16 → Q (.ref D) { s with heap := h', toks := tk' }) :
   wpAny (model PySem.Challenge.rw_tc0016_01.row.prog w) (ktrTop dp un gd cn cs L a ccd cl outer) (call (.ref 150) [.ref l, .ref l']) Q E s :=
  X_c_bfly.cS X_c_bfly.main (w, dp, un, gd, cn, cs, a, ccd, cl, outer, A₀, base, h₀, L, m, p, loose, mean, mg, mb, news, s, Q, E, l, l', n, n', vs, ws, ns, wl) B F KX T hk hdp hun N hm hi hn hm' hi' hn' hnb ret

end
example : True := by
  k_with "h15_0" => ((with_reducible show wpAny _ _ (call (Value.ref _) [Value.int _ _, _, _]) _ _ _); refine hold ?_)
  k_with "h15_1" => (k_here; (with_reducible refine rshift_int ?kb1_0 ?_); (case kb1_0 => first | assumption | decide))
  k_with "h15_1" => (k_here; (with_reducible refine rshift_int ?kb1_1 ?_); (case kb1_1 => first | assumption | decide))
  k_with "h15_1" => (k_here; (with_reducible refine rshift_int ?kb1_2 ?_); (case kb1_2 => first | assumption | decide))
  k_with "h15_1" => (k_here; (with_reducible refine rshift_int ?kb1_3 ?_); (case kb1_3 => first | assumption | decide))
  k_with "h15_1" => (k_here; (with_reducible refine rshift_int ?kb1_4 ?_); (case kb1_4 => first | assumption | decide))
  k_with "h15_1" => (k_here; (with_reducible refine rshift_int ?kb1_5 ?_); (case kb1_5 => first | assumption | decide))
  k_with "h15_2" => (k_here; (with_reducible refine lshift_int ?kb1_0 ?kb2_0 ?_); (case kb1_0 | kb2_0 => assumption))
  k_with "h15_2" => (k_here; (with_reducible refine lshift_int ?kb1_1 ?kb2_1 ?_); (case kb1_1 | kb2_1 => assumption))
  k_with "h15_2" => (k_here; (with_reducible refine lshift_int ?kb1_2 ?kb2_2 ?_); (case kb1_2 | kb2_2 => assumption))
  k_with "h15_2" => (k_here; (with_reducible refine lshift_int ?kb1_3 ?kb2_3 ?_); (case kb1_3 | kb2_3 => assumption))
  k_with "h15_2" => (k_here; (with_reducible refine lshift_int ?kb1_4 ?kb2_4 ?_); (case kb1_4 | kb2_4 => assumption))
  k_with "h15_2" => (k_here; (with_reducible refine lshift_int ?kb1_5 ?kb2_5 ?_); (case kb1_5 | kb2_5 => assumption))
  trivial
section
example : True := by
  w_top off
  trivial
-- innA
local macro_rules | `(tactic| walk_at "call ref") => `(tactic| k_extra "h15_0")
local macro_rules | `(tactic| walk_at "binaryOp RShift int int") => `(tactic| k_extra "h15_1")
local macro_rules | `(tactic| walk_at "binaryOp LShift int int") => `(tactic| k_extra "h15_2")
set_option maxRecDepth 100000 in
set_option maxHeartbeats 2000000 in
theorem c_innA {w : World} {p : Program} {loose : List Str} {mean : ExcName → Option Value} {mg : Str → Option Value} {mb : Str → Option Value} {n : Int} (hn : 0 < n) (hn' : n ≤ 100) (sz : Nat) :
   InnASays w p loose mean mg mb n sz := by
  induction sz with
  | zero => intro dp un gd cn cs a ccd cl outer A₀ base h₀ L m news s Q E f c cA cI cN D oc oA oI oN cvs tq qual doc pm ctv vs ns k x lo hi tx tl th tn X B F KX T hk hC hdp hun N hne hf hc hcd hcv hN hNd hI hId hA hAd hi0 h0 hlt hle hle' hsz hx hX ret; omega
  | succ sz ih =>
    intro dp un gd cn cs a ccd cl outer A₀ base h₀ L m news s Q E f c cA cI cN D oc oA oI oN cvs tq qual doc pm ctv vs ns k x lo hi tx tl th tn X B F KX T hk hC hdp hun N hne hf hc hcd hcv hN hNd hI hId hA hAd hi0 h0 hlt hle hle' hsz hx hX ret
    have hf0 : Hold ((f, fnMade "inner" qual (fnPars innA) (fnBody innA) (fnScope innA) [("n", cN), ("inner", cI), ("a_digits", cA)] doc pm c ctv) ∈ news) := hf
    conv at hf in (fnBody innA) => whnf
    conv at hf in (fnScope innA) => whnf
    conv at hf in (fnPars innA) => whnf
    have hM := inn_mid0 hlt
    have hS : 0 ≤ ((lo + hi).fdiv (2 ^ Int.toNat 1) - lo) * n := Int.mul_nonneg (by omega) (by omega)
    have hB : Builtin.Int.intBits x ≤ 100000 := by rw [hx]; exact inn_bits hX (by omega) (by omega)
    have hF := inn_fits (y := 2 ^ (((lo + hi).fdiv (2 ^ Int.toNat 1) - lo) * n).toNat) hB h0 hM.1 (Int.le_of_lt hM.2) hle' hn hn' rfl
    have hLow := Hold.out (inn_low hx hM.1 hn)
    have hUp := Hold.out (inn_up hx hM.1 hn)
    have hUpX := Hold.out (inn_upX h0 hM.1 (Int.le_of_lt hM.2) hX)
    replace hX : Hold (X < (2 ^ n.toNat) ^ (hi - lo).toNat) := hX
    walk_at "my nest"
    k_steps
    · exact ret _ _ _ _ (by k_asm) (by k_asm) (by assumption) (filled_oneI h0 (by assumption) hle hx hX)
    · have hM2 := inn_mid hlt (by assumption)
      refine Hold.out ?_
      k_dflt (refine' ih (X := X % (2 ^ n.toNat) ^ ((lo + hi).fdiv (2 ^ Int.toNat 1) - lo).toNat) ?k1 ?k2 ?k3 ?k5 ?kK ?kC ?kd ?ku ?kN ?ke ?kf ?kc ?kcd ?kcv ?kn ?knd ?ki ?kid ?ka ?kad ?ki0 ?k0 ?klt ?kle ?kle2 ?ksz ?kx ?kX ?_; (case k1 => k_asm); (case k2 => k_asm); (case k3 => k_asm); (case k5 => k_asm); (case kK => exact rfl); (case kC => assumption); (case kd => ktr_room); (case ku => ktr_units); (case kN => k_asm); (case ke => exact hne); (case kf => exact hf0); (case kc => exact hc); (case kcd => exact hcd); (case kcv => exact hcv); (case kn => exact hN); (case knd => exact hNd); (case ki => exact hI); (case kid => exact hId); (case ka => exact hA); (case kad => exact hAd); (case ki0 => assumption))
      · exact h0
      · exact (inn_mid hlt (by assumption)).1
      · omega
      · omega
      · omega
      · exact hLow
      · exact Nat.mod_lt _ (Nat.pow_pos (Nat.pow_pos (by decide)))
      intro us1 ns1 h1 tk1 F1 N1 I1 f1
      have L1 := f1.1
      k_steps
      refine Hold.out ?_
      k_dflt (refine' ih (X := X / (2 ^ n.toNat) ^ ((lo + hi).fdiv (2 ^ Int.toNat 1) - lo).toNat) ?k1 ?k2 ?k3 ?k5 ?kK ?kC ?kd ?ku ?kN ?ke ?kf ?kc ?kcd ?kcv ?kn ?knd ?ki ?kid ?ka ?kad ?ki0 ?j0 ?jlt ?jle ?jle2 ?jsz ?jx ?jX ?_; (case k1 => k_asm); (case k2 => k_asm); (case k3 => k_asm); (case k5 => k_asm); (case kK => exact rfl); (case kC => assumption); (case kd => ktr_room); (case ku => ktr_units); (case kN => k_asm); (case ke => exact hne); (case kf => exact hf0); (case kc => exact hc); (case kcd => exact hcd); (case kcv => exact hcv); (case kn => exact hN); (case knd => exact hNd); (case ki => exact hI); (case kid => exact hId); (case ka => exact hA); (case kad => exact hAd); (case ki0 => assumption))
      · omega
      · omega
      · omega
      · omega
      · omega
      · exact hUp
      · exact hUpX
      intro us2 ns2 h2 tk2 F2 N2 I2 f2
      k_steps
      exact ret _ _ _ _ (by k_asm) (by k_asm) I2 (filled_joinI h0 hM.1 (Int.le_of_lt hM.2) f1 f2)

end
example : True := by
  k_with "h16_0" => ((with_reducible show wpAny _ _ (call (Value.ref _) [Value.int _ _, Value.int _ _]) _ _ _); refine hold ?_)
  k_with "h16_1" => (k_here; (with_reducible refine rshift_int ?kb1_0 ?_); (case kb1_0 => first | assumption | decide))
  k_with "h16_1" => (k_here; (with_reducible refine rshift_int ?kb1_1 ?_); (case kb1_1 => first | assumption | decide))
  k_with "h16_1" => (k_here; (with_reducible refine rshift_int ?kb1_2 ?_); (case kb1_2 => first | assumption | decide))
  k_with "h16_1" => (k_here; (with_reducible refine rshift_int ?kb1_3 ?_); (case kb1_3 => first | assumption | decide))
  k_with "h16_1" => (k_here; (with_reducible refine rshift_int ?kb1_4 ?_); (case kb1_4 => first | assumption | decide))
  k_with "h16_1" => (k_here; (with_reducible refine rshift_int ?kb1_5 ?_); (case kb1_5 => first | assumption | decide))
  k_with "h16_2" => (k_here; (with_reducible refine lshift_int ?kb1_0 ?kb2_0 ?_); (case kb1_0 | kb2_0 => assumption))
  k_with "h16_2" => (k_here; (with_reducible refine lshift_int ?kb1_1 ?kb2_1 ?_); (case kb1_1 | kb2_1 => assumption))
  k_with "h16_2" => (k_here; (with_reducible refine lshift_int ?kb1_2 ?kb2_2 ?_); (case kb1_2 | kb2_2 => assumption))
  k_with "h16_2" => (k_here; (with_reducible refine lshift_int ?kb1_3 ?kb2_3 ?_); (case kb1_3 | kb2_3 => assumption))
  k_with "h16_2" => (k_here; (with_reducible refine lshift_int ?kb1_4 ?kb2_4 ?_); (case kb1_4 | kb2_4 => assumption))
  k_with "h16_2" => (k_here; (with_reducible refine lshift_int ?kb1_5 ?kb2_5 ?_); (case kb1_5 | kb2_5 => assumption))
  trivial
section
example : True := by
  w_top off
  trivial
local macro_rules | `(tactic| walk_at "pad 0") => `(tactic| skip)
local macro_rules | `(tactic| walk_at "pad 1") => `(tactic| skip)
local macro_rules | `(tactic| walk_at "pad 2") => `(tactic| skip)
local macro_rules | `(tactic| walk_at "pad 3") => `(tactic| skip)
-- innB
local macro_rules | `(tactic| walk_at "call ref") => `(tactic| k_extra "h16_0")
local macro_rules | `(tactic| walk_at "binaryOp RShift int int") => `(tactic| k_extra "h16_1")
local macro_rules | `(tactic| walk_at "binaryOp LShift int int") => `(tactic| k_extra "h16_2")
set_option maxRecDepth 100000 in
set_option maxHeartbeats 2000000 in
theorem c_innB {w : World} {p : Program} {loose : List Str} {mean : ExcName → Option Value} {mg : Str → Option Value} {mb : Str → Option Value} {n : Int} (hn : 0 < n) (hn' : n ≤ 100) (sz : Nat) :
   InnBSays w p loose mean mg mb n sz := by
  induction sz with
  | zero => intro dp un gd cn cs a ccd cl outer A₀ base h₀ L m news s Q E f c cA cI cN D oc oA oI oN cvs tq qual doc pm ctv vs ns k lo hi tl th tn B F KX T hk hC hdp hun N hD hbs hf hc hcd hcv hN hNd hI hId hA hAd hi0 h0 hlt hle hle' hsz ret; omega
  | succ sz ih =>
    intro dp un gd cn cs a ccd cl outer A₀ base h₀ L m news s Q E f c cA cI cN D oc oA oI oN cvs tq qual doc pm ctv vs ns k lo hi tl th tn B F KX T hk hC hdp hun N hD hbs hf hc hcd hcv hN hNd hI hId hA hAd hi0 h0 hlt hle hle' hsz ret
    have hf0 : Hold ((f, fnMade "inner" qual (fnPars innB) (fnBody innB) (fnScope innB) [("n", cN), ("inner", cI), ("digits", cA)] doc pm c ctv) ∈ news) := hf
    conv at hf in (fnBody innB) => whnf
    conv at hf in (fnScope innB) => whnf
    conv at hf in (fnPars innB) => whnf
    have hM := inn_mid0 hlt
    have hS : 0 ≤ ((lo + hi).fdiv (2 ^ Int.toNat 1) - lo) * n := Int.mul_nonneg (by omega) (by omega)
    have hB := d2iAt_bits (lo := (lo + hi).fdiv (2 ^ Int.toNat 1)) hn hn' (Int.le_trans h0 hM.1) (Int.le_of_lt hM.2) hle' (Nat.le_refl 1000) hbs
    have hF := d2iAt_fits hB h0 hM.1 (Int.le_of_lt hM.2) hle' hn hn' rfl
    have hJ := Hold.out (d2iAt_join hn h0 hM.1 (Int.le_of_lt hM.2) hle)
    walk_at "my nest"
    k_steps
    · rw [d2iAt_one (b := 2 ^ n.toNat) h0 (by assumption) hle]
      exact ret _ _ _ (by k_asm) (by k_asm)
    · have hM2 := inn_mid hlt (by assumption)
      refine Hold.out ?_
      k_dflt (refine' ih ?ak1 ?ak2 ?ak3 ?ak5 ?akK ?akC ?akd ?aku ?akN ?akD ?akB ?akf ?akc ?akcd ?akcv ?akn ?aknd ?aki ?akid ?aka ?akad ?aki0 ?ak0 ?aklt ?akle ?akle2 ?aksz ?_; (case ak1 => k_asm); (case ak2 => k_asm); (case ak3 => k_asm); (case ak5 => k_asm); (case akK => exact rfl); (case akC => assumption); (case akd => ktr_room); (case aku => ktr_units); (case akN => k_asm); (case akD => exact hD); (case akB => exact hbs); (case akf => exact hf0); (case akc => exact hc); (case akcd => exact hcd); (case akcv => exact hcv); (case akn => exact hN); (case aknd => exact hNd); (case aki => exact hI); (case akid => exact hId); (case aka => exact hA); (case akad => exact hAd); (case aki0 => exact hi0))
      · omega
      · omega
      · omega
      · omega
      · omega
      intro t1 h1 tk1 F1 N1
      k_steps
      refine Hold.out ?_
      k_dflt (refine' ih ?bk1 ?bk2 ?bk3 ?bk5 ?bkK ?bkC ?bkd ?bku ?bkN ?bkD ?bkB ?bkf ?bkc ?bkcd ?bkcv ?bkn ?bknd ?bki ?bkid ?bka ?bkad ?bki0 ?bk0 ?bklt ?bkle ?bkle2 ?bksz ?_; (case bk1 => k_asm); (case bk2 => k_asm); (case bk3 => k_asm); (case bk5 => k_asm); (case bkK => exact rfl); (case bkC => assumption); (case bkd => ktr_room); (case bku => ktr_units); (case bkN => k_asm); (case bkD => exact hD); (case bkB => exact hbs); (case bkf => exact hf0); (case bkc => exact hc); (case bkcd => exact hcd); (case bkcv => exact hcv); (case bkn => exact hN); (case bknd => exact hNd); (case bki => exact hI); (case bkid => exact hId); (case bka => exact hA); (case bkad => exact hAd); (case bki0 => exact hi0))
      · omega
      · omega
      · omega
      · omega
      · omega
      intro t2 h2 tk2 F2 N2
      k_steps
      rw [hJ]
      exact ret _ _ _ (by k_asm) (by k_asm)

end
example : True := by
  k_with "h17_0" => ((with_reducible show wpAny _ _ (call (Value.ref _) [Value.int _ _, _, _]) _ _ _); refine hold ?_)
  trivial
section
example : True := by
  w_top off
  trivial
-- i2d
local macro_rules | `(tactic| walk_at "call ref") => `(tactic| k_extra "h17_0")
noncomputable abbrev hitA (c : Addr) : Obj := tabObj #[rawInt (fnPos innA).line, rawInt (fnPos innA).col, .ref c]
noncomputable abbrev quA : Str := "_int2digits.<locals>.inner"
namespace X_c_i2d
noncomputable def P0 (w : World) (dp : Nat) (un : Nat) (gd : Option (List Code)) (cn : Str) (cs : Scope) (a : Addr) (ccd : Value) (cl : List (Str × Addr)) (outer : List Env) (A₀ : Around) (base : Heap) (h₀ : Heap) (L : Addr) (m : Str → Option Value) (p : Program) (loose : List Str) (mean : ExcName → Option Value) (mg : Str → Option Value) (mb : Str → Option Value) (news : List (Addr × Obj)) (s : Shared) (Q : Value → Shared → Prop) (E : Value → Shared → Prop) (n : Int) (X : Nat) (tx : Tok) (tn : Tok) : Prop := ∀ (x : Int) (ps : Array Value) (B : Below A₀ base outer h₀) (F : Fr h₀ L s.heap m) (KX : (kk w.params).In h₀) (T : Top p loose mean mg mb h₀) (hk : cs.kind = .function) (hdp : dp + 20 < recursionLimit) (hun : un + 200 < cLine) (N : News h₀ L s.heap ((30, tabObj ps) :: news)) (hne : ∀ q ∈ news, q.1 ≠ 30) (C : CodeHd base 34 30) (ok : TabOk innA quA ps news) (hx : x = X) (hn : 0 < n) (hnb : n ≤ 100) (hX16 : ndig n X ≤ 16) (ret : ∀ D us c oc vs t h' tk', Fr h₀ L h' m → News h₀ L h' ((D, listOf (List.toArray us) 0) :: (30, hitA c) :: (c, oc) :: news) → oc.data = .fields vs → vs[1]? = some (.str quA t) → IntsAre us (digs (2 ^ n.toNat) (ndig n X).toNat X) →
      (∀ q ∈ news, q.1 < D) → @LT.lt Nat _ 30 D → ((ps = #[] ∧ (∀ q ∈ news, q.1 < c) ∧ @LT.lt Nat _ D c) ∨ (tabObj ps = hitA c ∧ (c, oc) ∈ news)) → Q (.ref D) { s with heap := h', toks := tk' }),
   wpAny (model PySem.Challenge.rw_tc0016_01.row.prog w) (ktrTop dp un gd cn cs L a ccd cl outer) (call (.ref 35) [.int x tx, .int n tn]) Q E s
abbrev T : Type := World × Nat × Nat × (Option (List Code)) × Str × Scope × Addr × Value × (List (Str × Addr)) × (List Env) × Around × Heap × Heap × Addr × (Str → Option Value) × Program × (List Str) × (ExcName → Option Value) × (Str → Option Value) × (Str → Option Value) × (List (Addr × Obj)) × Shared × (Value → Shared → Prop) × (Value → Shared → Prop) × Int × Nat × Tok × Tok
noncomputable def P (v : T) : Prop := P0 v.1 v.2.1 v.2.2.1 v.2.2.2.1 v.2.2.2.2.1 v.2.2.2.2.2.1 v.2.2.2.2.2.2.1 v.2.2.2.2.2.2.2.1 v.2.2.2.2.2.2.2.2.1 v.2.2.2.2.2.2.2.2.2.1 v.2.2.2.2.2.2.2.2.2.2.1 v.2.2.2.2.2.2.2.2.2.2.2.1 v.2.2.2.2.2.2.2.2.2.2.2.2.1 v.2.2.2.2.2.2.2.2.2.2.2.2.2.1 v.2.2.2.2.2.2.2.2.2.2.2.2.2.2.1 v.2.2.2.2.2.2.2.2.2.2.2.2.2.2.2.1 v.2.2.2.2.2.2.2.2.2.2.2.2.2.2.2.2.1 v.2.2.2.2.2.2.2.2.2.2.2.2.2.2.2.2.2.1 v.2.2.2.2.2.2.2.2.2.2.2.2.2.2.2.2.2.2.1 v.2.2.2.2.2.2.2.2.2.2.2.2.2.2.2.2.2.2.2.1 v.2.2.2.2.2.2.2.2.2.2.2.2.2.2.2.2.2.2.2.2.1 v.2.2.2.2.2.2.2.2.2.2.2.2.2.2.2.2.2.2.2.2.2.1 v.2.2.2.2.2.2.2.2.2.2.2.2.2.2.2.2.2.2.2.2.2.2.1 v.2.2.2.2.2.2.2.2.2.2.2.2.2.2.2.2.2.2.2.2.2.2.2.1 v.2.2.2.2.2.2.2.2.2.2.2.2.2.2.2.2.2.2.2.2.2.2.2.2.1 v.2.2.2.2.2.2.2.2.2.2.2.2.2.2.2.2.2.2.2.2.2.2.2.2.2.1 v.2.2.2.2.2.2.2.2.2.2.2.2.2.2.2.2.2.2.2.2.2.2.2.2.2.2.1 v.2.2.2.2.2.2.2.2.2.2.2.2.2.2.2.2.2.2.2.2.2.2.2.2.2.2.2
theorem ex : ∃ c : T, P c → ∀ v, P v := ex_all ⟨((Classical.choice neW), 0, 0, none, default, default, (0 : Nat), .none, [], [], {}, {}, {}, (0 : Nat), (fun _ => none), default, [], (fun _ => none), (fun _ => none), (fun _ => none), [], {}, (fun _ _ => False), (fun _ _ => False), 0, 0, (0 : Nat), (0 : Nat))⟩
@[irreducible] noncomputable def cT : T := Classical.choose ex
theorem cS : P cT → ∀ v, P v := by
  unfold cT
  exact Classical.choose_spec ex
noncomputable abbrev news : List (Addr × Obj) := cT.2.2.2.2.2.2.2.2.2.2.2.2.2.2.2.2.2.2.2.2.1
noncomputable abbrev n : Int := cT.2.2.2.2.2.2.2.2.2.2.2.2.2.2.2.2.2.2.2.2.2.2.2.2.1
noncomputable abbrev X : Nat := cT.2.2.2.2.2.2.2.2.2.2.2.2.2.2.2.2.2.2.2.2.2.2.2.2.2.1
set_option maxRecDepth 100000 in
set_option maxHeartbeats 0 in
theorem main : P0 cT.1 cT.2.1 cT.2.2.1 cT.2.2.2.1 cT.2.2.2.2.1 cT.2.2.2.2.2.1 cT.2.2.2.2.2.2.1 cT.2.2.2.2.2.2.2.1 cT.2.2.2.2.2.2.2.2.1 cT.2.2.2.2.2.2.2.2.2.1 cT.2.2.2.2.2.2.2.2.2.2.1 cT.2.2.2.2.2.2.2.2.2.2.2.1 cT.2.2.2.2.2.2.2.2.2.2.2.2.1 cT.2.2.2.2.2.2.2.2.2.2.2.2.2.1 cT.2.2.2.2.2.2.2.2.2.2.2.2.2.2.1 cT.2.2.2.2.2.2.2.2.2.2.2.2.2.2.2.1 cT.2.2.2.2.2.2.2.2.2.2.2.2.2.2.2.2.1 cT.2.2.2.2.2.2.2.2.2.2.2.2.2.2.2.2.2.1 cT.2.2.2.2.2.2.2.2.2.2.2.2.2.2.2.2.2.2.1 cT.2.2.2.2.2.2.2.2.2.2.2.2.2.2.2.2.2.2.2.1 news cT.2.2.2.2.2.2.2.2.2.2.2.2.2.2.2.2.2.2.2.2.2.1 cT.2.2.2.2.2.2.2.2.2.2.2.2.2.2.2.2.2.2.2.2.2.2.1 cT.2.2.2.2.2.2.2.2.2.2.2.2.2.2.2.2.2.2.2.2.2.2.2.1 n X cT.2.2.2.2.2.2.2.2.2.2.2.2.2.2.2.2.2.2.2.2.2.2.2.2.2.2.1 cT.2.2.2.2.2.2.2.2.2.2.2.2.2.2.2.2.2.2.2.2.2.2.2.2.2.2.2 := by
  unfold P0
  intro x ps B F KX T hk hdp hun N hne C ok hx hn hnb hX16 ret
  subst hx
  have hK : 0 ≤ ((Builtin.Int.intBits (X : Int) : Int) + n - 1).fdiv n ∧ ((Builtin.Int.intBits (X : Int) : Int) + n - 1).fdiv n ≤ 16 := by
    exact ⟨(ndig_facts hn).1, hX16⟩
  have hKp : (X : Int) ≠ 0 → 0 < ((Builtin.Int.intBits (X : Int) : Int) + n - 1).fdiv n := by
    intro h0; exact ndig_pos hn (by omega)
  rcases ok with rfl | ⟨c, oc, vs, t, rfl, hm, hd1, hv⟩
  · walk_at "my enter"
    k_steps
    · refine Hold.out ?_
      k_dflt (refine' c_innA hn hnb 16 (X := X) ?ak1 ?ak2 ?ak3 ?ak5 ?akK ?akC ?akd ?aku ?akN ?ake ?akf ?akc ?akcd ?akcv ?akn ?aknd ?aki ?akid ?aka ?akad ?aki0 ?ak0 ?aklt ?akle ?akle2 ?aksz ?akx ?akX ?_; (case ak1 => k_asm); (case ak2 => k_asm); (case ak3 => k_asm); (case ak5 => k_asm); (case akK => exact rfl); (case akC => assumption); (case akd => ktr_room); (case aku => ktr_units); (case akN => exact news_third (by k_asm)); (case ake => k_all); (case akf => k_mem); (case akc => k_mem); (case akcd => assumption); (case akcv => assumption); (case akn => k_mem); (case aknd => k_asm); (case aki => k_mem); (case akid => k_asm); (case aka => k_mem); (case akad => k_asm); (case aki0 => assumption))
      · exact Int.le_refl _
      · have := hKp (by assumption); omega
      · omega
      · omega
      · omega
      · rfl
      · exact i2d_top hn (by assumption)
      intro us1 ns1 h1 tk1 F1 N1 I1 f1
      k_steps
      rename (_ ∧ _ ∧ _ ∧ _ ∧ _ ∧ AllLt _ news) => lD
      rename (_ ∧ _ ∧ _ ∧ _ ∧ _ ∧ _ ∧ AllLt _ news) => lC
      refine ret _ _ _ _ _ _ _ _ (by k_asm) (news_sub (by k_asm) (List.forall_mem_cons.mpr ⟨by k_mem, List.forall_mem_cons.mpr ⟨by k_dflt k_mem, List.forall_mem_cons.mpr ⟨by k_mem, ?_⟩⟩⟩)) (by assumption) (by assumption) (i2d_end hn I1 f1 (by assumption)) (ktn_ltOf lD.2.2.2.2.2) lD.2.2.2.2.1 (Or.inl ⟨rfl, ktn_ltOf lC.2.2.2.2.2.2, lC.1⟩)
      intro q hq
      simp only [List.mem_cons, hq, or_true]
    · rename (_ ∧ _ ∧ _ ∧ _ ∧ _ ∧ AllLt _ news) => lD
      rename (_ ∧ _ ∧ _ ∧ _ ∧ _ ∧ _ ∧ AllLt _ news) => lC
      refine ret _ _ _ _ _ _ _ _ (by k_asm) (news_sub (by k_asm) (List.forall_mem_cons.mpr ⟨by k_mem, List.forall_mem_cons.mpr ⟨by k_dflt k_mem, List.forall_mem_cons.mpr ⟨by k_mem, ?_⟩⟩⟩)) (by assumption) (by assumption) (i2d_none hn (by omega) (by assumption)) (ktn_ltOf lD.2.2.2.2.2) lD.2.2.2.2.1 (Or.inl ⟨rfl, ktn_ltOf lC.2.2.2.2.2.2, lC.1⟩)
      intro q hq
      simp only [List.mem_cons, hq, or_true]
  · walk_at "my enter"
    k_steps
    · refine Hold.out ?_
      k_dflt (refine' c_innA hn hnb 16 (X := X) ?bk1 ?bk2 ?bk3 ?bk5 ?bkK ?bkC ?bkd ?bku ?bkN ?bke ?bkf ?bkc ?bkcd ?bkcv ?bkn ?bknd ?bki ?bkid ?bka ?bkad ?bki0 ?bk0 ?bklt ?bkle ?bkle2 ?bksz ?bkx ?bkX ?_; (case bk1 => k_asm); (case bk2 => k_asm); (case bk3 => k_asm); (case bk5 => k_asm); (case bkK => exact rfl); (case bkC => assumption); (case bkd => ktr_room); (case bku => ktr_units); (case bkN => exact news_second (by k_asm)); (case bke => k_all); (case bkf => k_mem); (case bkc => k_mem); (case bkcd => assumption); (case bkcv => assumption); (case bkn => k_mem); (case bknd => k_asm); (case bki => k_mem); (case bkid => k_asm); (case bka => k_mem); (case bkad => k_asm); (case bki0 => assumption))
      · exact Int.le_refl _
      · have := hKp (by assumption); omega
      · omega
      · omega
      · omega
      · rfl
      · exact i2d_top hn (by assumption)
      intro us1 ns1 h1 tk1 F1 N1 I1 f1
      k_steps
      rename (_ ∧ _ ∧ _ ∧ _ ∧ _ ∧ AllLt _ news) => lD
      refine ret _ _ c oc vs t _ _ (by k_asm) (news_sub (by k_asm) (List.forall_mem_cons.mpr ⟨by k_mem, List.forall_mem_cons.mpr ⟨by k_dflt k_mem, List.forall_mem_cons.mpr ⟨by k_mem, ?_⟩⟩⟩)) hd1 hv (i2d_end hn I1 f1 (by assumption)) (ktn_ltOf lD.2.2.2.2.2) lD.2.2.2.2.1 (Or.inr ⟨rfl, hm⟩)
      intro q hq
      simp only [List.mem_cons, hq, or_true]
    · rename (_ ∧ _ ∧ _ ∧ _ ∧ _ ∧ AllLt _ news) => lD
      refine ret _ _ c oc vs t _ _ (by k_asm) (news_sub (by k_asm) (List.forall_mem_cons.mpr ⟨by k_mem, List.forall_mem_cons.mpr ⟨by k_dflt k_mem, List.forall_mem_cons.mpr ⟨by k_mem, ?_⟩⟩⟩)) hd1 hv (i2d_none hn (by omega) (by assumption)) (ktn_ltOf lD.2.2.2.2.2) lD.2.2.2.2.1 (Or.inr ⟨rfl, hm⟩)
      intro q hq
      simp only [List.mem_cons, hq, or_true]
end X_c_i2d
theorem c_i2d {w : World} {dp : Nat} {un : Nat} {gd : Option (List Code)} {cn : Str} {cs : Scope} {a : Addr} {ccd : Value} {cl : List (Str × Addr)} {outer : List Env} {A₀ : Around} {base : Heap} {h₀ : Heap} {L : Addr} {m : Str → Option Value} {p : Program} {loose : List Str} {mean : ExcName → Option Value} {mg : Str → Option Value} {mb : Str → Option Value} {news : List (Addr × Obj)} {s : Shared} {Q : Value → Shared → Prop} {E : Value → Shared → Prop} {n : Int} {X : Nat} {tx : Tok} {tn : Tok} {x : Int} {ps : Array Value} (B : Below A₀ base outer h₀) (F : Fr h₀ L s.heap m) (KX : (kk w.params).In h₀) (T : Top p loose mean mg mb h₀) (hk : cs.kind = .function) (hdp : dp + 20 < recursionLimit) (hun : un + 200 < cLine) (N : News h₀ L s.heap ((30, tabObj ps) :: news)) (hne : ∀ q ∈ news, q.1 ≠ 30) (C : CodeHd base 34 30) (ok : TabOk innA quA ps news) (hx : x = X) (hn : 0 < n) (hnb : n ≤ 100) (hX16 : ndig n X ≤ 16) (ret : ∀ D us c oc vs t h' tk', Fr h₀ L h' m → News h₀ L h' ((D, listOf (List.toArray us) 0) :: (30, hitA c) :: (c, oc) :: news) → oc.data = .fields vs → vs[1]? = some (.str quA t) → IntsAre us (digs (2 ^ n.toNat) (ndig n X).toNat X) →
      (∀ q ∈ news, q.1 < D) → @LT.lt Nat _ 30 D → ((ps = #[] ∧ (∀ q ∈ news, q.1 < c) ∧ @LT.lt Nat _ D c) ∨ (tabObj ps = hitA c ∧ (c, oc) ∈ news)) → Q (.ref D) { s with heap := h', toks := tk' }) :
   wpAny (model PySem.Challenge.rw_tc0016_01.row.prog w) (ktrTop dp un gd cn cs L a ccd cl outer) (call (.ref 35) [.int x tx, .int n tn]) Q E s :=
  X_c_i2d.cS X_c_i2d.main (w, dp, un, gd, cn, cs, a, ccd, cl, outer, A₀, base, h₀, L, m, p, loose, mean, mg, mb, news, s, Q, E, n, X, tx, tn) x ps B F KX T hk hdp hun N hne C ok hx hn hnb hX16 ret
theorem c_i2d_hit {w : World} {dp : Nat} {un : Nat} {gd : Option (List Code)} {cn : Str} {cs : Scope} {a : Addr} {ccd : Value} {cl : List (Str × Addr)} {outer : List Env} {A₀ : Around} {base : Heap} {h₀ : Heap} {L : Addr} {m : Str → Option Value} {p : Program} {loose : List Str} {mean : ExcName → Option Value} {mg : Str → Option Value} {mb : Str → Option Value} {news : List (Addr × Obj)} {s : Shared} {Q : Value → Shared → Prop} {E : Value → Shared → Prop} {x n : Int} {X : Nat} {tx tn : Tok} {c : Addr} {oc : Obj} {cvs : Array Value} {tc : Tok} (B : Below A₀ base outer h₀) (F : Fr h₀ L s.heap m) (KX : (kk w.params).In h₀) (T : Top p loose mean mg mb h₀) (hk : cs.kind = .function) (hdp : dp + 20 < recursionLimit) (hun : un + 200 < cLine) (N : News h₀ L s.heap news) (h30 : (30, hitA c) ∈ news) (hc : (c, oc) ∈ news) (hd1 : oc.data = .fields cvs) (hv : cvs[1]? = some (.str quA tc)) (C : CodeHd base 34 30) (hx : x = X) (hn : 0 < n) (hnb : n ≤ 100) (hX16 : ndig n X ≤ 16) (hc30 : c ≠ 30) (ret : ∀ D us h' tk', Fr h₀ L h' m → News h₀ L h' ((D, listOf (List.toArray us) 0) :: news) → (∀ q ∈ news, q.1 < D) → IntsAre us (digs (2 ^ n.toNat) (ndig n X).toNat X) → Q (.ref D) { s with heap := h', toks := tk' }) :
   wpAny (model PySem.Challenge.rw_tc0016_01.row.prog w) (ktrTop dp un gd cn cs L a ccd cl outer) (call (.ref 35) [.int x tx, .int n tn]) Q E s := by
  have mf : ∀ q, q ∈ news.filter (fun q => decide (q.1 ≠ 30)) ↔ q ∈ news ∧ q.1 ≠ 30 := fun q => by simp [List.mem_filter]
  refine c_i2d (news := news.filter (fun q => decide (q.1 ≠ 30))) (ps := #[rawInt (fnPos innA).line, rawInt (fnPos innA).col, .ref c]) B F KX T hk hdp hun (news_sub N ?_) (fun q hq => ((mf q).mp hq).2) C (Or.inr ⟨c, oc, cvs, tc, rfl, (mf _).mpr ⟨hc, hc30⟩, hd1, hv⟩) hx hn hnb hX16 ?_
  · intro q hq
    rcases List.mem_cons.mp hq with rfl | hq
    · exact h30
    · exact ((mf q).mp hq).1
  · intro D us c2 oc2 vs2 t2 h' tk' F' N' e1 e2 I lt lt30 ca
    have hcc : c2 = c := by
      rcases ca with ⟨e, _⟩ | ⟨e, _⟩
      · cases e
      · have := congrArg Obj.data e
        simp only [Data.fields.injEq, Array.mk.injEq, List.cons.injEq, Value.ref.injEq, and_true, true_and] at this
        exact this.symm
    subst hcc
    refine ret D us h' tk' F' (fun q hq => ?_) (fun q hq => ?_) I
    · rcases List.mem_cons.mp hq with rfl | hq
      · exact N' _ (.head _)
      · by_cases h : q.1 = 30
        · have h1 := (N q hq).1
          have h2 := (N _ h30).1
          rw [h, h2] at h1
          have e : q = (30, hitA c2) := Prod.ext h (Option.some.inj h1).symm
          rw [e]
          exact N' _ (.tail _ (.head _))
        · exact N' q (.tail _ (.tail _ (.tail _ ((mf q).mpr ⟨hq, h⟩))))
    · by_cases h : q.1 = 30
      · rw [h]; exact lt30
      · exact lt q ((mf q).mpr ⟨hq, h⟩)
theorem TabOk.mono {i : Stmt} {qual : Str} {ps : Array Value} {news news' : List (Addr × Obj)} (h : TabOk i qual ps news) (hs : ∀ p ∈ news, p ∈ news') : TabOk i qual ps news' := by
  rcases h with h | ⟨c, oc, vs, t, h1, h2, h3⟩
  · exact .inl h
  · exact .inr ⟨c, oc, vs, t, h1, hs _ h2, h3⟩
theorem TabOk.hit {ps : Array Value} {c : Addr} {news : List (Addr × Obj)} (ok : TabOk innA quA ps news) (e : tabObj ps = hitA c) : ∃ oc, (c, oc) ∈ news := by
  rcases ok with rfl | ⟨c0, oc, vs, t, rfl, h2, _⟩
  · have := congrArg Obj.data e
    cases this
  · have := congrArg Obj.data e
    simp only [Data.fields.injEq, Array.mk.injEq, List.cons.injEq, Value.ref.injEq, and_true, true_and] at this
    exact ⟨oc, this ▸ h2⟩
theorem ndig16 {X : Nat} (h : X < 16) : ndig 1 X ≤ 4 ∧ (digs (2 ^ (1 : Int).toNat) (ndig 1 X).toNat X).length ≤ 4 := by
  have h1 : ndig 1 X ≤ 4 := by
    have := (ndig_facts (n := 1) (X := X) (by decide)).2.1
    have hb : Builtin.Int.intBits (X : Int) ≤ 4 := intBits_le_iff.mpr (by rw [Int.natAbs_natCast]; exact h)
    omega
  exact ⟨h1, by rw [digs_length]; omega⟩

end
example : True := by
  k_with "h18_0" => ((with_reducible show wpAny _ _ (call (Value.ref _) [Value.int _ _, Value.int _ _]) _ _ _); refine hold ?_)
  k_with "h18_1" => (k_here; (with_reducible show wpAny _ _ (truthy (Value.ref _)) _ _ _); k_dflt (refine' truthy_ints ?k1_0 ?k2_0 ?k3_0 ?k4_0 ?_; (case k1_0 => k_asm); (case k2_0 => k_mem); (case k3_0 => with_reducible assumption); (case k4_0 => omega); k_whole))
  k_with "h18_1" => (k_here; (with_reducible show wpAny _ _ (truthy (Value.ref _)) _ _ _); k_dflt (refine' truthy_ints ?k1_1 ?k2_1 ?k3_1 ?k4_1 ?_; (case k1_1 => k_asm); (case k2_1 => k_mem); (case k3_1 => with_reducible assumption); (case k4_1 => omega); k_whole))
  k_with "h18_1" => (k_here; (with_reducible show wpAny _ _ (truthy (Value.ref _)) _ _ _); k_dflt (refine' truthy_ints ?k1_2 ?k2_2 ?k3_2 ?k4_2 ?_; (case k1_2 => k_asm); (case k2_2 => k_mem); (case k3_2 => with_reducible assumption); (case k4_2 => omega); k_whole))
  k_with "h18_1" => (k_here; (with_reducible show wpAny _ _ (truthy (Value.ref _)) _ _ _); k_dflt (refine' truthy_ints ?k1_3 ?k2_3 ?k3_3 ?k4_3 ?_; (case k1_3 => k_asm); (case k2_3 => k_mem); (case k3_3 => with_reducible assumption); (case k4_3 => omega); k_whole))
  k_with "h18_1" => (k_here; (with_reducible show wpAny _ _ (truthy (Value.ref _)) _ _ _); k_dflt (refine' truthy_ints ?k1_4 ?k2_4 ?k3_4 ?k4_4 ?_; (case k1_4 => k_asm); (case k2_4 => k_mem); (case k3_4 => with_reducible assumption); (case k4_4 => omega); k_whole))
  k_with "h18_1" => (k_here; (with_reducible show wpAny _ _ (truthy (Value.ref _)) _ _ _); k_dflt (refine' truthy_ints ?k1_5 ?k2_5 ?k3_5 ?k4_5 ?_; (case k1_5 => k_asm); (case k2_5 => k_mem); (case k3_5 => with_reducible assumption); (case k4_5 => omega); k_whole))
  trivial
section
example : True := by
  w_top off
  trivial
local macro_rules | `(tactic| walk_at "pad 0") => `(tactic| skip)
local macro_rules | `(tactic| walk_at "pad 1") => `(tactic| skip)
-- d2i
local macro_rules | `(tactic| walk_at "call ref") => `(tactic| k_extra "h18_0")
theorem truthy_ints {prog : Program} {w : World} {A : Around} {E : Value → Shared → Prop} {s : Shared} {h₀ : Heap} {L l : Addr} {news : List (Addr × Obj)} {vs : List Value} {k nl : Nat} {Q : Bool → Shared → Prop} (N : News h₀ L s.heap news) (hm : (l, listOf vs.toArray k) ∈ news) (hs : vs.toArray.size = nl) (hf : (nl : Int) < 2 ^ 63)
    (h : Q (decide (0 < nl)) { s with toks := s.toks + 1 + 1 }) : wpAny (model prog w) A (truthy (.ref l)) Q E s :=
  wpAny_truthy_list (News.isList N hm) (by rw [hs]; exact hf) (by
    have e : (!vs.toArray.isEmpty) = decide (0 < nl) := by
      rw [← hs]
      cases vs with
      | nil => rfl
      | cons _ _ => simp
    rw [e]; exact h)
local macro_rules | `(tactic| walk_at "truthy ref") => `(tactic| k_extra "h18_1")
noncomputable abbrev hitB (c : Addr) : Obj := tabObj #[rawInt (fnPos innB).line, rawInt (fnPos innB).col, .ref c]
noncomputable abbrev quB : Str := "_digits2int.<locals>.inner"
namespace X_c_d2i
noncomputable def P0 (w : World) (dp : Nat) (un : Nat) (gd : Option (List Code)) (cn : Str) (cs : Scope) (a : Addr) (ccd : Value) (cl : List (Str × Addr)) (outer : List Env) (A₀ : Around) (base : Heap) (h₀ : Heap) (L : Addr) (m : Str → Option Value) (p : Program) (loose : List Str) (mean : ExcName → Option Value) (mg : Str → Option Value) (mb : Str → Option Value) (news : List (Addr × Obj)) (s : Shared) (Q : Value → Shared → Prop) (E : Value → Shared → Prop) (n : Int) (tn : Tok) (l : Addr) (k : Nat) (vs : List Value) (ns : List Int) : Prop := ∀ (ps : Array Value) (B : Below A₀ base outer h₀) (F : Fr h₀ L s.heap m) (KX : (kk w.params).In h₀) (T : Top p loose mean mg mb h₀) (hk : cs.kind = .function) (hdp : dp + 20 < recursionLimit) (hun : un + 200 < cLine) (N : News h₀ L s.heap ((37, tabObj ps) :: news)) (hne : ∀ q ∈ news, q.1 ≠ 37) (C : CodeHd base 41 37) (ok : TabOk innB quB ps news) (hm : (l, listOf vs.toArray k) ∈ news) (hi : IntsAre vs ns) (hn : 0 < n) (hnb : n ≤ 100) (hl16 : ns.length ≤ 16) (hbs : ∀ j, Builtin.Int.intBits (ns.getD j 0) ≤ 1000) (ret : ∀ c oc cvs tc t h' tk', Fr h₀ L h' m → News h₀ L h' ((37, hitB c) :: (c, oc) :: news) → oc.data = .fields cvs → cvs[1]? = some (.str quB tc) → ((ps = #[] ∧ ∀ q ∈ news, q.1 < c) ∨ (tabObj ps = hitB c ∧ (c, oc) ∈ news)) →
     Q (.int (d2i (2 ^ n.toNat) ns) t) { s with heap := h', toks := tk' }),
   wpAny (model PySem.Challenge.rw_tc0016_01.row.prog w) (ktrTop dp un gd cn cs L a ccd cl outer) (call (.ref 42) [.ref l, .int n tn]) Q E s
abbrev T : Type := World × Nat × Nat × (Option (List Code)) × Str × Scope × Addr × Value × (List (Str × Addr)) × (List Env) × Around × Heap × Heap × Addr × (Str → Option Value) × Program × (List Str) × (ExcName → Option Value) × (Str → Option Value) × (Str → Option Value) × (List (Addr × Obj)) × Shared × (Value → Shared → Prop) × (Value → Shared → Prop) × Int × Tok × Addr × Nat × (List Value) × (List Int)
noncomputable def P (v : T) : Prop := P0 v.1 v.2.1 v.2.2.1 v.2.2.2.1 v.2.2.2.2.1 v.2.2.2.2.2.1 v.2.2.2.2.2.2.1 v.2.2.2.2.2.2.2.1 v.2.2.2.2.2.2.2.2.1 v.2.2.2.2.2.2.2.2.2.1 v.2.2.2.2.2.2.2.2.2.2.1 v.2.2.2.2.2.2.2.2.2.2.2.1 v.2.2.2.2.2.2.2.2.2.2.2.2.1 v.2.2.2.2.2.2.2.2.2.2.2.2.2.1 v.2.2.2.2.2.2.2.2.2.2.2.2.2.2.1 v.2.2.2.2.2.2.2.2.2.2.2.2.2.2.2.1 v.2.2.2.2.2.2.2.2.2.2.2.2.2.2.2.2.1 v.2.2.2.2.2.2.2.2.2.2.2.2.2.2.2.2.2.1 v.2.2.2.2.2.2.2.2.2.2.2.2.2.2.2.2.2.2.1 v.2.2.2.2.2.2.2.2.2.2.2.2.2.2.2.2.2.2.2.1 v.2.2.2.2.2.2.2.2.2.2.2.2.2.2.2.2.2.2.2.2.1 v.2.2.2.2.2.2.2.2.2.2.2.2.2.2.2.2.2.2.2.2.2.1 v.2.2.2.2.2.2.2.2.2.2.2.2.2.2.2.2.2.2.2.2.2.2.1 v.2.2.2.2.2.2.2.2.2.2.2.2.2.2.2.2.2.2.2.2.2.2.2.1 v.2.2.2.2.2.2.2.2.2.2.2.2.2.2.2.2.2.2.2.2.2.2.2.2.1 v.2.2.2.2.2.2.2.2.2.2.2.2.2.2.2.2.2.2.2.2.2.2.2.2.2.1 v.2.2.2.2.2.2.2.2.2.2.2.2.2.2.2.2.2.2.2.2.2.2.2.2.2.2.1 v.2.2.2.2.2.2.2.2.2.2.2.2.2.2.2.2.2.2.2.2.2.2.2.2.2.2.2.1 v.2.2.2.2.2.2.2.2.2.2.2.2.2.2.2.2.2.2.2.2.2.2.2.2.2.2.2.2.1 v.2.2.2.2.2.2.2.2.2.2.2.2.2.2.2.2.2.2.2.2.2.2.2.2.2.2.2.2.2
theorem ex : ∃ c : T, P c → ∀ v, P v := ex_all ⟨((Classical.choice neW), 0, 0, none, default, default, (0 : Nat), .none, [], [], {}, {}, {}, (0 : Nat), (fun _ => none), default, [], (fun _ => none), (fun _ => none), (fun _ => none), [], {}, (fun _ _ => False), (fun _ _ => False), 0, (0 : Nat), (0 : Nat), 0, [], [])⟩
@[irreducible] noncomputable def cT : T := Classical.choose ex
theorem cS : P cT → ∀ v, P v := by
  unfold cT
  exact Classical.choose_spec ex
noncomputable abbrev news : List (Addr × Obj) := cT.2.2.2.2.2.2.2.2.2.2.2.2.2.2.2.2.2.2.2.2.1
noncomputable abbrev n : Int := cT.2.2.2.2.2.2.2.2.2.2.2.2.2.2.2.2.2.2.2.2.2.2.2.2.1
noncomputable abbrev vs : List Value := cT.2.2.2.2.2.2.2.2.2.2.2.2.2.2.2.2.2.2.2.2.2.2.2.2.2.2.2.2.1
noncomputable abbrev ns : List Int := cT.2.2.2.2.2.2.2.2.2.2.2.2.2.2.2.2.2.2.2.2.2.2.2.2.2.2.2.2.2
set_option maxRecDepth 100000 in
set_option maxHeartbeats 0 in
theorem main : P0 cT.1 cT.2.1 cT.2.2.1 cT.2.2.2.1 cT.2.2.2.2.1 cT.2.2.2.2.2.1 cT.2.2.2.2.2.2.1 cT.2.2.2.2.2.2.2.1 cT.2.2.2.2.2.2.2.2.1 cT.2.2.2.2.2.2.2.2.2.1 cT.2.2.2.2.2.2.2.2.2.2.1 cT.2.2.2.2.2.2.2.2.2.2.2.1 cT.2.2.2.2.2.2.2.2.2.2.2.2.1 cT.2.2.2.2.2.2.2.2.2.2.2.2.2.1 cT.2.2.2.2.2.2.2.2.2.2.2.2.2.2.1 cT.2.2.2.2.2.2.2.2.2.2.2.2.2.2.2.1 cT.2.2.2.2.2.2.2.2.2.2.2.2.2.2.2.2.1 cT.2.2.2.2.2.2.2.2.2.2.2.2.2.2.2.2.2.1 cT.2.2.2.2.2.2.2.2.2.2.2.2.2.2.2.2.2.2.1 cT.2.2.2.2.2.2.2.2.2.2.2.2.2.2.2.2.2.2.2.1 news cT.2.2.2.2.2.2.2.2.2.2.2.2.2.2.2.2.2.2.2.2.2.1 cT.2.2.2.2.2.2.2.2.2.2.2.2.2.2.2.2.2.2.2.2.2.2.1 cT.2.2.2.2.2.2.2.2.2.2.2.2.2.2.2.2.2.2.2.2.2.2.2.1 n cT.2.2.2.2.2.2.2.2.2.2.2.2.2.2.2.2.2.2.2.2.2.2.2.2.2.1 cT.2.2.2.2.2.2.2.2.2.2.2.2.2.2.2.2.2.2.2.2.2.2.2.2.2.2.1 cT.2.2.2.2.2.2.2.2.2.2.2.2.2.2.2.2.2.2.2.2.2.2.2.2.2.2.2.1 vs ns := by
  unfold P0
  intro ps B F KX T hk hdp hun N hne C ok hm hi hn hnb hl16 hbs ret
  obtain ⟨nl, hsz'⟩ : ∃ nl, ns.length = nl := ⟨_, rfl⟩
  have hsz : vs.toArray.size = nl := by rw [← hsz']; simp [hi.length]
  rcases ok with rfl | ⟨c, oc, cvs, tc, rfl, hmc, hd1, hv⟩
  · walk_at "my enter"
    k_steps
    · refine Hold.out ?_
      k_dflt (refine' c_innB hn hnb 16 ?ak1 ?ak2 ?ak3 ?ak5 ?akK ?akC ?akd ?aku ?akN ?akD ?akB ?akf ?akc ?akcd ?akcv ?akn ?aknd ?aki ?akid ?aka ?akad ?aki0 ?ak0 ?aklt ?akle ?akle2 ?aksz ?_; (case ak1 => k_asm); (case ak2 => k_asm); (case ak3 => k_asm); (case ak5 => k_asm); (case akK => exact rfl); (case akC => assumption); (case akd => ktr_room); (case aku => ktr_units); (case akN => k_asm); (case akf => k_mem); (case akc => k_mem); (case akcd => assumption); (case akcv => assumption); (case akn => k_mem); (case aknd => k_asm); (case aki => k_mem); (case akid => k_asm); (case aka => k_mem); (case akad => k_asm); (case akD => k_mem); (case akB => exact hbs); (case aki0 => exact hi))
      · exact Int.le_refl _
      · omega
      · omega
      · omega
      · omega
      intro t1 h1 tk1 F1 N1
      rw [d2iAt_all hsz']
      k_steps
      rename (_ ∧ _ ∧ _ ∧ _ ∧ AllLt _ news) => lC
      refine ret _ _ _ _ _ _ _ (by k_asm) (news_sub (by k_asm) (List.forall_mem_cons.mpr ⟨by k_dflt k_mem, List.forall_mem_cons.mpr ⟨by k_mem, ?_⟩⟩)) (by assumption) (by assumption) (Or.inl ⟨rfl, ktn_ltOf lC.2.2.2.2⟩)
      intro q hq
      simp only [List.mem_cons, hq, or_true]
    · rw [d2i_none (b := 2 ^ n.toNat) (show ns.length = 0 by omega)]
      rename (_ ∧ _ ∧ _ ∧ _ ∧ AllLt _ news) => lC
      refine ret _ _ _ _ _ _ _ (by k_asm) (news_sub (by k_asm) (List.forall_mem_cons.mpr ⟨by k_dflt k_mem, List.forall_mem_cons.mpr ⟨by k_mem, ?_⟩⟩)) (by assumption) (by assumption) (Or.inl ⟨rfl, ktn_ltOf lC.2.2.2.2⟩)
      intro q hq
      simp only [List.mem_cons, hq, or_true]
  · walk_at "my enter"
    k_steps
    · refine Hold.out ?_
      k_dflt (refine' c_innB hn hnb 16 ?bk1 ?bk2 ?bk3 ?bk5 ?bkK ?bkC ?bkd ?bku ?bkN ?bkD ?bkB ?bkf ?bkc ?bkcd ?bkcv ?bkn ?bknd ?bki ?bkid ?bka ?bkad ?bki0 ?bk0 ?bklt ?bkle ?bkle2 ?bksz ?_; (case bk1 => k_asm); (case bk2 => k_asm); (case bk3 => k_asm); (case bk5 => k_asm); (case bkK => exact rfl); (case bkC => assumption); (case bkd => ktr_room); (case bku => ktr_units); (case bkN => k_asm); (case bkf => k_mem); (case bkc => k_mem); (case bkcd => assumption); (case bkcv => assumption); (case bkn => k_mem); (case bknd => k_asm); (case bki => k_mem); (case bkid => k_asm); (case bka => k_mem); (case bkad => k_asm); (case bkD => k_mem); (case bkB => exact hbs); (case bki0 => exact hi))
      · exact Int.le_refl _
      · omega
      · omega
      · omega
      · omega
      intro t1 h1 tk1 F1 N1
      rw [d2iAt_all hsz']
      k_steps
      refine ret c oc cvs tc _ _ _ (by k_asm) (news_sub (by k_asm) (List.forall_mem_cons.mpr ⟨by k_dflt k_mem, List.forall_mem_cons.mpr ⟨by k_mem, ?_⟩⟩)) hd1 hv (Or.inr ⟨rfl, hmc⟩)
      intro q hq
      simp only [List.mem_cons, hq, or_true]
    · rw [d2i_none (b := 2 ^ n.toNat) (show ns.length = 0 by omega)]
      refine ret c oc cvs tc _ _ _ (by k_asm) (news_sub (by k_asm) (List.forall_mem_cons.mpr ⟨by k_dflt k_mem, List.forall_mem_cons.mpr ⟨by k_mem, ?_⟩⟩)) hd1 hv (Or.inr ⟨rfl, hmc⟩)
      intro q hq
      simp only [List.mem_cons, hq, or_true]
end X_c_d2i
theorem c_d2i {w : World} {dp : Nat} {un : Nat} {gd : Option (List Code)} {cn : Str} {cs : Scope} {a : Addr} {ccd : Value} {cl : List (Str × Addr)} {outer : List Env} {A₀ : Around} {base : Heap} {h₀ : Heap} {L : Addr} {m : Str → Option Value} {p : Program} {loose : List Str} {mean : ExcName → Option Value} {mg : Str → Option Value} {mb : Str → Option Value} {news : List (Addr × Obj)} {s : Shared} {Q : Value → Shared → Prop} {E : Value → Shared → Prop} {n : Int} {tn : Tok} {l : Addr} {k : Nat} {vs : List Value} {ns : List Int} {ps : Array Value} (B : Below A₀ base outer h₀) (F : Fr h₀ L s.heap m) (KX : (kk w.params).In h₀) (T : Top p loose mean mg mb h₀) (hk : cs.kind = .function) (hdp : dp + 20 < recursionLimit) (hun : un + 200 < cLine) (N : News h₀ L s.heap ((37, tabObj ps) :: news)) (hne : ∀ q ∈ news, q.1 ≠ 37) (C : CodeHd base 41 37) (ok : TabOk innB quB ps news) (hm : (l, listOf vs.toArray k) ∈ news) (hi : IntsAre vs ns) (hn : 0 < n) (hnb : n ≤ 100) (hl16 : ns.length ≤ 16) (hbs : ∀ j, Builtin.Int.intBits (ns.getD j 0) ≤ 1000) (ret : ∀ c oc cvs tc t h' tk', Fr h₀ L h' m → News h₀ L h' ((37, hitB c) :: (c, oc) :: news) → oc.data = .fields cvs → cvs[1]? = some (.str quB tc) → ((ps = #[] ∧ ∀ q ∈ news, q.1 < c) ∨ (tabObj ps = hitB c ∧ (c, oc) ∈ news)) →
     Q (.int (d2i (2 ^ n.toNat) ns) t) { s with heap := h', toks := tk' }) :
   wpAny (model PySem.Challenge.rw_tc0016_01.row.prog w) (ktrTop dp un gd cn cs L a ccd cl outer) (call (.ref 42) [.ref l, .int n tn]) Q E s :=
  X_c_d2i.cS X_c_d2i.main (w, dp, un, gd, cn, cs, a, ccd, cl, outer, A₀, base, h₀, L, m, p, loose, mean, mg, mb, news, s, Q, E, n, tn, l, k, vs, ns) ps B F KX T hk hdp hun N hne C ok hm hi hn hnb hl16 hbs ret
theorem c_d2i_hit {w : World} {dp : Nat} {un : Nat} {gd : Option (List Code)} {cn : Str} {cs : Scope} {a : Addr} {ccd : Value} {cl : List (Str × Addr)} {outer : List Env} {A₀ : Around} {base : Heap} {h₀ : Heap} {L : Addr} {m : Str → Option Value} {p : Program} {loose : List Str} {mean : ExcName → Option Value} {mg : Str → Option Value} {mb : Str → Option Value} {news : List (Addr × Obj)} {s : Shared} {Q : Value → Shared → Prop} {E : Value → Shared → Prop} {n : Int} {tn : Tok} {l : Addr} {k : Nat} {vs : List Value} {ns : List Int} {c : Addr} {oc : Obj} {cvs : Array Value} {tc : Tok} (B : Below A₀ base outer h₀) (F : Fr h₀ L s.heap m) (KX : (kk w.params).In h₀) (T : Top p loose mean mg mb h₀) (hk : cs.kind = .function) (hdp : dp + 20 < recursionLimit) (hun : un + 200 < cLine) (N : News h₀ L s.heap news) (h37 : (37, hitB c) ∈ news) (hc : (c, oc) ∈ news) (hd1 : oc.data = .fields cvs) (hv : cvs[1]? = some (.str quB tc)) (C : CodeHd base 41 37) (hm : (l, listOf vs.toArray k) ∈ news) (hi : IntsAre vs ns) (hn : 0 < n) (hnb : n ≤ 100) (hl16 : ns.length ≤ 16) (hbs : ∀ j, Builtin.Int.intBits (ns.getD j 0) ≤ 1000) (hc37 : c ≠ 37) (hl37 : l ≠ 37) (ret : ∀ t h' tk', Fr h₀ L h' m → News h₀ L h' news → Q (.int (d2i (2 ^ n.toNat) ns) t) { s with heap := h', toks := tk' }) :
   wpAny (model PySem.Challenge.rw_tc0016_01.row.prog w) (ktrTop dp un gd cn cs L a ccd cl outer) (call (.ref 42) [.ref l, .int n tn]) Q E s := by
  have mf : ∀ q, q ∈ news.filter (fun q => decide (q.1 ≠ 37)) ↔ q ∈ news ∧ q.1 ≠ 37 := fun q => by simp [List.mem_filter]
  refine c_d2i (news := news.filter (fun q => decide (q.1 ≠ 37))) (ps := #[rawInt (fnPos innB).line, rawInt (fnPos innB).col, .ref c]) B F KX T hk hdp hun (news_sub N ?_) (fun q hq => ((mf q).mp hq).2) C (Or.inr ⟨c, oc, cvs, tc, rfl, (mf _).mpr ⟨hc, hc37⟩, hd1, hv⟩) ((mf _).mpr ⟨hm, hl37⟩) hi hn hnb hl16 hbs ?_
  · intro q hq
    rcases List.mem_cons.mp hq with rfl | hq
    · exact h37
    · exact ((mf q).mp hq).1
  · intro c2 oc2 vs2 t2 t h' tk' F' N' e1 e2 ca
    have hcc : c2 = c := by
      rcases ca with ⟨e, _⟩ | ⟨e, _⟩
      · cases e
      · have := congrArg Obj.data e
        simp only [Data.fields.injEq, Array.mk.injEq, List.cons.injEq, Value.ref.injEq, and_true, true_and] at this
        exact this.symm
    subst hcc
    refine ret t h' tk' F' (fun q hq => ?_)
    by_cases h : q.1 = 37
    · have h1 := (N q hq).1
      have h2 := (N _ h37).1
      rw [h, h2] at h1
      have e : q = (37, hitB c2) := Prod.ext h (Option.some.inj h1).symm
      rw [e]
      exact N' _ (.head _)
    · exact N' q (.tail _ (.tail _ ((mf q).mpr ⟨hq, h⟩)))

end
example : True := by
  k_with "h19_0" => ((with_reducible show wpAny _ _ (pyIter (Value.ref _)) (fun it s₂ => LoopAtV _ _ _ _ _ _ _ _ _ it s₂) _ _); refine hold ?_)
  k_with "h19_1" => ((first | (with_reducible show wpAny _ _ (call (Value.ref 35) _) _ _ _) | (with_reducible show wpAny _ _ (call (Value.ref 42) _) _ _ _)); refine hold ?_)
  k_with "h19_2" => (k_here; (with_reducible refine lshift_int ?kb1_0 ?kb2_0 ?_); (case kb1_0 => omega); (case kb2_0 => assumption))
  k_with "h19_2" => (k_here; (with_reducible refine lshift_int ?kb1_1 ?kb2_1 ?_); (case kb1_1 => omega); (case kb2_1 => assumption))
  k_with "h19_2" => (k_here; (with_reducible refine lshift_int ?kb1_2 ?kb2_2 ?_); (case kb1_2 => omega); (case kb2_2 => assumption))
  k_with "h19_2" => (k_here; (with_reducible refine lshift_int ?kb1_3 ?kb2_3 ?_); (case kb1_3 => omega); (case kb2_3 => assumption))
  k_with "h19_2" => (k_here; (with_reducible refine lshift_int ?kb1_4 ?kb2_4 ?_); (case kb1_4 => omega); (case kb2_4 => assumption))
  k_with "h19_2" => (k_here; (with_reducible refine lshift_int ?kb1_5 ?kb2_5 ?_); (case kb1_5 => omega); (case kb2_5 => assumption))
  k_with "h19_3" => (k_here; (with_reducible show wpAny _ _ (call (Value.builtin _) [Value.int _ _, Value.int _ _]) _ _ _); k_dflt (refine' divmod_F ?k1_0 ?k2_0 ?k3_0 ?k4_0 ?_; (case k1_0 | k2_0 => k_asm); (case k3_0 => omega); (case k4_0 => assumption); k_whole); intro D_0' t1_0' t2_0' h_0' tk_0' F_0' N_0' l1_0; (try k_lt l1_0); (try k_sweep))
  k_with "h19_3" => (k_here; (with_reducible show wpAny _ _ (call (Value.builtin _) [Value.int _ _, Value.int _ _]) _ _ _); k_dflt (refine' divmod_F ?k1_1 ?k2_1 ?k3_1 ?k4_1 ?_; (case k1_1 | k2_1 => k_asm); (case k3_1 => omega); (case k4_1 => assumption); k_whole); intro D_1' t1_1' t2_1' h_1' tk_1' F_1' N_1' l1_1; (try k_lt l1_1); (try k_sweep))
  k_with "h19_3" => (k_here; (with_reducible show wpAny _ _ (call (Value.builtin _) [Value.int _ _, Value.int _ _]) _ _ _); k_dflt (refine' divmod_F ?k1_2 ?k2_2 ?k3_2 ?k4_2 ?_; (case k1_2 | k2_2 => k_asm); (case k3_2 => omega); (case k4_2 => assumption); k_whole); intro D_2' t1_2' t2_2' h_2' tk_2' F_2' N_2' l1_2; (try k_lt l1_2); (try k_sweep))
  k_with "h19_3" => (k_here; (with_reducible show wpAny _ _ (call (Value.builtin _) [Value.int _ _, Value.int _ _]) _ _ _); k_dflt (refine' divmod_F ?k1_3 ?k2_3 ?k3_3 ?k4_3 ?_; (case k1_3 | k2_3 => k_asm); (case k3_3 => omega); (case k4_3 => assumption); k_whole); intro D_3' t1_3' t2_3' h_3' tk_3' F_3' N_3' l1_3; (try k_lt l1_3); (try k_sweep))
  k_with "h19_3" => (k_here; (with_reducible show wpAny _ _ (call (Value.builtin _) [Value.int _ _, Value.int _ _]) _ _ _); k_dflt (refine' divmod_F ?k1_4 ?k2_4 ?k3_4 ?k4_4 ?_; (case k1_4 | k2_4 => k_asm); (case k3_4 => omega); (case k4_4 => assumption); k_whole); intro D_4' t1_4' t2_4' h_4' tk_4' F_4' N_4' l1_4; (try k_lt l1_4); (try k_sweep))
  k_with "h19_3" => (k_here; (with_reducible show wpAny _ _ (call (Value.builtin _) [Value.int _ _, Value.int _ _]) _ _ _); k_dflt (refine' divmod_F ?k1_5 ?k2_5 ?k3_5 ?k4_5 ?_; (case k1_5 | k2_5 => k_asm); (case k3_5 => omega); (case k4_5 => assumption); k_whole); intro D_5' t1_5' t2_5' h_5' tk_5' F_5' N_5' l1_5; (try k_lt l1_5); (try k_sweep))
  k_with "h19_4" => (k_here; k_dflt (refine' kl_reverse ?F_0 ?N_0 (rfl) ?U_0 ?z_0 ?_; (case F_0 | N_0 => k_asm); (case U_0 => k_upd); (case z_0 => (rw [sizeLine_eq]; exact Nat.le_trans (by assumption : List.length _ ≤ 16) (by decide))); k_whole); intro h_0' F_0' N_0'; (try k_sweep))
  k_with "h19_4" => (k_here; k_dflt (refine' kl_reverse ?F_1 ?N_1 (rfl) ?U_1 ?z_1 ?_; (case F_1 | N_1 => k_asm); (case U_1 => k_upd); (case z_1 => (rw [sizeLine_eq]; exact Nat.le_trans (by assumption : List.length _ ≤ 16) (by decide))); k_whole); intro h_1' F_1' N_1'; (try k_sweep))
  k_with "h19_4" => (k_here; k_dflt (refine' kl_reverse ?F_2 ?N_2 (rfl) ?U_2 ?z_2 ?_; (case F_2 | N_2 => k_asm); (case U_2 => k_upd); (case z_2 => (rw [sizeLine_eq]; exact Nat.le_trans (by assumption : List.length _ ≤ 16) (by decide))); k_whole); intro h_2' F_2' N_2'; (try k_sweep))
  k_with "h19_4" => (k_here; k_dflt (refine' kl_reverse ?F_3 ?N_3 (rfl) ?U_3 ?z_3 ?_; (case F_3 | N_3 => k_asm); (case U_3 => k_upd); (case z_3 => (rw [sizeLine_eq]; exact Nat.le_trans (by assumption : List.length _ ≤ 16) (by decide))); k_whole); intro h_3' F_3' N_3'; (try k_sweep))
  k_with "h19_4" => (k_here; k_dflt (refine' kl_reverse ?F_4 ?N_4 (rfl) ?U_4 ?z_4 ?_; (case F_4 | N_4 => k_asm); (case U_4 => k_upd); (case z_4 => (rw [sizeLine_eq]; exact Nat.le_trans (by assumption : List.length _ ≤ 16) (by decide))); k_whole); intro h_4' F_4' N_4'; (try k_sweep))
  k_with "h19_4" => (k_here; k_dflt (refine' kl_reverse ?F_5 ?N_5 (rfl) ?U_5 ?z_5 ?_; (case F_5 | N_5 => k_asm); (case U_5 => k_upd); (case z_5 => (rw [sizeLine_eq]; exact Nat.le_trans (by assumption : List.length _ ≤ 16) (by decide))); k_whole); intro h_5' F_5' N_5'; (try k_sweep))
  trivial
section
example : True := by
  w_top off
  trivial
local macro_rules | `(tactic| walk_at "pad 0") => `(tactic| skip)
local macro_rules | `(tactic| walk_at "pad 1") => `(tactic| skip)
local macro_rules | `(tactic| walk_at "pad 2") => `(tactic| skip)
local macro_rules | `(tactic| walk_at "pad 3") => `(tactic| skip)
local macro_rules | `(tactic| walk_at "pad 4") => `(tactic| skip)
-- dmp
local macro_rules | `(tactic| walk_at "pyIter ref") => `(tactic| k_extra "h19_0")
local macro_rules | `(tactic| walk_at "call ref") => `(tactic| k_extra "h19_1")
local macro_rules | `(tactic| walk_at "binaryOp LShift int int") => `(tactic| k_extra "h19_2")
theorem divmod_F {prog : Program} {w : World} {A : Around} {E : Value → Shared → Prop} {s : Shared} {h₀ : Heap} {L : Addr} {m : Str → Option Value} {news : List (Addr × Obj)} {x b : Int} {t u : Tok} {Q : Value → Shared → Prop} (F : Fr h₀ L s.heap m) (N : News h₀ L s.heap news) (hb : b ≠ 0) (hlg : b.natAbs.log2 < 9000)
    (h : ∀ D t1 t2 h' tk', Fr h₀ L h' m → News h₀ L h' ((D, { cls := .type "tuple", data := .seq #[.int (x.fdiv b) t1, .int (x.fmod b) t2] }) :: news) → (∀ p ∈ news, p.1 < D) → Q (.ref D) { s with heap := h', toks := tk' }) :
    wpAny (model prog w) A (call (.builtin "divmod") [.int x t, .int b u]) Q E s :=
  divmod_N F N hb (fun h' F' N' => h _ _ _ h' _ F' N' fun p hp => Heap.lt_size (N p hp).1) (Or.inl (PyProof.noPylong_of_log2 hlg))
local macro_rules | `(tactic| walk_at "call builtin:divmod") => `(tactic| k_extra "h19_3")
local macro_rules | `(tactic| walk_at "call builtin:list.reverse") => `(tactic| k_extra "h19_4")
namespace X_c_dmp
noncomputable def P0 (w : World) (dp : Nat) (un : Nat) (gd : Option (List Code)) (cn : Str) (cs : Scope) (a : Addr) (ccd : Value) (cl : List (Str × Addr)) (outer : List Env) (A₀ : Around) (base : Heap) (h₀ : Heap) (L : Addr) (m : Str → Option Value) (p : Program) (loose : List Str) (mean : ExcName → Option Value) (mg : Str → Option Value) (mb : Str → Option Value) (news : List (Addr × Obj)) (s : Shared) (Q : Value → Shared → Prop) (E : Value → Shared → Prop) (x : Int) (b : Int) (X : Nat) (tx : Tok) (tb : Tok) (c1 : Addr) (c2 : Addr) (oc1 : Obj) (oc2 : Obj) (cv1 : Array Value) (cv2 : Array Value) (tc1 : Tok) (tc2 : Tok) : Prop := ∀  (B : Below A₀ base outer h₀) (F : Fr h₀ L s.heap m) (KX : (kk w.params).In h₀) (T : Top p loose mean mg mb h₀) (hk : cs.kind = .function) (hdp : dp + 24 < recursionLimit) (hun : un + 240 < cLine) (N : News h₀ L s.heap news) (h30 : (30, hitA c1) ∈ news) (hc1 : (c1, oc1) ∈ news) (hd1 : oc1.data = .fields cv1) (hv1 : cv1[1]? = some (.str quA tc1)) (C1 : CodeHd base 34 30) (hc30 : c1 ≠ 30) (h37 : (37, hitB c2) ∈ news) (hc2 : (c2, oc2) ∈ news) (hd2 : oc2.data = .fields cv2) (hv2 : cv2[1]? = some (.str quB tc2)) (C2 : CodeHd base 41 37) (hc37 : c2 ≠ 37) (hx : x = X) (hb : 0 < b) (hbb : Builtin.Int.intBits b ≤ 100) (hX16 : ndig (Builtin.Int.intBits b : Int) X ≤ 16) (ret : ∀ D t1 t2 h' tk', Fr h₀ L h' m → News h₀ L h' ((D, ({ cls := .type "tuple", data := .seq #[.int (x.fdiv b) t1, .int (x.fmod b) t2] } : Obj)) :: news) → (∀ q ∈ news, q.1 < D) → Q (.ref D) { s with heap := h', toks := tk' }),
   wpAny (model PySem.Challenge.rw_tc0016_01.row.prog w) (ktrTop dp un gd cn cs L a ccd cl outer) (call (.ref 49) [.int x tx, .int b tb]) Q E s
abbrev T : Type := World × Nat × Nat × (Option (List Code)) × Str × Scope × Addr × Value × (List (Str × Addr)) × (List Env) × Around × Heap × Heap × Addr × (Str → Option Value) × Program × (List Str) × (ExcName → Option Value) × (Str → Option Value) × (Str → Option Value) × (List (Addr × Obj)) × Shared × (Value → Shared → Prop) × (Value → Shared → Prop) × Int × Int × Nat × Tok × Tok × Addr × Addr × Obj × Obj × (Array Value) × (Array Value) × Tok × Tok
noncomputable def P (v : T) : Prop := P0 v.1 v.2.1 v.2.2.1 v.2.2.2.1 v.2.2.2.2.1 v.2.2.2.2.2.1 v.2.2.2.2.2.2.1 v.2.2.2.2.2.2.2.1 v.2.2.2.2.2.2.2.2.1 v.2.2.2.2.2.2.2.2.2.1 v.2.2.2.2.2.2.2.2.2.2.1 v.2.2.2.2.2.2.2.2.2.2.2.1 v.2.2.2.2.2.2.2.2.2.2.2.2.1 v.2.2.2.2.2.2.2.2.2.2.2.2.2.1 v.2.2.2.2.2.2.2.2.2.2.2.2.2.2.1 v.2.2.2.2.2.2.2.2.2.2.2.2.2.2.2.1 v.2.2.2.2.2.2.2.2.2.2.2.2.2.2.2.2.1 v.2.2.2.2.2.2.2.2.2.2.2.2.2.2.2.2.2.1 v.2.2.2.2.2.2.2.2.2.2.2.2.2.2.2.2.2.2.1 v.2.2.2.2.2.2.2.2.2.2.2.2.2.2.2.2.2.2.2.1 v.2.2.2.2.2.2.2.2.2.2.2.2.2.2.2.2.2.2.2.2.1 v.2.2.2.2.2.2.2.2.2.2.2.2.2.2.2.2.2.2.2.2.2.1 v.2.2.2.2.2.2.2.2.2.2.2.2.2.2.2.2.2.2.2.2.2.2.1 v.2.2.2.2.2.2.2.2.2.2.2.2.2.2.2.2.2.2.2.2.2.2.2.1 v.2.2.2.2.2.2.2.2.2.2.2.2.2.2.2.2.2.2.2.2.2.2.2.2.1 v.2.2.2.2.2.2.2.2.2.2.2.2.2.2.2.2.2.2.2.2.2.2.2.2.2.1 v.2.2.2.2.2.2.2.2.2.2.2.2.2.2.2.2.2.2.2.2.2.2.2.2.2.2.1 v.2.2.2.2.2.2.2.2.2.2.2.2.2.2.2.2.2.2.2.2.2.2.2.2.2.2.2.1 v.2.2.2.2.2.2.2.2.2.2.2.2.2.2.2.2.2.2.2.2.2.2.2.2.2.2.2.2.1 v.2.2.2.2.2.2.2.2.2.2.2.2.2.2.2.2.2.2.2.2.2.2.2.2.2.2.2.2.2.1 v.2.2.2.2.2.2.2.2.2.2.2.2.2.2.2.2.2.2.2.2.2.2.2.2.2.2.2.2.2.2.1 v.2.2.2.2.2.2.2.2.2.2.2.2.2.2.2.2.2.2.2.2.2.2.2.2.2.2.2.2.2.2.2.1 v.2.2.2.2.2.2.2.2.2.2.2.2.2.2.2.2.2.2.2.2.2.2.2.2.2.2.2.2.2.2.2.2.1 v.2.2.2.2.2.2.2.2.2.2.2.2.2.2.2.2.2.2.2.2.2.2.2.2.2.2.2.2.2.2.2.2.2.1 v.2.2.2.2.2.2.2.2.2.2.2.2.2.2.2.2.2.2.2.2.2.2.2.2.2.2.2.2.2.2.2.2.2.2.1 v.2.2.2.2.2.2.2.2.2.2.2.2.2.2.2.2.2.2.2.2.2.2.2.2.2.2.2.2.2.2.2.2.2.2.2.1 v.2.2.2.2.2.2.2.2.2.2.2.2.2.2.2.2.2.2.2.2.2.2.2.2.2.2.2.2.2.2.2.2.2.2.2.2
theorem ex : ∃ c : T, P c → ∀ v, P v := ex_all ⟨((Classical.choice neW), 0, 0, none, default, default, (0 : Nat), .none, [], [], {}, {}, {}, (0 : Nat), (fun _ => none), default, [], (fun _ => none), (fun _ => none), (fun _ => none), [], {}, (fun _ _ => False), (fun _ _ => False), 0, 0, 0, (0 : Nat), (0 : Nat), (0 : Nat), (0 : Nat), default, default, #[], #[], (0 : Nat), (0 : Nat))⟩
@[irreducible] noncomputable def cT : T := Classical.choose ex
theorem cS : P cT → ∀ v, P v := by
  unfold cT
  exact Classical.choose_spec ex
noncomputable abbrev a : Addr := cT.2.2.2.2.2.2.1
noncomputable abbrev p : Program := cT.2.2.2.2.2.2.2.2.2.2.2.2.2.2.2.1
noncomputable abbrev news : List (Addr × Obj) := cT.2.2.2.2.2.2.2.2.2.2.2.2.2.2.2.2.2.2.2.2.1
noncomputable abbrev x : Int := cT.2.2.2.2.2.2.2.2.2.2.2.2.2.2.2.2.2.2.2.2.2.2.2.2.1
noncomputable abbrev b : Int := cT.2.2.2.2.2.2.2.2.2.2.2.2.2.2.2.2.2.2.2.2.2.2.2.2.2.1
noncomputable abbrev X : Nat := cT.2.2.2.2.2.2.2.2.2.2.2.2.2.2.2.2.2.2.2.2.2.2.2.2.2.2.1
set_option maxRecDepth 100000 in
set_option maxHeartbeats 0 in
theorem main : P0 cT.1 cT.2.1 cT.2.2.1 cT.2.2.2.1 cT.2.2.2.2.1 cT.2.2.2.2.2.1 a cT.2.2.2.2.2.2.2.1 cT.2.2.2.2.2.2.2.2.1 cT.2.2.2.2.2.2.2.2.2.1 cT.2.2.2.2.2.2.2.2.2.2.1 cT.2.2.2.2.2.2.2.2.2.2.2.1 cT.2.2.2.2.2.2.2.2.2.2.2.2.1 cT.2.2.2.2.2.2.2.2.2.2.2.2.2.1 cT.2.2.2.2.2.2.2.2.2.2.2.2.2.2.1 p cT.2.2.2.2.2.2.2.2.2.2.2.2.2.2.2.2.1 cT.2.2.2.2.2.2.2.2.2.2.2.2.2.2.2.2.2.1 cT.2.2.2.2.2.2.2.2.2.2.2.2.2.2.2.2.2.2.1 cT.2.2.2.2.2.2.2.2.2.2.2.2.2.2.2.2.2.2.2.1 news cT.2.2.2.2.2.2.2.2.2.2.2.2.2.2.2.2.2.2.2.2.2.1 cT.2.2.2.2.2.2.2.2.2.2.2.2.2.2.2.2.2.2.2.2.2.2.1 cT.2.2.2.2.2.2.2.2.2.2.2.2.2.2.2.2.2.2.2.2.2.2.2.1 x b X cT.2.2.2.2.2.2.2.2.2.2.2.2.2.2.2.2.2.2.2.2.2.2.2.2.2.2.2.1 cT.2.2.2.2.2.2.2.2.2.2.2.2.2.2.2.2.2.2.2.2.2.2.2.2.2.2.2.2.1 cT.2.2.2.2.2.2.2.2.2.2.2.2.2.2.2.2.2.2.2.2.2.2.2.2.2.2.2.2.2.1 cT.2.2.2.2.2.2.2.2.2.2.2.2.2.2.2.2.2.2.2.2.2.2.2.2.2.2.2.2.2.2.1 cT.2.2.2.2.2.2.2.2.2.2.2.2.2.2.2.2.2.2.2.2.2.2.2.2.2.2.2.2.2.2.2.1 cT.2.2.2.2.2.2.2.2.2.2.2.2.2.2.2.2.2.2.2.2.2.2.2.2.2.2.2.2.2.2.2.2.1 cT.2.2.2.2.2.2.2.2.2.2.2.2.2.2.2.2.2.2.2.2.2.2.2.2.2.2.2.2.2.2.2.2.2.1 cT.2.2.2.2.2.2.2.2.2.2.2.2.2.2.2.2.2.2.2.2.2.2.2.2.2.2.2.2.2.2.2.2.2.2.1 cT.2.2.2.2.2.2.2.2.2.2.2.2.2.2.2.2.2.2.2.2.2.2.2.2.2.2.2.2.2.2.2.2.2.2.2.1 cT.2.2.2.2.2.2.2.2.2.2.2.2.2.2.2.2.2.2.2.2.2.2.2.2.2.2.2.2.2.2.2.2.2.2.2.2 := by
  unfold P0
  intro  B F KX T hk hdp hun N h30 hc1 hd1 hv1 C1 hc30 h37 hc2 hd2 hv2 C2 hc37 hx hb hbb hX16 ret
  have hbp := bits_pos hb
  have hlg : b.natAbs.log2 < 9000 := by
    refine (Nat.log2_lt (by omega)).mpr (Nat.lt_of_lt_of_le (intBits_le_iff.mp hbb) (Nat.pow_le_pow_right (by decide) (by decide)))
  have hbb' : (Builtin.Int.intBits b : Int) ≤ 100 := by omega
  walk_at "my enter"
  k_steps
  refine Hold.out ?_
  k_dflt (refine' c_i2d_hit (X := X) ?k1 ?k2 ?k3 ?k5 ?kK ?kd ?ku ?kN ?k30 ?kc ?kcd ?kcv ?kC hx hbp hbb' hX16 hc30 ?_; (case k1 => k_asm); (case k2 => k_asm); (case k3 => k_asm); (case k5 => k_asm); (case kK => exact rfl); (case kd => ktr_room); (case ku => ktr_units); (case kN => k_asm); (case k30 => exact h30); (case kc => exact hc1); (case kcd => exact hd1); (case kcv => exact hv1); (case kC => exact C1))
  intro D us h1 tk1 F1 N1 l1 I1
  k_steps
  refine Hold.out ?_
  rename Fr _ _ _ _ => lF
  rename News _ _ _ _ => lN
  rename (_ ∧ _ ∧ AllLt _ news) => lA
  rename (_ ∧ AllLt _ news) => lB
  have hlen : (digs (2 ^ ((Builtin.Int.intBits b : Int)).toNat) (ndig (Builtin.Int.intBits b : Int) X).toNat X).length ≤ 16 := by rw [digs_length]; omega
  refine for_rev (σ := List Int × Int) (ε := List Value × Nat × Tok) (fun a e => IntsAre e.1 a.1) (fun a e => [("r", .int a.2 e.2.2)]) (fun _ e => (_, listOf (List.toArray e.1) e.2.1) :: (D, listOf (List.toArray us) 0) :: news) ["a_digit", "q_digit"] (dmStep (Builtin.Int.intBits b : Int) b) ([], 0) ([], 0, _) (by rfl) (.tail _ (.head _)) I1 lF lN .nil (List.forall_mem_cons.mpr ⟨rfl, List.forall_mem_nil _⟩) (fun _ _ _ => List.forall_mem_cons.mpr ⟨Nat.ne_of_lt lA.1, List.forall_mem_cons.mpr ⟨Nat.ne_of_lt lA.2.1, all_neA lA.2.2 (Nat.le_refl _)⟩⟩) (fun _ _ _ => .tail _ (.head _)) ?turn ?done
  · clear lF lN
    intro k t a e u it h tk pre hk hpre ha hP F1 N1
    obtain ⟨qs, cap, tr⟩ := e
    have hr : 0 ≤ a.2 ∧ a.2 < b := by rw [ha]; exact dm_rest hb _ _ (Int.le_refl _) hb
    have hkd := digs_mem (Nat.pow_pos (by decide)) hk
    have ht := dm_t (n := (Builtin.Int.intBits b : Int)) (by omega) hbb hr.1 hr.2 hkd.1 hkd.2
    have hsh : (Builtin.Int.intBits a.2 : Int) + (Builtin.Int.intBits b : Int) ≤ 2 ^ 27 := by
      have e : (2 : Int) ^ 27 = 134217728 := by decide
      have := intBits_le_of_natAbs (x := a.2) (y := b) (by omega) hbb
      rw [e]; omega
    dsimp only at F1 N1 hP ⊢
    have hql : qs.length ≤ 16 := by
      obtain ⟨post, hpost⟩ := hpre
      have h1 := hP.length
      have h2 := congrArg List.length hpost
      rw [List.length_reverse, List.length_append, List.length_cons] at h2
      rw [ha, dm_length] at h1
      simp only [List.length_nil] at h1
      omega
    k_steps
    exact LoopEnd.next (qs ++ [_], cap + 1, _) (IntsAre.append hP (.cons _ _ .nil)) (by assumption) (by assumption) (List.forall_mem_cons.mpr ⟨rfl, List.forall_mem_nil _⟩) (by walk_at "fr rest")
      (List.forall_mem_cons.mpr ⟨by simp only [← List.push_toArray]; k_mem, fun p hp => by simp only [List.mem_cons] at hp ⊢; rcases hp with hp | hp <;> simp only [hp, true_or, or_true]⟩) (List.forall_mem_cons.mpr ⟨by k_mem, List.forall_mem_nil _⟩)
  · clear lF lN
    intro e u h tk hP F1 N1
    obtain ⟨qs, cap, tr⟩ := e
    dsimp only at F1 N1 hP ⊢
    have hql : qs.length ≤ 16 := by
      have h1 := hP.length
      rw [dm_length, List.length_reverse] at h1
      simp only [List.length_nil] at h1
      omega
    k_steps
    refine Hold.out ?_
    k_dflt (refine' c_d2i_hit ?k1 ?k2 ?k3 ?k5 ?kK ?kd ?ku ?kN ?k30 ?kc ?kcd ?kcv ?kC ?km (ints_rev hP) hbp hbb' ?kl16 ?kbs hc37 ?kl37 ?_; (case k1 => k_asm); (case k2 => k_asm); (case k3 => k_asm); (case k5 => k_asm); (case kK => exact rfl); (case kd => ktr_room); (case ku => ktr_units); (case kN => k_asm); (case k30 => k_mem); (case kc => k_mem); (case kcd => exact hd2); (case kcv => exact hv2); (case kC => exact C2); (case km => k_mem))
    · rw [List.length_reverse, ← hP.length]; exact hql
    · have hbits := dm_bits hb hbb' hbb (digs (2 ^ ((Builtin.Int.intBits b : Int)).toNat) (ndig (Builtin.Int.intBits b : Int) X).toNat X).reverse ([], 0) (Int.le_refl _) hb (fun d hd => digs_mem (Nat.pow_pos (by decide)) (List.mem_reverse.mp hd)) (fun q hq => nomatch hq)
      exact fun j => Nat.le_trans (bits_getD (fun q hq => hbits q (List.mem_reverse.mp hq)) j) (by decide)
    · exact Ne.symm (Nat.ne_of_lt (ktn_ltOf lB.2 _ h37))
    intro tq h2 tk2 F2 N2
    k_steps
    rename News _ _ _ _ => kN
    rename (_ ∧ _ ∧ AllLt _ news) => lE
    obtain ⟨e1, e2⟩ := dm_all (k := (ndig (Builtin.Int.intBits b : Int) X).toNat) hb (ndig_top hbp)
    rw [e1, e2, ← hx] at kN
    exact ret _ _ _ _ _ (by k_asm) (news_sub kN (List.forall_mem_cons.mpr ⟨.head _, fun p hp => .tail _ (.tail _ (.tail _ hp))⟩)) (ktn_ltOf lE.2.2)
end X_c_dmp
theorem c_dmp {w : World} {dp : Nat} {un : Nat} {gd : Option (List Code)} {cn : Str} {cs : Scope} {a : Addr} {ccd : Value} {cl : List (Str × Addr)} {outer : List Env} {A₀ : Around} {base : Heap} {h₀ : Heap} {L : Addr} {m : Str → Option Value} {p : Program} {loose : List Str} {mean : ExcName → Option Value} {mg : Str → Option Value} {mb : Str → Option Value} {news : List (Addr × Obj)} {s : Shared} {Q : Value → Shared → Prop} {E : Value → Shared → Prop} {x : Int} {b : Int} {X : Nat} {tx : Tok} {tb : Tok} {c1 : Addr} {c2 : Addr} {oc1 : Obj} {oc2 : Obj} {cv1 : Array Value} {cv2 : Array Value} {tc1 : Tok} {tc2 : Tok} (B : Below A₀ base outer h₀) (F : Fr h₀ L s.heap m) (KX : (kk w.params).In h₀) (T : Top p loose mean mg mb h₀) (hk : cs.kind = .function) (hdp : dp + 24 < recursionLimit) (hun : un + 240 < cLine) (N : News h₀ L s.heap news) (h30 : (30, hitA c1) ∈ news) (hc1 : (c1, oc1) ∈ news) (hd1 : oc1.data = .fields cv1) (hv1 : cv1[1]? = some (.str quA tc1)) (C1 : CodeHd base 34 30) (hc30 : c1 ≠ 30) (h37 : (37, hitB c2) ∈ news) (hc2 : (c2, oc2) ∈ news) (hd2 : oc2.data = .fields cv2) (hv2 : cv2[1]? = some (.str quB tc2)) (C2 : CodeHd base 41 37) (hc37 : c2 ≠ 37) (hx : x = X) (hb : 0 < b) (hbb : Builtin.Int.intBits b ≤ 100) (hX16 : ndig (Builtin.Int.intBits b : Int) X ≤ 16) (ret : ∀ D t1 t2 h' tk', Fr h₀ L h' m → News h₀ L h' ((D, ({ cls := .type "tuple", data := .seq #[.int (x.fdiv b) t1, .int (x.fmod b) t2] } : Obj)) :: news) → (∀ q ∈ news, q.1 < D) → Q (.ref D) { s with heap := h', toks := tk' }) :
   wpAny (model PySem.Challenge.rw_tc0016_01.row.prog w) (ktrTop dp un gd cn cs L a ccd cl outer) (call (.ref 49) [.int x tx, .int b tb]) Q E s :=
  X_c_dmp.cS X_c_dmp.main (w, dp, un, gd, cn, cs, a, ccd, cl, outer, A₀, base, h₀, L, m, p, loose, mean, mg, mb, news, s, Q, E, x, b, X, tx, tb, c1, c2, oc1, oc2, cv1, cv2, tc1, tc2) B F KX T hk hdp hun N h30 hc1 hd1 hv1 C1 hc30 h37 hc2 hd2 hv2 C2 hc37 hx hb hbb hX16 ret

end
example : True := by
  k_with "h20_0" => ((with_reducible show wpAny _ _ (eval (Expr.Call (Expr.Name (Str.ofString "int_divmod") _) _ [] _) _) _ _ _); refine Call_ ?_)
  k_with "h20_1" => ((with_reducible show wpAny _ _ (call (Value.ref 49) _) _ _ _); refine hold ?_)
  k_with "h20_2" => ((with_reducible show wpAny _ _ (call (Value.ref 56) _) _ _ _); refine hold ?_)
  trivial
section
example : True := by
  w_top off
  trivial
-- idm
local macro_rules | `(tactic| walk_at "eval Call") => `(tactic| k_extra "h20_0")
local macro_rules | `(tactic| walk_at "call ref") => `(tactic| k_extra "h20_1")
set_option maxRecDepth 100000 in
set_option maxHeartbeats 4000000 in
theorem c_idm1 {w : World} {dp : Nat} {un : Nat} {gd : Option (List Code)} {cn : Str} {cs : Scope} {a : Addr} {ccd : Value} {cl : List (Str × Addr)} {outer : List Env} {A₀ : Around} {base : Heap} {h₀ : Heap} {L : Addr} {m : Str → Option Value} {p : Program} {loose : List Str} {mean : ExcName → Option Value} {mg : Str → Option Value} {mb : Str → Option Value} {news : List (Addr × Obj)} {s : Shared} {Q : Value → Shared → Prop} {E : Value → Shared → Prop} {x b : Int} {tx tb : Tok} {c1 c2 : Addr} {oc1 oc2 : Obj} {cv1 cv2 : Array Value} {tc1 tc2 : Tok} (B : Below A₀ base outer h₀) (F : Fr h₀ L s.heap m) (KX : (kk w.params).In h₀) (T : Top p loose mean mg mb h₀) (hk : cs.kind = .function) (hdp : dp + 26 < recursionLimit) (hun : un + 260 < cLine) (N : News h₀ L s.heap news) (h30 : (30, hitA c1) ∈ news) (hc1 : (c1, oc1) ∈ news) (hd1 : oc1.data = .fields cv1) (hv1 : cv1[1]? = some (.str quA tc1)) (C1 : CodeHd base 34 30) (hc30 : c1 ≠ 30) (h37 : (37, hitB c2) ∈ news) (hc2 : (c2, oc2) ∈ news) (hd2 : oc2.data = .fields cv2) (hv2 : cv2[1]? = some (.str quB tc2)) (C2 : CodeHd base 41 37) (hc37 : c2 ≠ 37) (hx : 0 ≤ x) (hb : 0 < b) (hbb : Builtin.Int.intBits b ≤ 100) (hX16 : (Builtin.Int.intBits x : Int) ≤ 16 * (Builtin.Int.intBits b : Int)) (ret : ∀ D t1 t2 h' tk', Fr h₀ L h' m → News h₀ L h' ((D, ({ cls := .type "tuple", data := .seq #[.int (x.fdiv b) t1, .int (x.fmod b) t2] } : Obj)) :: news) → (∀ q ∈ news, q.1 < D) → Q (.ref D) { s with heap := h', toks := tk' }) :
   wpAny (model PySem.Challenge.rw_tc0016_01.row.prog w) (ktrTop dp un gd cn cs L a ccd cl outer) (call (.ref 56) [.int x tx, .int b tb]) Q E s := by
  walk_at "my enter"
  k_steps
  · exfalso; omega
  refine Hold.out ?_
  k_dflt (refine' c_dmp (X := x.toNat) ?k1 ?k2 ?k3 ?k5 ?kK ?kd ?ku ?kN h30 hc1 hd1 hv1 C1 hc30 h37 hc2 hd2 hv2 C2 hc37 (Int.toNat_of_nonneg hx).symm hb hbb (ndig_le hb (Nat.le_of_eq (by rw [Int.toNat_of_nonneg hx])) hX16) ?_; (case k1 => k_asm); (case k2 => k_asm); (case k3 => k_asm); (case k5 => k_asm); (case kK => exact rfl); (case kd => ktr_room); (case ku => ktr_units); (case kN => k_asm))
  intro D t1 t2 h1 tk1 F1 N1 l1
  k_steps
  exact ret _ _ _ _ _ (by k_asm) (by k_asm) l1
local macro_rules | `(tactic| walk_at "call ref") => `(tactic| k_extra "h20_2")
set_option maxRecDepth 100000 in
set_option maxHeartbeats 4000000 in
theorem c_idm2 {w : World} {dp : Nat} {un : Nat} {gd : Option (List Code)} {cn : Str} {cs : Scope} {a : Addr} {ccd : Value} {cl : List (Str × Addr)} {outer : List Env} {A₀ : Around} {base : Heap} {h₀ : Heap} {L : Addr} {m : Str → Option Value} {p : Program} {loose : List Str} {mean : ExcName → Option Value} {mg : Str → Option Value} {mb : Str → Option Value} {news : List (Addr × Obj)} {s : Shared} {Q : Value → Shared → Prop} {E : Value → Shared → Prop} {x b : Int} {tx tb : Tok} {c1 c2 : Addr} {oc1 oc2 : Obj} {cv1 cv2 : Array Value} {tc1 tc2 : Tok} (B : Below A₀ base outer h₀) (F : Fr h₀ L s.heap m) (KX : (kk w.params).In h₀) (T : Top p loose mean mg mb h₀) (hk : cs.kind = .function) (hdp : dp + 28 < recursionLimit) (hun : un + 280 < cLine) (N : News h₀ L s.heap news) (h30 : (30, hitA c1) ∈ news) (hc1 : (c1, oc1) ∈ news) (hd1 : oc1.data = .fields cv1) (hv1 : cv1[1]? = some (.str quA tc1)) (C1 : CodeHd base 34 30) (hc30 : c1 ≠ 30) (h37 : (37, hitB c2) ∈ news) (hc2 : (c2, oc2) ∈ news) (hd2 : oc2.data = .fields cv2) (hv2 : cv2[1]? = some (.str quB tc2)) (C2 : CodeHd base 41 37) (hc37 : c2 ≠ 37) (hx : x < 0) (hb : 0 < b) (hbb : Builtin.Int.intBits b ≤ 100) (hX16 : (Builtin.Int.intBits x : Int) ≤ 16 * (Builtin.Int.intBits b : Int)) (ret : ∀ D t1 t2 h' tk', Fr h₀ L h' m → News h₀ L h' ((D, ({ cls := .type "tuple", data := .seq #[.int (x.fdiv b) t1, .int (x.fmod b) t2] } : Obj)) :: news) → (∀ q ∈ news, q.1 < D) → Q (.ref D) { s with heap := h', toks := tk' }) :
   wpAny (model PySem.Challenge.rw_tc0016_01.row.prog w) (ktrTop dp un gd cn cs L a ccd cl outer) (call (.ref 56) [.int x tx, .int b tb]) Q E s := by
  walk_at "my enter"
  k_steps
  · exfalso; omega
  refine Hold.out ?_
  have hbi : Builtin.Int.intBits (Builtin.bitNot x) ≤ Builtin.Int.intBits x := bits_inv hx
  have hbx : 0 ≤ Builtin.bitNot x := by show 0 ≤ -x - 1; omega
  k_dflt (refine' c_idm1 ?k1 ?k2 ?k3 ?k5 ?kK ?kd ?ku ?kN h30 hc1 hd1 hv1 C1 hc30 h37 hc2 hd2 hv2 C2 hc37 hbx hb hbb ?kX ?_; (case k1 => k_asm); (case k2 => k_asm); (case k3 => k_asm); (case k5 => k_asm); (case kK => exact rfl); (case kd => ktr_room); (case ku => ktr_units); (case kN => k_asm))
  · omega
  intro D t1 t2 h1 tk1 F1 N1 l1
  replace l1 := allLt_of l1
  k_steps
  rename News _ _ _ _ => kN
  rename (_ ∧ AllLt _ news) => lE
  obtain ⟨e1, e2⟩ := inv_fdm (x := x) hb
  rw [show Builtin.bitNot ((Builtin.bitNot x).fdiv b) = x.fdiv b from e1, show b + Builtin.bitNot ((Builtin.bitNot x).fmod b) = x.fmod b from e2] at kN
  exact ret _ _ _ _ _ (by k_asm) (news_sub kN (List.forall_mem_cons.mpr ⟨.head _, fun p hp => .tail _ (.tail _ hp)⟩)) (ktn_ltOf lE.2)
theorem c_idmP {w : World} {dp : Nat} {un : Nat} {gd : Option (List Code)} {cn : Str} {cs : Scope} {a : Addr} {ccd : Value} {cl : List (Str × Addr)} {outer : List Env} {A₀ : Around} {base : Heap} {h₀ : Heap} {L : Addr} {m : Str → Option Value} {p : Program} {loose : List Str} {mean : ExcName → Option Value} {mg : Str → Option Value} {mb : Str → Option Value} {news : List (Addr × Obj)} {s : Shared} {Q : Value → Shared → Prop} {E : Value → Shared → Prop} {x b : Int} {tx tb : Tok} {c1 c2 : Addr} {oc1 oc2 : Obj} {cv1 cv2 : Array Value} {tc1 tc2 : Tok} (B : Below A₀ base outer h₀) (F : Fr h₀ L s.heap m) (KX : (kk w.params).In h₀) (T : Top p loose mean mg mb h₀) (hk : cs.kind = .function) (hdp : dp + 28 < recursionLimit) (hun : un + 280 < cLine) (N : News h₀ L s.heap news) (h30 : (30, hitA c1) ∈ news) (hc1 : (c1, oc1) ∈ news) (hd1 : oc1.data = .fields cv1) (hv1 : cv1[1]? = some (.str quA tc1)) (C1 : CodeHd base 34 30) (hc30 : c1 ≠ 30) (h37 : (37, hitB c2) ∈ news) (hc2 : (c2, oc2) ∈ news) (hd2 : oc2.data = .fields cv2) (hv2 : cv2[1]? = some (.str quB tc2)) (C2 : CodeHd base 41 37) (hc37 : c2 ≠ 37) (hb : 0 < b) (hbb : Builtin.Int.intBits b ≤ 100) (hX16 : (Builtin.Int.intBits x : Int) ≤ 16 * (Builtin.Int.intBits b : Int)) (ret : ∀ D t1 t2 h' tk', Fr h₀ L h' m → News h₀ L h' ((D, ({ cls := .type "tuple", data := .seq #[.int (x.fdiv b) t1, .int (x.fmod b) t2] } : Obj)) :: news) → (∀ q ∈ news, q.1 < D) → Q (.ref D) { s with heap := h', toks := tk' }) :
   wpAny (model PySem.Challenge.rw_tc0016_01.row.prog w) (ktrTop dp un gd cn cs L a ccd cl outer) (call (.ref 56) [.int x tx, .int b tb]) Q E s := by
  rcases Int.lt_or_le x 0 with h | h
  · exact c_idm2 B F KX T hk hdp hun N h30 hc1 hd1 hv1 C1 hc30 h37 hc2 hd2 hv2 C2 hc37 h hb hbb hX16 ret
  · exact c_idm1 B F KX T hk (by omega) (by omega) N h30 hc1 hd1 hv1 C1 hc30 h37 hc2 hd2 hv2 C2 hc37 h hb hbb hX16 ret
set_option maxRecDepth 100000 in
set_option maxHeartbeats 4000000 in
theorem c_idmN {w : World} {dp : Nat} {un : Nat} {gd : Option (List Code)} {cn : Str} {cs : Scope} {a : Addr} {ccd : Value} {cl : List (Str × Addr)} {outer : List Env} {A₀ : Around} {base : Heap} {h₀ : Heap} {L : Addr} {m : Str → Option Value} {p : Program} {loose : List Str} {mean : ExcName → Option Value} {mg : Str → Option Value} {mb : Str → Option Value} {news : List (Addr × Obj)} {s : Shared} {Q : Value → Shared → Prop} {E : Value → Shared → Prop} {x b : Int} {tx tb : Tok} {c1 c2 : Addr} {oc1 oc2 : Obj} {cv1 cv2 : Array Value} {tc1 tc2 : Tok} (B : Below A₀ base outer h₀) (F : Fr h₀ L s.heap m) (KX : (kk w.params).In h₀) (T : Top p loose mean mg mb h₀) (hk : cs.kind = .function) (hdp : dp + 30 < recursionLimit) (hun : un + 300 < cLine) (N : News h₀ L s.heap news) (h30 : (30, hitA c1) ∈ news) (hc1 : (c1, oc1) ∈ news) (hd1 : oc1.data = .fields cv1) (hv1 : cv1[1]? = some (.str quA tc1)) (C1 : CodeHd base 34 30) (hc30 : c1 ≠ 30) (h37 : (37, hitB c2) ∈ news) (hc2 : (c2, oc2) ∈ news) (hd2 : oc2.data = .fields cv2) (hv2 : cv2[1]? = some (.str quB tc2)) (C2 : CodeHd base 41 37) (hc37 : c2 ≠ 37) (hb : b < 0) (hbb : Builtin.Int.intBits b ≤ 100) (hX16 : (Builtin.Int.intBits x : Int) ≤ 16 * (Builtin.Int.intBits b : Int)) (ret : ∀ D t1 t2 h' tk', Fr h₀ L h' m → News h₀ L h' ((D, ({ cls := .type "tuple", data := .seq #[.int (x.fdiv b) t1, .int (x.fmod b) t2] } : Obj)) :: news) → (∀ q ∈ news, q.1 < D) → Q (.ref D) { s with heap := h', toks := tk' }) :
   wpAny (model PySem.Challenge.rw_tc0016_01.row.prog w) (ktrTop dp un gd cn cs L a ccd cl outer) (call (.ref 56) [.int x tx, .int b tb]) Q E s := by
  walk_at "my enter"
  k_steps
  · exfalso; omega
  refine Hold.out ?_
  have e1 := bits_neg x
  have e2 := bits_neg b
  k_dflt (refine' c_idmP ?k1 ?k2 ?k3 ?k5 ?kK ?kd ?ku ?kN h30 hc1 hd1 hv1 C1 hc30 h37 hc2 hd2 hv2 C2 hc37 ?kb ?kbb ?kX ?_; (case k1 => k_asm); (case k2 => k_asm); (case k3 => k_asm); (case k5 => k_asm); (case kK => exact rfl); (case kd => ktr_room); (case ku => ktr_units); (case kN => k_asm))
  · omega
  · omega
  · omega
  intro D t1 t2 h1 tk1 F1 N1 l1
  replace l1 := allLt_of l1
  k_steps

  rename News _ _ _ _ => kN
  rename (_ ∧ AllLt _ news) => lE
  obtain ⟨e1, e2⟩ := neg_fdm (x := x) (b := b)
  rw [e1, e2] at kN
  exact ret _ _ _ _ _ (by k_asm) (news_sub kN (List.forall_mem_cons.mpr ⟨.head _, fun p hp => .tail _ (.tail _ hp)⟩)) (ktn_ltOf lE.2)
theorem c_idm {w : World} {dp : Nat} {un : Nat} {gd : Option (List Code)} {cn : Str} {cs : Scope} {a : Addr} {ccd : Value} {cl : List (Str × Addr)} {outer : List Env} {A₀ : Around} {base : Heap} {h₀ : Heap} {L : Addr} {m : Str → Option Value} {p : Program} {loose : List Str} {mean : ExcName → Option Value} {mg : Str → Option Value} {mb : Str → Option Value} {news : List (Addr × Obj)} {s : Shared} {Q : Value → Shared → Prop} {E : Value → Shared → Prop} {x b : Int} {tx tb : Tok} {c1 c2 : Addr} {oc1 oc2 : Obj} {cv1 cv2 : Array Value} {tc1 tc2 : Tok} (B : Below A₀ base outer h₀) (F : Fr h₀ L s.heap m) (KX : (kk w.params).In h₀) (T : Top p loose mean mg mb h₀) (hk : cs.kind = .function) (hdp : dp + 30 < recursionLimit) (hun : un + 300 < cLine) (N : News h₀ L s.heap news) (h30 : (30, hitA c1) ∈ news) (hc1 : (c1, oc1) ∈ news) (hd1 : oc1.data = .fields cv1) (hv1 : cv1[1]? = some (.str quA tc1)) (C1 : CodeHd base 34 30) (hc30 : c1 ≠ 30) (h37 : (37, hitB c2) ∈ news) (hc2 : (c2, oc2) ∈ news) (hd2 : oc2.data = .fields cv2) (hv2 : cv2[1]? = some (.str quB tc2)) (C2 : CodeHd base 41 37) (hc37 : c2 ≠ 37) (hb : b ≠ 0) (hbb : Builtin.Int.intBits b ≤ 100) (hX16 : (Builtin.Int.intBits x : Int) ≤ 16 * (Builtin.Int.intBits b : Int)) (ret : ∀ D t1 t2 h' tk', Fr h₀ L h' m → News h₀ L h' ((D, ({ cls := .type "tuple", data := .seq #[.int (x.fdiv b) t1, .int (x.fmod b) t2] } : Obj)) :: news) → (∀ q ∈ news, q.1 < D) → Q (.ref D) { s with heap := h', toks := tk' }) :
   wpAny (model PySem.Challenge.rw_tc0016_01.row.prog w) (ktrTop dp un gd cn cs L a ccd cl outer) (call (.ref 56) [.int x tx, .int b tb]) Q E s := by
  rcases Int.lt_or_le b 0 with h | h
  · exact c_idmN B F KX T hk hdp hun N h30 hc1 hd1 hv1 C1 hc30 h37 hc2 hd2 hv2 C2 hc37 h hbb hX16 ret
  · exact c_idmP B F KX T hk (by omega) (by omega) N h30 hc1 hd1 hv1 C1 hc30 h37 hc2 hd2 hv2 C2 hc37 (by omega) hbb hX16 ret

end
example : True := by
  k_with "h21_0" => ((with_reducible show wpAny _ _ (call (Value.ref 35) _) _ _ _); refine hold ?_)
  k_with "h21_1" => (k_here; (with_reducible refine chr_of_range ?kc0_0 ?kc1_0 ?_); (case kc0_0 | kc1_0 => omega))
  k_with "h21_1" => (k_here; (with_reducible refine chr_of_range ?kc0_1 ?kc1_1 ?_); (case kc0_1 | kc1_1 => omega))
  k_with "h21_1" => (k_here; (with_reducible refine chr_of_range ?kc0_2 ?kc1_2 ?_); (case kc0_2 | kc1_2 => omega))
  k_with "h21_1" => (k_here; (with_reducible refine chr_of_range ?kc0_3 ?kc1_3 ?_); (case kc0_3 | kc1_3 => omega))
  k_with "h21_1" => (k_here; (with_reducible refine chr_of_range ?kc0_4 ?kc1_4 ?_); (case kc0_4 | kc1_4 => omega))
  k_with "h21_1" => (k_here; (with_reducible refine chr_of_range ?kc0_5 ?kc1_5 ?_); (case kc0_5 | kc1_5 => omega))
  k_with "h21_2" => (k_here; (with_reducible show wpAny _ _ (call (Value.builtin "str.join") [Value.str _ _, Value.ref _]) _ _ _); k_dflt (refine' join_listW (ys := [_, _, _, _]) (News.isList (by k_asm) (by k_mem)) (by repeat constructor) ?kj1_0 ?kj2_0 ?_; (case kj1_0 => decide); (case kj2_0 => exact Nat.le_of_ble_eq_true rfl); k_whole))
  k_with "h21_2" => (k_here; (with_reducible show wpAny _ _ (call (Value.builtin "str.join") [Value.str _ _, Value.ref _]) _ _ _); k_dflt (refine' join_listW (ys := [_, _, _, _]) (News.isList (by k_asm) (by k_mem)) (by repeat constructor) ?kj1_1 ?kj2_1 ?_; (case kj1_1 => decide); (case kj2_1 => exact Nat.le_of_ble_eq_true rfl); k_whole))
  k_with "h21_2" => (k_here; (with_reducible show wpAny _ _ (call (Value.builtin "str.join") [Value.str _ _, Value.ref _]) _ _ _); k_dflt (refine' join_listW (ys := [_, _, _, _]) (News.isList (by k_asm) (by k_mem)) (by repeat constructor) ?kj1_2 ?kj2_2 ?_; (case kj1_2 => decide); (case kj2_2 => exact Nat.le_of_ble_eq_true rfl); k_whole))
  k_with "h21_2" => (k_here; (with_reducible show wpAny _ _ (call (Value.builtin "str.join") [Value.str _ _, Value.ref _]) _ _ _); k_dflt (refine' join_listW (ys := [_, _, _, _]) (News.isList (by k_asm) (by k_mem)) (by repeat constructor) ?kj1_3 ?kj2_3 ?_; (case kj1_3 => decide); (case kj2_3 => exact Nat.le_of_ble_eq_true rfl); k_whole))
  k_with "h21_2" => (k_here; (with_reducible show wpAny _ _ (call (Value.builtin "str.join") [Value.str _ _, Value.ref _]) _ _ _); k_dflt (refine' join_listW (ys := [_, _, _, _]) (News.isList (by k_asm) (by k_mem)) (by repeat constructor) ?kj1_4 ?kj2_4 ?_; (case kj1_4 => decide); (case kj2_4 => exact Nat.le_of_ble_eq_true rfl); k_whole))
  k_with "h21_2" => (k_here; (with_reducible show wpAny _ _ (call (Value.builtin "str.join") [Value.str _ _, Value.ref _]) _ _ _); k_dflt (refine' join_listW (ys := [_, _, _, _]) (News.isList (by k_asm) (by k_mem)) (by repeat constructor) ?kj1_5 ?kj2_5 ?_; (case kj1_5 => decide); (case kj2_5 => exact Nat.le_of_ble_eq_true rfl); k_whole))
  trivial
section
example : True := by
  w_top off
  trivial
local macro_rules | `(tactic| walk_at "pad 0") => `(tactic| skip)
local macro_rules | `(tactic| walk_at "pad 1") => `(tactic| skip)
local macro_rules | `(tactic| walk_at "pad 2") => `(tactic| skip)
local macro_rules | `(tactic| walk_at "pad 3") => `(tactic| skip)
-- word
noncomputable def wcode (X : Nat) (p k : Int) : Nat := (97 + p + k - 32 * ((X / 2 ^ k.toNat % 2 : Nat) : Int)).toNat
noncomputable def word (X : Nat) (p : Int) : Str := ⟨#[wcode X p 0, wcode X p 1, wcode X p 2, wcode X p 3]⟩
theorem join_four (a b c d : Nat) : Txt.join (Str.ofString "") [⟨#[a]⟩, ⟨#[b]⟩, ⟨#[c]⟩, ⟨#[d]⟩] = ⟨#[a, b, c, d]⟩ := rfl
theorem word_join {X : Nat} {p : Int} {n4 : List Int} (h : ∀ k, k < 4 → n4.getD k 0 = ((X / 2 ^ k % 2 : Nat) : Int)) :
    Txt.join (Str.ofString "") [⟨#[(97 + p + 0 - 32 * n4.getD (0 : Int).toNat 0).toNat]⟩, ⟨#[(97 + p + 1 - 32 * n4.getD (1 : Int).toNat 0).toNat]⟩, ⟨#[(97 + p + 2 - 32 * n4.getD (2 : Int).toNat 0).toNat]⟩, ⟨#[(97 + p + 3 - 32 * n4.getD (3 : Int).toNat 0).toNat]⟩] = word X p := by
  rw [join_four, h _ (by decide), h _ (by decide), h _ (by decide), h _ (by decide)]
  rfl
theorem tab_back {L D c : Addr} {oc : Obj} {ps : Array Value} {o1 o2 : Obj} {news : List (Addr × Obj)} (hcc : (@LT.lt Nat _ (L + 1 + 1) c ∧ @LT.lt Nat _ D c) ∨ @LT.lt Nat _ c L)
    (ca : (ps = #[] ∧ (∀ q ∈ (L + 1 + 1, o1) :: (L + 1, o2) :: news, q.1 < c) ∧ @LT.lt Nat _ D c) ∨ (tabObj ps = hitA c ∧ (c, oc) ∈ (L + 1 + 1, o1) :: (L + 1, o2) :: news)) : (ps = #[] ∧ ∀ q ∈ news, q.1 < c) ∨ (tabObj ps = hitA c ∧ (c, oc) ∈ news) := by
  rcases ca with ⟨h1, h2, _⟩ | ⟨h1, h2⟩
  · exact .inl ⟨h1, fun q hq => h2 q (.tail _ (.tail _ hq))⟩
  · refine .inr ⟨h1, ?_⟩
    rcases List.mem_cons.mp h2 with h | h
    · have e : c = L + 1 + 1 := congrArg Prod.fst h
      exfalso
      have e' : @Eq Nat c (L + 1 + 1) := e
      omega
    · rcases List.mem_cons.mp h with h | h
      · have e' : @Eq Nat c (L + 1) := congrArg Prod.fst h
        exfalso
        omega
      · exact h
theorem tab_sep {L D c : Addr} {oc : Obj} {ps : Array Value} {o1 : Addr × Obj} {news news' : List (Addr × Obj)} (lL : @LT.lt Nat _ 30 L ∧ AllLt L news) (ok : TabOk innA quA ps news)
    (ca : (ps = #[] ∧ (∀ q ∈ o1 :: news', q.1 < c) ∧ @LT.lt Nat _ D c) ∨ (tabObj ps = hitA c ∧ (c, oc) ∈ o1 :: news')) : (@LT.lt Nat _ o1.1 c ∧ @LT.lt Nat _ D c) ∨ @LT.lt Nat _ c L := by
  rcases ca with ⟨_, h1, h2⟩ | ⟨h1, _⟩
  · exact .inl ⟨h1 _ (.head _), h2⟩
  · obtain ⟨o0, h0⟩ := ok.hit h1
    exact .inr (ktn_ltOf lL.2 _ h0)
local macro_rules | `(tactic| walk_at "call ref") => `(tactic| k_extra "h21_0")
noncomputable abbrev wbits (X : Nat) : List Int := digs (2 ^ (1 : Int).toNat) (ndig 1 X).toNat X ++ (List.replicate (4 - ((digs (2 ^ (1 : Int).toNat) (ndig 1 X).toNat X).length : Int)).toNat [(0 : Int)]).flatten
theorem wbits_all : ∀ X, X < 16 → (wbits X).length = 4 ∧ ∀ k, k < 4 → (wbits X).getD k 0 = ((X / 2 ^ k % 2 : Nat) : Int) := by decide +kernel
local macro_rules | `(tactic| walk_at "exec Return some") => `(tactic| ((rename MarkS 1 => hM9); clear hM9; refine hold ?_))
local macro_rules | `(tactic| l_idx) => `(tactic| ((rename (_ < (0 : Int) + _) => hh9); (have hh8 := Int.lt_of_lt_of_le hh9 (show (0 : Int) + _ ≤ 4 by decide)); omega))
local macro_rules | `(tactic| walk_at "CompSrc") => `(tactic| ((rename MarkS 2 => hM9); clear hM9; refine hold ?_))
local macro_rules | `(tactic| walk_at "call builtin:chr") => `(tactic| k_extra "h21_1")
local macro_rules | `(tactic| walk_at "call builtin:str.join") => `(tactic| k_extra "h21_2")
namespace X_c_word
noncomputable def P0 (w : World) (dp : Nat) (un : Nat) (gd : Option (List Code)) (cn : Str) (cs : Scope) (a : Addr) (ccd : Value) (cl : List (Str × Addr)) (outer : List Env) (A₀ : Around) (base : Heap) (h₀ : Heap) (L : Addr) (m : Str → Option Value) (p : Program) (loose : List Str) (mean : ExcName → Option Value) (mg : Str → Option Value) (mb : Str → Option Value) (news : List (Addr × Obj)) (s : Shared) (Q : Value → Shared → Prop) (E : Value → Shared → Prop) (x : Int) (p' : Int) (X : Nat) (tx : Tok) (tp : Tok) (ps : Array Value) : Prop := ∀  (B : Below A₀ base outer h₀) (F : Fr h₀ L s.heap m) (KX : (kk w.params).In h₀) (T : Top p loose mean mg mb h₀) (hk : cs.kind = .function) (hdp : dp + 24 < recursionLimit) (hun : un + 240 < cLine) (N : News h₀ L s.heap ((30, tabObj ps) :: news)) (hne : ∀ q ∈ news, q.1 ≠ 30) (C : CodeHd base 34 30) (ok : TabOk innA quA ps news) (hx : x = X) (hX : X < 16) (hp0 : 0 ≤ p') (hp1 : p' < 23) (ret : ∀ c oc cvs tc t h' tk', Fr h₀ L h' m → News h₀ L h' ((30, hitA c) :: (c, oc) :: news) → oc.data = .fields cvs → cvs[1]? = some (.str quA tc) → ((ps = #[] ∧ ∀ q ∈ news, q.1 < c) ∨ (tabObj ps = hitA c ∧ (c, oc) ∈ news)) →
     Q (.str (word X p') t) { s with heap := h', toks := tk' }),
   wpAny (model PySem.Challenge.rw_tc0016_01.row.prog w) (ktrTop dp un gd cn cs L a ccd cl outer) (call (.ref 122) [.int x tx, .int p' tp]) Q E s
abbrev T : Type := World × Nat × Nat × (Option (List Code)) × Str × Scope × Addr × Value × (List (Str × Addr)) × (List Env) × Around × Heap × Heap × Addr × (Str → Option Value) × Program × (List Str) × (ExcName → Option Value) × (Str → Option Value) × (Str → Option Value) × (List (Addr × Obj)) × Shared × (Value → Shared → Prop) × (Value → Shared → Prop) × Int × Int × Nat × Tok × Tok × (Array Value)
noncomputable def P (v : T) : Prop := P0 v.1 v.2.1 v.2.2.1 v.2.2.2.1 v.2.2.2.2.1 v.2.2.2.2.2.1 v.2.2.2.2.2.2.1 v.2.2.2.2.2.2.2.1 v.2.2.2.2.2.2.2.2.1 v.2.2.2.2.2.2.2.2.2.1 v.2.2.2.2.2.2.2.2.2.2.1 v.2.2.2.2.2.2.2.2.2.2.2.1 v.2.2.2.2.2.2.2.2.2.2.2.2.1 v.2.2.2.2.2.2.2.2.2.2.2.2.2.1 v.2.2.2.2.2.2.2.2.2.2.2.2.2.2.1 v.2.2.2.2.2.2.2.2.2.2.2.2.2.2.2.1 v.2.2.2.2.2.2.2.2.2.2.2.2.2.2.2.2.1 v.2.2.2.2.2.2.2.2.2.2.2.2.2.2.2.2.2.1 v.2.2.2.2.2.2.2.2.2.2.2.2.2.2.2.2.2.2.1 v.2.2.2.2.2.2.2.2.2.2.2.2.2.2.2.2.2.2.2.1 v.2.2.2.2.2.2.2.2.2.2.2.2.2.2.2.2.2.2.2.2.1 v.2.2.2.2.2.2.2.2.2.2.2.2.2.2.2.2.2.2.2.2.2.1 v.2.2.2.2.2.2.2.2.2.2.2.2.2.2.2.2.2.2.2.2.2.2.1 v.2.2.2.2.2.2.2.2.2.2.2.2.2.2.2.2.2.2.2.2.2.2.2.1 v.2.2.2.2.2.2.2.2.2.2.2.2.2.2.2.2.2.2.2.2.2.2.2.2.1 v.2.2.2.2.2.2.2.2.2.2.2.2.2.2.2.2.2.2.2.2.2.2.2.2.2.1 v.2.2.2.2.2.2.2.2.2.2.2.2.2.2.2.2.2.2.2.2.2.2.2.2.2.2.1 v.2.2.2.2.2.2.2.2.2.2.2.2.2.2.2.2.2.2.2.2.2.2.2.2.2.2.2.1 v.2.2.2.2.2.2.2.2.2.2.2.2.2.2.2.2.2.2.2.2.2.2.2.2.2.2.2.2.1 v.2.2.2.2.2.2.2.2.2.2.2.2.2.2.2.2.2.2.2.2.2.2.2.2.2.2.2.2.2
theorem ex : ∃ c : T, P c → ∀ v, P v := ex_all ⟨((Classical.choice neW), 0, 0, none, default, default, (0 : Nat), .none, [], [], {}, {}, {}, (0 : Nat), (fun _ => none), default, [], (fun _ => none), (fun _ => none), (fun _ => none), [], {}, (fun _ _ => False), (fun _ _ => False), 0, 0, 0, (0 : Nat), (0 : Nat), #[])⟩
@[irreducible] noncomputable def cT : T := Classical.choose ex
theorem cS : P cT → ∀ v, P v := by
  unfold cT
  exact Classical.choose_spec ex
noncomputable abbrev news : List (Addr × Obj) := cT.2.2.2.2.2.2.2.2.2.2.2.2.2.2.2.2.2.2.2.2.1
noncomputable abbrev p' : Int := cT.2.2.2.2.2.2.2.2.2.2.2.2.2.2.2.2.2.2.2.2.2.2.2.2.2.1
noncomputable abbrev X : Nat := cT.2.2.2.2.2.2.2.2.2.2.2.2.2.2.2.2.2.2.2.2.2.2.2.2.2.2.1
set_option maxRecDepth 100000 in
set_option maxHeartbeats 0 in
theorem main : P0 cT.1 cT.2.1 cT.2.2.1 cT.2.2.2.1 cT.2.2.2.2.1 cT.2.2.2.2.2.1 cT.2.2.2.2.2.2.1 cT.2.2.2.2.2.2.2.1 cT.2.2.2.2.2.2.2.2.1 cT.2.2.2.2.2.2.2.2.2.1 cT.2.2.2.2.2.2.2.2.2.2.1 cT.2.2.2.2.2.2.2.2.2.2.2.1 cT.2.2.2.2.2.2.2.2.2.2.2.2.1 cT.2.2.2.2.2.2.2.2.2.2.2.2.2.1 cT.2.2.2.2.2.2.2.2.2.2.2.2.2.2.1 cT.2.2.2.2.2.2.2.2.2.2.2.2.2.2.2.1 cT.2.2.2.2.2.2.2.2.2.2.2.2.2.2.2.2.1 cT.2.2.2.2.2.2.2.2.2.2.2.2.2.2.2.2.2.1 cT.2.2.2.2.2.2.2.2.2.2.2.2.2.2.2.2.2.2.1 cT.2.2.2.2.2.2.2.2.2.2.2.2.2.2.2.2.2.2.2.1 news cT.2.2.2.2.2.2.2.2.2.2.2.2.2.2.2.2.2.2.2.2.2.1 cT.2.2.2.2.2.2.2.2.2.2.2.2.2.2.2.2.2.2.2.2.2.2.1 cT.2.2.2.2.2.2.2.2.2.2.2.2.2.2.2.2.2.2.2.2.2.2.2.1 cT.2.2.2.2.2.2.2.2.2.2.2.2.2.2.2.2.2.2.2.2.2.2.2.2.1 p' X cT.2.2.2.2.2.2.2.2.2.2.2.2.2.2.2.2.2.2.2.2.2.2.2.2.2.2.2.1 cT.2.2.2.2.2.2.2.2.2.2.2.2.2.2.2.2.2.2.2.2.2.2.2.2.2.2.2.2.1 cT.2.2.2.2.2.2.2.2.2.2.2.2.2.2.2.2.2.2.2.2.2.2.2.2.2.2.2.2.2 := by
  unfold P0
  intro  B F KX T hk hdp hun N hne C ok hx hX hp0 hp1 ret
  walk_at "my enter"
  k_steps
  refine Hold.out ?_
  rename (30 < _ ∧ AllLt _ news) => lL
  obtain ⟨hd4, hl4⟩ := ndig16 hX
  k_dflt (refine' c_i2d (X := X) ?k1 ?k2 ?k3 ?k5 ?kK ?kd ?ku ?kN ?kne ?kC ?kok hx (by decide) (by decide) ?kX ?_; (case k1 => k_asm); (case k2 => k_asm); (case k3 => k_asm); (case k5 => k_asm); (case kK => exact rfl); (case kd => ktr_room); (case ku => ktr_units); (case kN => exact news_third (by k_asm)); (case kne => k_all); (case kC => exact C); (case kok => exact ok.mono (fun _ h => .tail _ (.tail _ h))); (case kX => omega))
  intro D us c oc cvs tc h1 tk1 F1 N1 hd1 hv I1 lD l30 ca
  have lD' := allLt_of lD
  simp only [AllLt] at lD'
  have hcc := tab_sep lL ok ca
  dsimp only at hcc
  have lA := lL.2
  have hW := wbits_all X hX
  unfold wbits at hW
  generalize digs (2 ^ (1 : Int).toNat) (ndig 1 X).toNat X = ds at hW I1 hl4
  replace hW := Hold.out hW
  have hmark := MarkS.mk 1
  k_steps
  refine Hold.out ?_
  rename IntsAre _ (ds ++ _) => hI4
  have hW' := Hold.out hW
  generalize ds ++ (List.replicate (4 - (ds.length : Int)).toNat [(0 : Int)]).flatten = n4 at hI4 hW'
  have hlen4 : n4.length = 4 := hW'.1
  replace hW' := Hold.out hW'.2
  have hmark2 := MarkS.mk 2
  k_steps
  refine Hold.out ?_
  refine LCg.CompSrc.range (n := 4) (by rfl) (by k_asm) (by k_asm) (by assumption) (by decide) (by rfl) (by decide) ?_
  intro gg
  refine comp_range (fun k y => ∃ t, y = .str ⟨#[(97 + p' + k - 32 * n4.getD k.toNat 0).toNat]⟩ t) ?tt ?ff
  · intro k t I oI Ca oC D2 m2 ys h tk E' hk0 hk4 hC hx2 F2 N2 off ne
    have hb01 : 0 ≤ n4.getD k.toNat 0 ∧ n4.getD k.toNat 0 ≤ 1 := by
      have := (Hold.out hW') k.toNat (by omega)
      rw [this]; omega
    replace hk4 : k < 4 := hk4
    dsimp only at F2 N2 ⊢
    have off0 := Hold.out off
    (try simp only [LCg.Off3, and_true] at off)
    k_steps
    exact LCg.CompEnd.intro (by k_asm) (by k_asm) _ (fun _ hp => hp) off0 trivial ⟨rfl, _, rfl⟩
  · intro ys hys
    rw [show rangeKs 0 4 = [0, 1, 2, 3] by decide] at hys
    obtain ⟨y0, y1, y2, y3, rfl, ⟨t0, rfl⟩, ⟨t1, rfl⟩, ⟨t2, rfl⟩, ⟨t3, rfl⟩⟩ := hys.four
    k_steps
    rw [word_join (Hold.out hW')]
    refine ret c oc cvs tc _ _ _ (by k_asm) (news_sub (by k_asm) (List.forall_mem_cons.mpr ⟨by k_mem, List.forall_mem_cons.mpr ⟨by k_mem, ?_⟩⟩)) hd1 hv (tab_back hcc ca)
    intro q hq
    simp only [List.mem_cons, hq, or_true]
end X_c_word
theorem c_word {w : World} {dp : Nat} {un : Nat} {gd : Option (List Code)} {cn : Str} {cs : Scope} {a : Addr} {ccd : Value} {cl : List (Str × Addr)} {outer : List Env} {A₀ : Around} {base : Heap} {h₀ : Heap} {L : Addr} {m : Str → Option Value} {p : Program} {loose : List Str} {mean : ExcName → Option Value} {mg : Str → Option Value} {mb : Str → Option Value} {news : List (Addr × Obj)} {s : Shared} {Q : Value → Shared → Prop} {E : Value → Shared → Prop} {x : Int} {p' : Int} {X : Nat} {tx : Tok} {tp : Tok} {ps : Array Value} (B : Below A₀ base outer h₀) (F : Fr h₀ L s.heap m) (KX : (kk w.params).In h₀) (T : Top p loose mean mg mb h₀) (hk : cs.kind = .function) (hdp : dp + 24 < recursionLimit) (hun : un + 240 < cLine) (N : News h₀ L s.heap ((30, tabObj ps) :: news)) (hne : ∀ q ∈ news, q.1 ≠ 30) (C : CodeHd base 34 30) (ok : TabOk innA quA ps news) (hx : x = X) (hX : X < 16) (hp0 : 0 ≤ p') (hp1 : p' < 23) (ret : ∀ c oc cvs tc t h' tk', Fr h₀ L h' m → News h₀ L h' ((30, hitA c) :: (c, oc) :: news) → oc.data = .fields cvs → cvs[1]? = some (.str quA tc) → ((ps = #[] ∧ ∀ q ∈ news, q.1 < c) ∨ (tabObj ps = hitA c ∧ (c, oc) ∈ news)) →
     Q (.str (word X p') t) { s with heap := h', toks := tk' }) :
   wpAny (model PySem.Challenge.rw_tc0016_01.row.prog w) (ktrTop dp un gd cn cs L a ccd cl outer) (call (.ref 122) [.int x tx, .int p' tp]) Q E s :=
  X_c_word.cS X_c_word.main (w, dp, un, gd, cn, cs, a, ccd, cl, outer, A₀, base, h₀, L, m, p, loose, mean, mg, mb, news, s, Q, E, x, p', X, tx, tp, ps) B F KX T hk hdp hun N hne C ok hx hX hp0 hp1 ret
theorem c_word_hit {w : World} {dp : Nat} {un : Nat} {gd : Option (List Code)} {cn : Str} {cs : Scope} {a : Addr} {ccd : Value} {cl : List (Str × Addr)} {outer : List Env} {A₀ : Around} {base : Heap} {h₀ : Heap} {L : Addr} {m : Str → Option Value} {p : Program} {loose : List Str} {mean : ExcName → Option Value} {mg : Str → Option Value} {mb : Str → Option Value} {news : List (Addr × Obj)} {s : Shared} {Q : Value → Shared → Prop} {E : Value → Shared → Prop} {x p' : Int} {X : Nat} {tx tp : Tok} {c : Addr} {oc : Obj} {cvs : Array Value} {tc : Tok} (B : Below A₀ base outer h₀) (F : Fr h₀ L s.heap m) (KX : (kk w.params).In h₀) (T : Top p loose mean mg mb h₀) (hk : cs.kind = .function) (hdp : dp + 24 < recursionLimit) (hun : un + 240 < cLine) (N : News h₀ L s.heap news) (h30 : (30, hitA c) ∈ news) (hc : (c, oc) ∈ news) (hd1 : oc.data = .fields cvs) (hv : cvs[1]? = some (.str quA tc)) (C : CodeHd base 34 30) (hx : x = X) (hX : X < 16) (hp0 : 0 ≤ p') (hp1 : p' < 23) (hc30 : c ≠ 30) (ret : ∀ t h' tk', Fr h₀ L h' m → News h₀ L h' news → Q (.str (word X p') t) { s with heap := h', toks := tk' }) :
   wpAny (model PySem.Challenge.rw_tc0016_01.row.prog w) (ktrTop dp un gd cn cs L a ccd cl outer) (call (.ref 122) [.int x tx, .int p' tp]) Q E s := by
  have mf : ∀ q, q ∈ news.filter (fun q => decide (q.1 ≠ 30)) ↔ q ∈ news ∧ q.1 ≠ 30 := fun q => by simp [List.mem_filter]
  refine c_word (news := news.filter (fun q => decide (q.1 ≠ 30))) (ps := #[rawInt (fnPos innA).line, rawInt (fnPos innA).col, .ref c]) B F KX T hk hdp hun (news_sub N ?_) (fun q hq => ((mf q).mp hq).2) C (Or.inr ⟨c, oc, cvs, tc, rfl, (mf _).mpr ⟨hc, hc30⟩, hd1, hv⟩) hx hX hp0 hp1 ?_
  · intro q hq
    rcases List.mem_cons.mp hq with rfl | hq
    · exact h30
    · exact ((mf q).mp hq).1
  · intro c2 oc2 vs2 t2 t h' tk' F' N' e1 e2 ca
    have hcc : c2 = c := by
      rcases ca with ⟨e, _⟩ | ⟨e, _⟩
      · cases e
      · have := congrArg Obj.data e
        simp only [Data.fields.injEq, Array.mk.injEq, List.cons.injEq, Value.ref.injEq, and_true, true_and] at this
        exact this.symm
    subst hcc
    refine ret t h' tk' F' (fun q hq => ?_)
    by_cases h : q.1 = 30
    · have h1 := (N q hq).1
      have h2 := (N _ h30).1
      rw [h, h2] at h1
      have e : q = (30, hitA c2) := Prod.ext h (Option.some.inj h1).symm
      rw [e]
      exact N' _ (.head _)
    · exact N' q (.tail _ (.tail _ ((mf q).mpr ⟨hq, h⟩)))

end
example : True := by
  k_with "h22_0" => (k_here; (with_reducible show wpAny _ _ (call (Value.builtin "str.lower") [Value.str _ _]) _ _ _); (refine SCL.lower (by show (1 : Nat) ≤ 5592405; decide) ?_); intro _)
  k_with "h22_0" => (k_here; (with_reducible show wpAny _ _ (call (Value.builtin "str.lower") [Value.str _ _]) _ _ _); (refine SCL.lower (by show (1 : Nat) ≤ 5592405; decide) ?_); intro _)
  k_with "h22_0" => (k_here; (with_reducible show wpAny _ _ (call (Value.builtin "str.lower") [Value.str _ _]) _ _ _); (refine SCL.lower (by show (1 : Nat) ≤ 5592405; decide) ?_); intro _)
  k_with "h22_0" => (k_here; (with_reducible show wpAny _ _ (call (Value.builtin "str.lower") [Value.str _ _]) _ _ _); (refine SCL.lower (by show (1 : Nat) ≤ 5592405; decide) ?_); intro _)
  k_with "h22_0" => (k_here; (with_reducible show wpAny _ _ (call (Value.builtin "str.lower") [Value.str _ _]) _ _ _); (refine SCL.lower (by show (1 : Nat) ≤ 5592405; decide) ?_); intro _)
  k_with "h22_0" => (k_here; (with_reducible show wpAny _ _ (call (Value.builtin "str.lower") [Value.str _ _]) _ _ _); (refine SCL.lower (by show (1 : Nat) ≤ 5592405; decide) ?_); intro _)
  trivial
section
example : True := by
  w_top off
  trivial
-- subc
local macro_rules | `(tactic| walk_at "call builtin:str.lower") => `(tactic| k_extra "h22_0")
noncomputable def scost (x y : Nat) : Int := if ((⟨#[x]⟩ : Str) == ⟨#[y]⟩) = true then 0 else if (Txt.lower ⟨#[x]⟩ == Txt.lower ⟨#[y]⟩) = true then 1 else 2
set_option maxRecDepth 100000 in
set_option maxHeartbeats 4000000 in
theorem c_subc {w : World} {dp : Nat} {un : Nat} {gd : Option (List Code)} {cn : Str} {cs : Scope} {a : Addr} {ccd : Value} {cl : List (Str × Addr)} {outer : List Env} {A₀ : Around} {base : Heap} {h₀ : Heap} {L : Addr} {m : Str → Option Value} {p : Program} {loose : List Str} {mean : ExcName → Option Value} {mg : Str → Option Value} {mb : Str → Option Value} {news : List (Addr × Obj)} {s : Shared} {Q : Value → Shared → Prop} {E : Value → Shared → Prop} {x y : Nat} {tx ty : Tok} (B : Below A₀ base outer h₀) (F : Fr h₀ L s.heap m) (KX : (kk w.params).In h₀) (T : Top p loose mean mg mb h₀) (hk : cs.kind = .function) (hdp : dp + 4 < recursionLimit) (hun : un + 40 < cLine) (N : News h₀ L s.heap news) (ret : ∀ t h' tk', Fr h₀ L h' m → News h₀ L h' news → Q (.int (scost x y) t) { s with heap := h', toks := tk' }) :
   wpAny (model PySem.Challenge.rw_tc0016_01.row.prog w) (ktrTop dp un gd cn cs L a ccd cl outer) (call (.ref 105) [.str ⟨#[x]⟩ tx, .str ⟨#[y]⟩ ty]) Q E s := by
  walk_at "my enter"
  k_steps
  · rename (_ == _) = true => e1
    have e : scost x y = 0 := if_pos e1
    rw [← e]
    exact ret _ _ _ (by k_asm) (by k_asm)
  · rename (Txt.lower _ == Txt.lower _) = true => e2
    rename ((⟨#[x]⟩ : Str) == ⟨#[y]⟩) = false => e1
    have e : scost x y = 1 := by
      unfold scost
      rw [if_neg (by rw [e1]; exact Bool.false_ne_true), if_pos e2]
    rw [← e]
    exact ret _ _ _ (by k_asm) (by k_asm)
  · rename (Txt.lower _ == Txt.lower _) = false => e2
    rename ((⟨#[x]⟩ : Str) == ⟨#[y]⟩) = false => e1
    have e : scost x y = 2 := by
      unfold scost
      rw [if_neg (by rw [e1]; exact Bool.false_ne_true), if_neg (by rw [e2]; exact Bool.false_ne_true)]
    rw [← e]
    exact ret _ _ _ (by k_asm) (by k_asm)

end
example : True := by
  k_with "h23_0" => ((with_reducible show wpAny _ _ (pyIter (Value.ref _)) (fun it s₂ => LoopAtV _ _ _ _ _ _ _ _ _ it s₂) _ _); refine hold ?_)
  k_with "h23_1" => (k_here; (with_reducible show wpAny _ _ (subscriptTail _ (PySem.Expr.Slice (some _) none none _) (Value.str { cps := List.toArray _ } _) (Value.ref _)) _ _ _); (with_reducible refine' cut_from ?kc0_0 ?kc1_0 ?kc2_0 ?kc3_0 ?_ ?kc4_0 ?kc5_0); (case kc0_0 | kc1_0 => omega); (case kc2_0 | kc3_0 => k_asm); (case kc4_0 => with_unfolding_all rfl); (case kc5_0 => (intro _; with_unfolding_all rfl)); intro _ _ _ _ _)
  k_with "h23_1" => (k_here; (with_reducible show wpAny _ _ (subscriptTail _ (PySem.Expr.Slice (some _) none none _) (Value.str { cps := List.toArray _ } _) (Value.ref _)) _ _ _); (with_reducible refine' cut_from ?kc0_1 ?kc1_1 ?kc2_1 ?kc3_1 ?_ ?kc4_1 ?kc5_1); (case kc0_1 | kc1_1 => omega); (case kc2_1 | kc3_1 => k_asm); (case kc4_1 => with_unfolding_all rfl); (case kc5_1 => (intro _; with_unfolding_all rfl)); intro _ _ _ _ _)
  k_with "h23_1" => (k_here; (with_reducible show wpAny _ _ (subscriptTail _ (PySem.Expr.Slice (some _) none none _) (Value.str { cps := List.toArray _ } _) (Value.ref _)) _ _ _); (with_reducible refine' cut_from ?kc0_2 ?kc1_2 ?kc2_2 ?kc3_2 ?_ ?kc4_2 ?kc5_2); (case kc0_2 | kc1_2 => omega); (case kc2_2 | kc3_2 => k_asm); (case kc4_2 => with_unfolding_all rfl); (case kc5_2 => (intro _; with_unfolding_all rfl)); intro _ _ _ _ _)
  k_with "h23_1" => (k_here; (with_reducible show wpAny _ _ (subscriptTail _ (PySem.Expr.Slice (some _) none none _) (Value.str { cps := List.toArray _ } _) (Value.ref _)) _ _ _); (with_reducible refine' cut_from ?kc0_3 ?kc1_3 ?kc2_3 ?kc3_3 ?_ ?kc4_3 ?kc5_3); (case kc0_3 | kc1_3 => omega); (case kc2_3 | kc3_3 => k_asm); (case kc4_3 => with_unfolding_all rfl); (case kc5_3 => (intro _; with_unfolding_all rfl)); intro _ _ _ _ _)
  k_with "h23_1" => (k_here; (with_reducible show wpAny _ _ (subscriptTail _ (PySem.Expr.Slice (some _) none none _) (Value.str { cps := List.toArray _ } _) (Value.ref _)) _ _ _); (with_reducible refine' cut_from ?kc0_4 ?kc1_4 ?kc2_4 ?kc3_4 ?_ ?kc4_4 ?kc5_4); (case kc0_4 | kc1_4 => omega); (case kc2_4 | kc3_4 => k_asm); (case kc4_4 => with_unfolding_all rfl); (case kc5_4 => (intro _; with_unfolding_all rfl)); intro _ _ _ _ _)
  k_with "h23_1" => (k_here; (with_reducible show wpAny _ _ (subscriptTail _ (PySem.Expr.Slice (some _) none none _) (Value.str { cps := List.toArray _ } _) (Value.ref _)) _ _ _); (with_reducible refine' cut_from ?kc0_5 ?kc1_5 ?kc2_5 ?kc3_5 ?_ ?kc4_5 ?kc5_5); (case kc0_5 | kc1_5 => omega); (case kc2_5 | kc3_5 => k_asm); (case kc4_5 => with_unfolding_all rfl); (case kc5_5 => (intro _; with_unfolding_all rfl)); intro _ _ _ _ _)
  k_with "h23_2" => (k_here; (with_reducible show wpAny _ _ (subscriptTail _ (PySem.Expr.Slice none (some _) none _) (Value.str { cps := List.toArray _ } _) (Value.ref _)) _ _ _); (with_reducible refine' cut_to ?kc6_0 ?kc0_0 ?kc1_0 ?kc2_0 ?kc3_0 ?_ ?kc4_0 ?kc5_0); (case kc6_0 | kc0_0 | kc1_0 => omega); (case kc2_0 | kc3_0 => k_asm); (case kc4_0 => with_unfolding_all rfl); (case kc5_0 => (intro _; with_unfolding_all rfl)); intro _ _ _ _ _)
  k_with "h23_2" => (k_here; (with_reducible show wpAny _ _ (subscriptTail _ (PySem.Expr.Slice none (some _) none _) (Value.str { cps := List.toArray _ } _) (Value.ref _)) _ _ _); (with_reducible refine' cut_to ?kc6_1 ?kc0_1 ?kc1_1 ?kc2_1 ?kc3_1 ?_ ?kc4_1 ?kc5_1); (case kc6_1 | kc0_1 | kc1_1 => omega); (case kc2_1 | kc3_1 => k_asm); (case kc4_1 => with_unfolding_all rfl); (case kc5_1 => (intro _; with_unfolding_all rfl)); intro _ _ _ _ _)
  k_with "h23_2" => (k_here; (with_reducible show wpAny _ _ (subscriptTail _ (PySem.Expr.Slice none (some _) none _) (Value.str { cps := List.toArray _ } _) (Value.ref _)) _ _ _); (with_reducible refine' cut_to ?kc6_2 ?kc0_2 ?kc1_2 ?kc2_2 ?kc3_2 ?_ ?kc4_2 ?kc5_2); (case kc6_2 | kc0_2 | kc1_2 => omega); (case kc2_2 | kc3_2 => k_asm); (case kc4_2 => with_unfolding_all rfl); (case kc5_2 => (intro _; with_unfolding_all rfl)); intro _ _ _ _ _)
  k_with "h23_2" => (k_here; (with_reducible show wpAny _ _ (subscriptTail _ (PySem.Expr.Slice none (some _) none _) (Value.str { cps := List.toArray _ } _) (Value.ref _)) _ _ _); (with_reducible refine' cut_to ?kc6_3 ?kc0_3 ?kc1_3 ?kc2_3 ?kc3_3 ?_ ?kc4_3 ?kc5_3); (case kc6_3 | kc0_3 | kc1_3 => omega); (case kc2_3 | kc3_3 => k_asm); (case kc4_3 => with_unfolding_all rfl); (case kc5_3 => (intro _; with_unfolding_all rfl)); intro _ _ _ _ _)
  k_with "h23_2" => (k_here; (with_reducible show wpAny _ _ (subscriptTail _ (PySem.Expr.Slice none (some _) none _) (Value.str { cps := List.toArray _ } _) (Value.ref _)) _ _ _); (with_reducible refine' cut_to ?kc6_4 ?kc0_4 ?kc1_4 ?kc2_4 ?kc3_4 ?_ ?kc4_4 ?kc5_4); (case kc6_4 | kc0_4 | kc1_4 => omega); (case kc2_4 | kc3_4 => k_asm); (case kc4_4 => with_unfolding_all rfl); (case kc5_4 => (intro _; with_unfolding_all rfl)); intro _ _ _ _ _)
  k_with "h23_2" => (k_here; (with_reducible show wpAny _ _ (subscriptTail _ (PySem.Expr.Slice none (some _) none _) (Value.str { cps := List.toArray _ } _) (Value.ref _)) _ _ _); (with_reducible refine' cut_to ?kc6_5 ?kc0_5 ?kc1_5 ?kc2_5 ?kc3_5 ?_ ?kc4_5 ?kc5_5); (case kc6_5 | kc0_5 | kc1_5 => omega); (case kc2_5 | kc3_5 => k_asm); (case kc4_5 => with_unfolding_all rfl); (case kc5_5 => (intro _; with_unfolding_all rfl)); intro _ _ _ _ _)
  k_with "h23_3" => (k_here; (with_reducible show wpAny _ _ (subscriptTail _ (PySem.Expr.Slice none (some _) none _) (Value.str { cps := List.toArray _ } _) (Value.ref _)) _ _ _); (with_reducible refine' cut_all ?kc1_0 ?kc2_0 ?kc3_0 ?_ ?kc4_0 ?kc5_0); (case kc1_0 => omega); (case kc2_0 | kc3_0 => k_asm); (case kc4_0 => with_unfolding_all rfl); (case kc5_0 => (intro _; with_unfolding_all rfl)); intro _ _ _ _ _)
  k_with "h23_3" => (k_here; (with_reducible show wpAny _ _ (subscriptTail _ (PySem.Expr.Slice none (some _) none _) (Value.str { cps := List.toArray _ } _) (Value.ref _)) _ _ _); (with_reducible refine' cut_all ?kc1_1 ?kc2_1 ?kc3_1 ?_ ?kc4_1 ?kc5_1); (case kc1_1 => omega); (case kc2_1 | kc3_1 => k_asm); (case kc4_1 => with_unfolding_all rfl); (case kc5_1 => (intro _; with_unfolding_all rfl)); intro _ _ _ _ _)
  k_with "h23_3" => (k_here; (with_reducible show wpAny _ _ (subscriptTail _ (PySem.Expr.Slice none (some _) none _) (Value.str { cps := List.toArray _ } _) (Value.ref _)) _ _ _); (with_reducible refine' cut_all ?kc1_2 ?kc2_2 ?kc3_2 ?_ ?kc4_2 ?kc5_2); (case kc1_2 => omega); (case kc2_2 | kc3_2 => k_asm); (case kc4_2 => with_unfolding_all rfl); (case kc5_2 => (intro _; with_unfolding_all rfl)); intro _ _ _ _ _)
  k_with "h23_3" => (k_here; (with_reducible show wpAny _ _ (subscriptTail _ (PySem.Expr.Slice none (some _) none _) (Value.str { cps := List.toArray _ } _) (Value.ref _)) _ _ _); (with_reducible refine' cut_all ?kc1_3 ?kc2_3 ?kc3_3 ?_ ?kc4_3 ?kc5_3); (case kc1_3 => omega); (case kc2_3 | kc3_3 => k_asm); (case kc4_3 => with_unfolding_all rfl); (case kc5_3 => (intro _; with_unfolding_all rfl)); intro _ _ _ _ _)
  k_with "h23_3" => (k_here; (with_reducible show wpAny _ _ (subscriptTail _ (PySem.Expr.Slice none (some _) none _) (Value.str { cps := List.toArray _ } _) (Value.ref _)) _ _ _); (with_reducible refine' cut_all ?kc1_4 ?kc2_4 ?kc3_4 ?_ ?kc4_4 ?kc5_4); (case kc1_4 => omega); (case kc2_4 | kc3_4 => k_asm); (case kc4_4 => with_unfolding_all rfl); (case kc5_4 => (intro _; with_unfolding_all rfl)); intro _ _ _ _ _)
  k_with "h23_3" => (k_here; (with_reducible show wpAny _ _ (subscriptTail _ (PySem.Expr.Slice none (some _) none _) (Value.str { cps := List.toArray _ } _) (Value.ref _)) _ _ _); (with_reducible refine' cut_all ?kc1_5 ?kc2_5 ?kc3_5 ?_ ?kc4_5 ?kc5_5); (case kc1_5 => omega); (case kc2_5 | kc3_5 => k_asm); (case kc4_5 => with_unfolding_all rfl); (case kc5_5 => (intro _; with_unfolding_all rfl)); intro _ _ _ _ _)
  k_with "h23_4" => (k_here; (with_reducible show wpAny _ _ (PySem.truthy (Value.str { cps := List.toArray _ } _)) _ _ _); (refine text_truthy (by first | exact List.length_drop | exact List.length_take | exact rfl) (by omega) ?_); intro _)
  k_with "h23_4" => (k_here; (with_reducible show wpAny _ _ (PySem.truthy (Value.str { cps := List.toArray _ } _)) _ _ _); (refine text_truthy (by first | exact List.length_drop | exact List.length_take | exact rfl) (by omega) ?_); intro _)
  k_with "h23_4" => (k_here; (with_reducible show wpAny _ _ (PySem.truthy (Value.str { cps := List.toArray _ } _)) _ _ _); (refine text_truthy (by first | exact List.length_drop | exact List.length_take | exact rfl) (by omega) ?_); intro _)
  k_with "h23_4" => (k_here; (with_reducible show wpAny _ _ (PySem.truthy (Value.str { cps := List.toArray _ } _)) _ _ _); (refine text_truthy (by first | exact List.length_drop | exact List.length_take | exact rfl) (by omega) ?_); intro _)
  k_with "h23_4" => (k_here; (with_reducible show wpAny _ _ (PySem.truthy (Value.str { cps := List.toArray _ } _)) _ _ _); (refine text_truthy (by first | exact List.length_drop | exact List.length_take | exact rfl) (by omega) ?_); intro _)
  k_with "h23_4" => (k_here; (with_reducible show wpAny _ _ (PySem.truthy (Value.str { cps := List.toArray _ } _)) _ _ _); (refine text_truthy (by first | exact List.length_drop | exact List.length_take | exact rfl) (by omega) ?_); intro _)
  k_with "h23_5" => (k_here; (with_reducible show wpAny _ _ (subscriptTail _ _ (Value.str { cps := List.toArray _ } _) (Value.int _ _)) _ _ _); (with_reducible refine' text_at ?kc0_0 ?kc1_0 ?kc2_0 ?_ ?kc4_0 ?kc5_0); (case kc0_0 | kc1_0 | kc2_0 => omega); (case kc4_0 => with_unfolding_all rfl); (case kc5_0 => (intro _; with_unfolding_all rfl)))
  k_with "h23_5" => (k_here; (with_reducible show wpAny _ _ (subscriptTail _ _ (Value.str { cps := List.toArray _ } _) (Value.int _ _)) _ _ _); (with_reducible refine' text_at ?kc0_1 ?kc1_1 ?kc2_1 ?_ ?kc4_1 ?kc5_1); (case kc0_1 | kc1_1 | kc2_1 => omega); (case kc4_1 => with_unfolding_all rfl); (case kc5_1 => (intro _; with_unfolding_all rfl)))
  k_with "h23_5" => (k_here; (with_reducible show wpAny _ _ (subscriptTail _ _ (Value.str { cps := List.toArray _ } _) (Value.int _ _)) _ _ _); (with_reducible refine' text_at ?kc0_2 ?kc1_2 ?kc2_2 ?_ ?kc4_2 ?kc5_2); (case kc0_2 | kc1_2 | kc2_2 => omega); (case kc4_2 => with_unfolding_all rfl); (case kc5_2 => (intro _; with_unfolding_all rfl)))
  k_with "h23_5" => (k_here; (with_reducible show wpAny _ _ (subscriptTail _ _ (Value.str { cps := List.toArray _ } _) (Value.int _ _)) _ _ _); (with_reducible refine' text_at ?kc0_3 ?kc1_3 ?kc2_3 ?_ ?kc4_3 ?kc5_3); (case kc0_3 | kc1_3 | kc2_3 => omega); (case kc4_3 => with_unfolding_all rfl); (case kc5_3 => (intro _; with_unfolding_all rfl)))
  k_with "h23_5" => (k_here; (with_reducible show wpAny _ _ (subscriptTail _ _ (Value.str { cps := List.toArray _ } _) (Value.int _ _)) _ _ _); (with_reducible refine' text_at ?kc0_4 ?kc1_4 ?kc2_4 ?_ ?kc4_4 ?kc5_4); (case kc0_4 | kc1_4 | kc2_4 => omega); (case kc4_4 => with_unfolding_all rfl); (case kc5_4 => (intro _; with_unfolding_all rfl)))
  k_with "h23_5" => (k_here; (with_reducible show wpAny _ _ (subscriptTail _ _ (Value.str { cps := List.toArray _ } _) (Value.int _ _)) _ _ _); (with_reducible refine' text_at ?kc0_5 ?kc1_5 ?kc2_5 ?_ ?kc4_5 ?kc5_5); (case kc0_5 | kc1_5 | kc2_5 => omega); (case kc4_5 => with_unfolding_all rfl); (case kc5_5 => (intro _; with_unfolding_all rfl)))
  k_with "h23_6" => (k_here; (with_reducible show wpAny _ _ (subscriptTail _ _ (Value.str { cps := List.toArray _ } _) (Value.int _ _)) _ _ _); (with_reducible refine' text_back ?kc0_0 ?kc1_0 ?kc2_0 ?_ ?kc4_0 ?kc5_0); (case kc0_0 | kc1_0 | kc2_0 => omega); (case kc4_0 => with_unfolding_all rfl); (case kc5_0 => (intro _; with_unfolding_all rfl)))
  k_with "h23_6" => (k_here; (with_reducible show wpAny _ _ (subscriptTail _ _ (Value.str { cps := List.toArray _ } _) (Value.int _ _)) _ _ _); (with_reducible refine' text_back ?kc0_1 ?kc1_1 ?kc2_1 ?_ ?kc4_1 ?kc5_1); (case kc0_1 | kc1_1 | kc2_1 => omega); (case kc4_1 => with_unfolding_all rfl); (case kc5_1 => (intro _; with_unfolding_all rfl)))
  k_with "h23_6" => (k_here; (with_reducible show wpAny _ _ (subscriptTail _ _ (Value.str { cps := List.toArray _ } _) (Value.int _ _)) _ _ _); (with_reducible refine' text_back ?kc0_2 ?kc1_2 ?kc2_2 ?_ ?kc4_2 ?kc5_2); (case kc0_2 | kc1_2 | kc2_2 => omega); (case kc4_2 => with_unfolding_all rfl); (case kc5_2 => (intro _; with_unfolding_all rfl)))
  k_with "h23_6" => (k_here; (with_reducible show wpAny _ _ (subscriptTail _ _ (Value.str { cps := List.toArray _ } _) (Value.int _ _)) _ _ _); (with_reducible refine' text_back ?kc0_3 ?kc1_3 ?kc2_3 ?_ ?kc4_3 ?kc5_3); (case kc0_3 | kc1_3 | kc2_3 => omega); (case kc4_3 => with_unfolding_all rfl); (case kc5_3 => (intro _; with_unfolding_all rfl)))
  k_with "h23_6" => (k_here; (with_reducible show wpAny _ _ (subscriptTail _ _ (Value.str { cps := List.toArray _ } _) (Value.int _ _)) _ _ _); (with_reducible refine' text_back ?kc0_4 ?kc1_4 ?kc2_4 ?_ ?kc4_4 ?kc5_4); (case kc0_4 | kc1_4 | kc2_4 => omega); (case kc4_4 => with_unfolding_all rfl); (case kc5_4 => (intro _; with_unfolding_all rfl)))
  k_with "h23_6" => (k_here; (with_reducible show wpAny _ _ (subscriptTail _ _ (Value.str { cps := List.toArray _ } _) (Value.int _ _)) _ _ _); (with_reducible refine' text_back ?kc0_5 ?kc1_5 ?kc2_5 ?_ ?kc4_5 ?kc5_5); (case kc0_5 | kc1_5 | kc2_5 => omega); (case kc4_5 => with_unfolding_all rfl); (case kc5_5 => (intro _; with_unfolding_all rfl)))
  k_with "h23_7" => (k_here; (with_reducible show wpAny _ _ (call (Value.builtin "len") [Value.str { cps := List.toArray _ } _]) _ _ _); (refine text_len (by first | exact List.length_drop | exact List.length_take | exact rfl) (by omega) ?_); intro _ _)
  k_with "h23_7" => (k_here; (with_reducible show wpAny _ _ (call (Value.builtin "len") [Value.str { cps := List.toArray _ } _]) _ _ _); (refine text_len (by first | exact List.length_drop | exact List.length_take | exact rfl) (by omega) ?_); intro _ _)
  k_with "h23_7" => (k_here; (with_reducible show wpAny _ _ (call (Value.builtin "len") [Value.str { cps := List.toArray _ } _]) _ _ _); (refine text_len (by first | exact List.length_drop | exact List.length_take | exact rfl) (by omega) ?_); intro _ _)
  k_with "h23_7" => (k_here; (with_reducible show wpAny _ _ (call (Value.builtin "len") [Value.str { cps := List.toArray _ } _]) _ _ _); (refine text_len (by first | exact List.length_drop | exact List.length_take | exact rfl) (by omega) ?_); intro _ _)
  k_with "h23_7" => (k_here; (with_reducible show wpAny _ _ (call (Value.builtin "len") [Value.str { cps := List.toArray _ } _]) _ _ _); (refine text_len (by first | exact List.length_drop | exact List.length_take | exact rfl) (by omega) ?_); intro _ _)
  k_with "h23_7" => (k_here; (with_reducible show wpAny _ _ (call (Value.builtin "len") [Value.str { cps := List.toArray _ } _]) _ _ _); (refine text_len (by first | exact List.length_drop | exact List.length_take | exact rfl) (by omega) ?_); intro _ _)
  k_with "h23_8" => (k_here; (with_reducible show wpAny _ _ (call (Value.type _) [Value.ref _]) _ _ _); (rename IsRange _ _ _ _ _ _ _ _ => rgX_0); (with_unfolding_all refine' list_range2 ?k6_0 ?k0_0 ?k1_0 ?k2_0 ?k3_0 ?_; (case k3_0 => exact rgX_0); (case k6_0 => omega); (case k0_0 => rfl); (case k1_0 | k2_0 => k_asm)); intro _ _ _ _ _ _ _ _ _)
  k_with "h23_8" => (k_here; (with_reducible show wpAny _ _ (call (Value.type _) [Value.ref _]) _ _ _); (rename IsRange _ _ _ _ _ _ _ _ => rgX_1); (with_unfolding_all refine' list_range2 ?k6_1 ?k0_1 ?k1_1 ?k2_1 ?k3_1 ?_; (case k3_1 => exact rgX_1); (case k6_1 => omega); (case k0_1 => rfl); (case k1_1 | k2_1 => k_asm)); intro _ _ _ _ _ _ _ _ _)
  k_with "h23_8" => (k_here; (with_reducible show wpAny _ _ (call (Value.type _) [Value.ref _]) _ _ _); (rename IsRange _ _ _ _ _ _ _ _ => rgX_2); (with_unfolding_all refine' list_range2 ?k6_2 ?k0_2 ?k1_2 ?k2_2 ?k3_2 ?_; (case k3_2 => exact rgX_2); (case k6_2 => omega); (case k0_2 => rfl); (case k1_2 | k2_2 => k_asm)); intro _ _ _ _ _ _ _ _ _)
  k_with "h23_8" => (k_here; (with_reducible show wpAny _ _ (call (Value.type _) [Value.ref _]) _ _ _); (rename IsRange _ _ _ _ _ _ _ _ => rgX_3); (with_unfolding_all refine' list_range2 ?k6_3 ?k0_3 ?k1_3 ?k2_3 ?k3_3 ?_; (case k3_3 => exact rgX_3); (case k6_3 => omega); (case k0_3 => rfl); (case k1_3 | k2_3 => k_asm)); intro _ _ _ _ _ _ _ _ _)
  k_with "h23_8" => (k_here; (with_reducible show wpAny _ _ (call (Value.type _) [Value.ref _]) _ _ _); (rename IsRange _ _ _ _ _ _ _ _ => rgX_4); (with_unfolding_all refine' list_range2 ?k6_4 ?k0_4 ?k1_4 ?k2_4 ?k3_4 ?_; (case k3_4 => exact rgX_4); (case k6_4 => omega); (case k0_4 => rfl); (case k1_4 | k2_4 => k_asm)); intro _ _ _ _ _ _ _ _ _)
  k_with "h23_8" => (k_here; (with_reducible show wpAny _ _ (call (Value.type _) [Value.ref _]) _ _ _); (rename IsRange _ _ _ _ _ _ _ _ => rgX_5); (with_unfolding_all refine' list_range2 ?k6_5 ?k0_5 ?k1_5 ?k2_5 ?k3_5 ?_; (case k3_5 => exact rgX_5); (case k6_5 => omega); (case k0_5 => rfl); (case k1_5 | k2_5 => k_asm)); intro _ _ _ _ _ _ _ _ _)
  k_with "h23_9" => ((with_reducible show wpAny _ _ (call (Value.ref 105) _) _ _ _); refine hold ?_)
  k_with "h23_10" => ((rename MarkS 6 => hM9_0); (with_reducible show wpAny _ _ (execs (Stmt.If (PySem.Expr.BoolOp _ _ _) _ _ _ :: _) _) _ _ _); clear hM9_0; refine hold ?_)
  k_with "h23_10" => ((rename MarkS 6 => hM9_1); (with_reducible show wpAny _ _ (execs (Stmt.If (PySem.Expr.BoolOp _ _ _) _ _ _ :: _) _) _ _ _); clear hM9_1; refine hold ?_)
  k_with "h23_10" => ((rename MarkS 6 => hM9_2); (with_reducible show wpAny _ _ (execs (Stmt.If (PySem.Expr.BoolOp _ _ _) _ _ _ :: _) _) _ _ _); clear hM9_2; refine hold ?_)
  k_with "h23_10" => ((rename MarkS 6 => hM9_3); (with_reducible show wpAny _ _ (execs (Stmt.If (PySem.Expr.BoolOp _ _ _) _ _ _ :: _) _) _ _ _); clear hM9_3; refine hold ?_)
  k_with "h23_10" => ((rename MarkS 6 => hM9_4); (with_reducible show wpAny _ _ (execs (Stmt.If (PySem.Expr.BoolOp _ _ _) _ _ _ :: _) _) _ _ _); clear hM9_4; refine hold ?_)
  k_with "h23_10" => ((rename MarkS 6 => hM9_5); (with_reducible show wpAny _ _ (execs (Stmt.If (PySem.Expr.BoolOp _ _ _) _ _ _ :: _) _) _ _ _); clear hM9_5; refine hold ?_)
  k_with "h23_11" => ((rename MarkS 7 => hM9_0); (with_reducible show wpAny _ _ (execs (Stmt.Assign [PySem.Expr.Name _ _] (PySem.Expr.Call _ _ _ _) _ :: _) _) _ _ _); clear hM9_0; refine hold ?_)
  k_with "h23_11" => ((rename MarkS 7 => hM9_1); (with_reducible show wpAny _ _ (execs (Stmt.Assign [PySem.Expr.Name _ _] (PySem.Expr.Call _ _ _ _) _ :: _) _) _ _ _); clear hM9_1; refine hold ?_)
  k_with "h23_11" => ((rename MarkS 7 => hM9_2); (with_reducible show wpAny _ _ (execs (Stmt.Assign [PySem.Expr.Name _ _] (PySem.Expr.Call _ _ _ _) _ :: _) _) _ _ _); clear hM9_2; refine hold ?_)
  k_with "h23_11" => ((rename MarkS 7 => hM9_3); (with_reducible show wpAny _ _ (execs (Stmt.Assign [PySem.Expr.Name _ _] (PySem.Expr.Call _ _ _ _) _ :: _) _) _ _ _); clear hM9_3; refine hold ?_)
  k_with "h23_11" => ((rename MarkS 7 => hM9_4); (with_reducible show wpAny _ _ (execs (Stmt.Assign [PySem.Expr.Name _ _] (PySem.Expr.Call _ _ _ _) _ :: _) _) _ _ _); clear hM9_4; refine hold ?_)
  k_with "h23_11" => ((rename MarkS 7 => hM9_5); (with_reducible show wpAny _ _ (execs (Stmt.Assign [PySem.Expr.Name _ _] (PySem.Expr.Call _ _ _ _) _ :: _) _) _ _ _); clear hM9_5; refine hold ?_)
  trivial
section
example : True := by
  w_top off
  trivial
local macro_rules | `(tactic| walk_at "pad 0") => `(tactic| skip)
local macro_rules | `(tactic| walk_at "pad 1") => `(tactic| skip)
-- lev
local macro_rules | `(tactic| walk_at "pyIter ref") => `(tactic| k_extra "h23_0")
local macro_rules | `(tactic| walk_at "exec While") => `(tactic| (refine hold ?_))
local macro_rules | `(tactic| walk_at "exec While BoolOp") => `(tactic| (refine hold ?_))
local macro_rules | `(tactic| walk_at "exec While BoolOp cons nil") => `(tactic| (refine hold ?_))
local macro_rules | `(tactic| walk_at "subscriptTail Name Slice str ref") => `(tactic| k_extra "h23_1")
local macro_rules | `(tactic| walk_at "subscriptTail Name Slice str ref") => `(tactic| k_extra "h23_2")
local macro_rules | `(tactic| walk_at "subscriptTail Name Slice str ref") => `(tactic| k_extra "h23_3")
local macro_rules | `(tactic| walk_at "truthy str") => `(tactic| k_extra "h23_4")
local macro_rules | `(tactic| walk_at "subscriptTail Name Name str int") => `(tactic| k_extra "h23_5")
local macro_rules | `(tactic| walk_at "subscriptTail Name BinOp str int") => `(tactic| k_extra "h23_6")
local macro_rules | `(tactic| walk_at "call builtin:len") => `(tactic| k_extra "h23_7")
local macro_rules | `(tactic| walk_at "call type:list") => `(tactic| k_extra "h23_8")
local macro_rules | `(tactic| walk_at "call ref") => `(tactic| k_extra "h23_9")
theorem row_name {h₀ h : Heap} {L D : Addr} {c : Nat} {us : List Value} {r : List (Addr × Obj)} (_ : News h₀ L h ((D, listOf us.toArray c) :: r)) : ∃ D' c' us', D' = D ∧ c' = c ∧ us' = us := ⟨D, c, us, rfl, rfl, rfl⟩
theorem size_nat (n : Nat) : Builtin.Range.rangeSize 0 (n : Int) 1 = (n : Int) := by
  unfold Builtin.Range.rangeSize
  rw [if_pos (by decide)]
  split
  · rw [Int.ediv_one]; omega
  · omega
noncomputable def levS : Stmt := PySem.Challenge.pw_tc0016_01.main.body.getD 20 (.Pass ⟨0, 0, 0, 0⟩)
theorem frm3 {m : Str → Option Value} {a b c : Str} {x y z : Value} (h1 : m a = some x) (h2 : m b = some y) (h3 : m c = some z) : (fun k => if k = a then some x else if k = b then some y else if k = c then some z else m k) = m := by
  funext k
  by_cases e1 : k = a
  · rw [if_pos e1, e1, h1]
  · rw [if_neg e1]
    by_cases e2 : k = b
    · rw [if_pos e2, e2, h2]
    · rw [if_neg e2]
      by_cases e3 : k = c
      · rw [if_pos e3, e3, h3]
      · rw [if_neg e3]
theorem drop_moreS {α : Type} {l r : List α} {k : Nat} (j : Nat) (h : l.drop k = r) : l.drop (k + j) = r.drop j := by
  rw [← h, List.drop_drop]
local macro_rules | `(tactic| walk_at "execs cons") => `(tactic| k_extra "h23_10")
local macro_rules | `(tactic| walk_at "execs cons") => `(tactic| k_extra "h23_11")
set_option maxRecDepth 100000 in
set_option maxHeartbeats 4000000 in
theorem lev_t2 {w : World} {dp : Nat} {un : Nat} {gd : Option (List Code)} {cn : Str} {cs : Scope} {a : Addr} {ccd : Value} {cl : List (Str × Addr)} {outer : List Env} {base : Heap} {L : Addr} {m : Str → Option Value} {p : Program} {loose : List Str} {mean : ExcName → Option Value} {mg : Str → Option Value} {mb : Str → Option Value} {news : List (Addr × Obj)} {s : Shared} {E : Value → Shared → Prop} {g : Heap} {L' : Addr} {cd : Value} {sa sb : List Nat} {mx : Int} {sc : Scope} {bd : List Stmt} {Qf : Flow → Shared → Prop} (hsc : fnScope levS = sc) (hbd : (fnBody levS).drop 13 = bd) (B : Below (ktrTop dp un gd cn cs L a ccd cl outer) base (envX cn cs L a ccd cl :: outer) g) (KX : (kk w.params).In g) (T : Top p loose mean mg mb g) (hk : cs.kind = .function) (hdp : dp + 8 < recursionLimit) (hun : un + 80 < cLine) (hE : PassesOwn (model PySem.Challenge.rw_tc0016_01.row.prog w) ((ktrTop dp un gd cn cs L a ccd cl outer).deeper (envOf "_levenshtein_distance" sc L' 112 cd)) (envOf "_levenshtein_distance" sc L' 112 cd) E) (F0 : Fr g L' s.heap m) (hb : ∃ t, m "b" = some (.str ⟨sb.toArray⟩ t)) (ha : ∃ t, m "a" = some (.str ⟨sa.toArray⟩ t)) (hm : ∃ t, m "max_cost" = some (.int mx t)) (N1 : News g L' s.heap news) (hsa : sa.length ≤ 5) (hsb : sb.length ≤ 5) (h0 : sa.length ≠ 0) (ret : ∀ m' t h' tk', Fr g L' h' m' → News g L' h' news → Qf (.ret (.int (lvOut (fun i k => scost (sb.getD i 0) (sa.getD k 0)) sa.length sb.length mx) t)) { s with heap := h', toks := tk' }) :
   wpAny (model PySem.Challenge.rw_tc0016_01.row.prog w) ((ktrTop dp un gd cn cs L a ccd cl outer).deeper (envOf "_levenshtein_distance" sc L' 112 cd)) (execs bd (envOf "_levenshtein_distance" sc L' 112 cd)) Qf E s := by
  obtain ⟨tb, hb⟩ := hb
  obtain ⟨ta, ha⟩ := ha
  obtain ⟨tm, hm⟩ := hm
  rw [← frm3 hb ha hm] at F0
  clear hb ha hm
  have hsc0 := hsc
  have hbd0 := hbd
  conv at hsc => lhs; whnf
  conv at hbd => lhs; whnf
  subst hsc hbd
  k_steps
  refine Hold.out ?_
  rename IsRange _ _ _ (sb.length : Int) _ _ _ _ => lR
  rename IntsAre _ (row0 _) => lI
  rename Fr _ _ _ _ => lF
  rename News _ _ _ _ => lN
  have lz : sa.length ≤ 5 ∧ sb.length ≤ 5 := by omega
  rename (∀ p ∈ (_ : List (Addr × Obj)), p.1 < _) => lA
  have lD := allLt_of (show ∀ p ∈ news, p.1 < _ from fun p hp => lA p (by simp only [List.mem_cons, hp, or_true]))
  replace lN := news_sub lN (news := (_, listOf _ _) :: news) (List.forall_mem_cons.mpr ⟨.head _, fun p hp => by simp only [List.mem_cons, hp, or_true]⟩)
  obtain ⟨rD, rc, rus, hD, hc, hu⟩ := row_name lN
  subst hD hc hu
  k_dflt (refine' for_count (ε := Tok × List Value) (n := sb.length) (fun i e => IntsAre e.2 (lvState (fun i k => scost (sb.getD i 0) (sa.getD k 0)) sa.length i).2 ∧ ∀ j, j < i → lvMin (fun i k => scost (sb.getD i 0) (sa.getD k 0)) sa.length j ≤ mx) (fun i e => [(Str.ofString "result", .int (lvState (fun i k => scost (sb.getD i 0) (sa.getD k 0)) sa.length i).1 e.1)]) (fun _ e => (rD, listOf (List.toArray e.2) rc) :: news) ["bindex", "bchar", "distance", "minimum", "index", "substitute", "insert_delete"] (_, _) (by rfl) lR ?small ?size lF lN ⟨lI, fun j hj => absurd hj (Nat.not_lt_zero j)⟩ ?hfx2 (fun _ _ => rfl) ?turn2 ?done2)
  case small => exact small_one (by decide) (by decide) (by omega) (by omega)
  case size => exact size_nat _
  case hfx2 => exact List.forall_mem_cons.mpr ⟨by rfl, List.forall_mem_nil _⟩
  case done2 =>
    intro e u h tk hP F1 N1
    rw [lvOut_end hP.2] at ret
    dsimp only at F1 N1 ⊢
    k_steps
    exact ret _ _ _ _ (by k_asm) (by exact news_sub (news' := _ :: news) (by k_asm) (fun _ hp => .tail _ hp))
  case turn2 =>
    intro i t e u I it h tk hi hP lI2 F1 N1
    have hlm : lvMin (fun i k => scost (sb.getD i 0) (sa.getD k 0)) sa.length i = (lvCells (fun k => scost (sb.getD i 0) (sa.getD k 0)) i (lvState (fun i k => scost (sb.getD i 0) (sa.getD k 0)) sa.length i).2 sa.length).2.2.1 := rfl
    have hls : lvState (fun i k => scost (sb.getD i 0) (sa.getD k 0)) sa.length (i + 1) = ((lvCells (fun k => scost (sb.getD i 0) (sa.getD k 0)) i (lvState (fun i k => scost (sb.getD i 0) (sa.getD k 0)) sa.length i).2 sa.length).2.1, (lvCells (fun k => scost (sb.getD i 0) (sa.getD k 0)) i (lvState (fun i k => scost (sb.getD i 0) (sa.getD k 0)) sa.length i).2 sa.length).2.2.2) := rfl
    rw [hls]
    dsimp only at F1 N1 hP lI2 ⊢
    rw [Int.zero_add] at F1
    replace lI2 := allLt_of lI2
    simp only [AllLt] at lI2
    obtain ⟨lI2a, lI2b⟩ := lI2
    k_steps
    refine Hold.out ?_
    rename IsRange _ _ _ _ _ _ _ _ => lR2
    rename Fr _ _ _ _ => lF2
    rename News _ _ _ _ => lN2
    have hrl := lvState_len (fun i k => scost (sb.getD i 0) (sa.getD k 0)) sa.length i
    generalize (lvState (fun i k => scost (sb.getD i 0) (sa.getD k 0)) sa.length i).2 = row at *
    k_dflt (refine' for_count (ε := List Value × Tok × Tok × Tok) (n := sa.length) (fun j e => IntsAre e.1 (lvCells (fun k => scost (sb.getD i 0) (sa.getD k 0)) i row j).2.2.2) (fun j e => [(Str.ofString "distance", .int (lvCells (fun k => scost (sb.getD i 0) (sa.getD k 0)) i row j).1 e.2.1), (Str.ofString "result", .int (lvCells (fun k => scost (sb.getD i 0) (sa.getD k 0)) i row j).2.1 e.2.2.1), (Str.ofString "minimum", .int (lvCells (fun k => scost (sb.getD i 0) (sa.getD k 0)) i row j).2.2.1 e.2.2.2)]) (fun _ e => (I, it) :: (rD, listOf (List.toArray e.1) rc) :: news) ["index", "substitute", "insert_delete"] (e.2, _, _, _) (by rfl) lR2 ?small ?size lF2 lN2 hP.1 ?hfx3 (fun _ _ => rfl) ?turn3 ?done3)
    case small => exact small_one (by decide) (by decide) (by omega) (by omega)
    case size => exact size_nat _
    case hfx3 => exact List.forall_mem_cons.mpr ⟨by rfl, List.forall_mem_cons.mpr ⟨by rfl, List.forall_mem_cons.mpr ⟨by rfl, List.forall_mem_nil _⟩⟩⟩
    case turn3 =>
      clear lF2 lN2 lR2
      intro j t2 e2 u2 I2 it2 h2 tk2 hj hP2 lI3 F2 N2
      have hcl : (lvCells (fun k => scost (sb.getD i 0) (sa.getD k 0)) i row j).2.2.2.length = sa.length := by rw [lvCells_len, hrl]
      have hst1 : lvCells (fun k => scost (sb.getD i 0) (sa.getD k 0)) i row (j + 1) = lvTurn (fun k => scost (sb.getD i 0) (sa.getD k 0)) (lvCells (fun k => scost (sb.getD i 0) (sa.getD k 0)) i row j) j := rfl
      rw [hst1]
      dsimp only at F2 N2 hP2 lI3 ⊢
      rw [Int.zero_add] at F2
      replace lI3 := allLt_of lI3
      simp only [AllLt] at lI3
      obtain ⟨lI3a, lI3b, lI3c⟩ := lI3
      generalize lvCells (fun k => scost (sb.getD i 0) (sa.getD k 0)) i row j = cell at F2 N2 hP2 hcl ⊢
      k_steps
      refine Hold.out ?_
      k_dflt (refine' c_subc ?k1 ?k2 ?k3 ?k5 ?kK ?kd ?ku ?kN ?_; (case k1 => k_asm); (case k2 => k_asm); (case k3 => k_asm); (case k5 => k_asm); (case kK => exact rfl); (case kd => ktr_room); (case ku => ktr_units); (case kN => k_asm))
      intro t3 h3 tk3 F3 N3
      k_steps
      · rename (_ < cell.2.2.1) => hlt
        have hm : (lvTurn (fun k => scost (sb.getD i 0) (sa.getD k 0)) cell j).2.2.1 = (lvTurn (fun k => scost (sb.getD i 0) (sa.getD k 0)) cell j).2.1 := if_pos hlt
        rw [hm]
        exact LoopEnd.next (_, _, _, _) (by assumption) (by assumption) (by assumption) (List.forall_mem_cons.mpr ⟨by rfl, List.forall_mem_cons.mpr ⟨by rfl, List.forall_mem_cons.mpr ⟨by rfl, List.forall_mem_nil _⟩⟩⟩) (by walk_at "fr rest") (fun _ hp => .tail _ hp) (List.forall_mem_cons.mpr ⟨.head _, List.forall_mem_nil _⟩)
      · rename ¬(_ < cell.2.2.1) => hlt
        have hm : (lvTurn (fun k => scost (sb.getD i 0) (sa.getD k 0)) cell j).2.2.1 = cell.2.2.1 := if_neg hlt
        rw [hm]
        exact LoopEnd.next (_, _, _, _) (by assumption) (by assumption) (by assumption) (List.forall_mem_cons.mpr ⟨by rfl, List.forall_mem_cons.mpr ⟨by rfl, List.forall_mem_cons.mpr ⟨by rfl, List.forall_mem_nil _⟩⟩⟩) (by walk_at "fr rest") (fun _ hp => .tail _ hp) (List.forall_mem_cons.mpr ⟨.head _, List.forall_mem_nil _⟩)
    case done3 =>
      clear lF2 lN2 lR2
      intro e2 u2 h2 tk2 hP2 F2 N2
      dsimp only at F2 N2 hP2 ⊢
      k_steps
      · rename mx < _ => hlt
        rw [lvOut_early hi (by rw [hlm]; exact hlt)] at ret
        dsimp only [LoopEnd]
        k_steps
        exact ret _ _ _ _ (by k_asm) (by exact news_sub (news' := _ :: _ :: news) (by k_asm) (fun _ hp => .tail _ (.tail _ hp)))
      · rename ¬ (mx < _) => hlt
        exact LoopEnd.next (_, _) ⟨hP2, fun j hj => (Nat.lt_succ_iff_lt_or_eq.mp hj).elim (hP.2 j) fun ej => by rw [ej, hlm]; exact Int.not_lt.mp hlt⟩ (by assumption) (by assumption) (List.forall_mem_cons.mpr ⟨by rfl, List.forall_mem_nil _⟩) (by walk_at "fr rest") (fun _ hp => .tail _ hp) (List.forall_mem_cons.mpr ⟨.head _, List.forall_mem_nil _⟩)
set_option maxRecDepth 100000 in
set_option maxHeartbeats 4000000 in
theorem lev_t1 {w : World} {dp : Nat} {un : Nat} {gd : Option (List Code)} {cn : Str} {cs : Scope} {a : Addr} {ccd : Value} {cl : List (Str × Addr)} {outer : List Env} {base : Heap} {L : Addr} {m : Str → Option Value} {p : Program} {loose : List Str} {mean : ExcName → Option Value} {mg : Str → Option Value} {mb : Str → Option Value} {news : List (Addr × Obj)} {s : Shared} {E : Value → Shared → Prop} {g : Heap} {L' : Addr} {cd : Value} {sa sb : List Nat} {mx : Int} {sc : Scope} {bd : List Stmt} {Qf : Flow → Shared → Prop} (hsc : fnScope levS = sc) (hbd : (fnBody levS).drop 9 = bd) (B : Below (ktrTop dp un gd cn cs L a ccd cl outer) base (envX cn cs L a ccd cl :: outer) g) (KX : (kk w.params).In g) (T : Top p loose mean mg mb g) (hk : cs.kind = .function) (hdp : dp + 8 < recursionLimit) (hun : un + 80 < cLine) (hE : PassesOwn (model PySem.Challenge.rw_tc0016_01.row.prog w) ((ktrTop dp un gd cn cs L a ccd cl outer).deeper (envOf "_levenshtein_distance" sc L' 112 cd)) (envOf "_levenshtein_distance" sc L' 112 cd) E) (F0 : Fr g L' s.heap m) (hb : ∃ t, m "b" = some (.str ⟨sb.toArray⟩ t)) (ha : ∃ t, m "a" = some (.str ⟨sa.toArray⟩ t)) (hm : ∃ t, m "max_cost" = some (.int mx t)) (N1 : News g L' s.heap news) (hsa : sa.length ≤ 5) (hsb : sb.length ≤ 5) (ret : ∀ m' t h' tk', Fr g L' h' m' → News g L' h' news → Qf (.ret (.int (levB scost sa sb mx) t)) { s with heap := h', toks := tk' }) :
   wpAny (model PySem.Challenge.rw_tc0016_01.row.prog w) ((ktrTop dp un gd cn cs L a ccd cl outer).deeper (envOf "_levenshtein_distance" sc L' 112 cd)) (execs bd (envOf "_levenshtein_distance" sc L' 112 cd)) Qf E s := by
  obtain ⟨tb, hb⟩ := hb
  obtain ⟨ta, ha⟩ := ha
  obtain ⟨tm, hm⟩ := hm
  rw [← frm3 hb ha hm] at F0
  clear hb ha hm
  have hsc0 := hsc
  have hbd0 := hbd
  conv at hsc => lhs; whnf
  conv at hbd => lhs; whnf
  subst hsc hbd
  have hmark7 := MarkS.mk 7
  k_steps
  · rw [show levB scost sa sb mx = mx + 1 by unfold levB levC; rw [if_neg (by omega), if_pos (by omega), if_pos (by omega)]] at ret
    exact ret _ _ _ _ (by k_asm) (by first | k_asm | exact news_sub (news' := _ :: news) (by k_asm) (fun _ hp => .tail _ hp))
  · refine Hold.out ?_
    rw [show levB scost sa sb mx = lvOut (fun i k => scost (sa.getD i 0) (sb.getD k 0)) sb.length sa.length mx by unfold levB levC; rw [if_neg (by omega), if_pos (by omega), if_neg (by omega)]] at ret
    k_dflt (refine' lev_t2 (news := news) (sa := sb) (sb := sa) hsc0 (drop_moreS 4 hbd0) B KX T hk hdp hun hE ?kF ?kb ?ka ?km ?kN ?ksa ?ksb ?k0 ?kret; (case kF => k_asm); (case kb => exact ⟨_, rfl⟩); (case ka => exact ⟨_, rfl⟩); (case km => exact ⟨_, rfl⟩); (case kN => first | k_asm | exact news_sub (news' := _ :: news) (by k_asm) (fun _ hp => .tail _ hp)); (case k0 => omega); (case ksa => omega); (case ksb => omega))
    case kret => exact fun m9 t9 h9 tk9 F9 N9 => ret m9 t9 h9 tk9 F9 N9
  · rw [show levB scost sa sb mx = mx + 1 by unfold levB levC; rw [if_neg (by omega), if_neg (by omega), if_pos (by omega)]] at ret
    exact ret _ _ _ _ (by k_asm) (by first | k_asm | exact news_sub (news' := _ :: news) (by k_asm) (fun _ hp => .tail _ hp))
  · refine Hold.out ?_
    rw [show levB scost sa sb mx = lvOut (fun i k => scost (sb.getD i 0) (sa.getD k 0)) sa.length sb.length mx by unfold levB levC; rw [if_neg (by omega), if_neg (by omega), if_neg (by omega)]] at ret
    k_dflt (refine' lev_t2 (news := news) (sa := sa) (sb := sb) hsc0 (drop_moreS 4 hbd0) B KX T hk hdp hun hE ?kF ?kb ?ka ?km ?kN ?ksa ?ksb ?k0 ?kret; (case kF => k_asm); (case kb => exact ⟨_, rfl⟩); (case ka => exact ⟨_, rfl⟩); (case km => exact ⟨_, rfl⟩); (case kN => first | k_asm | exact news_sub (news' := _ :: news) (by k_asm) (fun _ hp => .tail _ hp)); (case k0 => omega); (case ksa => omega); (case ksb => omega))
    case kret => exact fun m9 t9 h9 tk9 F9 N9 => ret m9 t9 h9 tk9 F9 N9
  all_goals
    rw [show levB scost sa sb mx = 2 * ((sa.length : Int) + sb.length) from if_pos (by omega)] at ret
    exact ret _ _ _ _ (by k_asm) (by first | k_asm | exact news_sub (news' := _ :: news) (by k_asm) (fun _ hp => .tail _ hp))
set_option maxRecDepth 100000 in
set_option maxHeartbeats 4000000 in
theorem c_lev {w : World} {dp : Nat} {un : Nat} {gd : Option (List Code)} {cn : Str} {cs : Scope} {a : Addr} {ccd : Value} {cl : List (Str × Addr)} {outer : List Env} {A₀ : Around} {base : Heap} {h₀ : Heap} {L : Addr} {m : Str → Option Value} {p : Program} {loose : List Str} {mean : ExcName → Option Value} {mg : Str → Option Value} {mb : Str → Option Value} {news : List (Addr × Obj)} {s : Shared} {Q : Value → Shared → Prop} {E : Value → Shared → Prop} {x y : List Nat} {mx : Int} {tx ty tm : Tok} (B : Below A₀ base outer h₀) (F : Fr h₀ L s.heap m) (KX : (kk w.params).In h₀) (T : Top p loose mean mg mb h₀) (hk : cs.kind = .function) (hdp : dp + 8 < recursionLimit) (hun : un + 80 < cLine) (N : News h₀ L s.heap news) (hx : x.length ≤ 5) (hy : y.length ≤ 5) (ret : ∀ t h' tk', Fr h₀ L h' m → News h₀ L h' news → Q (.int (lev scost x y mx) t) { s with heap := h', toks := tk' }) :
   wpAny (model PySem.Challenge.rw_tc0016_01.row.prog w) (ktrTop dp un gd cn cs L a ccd cl outer) (call (.ref 112) [.str ⟨x.toArray⟩ tx, .str ⟨y.toArray⟩ ty, .int mx tm]) Q E s := by
  walk_at "my enter"
  k_steps
  · rename (_ == _) = true => e1
    rw [← lev_same (g := scost) (mx := mx) e1]
    exact ret _ _ _ (by k_asm) (by k_asm)
  refine Hold.out ?_
  refine whl_start 0 ?_
  rename (_ == _) = false => e1
  rw [lev_else e1] at ret
  clear e1
  have hl0 := lcp_le (· == ·) x y
  k_dflt (refine' while_count (ε := Tok) (lcp (· == ·) x y) (fun _ _ => True) (fun i t => [(Str.ofString "pre", .int i t)]) [] ?e0 ?hE ?k1 ?k2 trivial ?hfx ?turn ?done; (case hE => first | passes_own | with_unfolding_all passes_own); (case k1 => k_asm); (case k2 => k_asm))
  case hfx => exact List.forall_mem_cons.mpr ⟨by rfl, List.forall_mem_nil _⟩
  case turn =>
    intro i e u h tk hi _ F1 N1
    dsimp only at F1 N1 ⊢
    k_steps
    · exact LoopEnd.next _ ⟨pre_go hi (by omega) (by omega) (by assumption), trivial⟩ (by assumption) (by assumption) (List.forall_mem_cons.mpr ⟨rfl, List.forall_mem_nil _⟩) (by walk_at "fr rest") (fun _ h => h) (List.forall_mem_nil _)
    · exact CountEnd.next _ ⟨pre_stop hi (by omega) (by omega) (by assumption), trivial⟩ (by assumption) (by assumption) (List.forall_mem_cons.mpr ⟨rfl, List.forall_mem_nil _⟩) (by walk_at "fr rest") (fun _ h => h)
    · exact CountEnd.next _ ⟨by omega, trivial⟩ (by assumption) (by assumption) (List.forall_mem_cons.mpr ⟨rfl, List.forall_mem_nil _⟩) (by walk_at "fr rest") (fun _ h => h)
    · exact CountEnd.next _ ⟨by omega, trivial⟩ (by assumption) (by assumption) (List.forall_mem_cons.mpr ⟨rfl, List.forall_mem_nil _⟩) (by walk_at "fr rest") (fun _ h => h)
  case done =>
    intro e u h tk _ F1 N1
    dsimp only at F1 N1 ⊢
    generalize lcp (fun (a b : Nat) => a == b) x y = n at *
    k_steps
    refine Hold.out ?_
    refine whl_start 0 ?_
    have hx1 : (x.drop n).length ≤ 5 := by rw [List.length_drop]; omega
    have hy1 : (y.drop n).length ≤ 5 := by rw [List.length_drop]; omega
    generalize x.drop n = x1 at *
    generalize y.drop n = y1 at *
    have hl1 := lcp_le (· == ·) x1.reverse y1.reverse
    rw [List.length_reverse, List.length_reverse] at hl1
    k_dflt (refine' while_count (ε := Tok) (lcp (· == ·) x1.reverse y1.reverse) (fun _ _ => True) (fun i t => [(Str.ofString "post", .int (-(i : Int)) t)]) [] _ ?hE ?k1 ?k2 trivial ?hfx ?turn ?done; (case hE => first | passes_own | with_unfolding_all passes_own); (case k1 => k_asm); (case k2 => k_asm))
    case hfx =>
      intro q hq
      rw [List.mem_singleton] at hq
      subst hq
      dsimp only
      exact if_pos rfl
    case turn =>
      intro i e u h tk hi _ F1 N1
      dsimp only at F1 N1 ⊢
      k_steps
      all_goals first
        | exact LoopEnd.next _ ⟨post_go hi (by omega) (by omega) (by assumption), trivial⟩ (by assumption) (by assumption) (List.forall_mem_cons.mpr ⟨negs_val rfl, List.forall_mem_nil _⟩) (by walk_at "fr rest") (fun _ h => h) (List.forall_mem_nil _)
        | exact CountEnd.next _ ⟨post_stop hi (by omega) (by omega) (by assumption), trivial⟩ (by assumption) (by assumption) (List.forall_mem_cons.mpr ⟨rfl, List.forall_mem_nil _⟩) (by walk_at "fr rest") (fun _ h => h)
        | exact CountEnd.next _ ⟨by omega, trivial⟩ (by assumption) (by assumption) (List.forall_mem_cons.mpr ⟨rfl, List.forall_mem_nil _⟩) (by walk_at "fr rest") (fun _ h => h)
        | (exfalso; omega)
    case done =>
      intro e u h tk _ F1 N1
      dsimp only at F1 N1 ⊢
      generalize lcp (fun (a b : Nat) => a == b) x1.reverse y1.reverse = n1 at *
      have hmark6 := MarkS.mk 6
      k_steps
      all_goals first | exact absurd (by assumption : -(n1 : Int) = 0) (by assumption) | skip
      all_goals refine Hold.out ?_
      · unfold levA at ret
        k_dflt (refine' lev_t1 (news := news) (sa := List.take (x1.length - n1) x1) (sb := List.take (y1.length - n1) y1) rfl rfl ?k1 ?k2 ?k3 hk hdp hun ?hE ?kF ?kb ?ka ?km ?kN ?ksa ?ksb  ?kret; (case kF => k_asm); (case kb => exact ⟨_, rfl⟩); (case ka => exact ⟨_, rfl⟩); (case km => exact ⟨_, rfl⟩); (case kN => first | k_asm | exact news_sub (news' := _ :: news) (by k_asm) (fun _ hp => .tail _ hp)); (case k1 => k_asm); (case k2 => k_asm); (case k3 => k_asm); (case hE => first | passes_own | with_unfolding_all passes_own))
        case ksa =>
          rw [List.length_take]
          exact Nat.le_trans (Nat.min_le_right _ _) hx1
        case ksb =>
          rw [List.length_take]
          exact Nat.le_trans (Nat.min_le_right _ _) hy1
        case kret =>
          intro m9 t9 h9 tk9 F9 N9
          k_steps
          exact ret _ _ _ (by k_asm) (by k_asm)
      · rw [levA_zero (by assumption)] at ret
        k_dflt (refine' lev_t1 (news := news) (sa := x1) (sb := y1) rfl rfl ?k1 ?k2 ?k3 hk hdp hun ?hE ?kF ?kb ?ka ?km ?kN ?ksa ?ksb  ?kret; (case kF => k_asm); (case kb => exact ⟨_, rfl⟩); (case ka => exact ⟨_, rfl⟩); (case km => exact ⟨_, rfl⟩); (case kN => first | k_asm | exact news_sub (news' := _ :: news) (by k_asm) (fun _ hp => .tail _ hp)); (case k1 => k_asm); (case k2 => k_asm); (case k3 => k_asm); (case hE => first | passes_own | with_unfolding_all passes_own))
        case ksa => exact hx1
        case ksb => exact hy1
        case kret =>
          intro m9 t9 h9 tk9 F9 N9
          k_steps
          exact ret _ _ _ (by k_asm) (by k_asm)

end
example : True := by
  k_with "h24_0" => ((with_reducible show wpAny _ _ (call (Value.ref 112) _) _ _ _); refine hold ?_)
  trivial
section
example : True := by
  w_top off
  trivial
-- told
theorem slc_pre (l : List Nat) (i : Nat) (h : i ≤ l.length) : Txt.slice ⟨l.toArray⟩ none (some (i : Int)) = ⟨(l.take i).toArray⟩ := by
  have := slice_closes_to (x := ⟨l.toArray⟩) (j := (i : Int)) (by show _ ∧ _ ≤ ((l.toArray.toList.length : Nat) : Int); simp; omega)
  rw [eq_of_beq this]
  congr 2
theorem sl_mid (a0 a1 a2 a3 u : Nat) : Txt.slice ⟨#[a0, a1, a2, a3]⟩ none (some 2) ++ ⟨#[u]⟩ ++ Txt.slice ⟨#[a0, a1, a2, a3]⟩ (some 2) none = (⟨[a0, a1, u, a2, a3].toArray⟩ : Str) := by
  rw [show Txt.slice ⟨#[a0, a1, a2, a3]⟩ none (some 2) = ⟨#[a0, a1]⟩ from slc_pre [a0, a1, a2, a3] 2 (Nat.le_of_ble_eq_true rfl), show Txt.slice ⟨#[a0, a1, a2, a3]⟩ (some 2) none = ⟨#[a2, a3]⟩ from slc_from [a0, a1, a2, a3] 2 (Nat.le_of_ble_eq_true rfl)]
  rfl
theorem sl_pre (a0 a1 a2 a3 u : Nat) : (⟨#[u]⟩ : Str) ++ ⟨#[a0, a1, a2, a3]⟩ = (⟨[u, a0, a1, a2, a3].toArray⟩ : Str) := rfl
theorem sl_post (a0 a1 a2 a3 u : Nat) : (⟨#[a0, a1, a2, a3]⟩ : Str) ++ ⟨#[u]⟩ = (⟨[a0, a1, a2, a3, u].toArray⟩ : Str) := rfl
noncomputable def told4 (g : Nat → Nat → Int) (a0 a1 a2 a3 b0 b1 b2 b3 u0 u1 : Nat) (way : Int) : Int :=
  if way = 0 then lev g [a0, a1, a2, a3] [b0, b1, b2, b3] 4 else if way = 1 then lev g [a0, a1, u0, a2, a3] [b0, b1, u1, b2, b3] 6
  else if way = 2 then lev g [u0, a0, a1, a2, a3] [b0, b1, b2, b3, u1] 8 else lev g [a0, a1, a2, a3, u1] [u0, b0, b1, b2, b3] 8
local macro_rules | `(tactic| walk_at "call ref") => `(tactic| k_extra "h24_0")
namespace X_c_told
noncomputable def P0 (w : World) (dp : Nat) (un : Nat) (gd : Option (List Code)) (cn : Str) (cs : Scope) (a : Addr) (ccd : Value) (cl : List (Str × Addr)) (outer : List Env) (A₀ : Around) (base : Heap) (h₀ : Heap) (L : Addr) (m : Str → Option Value) (p : Program) (loose : List Str) (mean : ExcName → Option Value) (mg : Str → Option Value) (mb : Str → Option Value) (news : List (Addr × Obj)) (s : Shared) (Q : Value → Shared → Prop) (E : Value → Shared → Prop) (a0 : Nat) (a1 : Nat) (a2 : Nat) (a3 : Nat) (b0 : Nat) (b1 : Nat) (b2 : Nat) (b3 : Nat) (u0 : Nat) (u1 : Nat) (way : Int) (l : Addr) (n : Nat) (tx : Tok) (ty : Tok) (tm : Tok) (t0 : Tok) (t1 : Tok) : Prop := ∀  (B : Below A₀ base outer h₀) (F : Fr h₀ L s.heap m) (KX : (kk w.params).In h₀) (T : Top p loose mean mg mb h₀) (hk : cs.kind = .function) (hdp : dp + 12 < recursionLimit) (hun : un + 120 < cLine) (N : News h₀ L s.heap ((l, listOf (List.toArray [.str ⟨#[u0]⟩ t0, .str ⟨#[u1]⟩ t1]) n) :: news)) (ret : ∀ t h' tk', Fr h₀ L h' m → News h₀ L h' ((l, listOf (List.toArray [.str ⟨#[u0]⟩ t0, .str ⟨#[u1]⟩ t1]) n) :: news) → Q (.int (told4 scost a0 a1 a2 a3 b0 b1 b2 b3 u0 u1 way) t) { s with heap := h', toks := tk' }),
   wpAny (model PySem.Challenge.rw_tc0016_01.row.prog w) (ktrTop dp un gd cn cs L a ccd cl outer) (call (.ref 129) [.str ⟨#[a0, a1, a2, a3]⟩ tx, .str ⟨#[b0, b1, b2, b3]⟩ ty, .ref l, .int way tm]) Q E s
abbrev T : Type := World × Nat × Nat × (Option (List Code)) × Str × Scope × Addr × Value × (List (Str × Addr)) × (List Env) × Around × Heap × Heap × Addr × (Str → Option Value) × Program × (List Str) × (ExcName → Option Value) × (Str → Option Value) × (Str → Option Value) × (List (Addr × Obj)) × Shared × (Value → Shared → Prop) × (Value → Shared → Prop) × Nat × Nat × Nat × Nat × Nat × Nat × Nat × Nat × Nat × Nat × Int × Addr × Nat × Tok × Tok × Tok × Tok × Tok
noncomputable def P (v : T) : Prop := P0 v.1 v.2.1 v.2.2.1 v.2.2.2.1 v.2.2.2.2.1 v.2.2.2.2.2.1 v.2.2.2.2.2.2.1 v.2.2.2.2.2.2.2.1 v.2.2.2.2.2.2.2.2.1 v.2.2.2.2.2.2.2.2.2.1 v.2.2.2.2.2.2.2.2.2.2.1 v.2.2.2.2.2.2.2.2.2.2.2.1 v.2.2.2.2.2.2.2.2.2.2.2.2.1 v.2.2.2.2.2.2.2.2.2.2.2.2.2.1 v.2.2.2.2.2.2.2.2.2.2.2.2.2.2.1 v.2.2.2.2.2.2.2.2.2.2.2.2.2.2.2.1 v.2.2.2.2.2.2.2.2.2.2.2.2.2.2.2.2.1 v.2.2.2.2.2.2.2.2.2.2.2.2.2.2.2.2.2.1 v.2.2.2.2.2.2.2.2.2.2.2.2.2.2.2.2.2.2.1 v.2.2.2.2.2.2.2.2.2.2.2.2.2.2.2.2.2.2.2.1 v.2.2.2.2.2.2.2.2.2.2.2.2.2.2.2.2.2.2.2.2.1 v.2.2.2.2.2.2.2.2.2.2.2.2.2.2.2.2.2.2.2.2.2.1 v.2.2.2.2.2.2.2.2.2.2.2.2.2.2.2.2.2.2.2.2.2.2.1 v.2.2.2.2.2.2.2.2.2.2.2.2.2.2.2.2.2.2.2.2.2.2.2.1 v.2.2.2.2.2.2.2.2.2.2.2.2.2.2.2.2.2.2.2.2.2.2.2.2.1 v.2.2.2.2.2.2.2.2.2.2.2.2.2.2.2.2.2.2.2.2.2.2.2.2.2.1 v.2.2.2.2.2.2.2.2.2.2.2.2.2.2.2.2.2.2.2.2.2.2.2.2.2.2.1 v.2.2.2.2.2.2.2.2.2.2.2.2.2.2.2.2.2.2.2.2.2.2.2.2.2.2.2.1 v.2.2.2.2.2.2.2.2.2.2.2.2.2.2.2.2.2.2.2.2.2.2.2.2.2.2.2.2.1 v.2.2.2.2.2.2.2.2.2.2.2.2.2.2.2.2.2.2.2.2.2.2.2.2.2.2.2.2.2.1 v.2.2.2.2.2.2.2.2.2.2.2.2.2.2.2.2.2.2.2.2.2.2.2.2.2.2.2.2.2.2.1 v.2.2.2.2.2.2.2.2.2.2.2.2.2.2.2.2.2.2.2.2.2.2.2.2.2.2.2.2.2.2.2.1 v.2.2.2.2.2.2.2.2.2.2.2.2.2.2.2.2.2.2.2.2.2.2.2.2.2.2.2.2.2.2.2.2.1 v.2.2.2.2.2.2.2.2.2.2.2.2.2.2.2.2.2.2.2.2.2.2.2.2.2.2.2.2.2.2.2.2.2.1 v.2.2.2.2.2.2.2.2.2.2.2.2.2.2.2.2.2.2.2.2.2.2.2.2.2.2.2.2.2.2.2.2.2.2.1 v.2.2.2.2.2.2.2.2.2.2.2.2.2.2.2.2.2.2.2.2.2.2.2.2.2.2.2.2.2.2.2.2.2.2.2.1 v.2.2.2.2.2.2.2.2.2.2.2.2.2.2.2.2.2.2.2.2.2.2.2.2.2.2.2.2.2.2.2.2.2.2.2.2.1 v.2.2.2.2.2.2.2.2.2.2.2.2.2.2.2.2.2.2.2.2.2.2.2.2.2.2.2.2.2.2.2.2.2.2.2.2.2.1 v.2.2.2.2.2.2.2.2.2.2.2.2.2.2.2.2.2.2.2.2.2.2.2.2.2.2.2.2.2.2.2.2.2.2.2.2.2.2.1 v.2.2.2.2.2.2.2.2.2.2.2.2.2.2.2.2.2.2.2.2.2.2.2.2.2.2.2.2.2.2.2.2.2.2.2.2.2.2.2.1 v.2.2.2.2.2.2.2.2.2.2.2.2.2.2.2.2.2.2.2.2.2.2.2.2.2.2.2.2.2.2.2.2.2.2.2.2.2.2.2.2.1 v.2.2.2.2.2.2.2.2.2.2.2.2.2.2.2.2.2.2.2.2.2.2.2.2.2.2.2.2.2.2.2.2.2.2.2.2.2.2.2.2.2
theorem ex : ∃ c : T, P c → ∀ v, P v := ex_all ⟨((Classical.choice neW), 0, 0, none, default, default, (0 : Nat), .none, [], [], {}, {}, {}, (0 : Nat), (fun _ => none), default, [], (fun _ => none), (fun _ => none), (fun _ => none), [], {}, (fun _ _ => False), (fun _ _ => False), 0, 0, 0, 0, 0, 0, 0, 0, 0, 0, 0, (0 : Nat), 0, (0 : Nat), (0 : Nat), (0 : Nat), (0 : Nat), (0 : Nat))⟩
@[irreducible] noncomputable def cT : T := Classical.choose ex
theorem cS : P cT → ∀ v, P v := by
  unfold cT
  exact Classical.choose_spec ex
noncomputable abbrev way : Int := cT.2.2.2.2.2.2.2.2.2.2.2.2.2.2.2.2.2.2.2.2.2.2.2.2.2.2.2.2.2.2.2.2.2.2.1
set_option maxRecDepth 100000 in
set_option maxHeartbeats 0 in
theorem main : P0 cT.1 cT.2.1 cT.2.2.1 cT.2.2.2.1 cT.2.2.2.2.1 cT.2.2.2.2.2.1 cT.2.2.2.2.2.2.1 cT.2.2.2.2.2.2.2.1 cT.2.2.2.2.2.2.2.2.1 cT.2.2.2.2.2.2.2.2.2.1 cT.2.2.2.2.2.2.2.2.2.2.1 cT.2.2.2.2.2.2.2.2.2.2.2.1 cT.2.2.2.2.2.2.2.2.2.2.2.2.1 cT.2.2.2.2.2.2.2.2.2.2.2.2.2.1 cT.2.2.2.2.2.2.2.2.2.2.2.2.2.2.1 cT.2.2.2.2.2.2.2.2.2.2.2.2.2.2.2.1 cT.2.2.2.2.2.2.2.2.2.2.2.2.2.2.2.2.1 cT.2.2.2.2.2.2.2.2.2.2.2.2.2.2.2.2.2.1 cT.2.2.2.2.2.2.2.2.2.2.2.2.2.2.2.2.2.2.1 cT.2.2.2.2.2.2.2.2.2.2.2.2.2.2.2.2.2.2.2.1 cT.2.2.2.2.2.2.2.2.2.2.2.2.2.2.2.2.2.2.2.2.1 cT.2.2.2.2.2.2.2.2.2.2.2.2.2.2.2.2.2.2.2.2.2.1 cT.2.2.2.2.2.2.2.2.2.2.2.2.2.2.2.2.2.2.2.2.2.2.1 cT.2.2.2.2.2.2.2.2.2.2.2.2.2.2.2.2.2.2.2.2.2.2.2.1 cT.2.2.2.2.2.2.2.2.2.2.2.2.2.2.2.2.2.2.2.2.2.2.2.2.1 cT.2.2.2.2.2.2.2.2.2.2.2.2.2.2.2.2.2.2.2.2.2.2.2.2.2.1 cT.2.2.2.2.2.2.2.2.2.2.2.2.2.2.2.2.2.2.2.2.2.2.2.2.2.2.1 cT.2.2.2.2.2.2.2.2.2.2.2.2.2.2.2.2.2.2.2.2.2.2.2.2.2.2.2.1 cT.2.2.2.2.2.2.2.2.2.2.2.2.2.2.2.2.2.2.2.2.2.2.2.2.2.2.2.2.1 cT.2.2.2.2.2.2.2.2.2.2.2.2.2.2.2.2.2.2.2.2.2.2.2.2.2.2.2.2.2.1 cT.2.2.2.2.2.2.2.2.2.2.2.2.2.2.2.2.2.2.2.2.2.2.2.2.2.2.2.2.2.2.1 cT.2.2.2.2.2.2.2.2.2.2.2.2.2.2.2.2.2.2.2.2.2.2.2.2.2.2.2.2.2.2.2.1 cT.2.2.2.2.2.2.2.2.2.2.2.2.2.2.2.2.2.2.2.2.2.2.2.2.2.2.2.2.2.2.2.2.1 cT.2.2.2.2.2.2.2.2.2.2.2.2.2.2.2.2.2.2.2.2.2.2.2.2.2.2.2.2.2.2.2.2.2.1 way cT.2.2.2.2.2.2.2.2.2.2.2.2.2.2.2.2.2.2.2.2.2.2.2.2.2.2.2.2.2.2.2.2.2.2.2.1 cT.2.2.2.2.2.2.2.2.2.2.2.2.2.2.2.2.2.2.2.2.2.2.2.2.2.2.2.2.2.2.2.2.2.2.2.2.1 cT.2.2.2.2.2.2.2.2.2.2.2.2.2.2.2.2.2.2.2.2.2.2.2.2.2.2.2.2.2.2.2.2.2.2.2.2.2.1 cT.2.2.2.2.2.2.2.2.2.2.2.2.2.2.2.2.2.2.2.2.2.2.2.2.2.2.2.2.2.2.2.2.2.2.2.2.2.2.1 cT.2.2.2.2.2.2.2.2.2.2.2.2.2.2.2.2.2.2.2.2.2.2.2.2.2.2.2.2.2.2.2.2.2.2.2.2.2.2.2.1 cT.2.2.2.2.2.2.2.2.2.2.2.2.2.2.2.2.2.2.2.2.2.2.2.2.2.2.2.2.2.2.2.2.2.2.2.2.2.2.2.2.1 cT.2.2.2.2.2.2.2.2.2.2.2.2.2.2.2.2.2.2.2.2.2.2.2.2.2.2.2.2.2.2.2.2.2.2.2.2.2.2.2.2.2 := by
  unfold P0
  intro  B F KX T hk hdp hun N ret
  walk_at "my enter"
  k_steps
  all_goals
    refine Hold.out ?_
    first
      | rw [sl_mid, sl_mid]
      | rw [sl_pre, sl_post]
      | rw [sl_post, sl_pre]
      | skip
    k_dflt (refine' c_lev ?k1 ?k2 ?k3 ?k5 ?kK ?kd ?ku ?kN (Nat.le_of_ble_eq_true rfl) (Nat.le_of_ble_eq_true rfl) ?_; (case k1 => k_asm); (case k2 => k_asm); (case k3 => k_asm); (case k5 => k_asm); (case kK => exact rfl); (case kd => ktr_room); (case ku => ktr_units); (case kN => k_asm))
    intro t3 h3 tk3 F3 N3
    k_steps
  · rename way = 0 => e
    rw [told4, if_pos e] at ret
    exact ret _ _ _ (by k_asm) (by k_asm)
  · rename ¬ way = 0 => e
    rename way = 1 => e1
    rw [told4, if_neg e, if_pos e1] at ret
    exact ret _ _ _ (by k_asm) (by k_asm)
  · rename ¬ way = 0 => e
    rename ¬ way = 1 => e1
    rename way = 2 => e2
    rw [told4, if_neg e, if_neg e1, if_pos e2] at ret
    exact ret _ _ _ (by k_asm) (by k_asm)
  · rename ¬ way = 0 => e
    rename ¬ way = 1 => e1
    rename ¬ way = 2 => e2
    rw [told4, if_neg e, if_neg e1, if_neg e2] at ret
    exact ret _ _ _ (by k_asm) (by k_asm)
end X_c_told
theorem c_told {w : World} {dp : Nat} {un : Nat} {gd : Option (List Code)} {cn : Str} {cs : Scope} {a : Addr} {ccd : Value} {cl : List (Str × Addr)} {outer : List Env} {A₀ : Around} {base : Heap} {h₀ : Heap} {L : Addr} {m : Str → Option Value} {p : Program} {loose : List Str} {mean : ExcName → Option Value} {mg : Str → Option Value} {mb : Str → Option Value} {news : List (Addr × Obj)} {s : Shared} {Q : Value → Shared → Prop} {E : Value → Shared → Prop} {a0 : Nat} {a1 : Nat} {a2 : Nat} {a3 : Nat} {b0 : Nat} {b1 : Nat} {b2 : Nat} {b3 : Nat} {u0 : Nat} {u1 : Nat} {way : Int} {l : Addr} {n : Nat} {tx : Tok} {ty : Tok} {tm : Tok} {t0 : Tok} {t1 : Tok} (B : Below A₀ base outer h₀) (F : Fr h₀ L s.heap m) (KX : (kk w.params).In h₀) (T : Top p loose mean mg mb h₀) (hk : cs.kind = .function) (hdp : dp + 12 < recursionLimit) (hun : un + 120 < cLine) (N : News h₀ L s.heap ((l, listOf (List.toArray [.str ⟨#[u0]⟩ t0, .str ⟨#[u1]⟩ t1]) n) :: news)) (ret : ∀ t h' tk', Fr h₀ L h' m → News h₀ L h' ((l, listOf (List.toArray [.str ⟨#[u0]⟩ t0, .str ⟨#[u1]⟩ t1]) n) :: news) → Q (.int (told4 scost a0 a1 a2 a3 b0 b1 b2 b3 u0 u1 way) t) { s with heap := h', toks := tk' }) :
   wpAny (model PySem.Challenge.rw_tc0016_01.row.prog w) (ktrTop dp un gd cn cs L a ccd cl outer) (call (.ref 129) [.str ⟨#[a0, a1, a2, a3]⟩ tx, .str ⟨#[b0, b1, b2, b3]⟩ ty, .ref l, .int way tm]) Q E s :=
  X_c_told.cS X_c_told.main (w, dp, un, gd, cn, cs, a, ccd, cl, outer, A₀, base, h₀, L, m, p, loose, mean, mg, mb, news, s, Q, E, a0, a1, a2, a3, b0, b1, b2, b3, u0, u1, way, l, n, tx, ty, tm, t0, t1) B F KX T hk hdp hun N ret

end
example : True := by
  k_with "h25_0" => (k_here; (with_reducible show wpAny _ _ (call (Value.ref 63) _) _ _ _); k_dflt (refine' c_add ?k1_0 ?k2_0 ?k3_0 ?k5_0 ?kK_0 ?kd_0 ?ku_0 ?kN_0 ?_; (case k1_0 | k2_0 | k3_0 | k5_0 => k_asm); (case kK_0 => first | exact rfl | assumption); (case kd_0 => ktr_room); (case ku_0 => ktr_units); (case kN_0 => k_asm); k_whole); intro _ _ _ _ _; (try dsimp only); (try k_sweep); (try k_fold))
  k_with "h25_0" => (k_here; (with_reducible show wpAny _ _ (call (Value.ref 63) _) _ _ _); k_dflt (refine' c_add ?k1_1 ?k2_1 ?k3_1 ?k5_1 ?kK_1 ?kd_1 ?ku_1 ?kN_1 ?_; (case k1_1 | k2_1 | k3_1 | k5_1 => k_asm); (case kK_1 => first | exact rfl | assumption); (case kd_1 => ktr_room); (case ku_1 => ktr_units); (case kN_1 => k_asm); k_whole); intro _ _ _ _ _; (try dsimp only); (try k_sweep); (try k_fold))
  k_with "h25_0" => (k_here; (with_reducible show wpAny _ _ (call (Value.ref 63) _) _ _ _); k_dflt (refine' c_add ?k1_2 ?k2_2 ?k3_2 ?k5_2 ?kK_2 ?kd_2 ?ku_2 ?kN_2 ?_; (case k1_2 | k2_2 | k3_2 | k5_2 => k_asm); (case kK_2 => first | exact rfl | assumption); (case kd_2 => ktr_room); (case ku_2 => ktr_units); (case kN_2 => k_asm); k_whole); intro _ _ _ _ _; (try dsimp only); (try k_sweep); (try k_fold))
  k_with "h25_0" => (k_here; (with_reducible show wpAny _ _ (call (Value.ref 63) _) _ _ _); k_dflt (refine' c_add ?k1_3 ?k2_3 ?k3_3 ?k5_3 ?kK_3 ?kd_3 ?ku_3 ?kN_3 ?_; (case k1_3 | k2_3 | k3_3 | k5_3 => k_asm); (case kK_3 => first | exact rfl | assumption); (case kd_3 => ktr_room); (case ku_3 => ktr_units); (case kN_3 => k_asm); k_whole); intro _ _ _ _ _; (try dsimp only); (try k_sweep); (try k_fold))
  k_with "h25_0" => (k_here; (with_reducible show wpAny _ _ (call (Value.ref 63) _) _ _ _); k_dflt (refine' c_add ?k1_4 ?k2_4 ?k3_4 ?k5_4 ?kK_4 ?kd_4 ?ku_4 ?kN_4 ?_; (case k1_4 | k2_4 | k3_4 | k5_4 => k_asm); (case kK_4 => first | exact rfl | assumption); (case kd_4 => ktr_room); (case ku_4 => ktr_units); (case kN_4 => k_asm); k_whole); intro _ _ _ _ _; (try dsimp only); (try k_sweep); (try k_fold))
  k_with "h25_0" => (k_here; (with_reducible show wpAny _ _ (call (Value.ref 63) _) _ _ _); k_dflt (refine' c_add ?k1_5 ?k2_5 ?k3_5 ?k5_5 ?kK_5 ?kd_5 ?ku_5 ?kN_5 ?_; (case k1_5 | k2_5 | k3_5 | k5_5 => k_asm); (case kK_5 => first | exact rfl | assumption); (case kd_5 => ktr_room); (case ku_5 => ktr_units); (case kN_5 => k_asm); k_whole); intro _ _ _ _ _; (try dsimp only); (try k_sweep); (try k_fold))
  k_with "h25_1" => (k_here; (with_reducible show wpAny _ _ (call (Value.ref 70) _) _ _ _); k_dflt (refine' c_mul ?k1_0 ?k2_0 ?k3_0 ?k5_0 ?kK_0 ?kd_0 ?ku_0 ?kN_0 ?kok_0 ?_; (case k1_0 | k2_0 | k3_0 | k5_0 => k_asm); (case kK_0 => first | exact rfl | assumption); (case kd_0 => ktr_room); (case ku_0 => ktr_units); (case kN_0 => k_asm); (case kok_0 => mul_fits); k_whole); intro _ _ _ _ _; (try dsimp only); (try k_sweep); (try k_fold))
  k_with "h25_1" => (k_here; (with_reducible show wpAny _ _ (call (Value.ref 70) _) _ _ _); k_dflt (refine' c_mul ?k1_1 ?k2_1 ?k3_1 ?k5_1 ?kK_1 ?kd_1 ?ku_1 ?kN_1 ?kok_1 ?_; (case k1_1 | k2_1 | k3_1 | k5_1 => k_asm); (case kK_1 => first | exact rfl | assumption); (case kd_1 => ktr_room); (case ku_1 => ktr_units); (case kN_1 => k_asm); (case kok_1 => mul_fits); k_whole); intro _ _ _ _ _; (try dsimp only); (try k_sweep); (try k_fold))
  k_with "h25_1" => (k_here; (with_reducible show wpAny _ _ (call (Value.ref 70) _) _ _ _); k_dflt (refine' c_mul ?k1_2 ?k2_2 ?k3_2 ?k5_2 ?kK_2 ?kd_2 ?ku_2 ?kN_2 ?kok_2 ?_; (case k1_2 | k2_2 | k3_2 | k5_2 => k_asm); (case kK_2 => first | exact rfl | assumption); (case kd_2 => ktr_room); (case ku_2 => ktr_units); (case kN_2 => k_asm); (case kok_2 => mul_fits); k_whole); intro _ _ _ _ _; (try dsimp only); (try k_sweep); (try k_fold))
  k_with "h25_1" => (k_here; (with_reducible show wpAny _ _ (call (Value.ref 70) _) _ _ _); k_dflt (refine' c_mul ?k1_3 ?k2_3 ?k3_3 ?k5_3 ?kK_3 ?kd_3 ?ku_3 ?kN_3 ?kok_3 ?_; (case k1_3 | k2_3 | k3_3 | k5_3 => k_asm); (case kK_3 => first | exact rfl | assumption); (case kd_3 => ktr_room); (case ku_3 => ktr_units); (case kN_3 => k_asm); (case kok_3 => mul_fits); k_whole); intro _ _ _ _ _; (try dsimp only); (try k_sweep); (try k_fold))
  k_with "h25_1" => (k_here; (with_reducible show wpAny _ _ (call (Value.ref 70) _) _ _ _); k_dflt (refine' c_mul ?k1_4 ?k2_4 ?k3_4 ?k5_4 ?kK_4 ?kd_4 ?ku_4 ?kN_4 ?kok_4 ?_; (case k1_4 | k2_4 | k3_4 | k5_4 => k_asm); (case kK_4 => first | exact rfl | assumption); (case kd_4 => ktr_room); (case ku_4 => ktr_units); (case kN_4 => k_asm); (case kok_4 => mul_fits); k_whole); intro _ _ _ _ _; (try dsimp only); (try k_sweep); (try k_fold))
  k_with "h25_1" => (k_here; (with_reducible show wpAny _ _ (call (Value.ref 70) _) _ _ _); k_dflt (refine' c_mul ?k1_5 ?k2_5 ?k3_5 ?k5_5 ?kK_5 ?kd_5 ?ku_5 ?kN_5 ?kok_5 ?_; (case k1_5 | k2_5 | k3_5 | k5_5 => k_asm); (case kK_5 => first | exact rfl | assumption); (case kd_5 => ktr_room); (case ku_5 => ktr_units); (case kN_5 => k_asm); (case kok_5 => mul_fits); k_whole); intro _ _ _ _ _; (try dsimp only); (try k_sweep); (try k_fold))
  k_with "h25_2" => (k_here; (with_reducible show wpAny _ _ (call (Value.ref 84) _) _ _ _); k_dflt (refine' c_getitem ?k1_0 ?k2_0 ?k3_0 ?k5_0 ?kK_0 ?kd_0 ?ku_0 ?kN_0 ?km_0 ?ki_0 ?kxl_0 ?kx0_0 ?kx1_0 ?_; (case k1_0 | k2_0 | k3_0 | k5_0 => k_asm); (case kK_0 => first | exact rfl | assumption); (case kd_0 => ktr_room); (case ku_0 => ktr_units); (case kN_0 => k_asm); (case km_0 => k_mem); (case ki_0 => assumption); (case kxl_0 | kx0_0 | kx1_0 => l_idx); k_whole); intro _ _ _ _ _; (try dsimp only); (try k_sweep); (try k_fold))
  k_with "h25_2" => (k_here; (with_reducible show wpAny _ _ (call (Value.ref 84) _) _ _ _); k_dflt (refine' c_getitem ?k1_1 ?k2_1 ?k3_1 ?k5_1 ?kK_1 ?kd_1 ?ku_1 ?kN_1 ?km_1 ?ki_1 ?kxl_1 ?kx0_1 ?kx1_1 ?_; (case k1_1 | k2_1 | k3_1 | k5_1 => k_asm); (case kK_1 => first | exact rfl | assumption); (case kd_1 => ktr_room); (case ku_1 => ktr_units); (case kN_1 => k_asm); (case km_1 => k_mem); (case ki_1 => assumption); (case kxl_1 | kx0_1 | kx1_1 => l_idx); k_whole); intro _ _ _ _ _; (try dsimp only); (try k_sweep); (try k_fold))
  k_with "h25_2" => (k_here; (with_reducible show wpAny _ _ (call (Value.ref 84) _) _ _ _); k_dflt (refine' c_getitem ?k1_2 ?k2_2 ?k3_2 ?k5_2 ?kK_2 ?kd_2 ?ku_2 ?kN_2 ?km_2 ?ki_2 ?kxl_2 ?kx0_2 ?kx1_2 ?_; (case k1_2 | k2_2 | k3_2 | k5_2 => k_asm); (case kK_2 => first | exact rfl | assumption); (case kd_2 => ktr_room); (case ku_2 => ktr_units); (case kN_2 => k_asm); (case km_2 => k_mem); (case ki_2 => assumption); (case kxl_2 | kx0_2 | kx1_2 => l_idx); k_whole); intro _ _ _ _ _; (try dsimp only); (try k_sweep); (try k_fold))
  k_with "h25_2" => (k_here; (with_reducible show wpAny _ _ (call (Value.ref 84) _) _ _ _); k_dflt (refine' c_getitem ?k1_3 ?k2_3 ?k3_3 ?k5_3 ?kK_3 ?kd_3 ?ku_3 ?kN_3 ?km_3 ?ki_3 ?kxl_3 ?kx0_3 ?kx1_3 ?_; (case k1_3 | k2_3 | k3_3 | k5_3 => k_asm); (case kK_3 => first | exact rfl | assumption); (case kd_3 => ktr_room); (case ku_3 => ktr_units); (case kN_3 => k_asm); (case km_3 => k_mem); (case ki_3 => assumption); (case kxl_3 | kx0_3 | kx1_3 => l_idx); k_whole); intro _ _ _ _ _; (try dsimp only); (try k_sweep); (try k_fold))
  k_with "h25_2" => (k_here; (with_reducible show wpAny _ _ (call (Value.ref 84) _) _ _ _); k_dflt (refine' c_getitem ?k1_4 ?k2_4 ?k3_4 ?k5_4 ?kK_4 ?kd_4 ?ku_4 ?kN_4 ?km_4 ?ki_4 ?kxl_4 ?kx0_4 ?kx1_4 ?_; (case k1_4 | k2_4 | k3_4 | k5_4 => k_asm); (case kK_4 => first | exact rfl | assumption); (case kd_4 => ktr_room); (case ku_4 => ktr_units); (case kN_4 => k_asm); (case km_4 => k_mem); (case ki_4 => assumption); (case kxl_4 | kx0_4 | kx1_4 => l_idx); k_whole); intro _ _ _ _ _; (try dsimp only); (try k_sweep); (try k_fold))
  k_with "h25_2" => (k_here; (with_reducible show wpAny _ _ (call (Value.ref 84) _) _ _ _); k_dflt (refine' c_getitem ?k1_5 ?k2_5 ?k3_5 ?k5_5 ?kK_5 ?kd_5 ?ku_5 ?kN_5 ?km_5 ?ki_5 ?kxl_5 ?kx0_5 ?kx1_5 ?_; (case k1_5 | k2_5 | k3_5 | k5_5 => k_asm); (case kK_5 => first | exact rfl | assumption); (case kd_5 => ktr_room); (case ku_5 => ktr_units); (case kN_5 => k_asm); (case km_5 => k_mem); (case ki_5 => assumption); (case kxl_5 | kx0_5 | kx1_5 => l_idx); k_whole); intro _ _ _ _ _; (try dsimp only); (try k_sweep); (try k_fold))
  k_with "h25_3" => (k_here; (with_reducible show wpAny _ _ (subscriptTail (PySem.Expr.Name "words" _) _ (Value.ref _) (Value.int _ _)) _ _ _); k_dflt (refine' word_at ?k1_0 ?k2_0 ?k3_0 ?k4_0 ?k5_0 ?_ ?k7_0; (case k1_0 => k_asm); (case k2_0 => k_mem); (case k3_0 => with_reducible assumption); (case k4_0 | k5_0 => omega); (case k7_0 => with_unfolding_all rfl); k_whole); intro _)
  k_with "h25_3" => (k_here; (with_reducible show wpAny _ _ (subscriptTail (PySem.Expr.Name "words" _) _ (Value.ref _) (Value.int _ _)) _ _ _); k_dflt (refine' word_at ?k1_1 ?k2_1 ?k3_1 ?k4_1 ?k5_1 ?_ ?k7_1; (case k1_1 => k_asm); (case k2_1 => k_mem); (case k3_1 => with_reducible assumption); (case k4_1 | k5_1 => omega); (case k7_1 => with_unfolding_all rfl); k_whole); intro _)
  k_with "h25_3" => (k_here; (with_reducible show wpAny _ _ (subscriptTail (PySem.Expr.Name "words" _) _ (Value.ref _) (Value.int _ _)) _ _ _); k_dflt (refine' word_at ?k1_2 ?k2_2 ?k3_2 ?k4_2 ?k5_2 ?_ ?k7_2; (case k1_2 => k_asm); (case k2_2 => k_mem); (case k3_2 => with_reducible assumption); (case k4_2 | k5_2 => omega); (case k7_2 => with_unfolding_all rfl); k_whole); intro _)
  k_with "h25_3" => (k_here; (with_reducible show wpAny _ _ (subscriptTail (PySem.Expr.Name "words" _) _ (Value.ref _) (Value.int _ _)) _ _ _); k_dflt (refine' word_at ?k1_3 ?k2_3 ?k3_3 ?k4_3 ?k5_3 ?_ ?k7_3; (case k1_3 => k_asm); (case k2_3 => k_mem); (case k3_3 => with_reducible assumption); (case k4_3 | k5_3 => omega); (case k7_3 => with_unfolding_all rfl); k_whole); intro _)
  k_with "h25_3" => (k_here; (with_reducible show wpAny _ _ (subscriptTail (PySem.Expr.Name "words" _) _ (Value.ref _) (Value.int _ _)) _ _ _); k_dflt (refine' word_at ?k1_4 ?k2_4 ?k3_4 ?k4_4 ?k5_4 ?_ ?k7_4; (case k1_4 => k_asm); (case k2_4 => k_mem); (case k3_4 => with_reducible assumption); (case k4_4 | k5_4 => omega); (case k7_4 => with_unfolding_all rfl); k_whole); intro _)
  k_with "h25_3" => (k_here; (with_reducible show wpAny _ _ (subscriptTail (PySem.Expr.Name "words" _) _ (Value.ref _) (Value.int _ _)) _ _ _); k_dflt (refine' word_at ?k1_5 ?k2_5 ?k3_5 ?k4_5 ?k5_5 ?_ ?k7_5; (case k1_5 => k_asm); (case k2_5 => k_mem); (case k3_5 => with_reducible assumption); (case k4_5 | k5_5 => omega); (case k7_5 => with_unfolding_all rfl); k_whole); intro _)
  k_with "h25_4" => ((with_reducible show wpAny _ _ (call (Value.ref 129) _) _ _ _); refine hold ?_)
  k_with "h25_5" => ((with_reducible show wpAny _ _ (call (Value.ref 77) _) _ _ _); refine hold ?_)
  k_with "h25_6" => ((with_reducible show wpAny _ _ (pyIter (Value.ref _)) (fun it s₂ => LoopAtV _ _ _ _ _ _ _ _ _ it s₂) _ _); refine hold ?_)
  trivial
section
example : True := by
  w_top off
  trivial
local macro_rules | `(tactic| walk_at "pad 0") => `(tactic| skip)
local macro_rules | `(tactic| walk_at "pad 1") => `(tactic| skip)
-- shares
theorem news_again {h₀ h : Heap} {L : Addr} {q : Addr × Obj} {news : List (Addr × Obj)} (N : News h₀ L h news) (hm : q ∈ news) : News h₀ L h (q :: news) := fun p hp => by
  rcases List.mem_cons.mp hp with rfl | hp
  · exact N _ hm
  · exact N _ hp
noncomputable def WordsAre (ws : List Value) (c : Nat → Nat → Nat) : Prop := ∀ i, i < 4 → ∃ t, ws[i]? = some (.str ⟨#[c i 0, c i 1, c i 2, c i 3]⟩ t)
theorem word_at {prog : Program} {w : World} {A : Around} {E : Value → Shared → Prop} {s : Shared} {h₀ : Heap} {L D : Addr} {news : List (Addr × Obj)} {value slice : PySem.Expr} {ws : List Value} {n : Nat} {c : Nat → Nat → Nat} {k : Int} {u : Tok} {Q : Value → Shared → Prop}
    (N : News h₀ L s.heap news) (hm : (D, listOf ws.toArray n) ∈ news) (hw : WordsAre ws c) (h0 : 0 ≤ k) (h1 : k < 4) (h : ∀ t, Q (.str ⟨#[c k.toNat 0, c k.toNat 1, c k.toNat 2, c k.toNat 3]⟩ t) s)
    (hs : subscripted slice false (.ref D) (.int k u) = operate [.ref D, .int k u] (getItem (.ref D) (.int k u)) := by with_unfolding_all rfl) :
    wpAny (model prog w) A (subscriptTail value slice (.ref D) (.int k u)) Q E s := by
  obtain ⟨t, ht⟩ := hw k.toNat (by omega)
  have hl : s.heap.IsList D ws.toArray := PySem.IsL.isList (n := n) (N _ hm).1
  exact tail_any hl.typeIs slot_list_getitem.lookup (getItem_listL hl h0 (by omega) ht (h t)) hs
noncomputable def cellStep (d : Nat → Nat → Int) (ns : List Int) (i : Nat) (row : List Int) (j : Nat) : List Int :=
  row.set (d i j).toNat (row.getD (d i j).toNat 0 + (if i = j then ns.getD i 0 * ns.getD j 0 else ns.getD i 0 * ns.getD j 0 + ns.getD i 0 * ns.getD j 0))
noncomputable def rowIn (d : Nat → Nat → Int) (ns : List Int) (i : Nat) (row : List Int) : Nat → List Int
  | 0 => row
  | j + 1 => cellStep d ns i (rowIn d ns i row j) j
noncomputable def rowOut (d : Nat → Nat → Int) (ns : List Int) : Nat → List Int
  | 0 => [0, 0, 0, 0, 0]
  | i + 1 => rowIn d ns i (rowOut d ns i) (i + 1)
theorem rowIn_len (d : Nat → Nat → Int) (ns : List Int) (i : Nat) (row : List Int) : ∀ j, (rowIn d ns i row j).length = row.length
  | 0 => rfl
  | j + 1 => by
    show (List.set _ _ _).length = _
    rw [List.length_set, rowIn_len d ns i row j]
theorem rowOut_len (d : Nat → Nat → Int) (ns : List Int) : ∀ i, (rowOut d ns i).length = 5
  | 0 => rfl
  | i + 1 => by
    show (rowIn _ _ _ _ _).length = _
    rw [rowIn_len, rowOut_len d ns i]
theorem size_natS (n : Nat) : Builtin.Range.rangeSize 0 (n : Int) 1 = (n : Int) := by
  unfold Builtin.Range.rangeSize
  rw [if_pos (by decide)]
  split
  · rw [Int.ediv_one]; omega
  · omega
local macro_rules | `(tactic| walk_at "call ref") => `(tactic| k_extra "h25_0")
local macro_rules | `(tactic| walk_at "call ref") => `(tactic| k_extra "h25_1")
local macro_rules | `(tactic| walk_at "call ref") => `(tactic| k_extra "h25_2")
local macro_rules | `(tactic| walk_at "subscriptTail Name Name ref int") => `(tactic| k_extra "h25_3")
local macro_rules | `(tactic| walk_at "call ref") => `(tactic| k_extra "h25_4")
local macro_rules | `(tactic| walk_at "call ref") => `(tactic| k_extra "h25_5")
local macro_rules | `(tactic| bits_by_make) => `(tactic| ((rename (∀ _, Builtin.Int.intBits _ ≤ _) => hbB); exact hbB _))
local macro_rules | `(tactic| walk_at "pyIter ref") => `(tactic| k_extra "h25_6")
namespace X_c_shares
noncomputable def P0 (w : World) (dp : Nat) (un : Nat) (gd : Option (List Code)) (cn : Str) (cs : Scope) (a : Addr) (ccd : Value) (cl : List (Str × Addr)) (outer : List Env) (A₀ : Around) (base : Heap) (h₀ : Heap) (L : Addr) (m : Str → Option Value) (p : Program) (loose : List Str) (mean : ExcName → Option Value) (mg : Str → Option Value) (mb : Str → Option Value) (news : List (Addr × Obj)) (s : Shared) (Q : Value → Shared → Prop) (E : Value → Shared → Prop) (c : Nat → Nat → Nat) (d : Nat → Nat → Int) (u0 : Nat) (u1 : Nat) (lw : Addr) (lv : Addr) (ls : Addr) (ws : List Value) (vs : List Value) (ns : List Int) (nw : Nat) (nv : Nat) (n : Nat) (t0 : Tok) (t1 : Tok) : Prop := ∀  (B : Below A₀ base outer h₀) (F : Fr h₀ L s.heap m) (KX : (kk w.params).In h₀) (T : Top p loose mean mg mb h₀) (hk : cs.kind = .function) (hdp : dp + 20 < recursionLimit) (hun : un + 200 < cLine) (N : News h₀ L s.heap news) (hls : (ls, listOf (List.toArray [.str ⟨#[u0]⟩ t0, .str ⟨#[u1]⟩ t1]) n) ∈ news) (hlw : (lw, listOf ws.toArray nw) ∈ news) (hlv : (lv, listOf vs.toArray nv) ∈ news) (hw : WordsAre ws c) (hi : IntsAre vs ns) (hn : ns.length = 4) (hbs : ∀ k, Builtin.Int.intBits (ns.getD k 0) ≤ 60) (hd : ∀ i j : Nat, i < 4 → j ≤ i → 0 ≤ d i j ∧ d i j ≤ 4 ∧ told4 scost (c i 0) (c i 1) (c i 2) (c i 3) (c j 0) (c j 1) (c j 2) (c j 3) u0 u1 (((i : Int) + j).fmod 4) = d i j + 2 * min (((i : Int) + j).fmod 4) 2) (ret : ∀ D us nn h' tk', Fr h₀ L h' m → News h₀ L h' ((D, listOf us.toArray nn) :: news) → IntsAre us (rowOut d ns 4) → AllLt D news → Q (.ref D) { s with heap := h', toks := tk' }),
   wpAny (model PySem.Challenge.rw_tc0016_01.row.prog w) (ktrTop dp un gd cn cs L a ccd cl outer) (call (.ref 136) [.ref lw, .ref lv, .ref ls]) Q E s
abbrev T : Type := World × Nat × Nat × (Option (List Code)) × Str × Scope × Addr × Value × (List (Str × Addr)) × (List Env) × Around × Heap × Heap × Addr × (Str → Option Value) × Program × (List Str) × (ExcName → Option Value) × (Str → Option Value) × (Str → Option Value) × (List (Addr × Obj)) × Shared × (Value → Shared → Prop) × (Value → Shared → Prop) × (Nat → Nat → Nat) × (Nat → Nat → Int) × Nat × Nat × Addr × Addr × Addr × (List Value) × (List Value) × (List Int) × Nat × Nat × Nat × Tok × Tok
noncomputable def P (v : T) : Prop := P0 v.1 v.2.1 v.2.2.1 v.2.2.2.1 v.2.2.2.2.1 v.2.2.2.2.2.1 v.2.2.2.2.2.2.1 v.2.2.2.2.2.2.2.1 v.2.2.2.2.2.2.2.2.1 v.2.2.2.2.2.2.2.2.2.1 v.2.2.2.2.2.2.2.2.2.2.1 v.2.2.2.2.2.2.2.2.2.2.2.1 v.2.2.2.2.2.2.2.2.2.2.2.2.1 v.2.2.2.2.2.2.2.2.2.2.2.2.2.1 v.2.2.2.2.2.2.2.2.2.2.2.2.2.2.1 v.2.2.2.2.2.2.2.2.2.2.2.2.2.2.2.1 v.2.2.2.2.2.2.2.2.2.2.2.2.2.2.2.2.1 v.2.2.2.2.2.2.2.2.2.2.2.2.2.2.2.2.2.1 v.2.2.2.2.2.2.2.2.2.2.2.2.2.2.2.2.2.2.1 v.2.2.2.2.2.2.2.2.2.2.2.2.2.2.2.2.2.2.2.1 v.2.2.2.2.2.2.2.2.2.2.2.2.2.2.2.2.2.2.2.2.1 v.2.2.2.2.2.2.2.2.2.2.2.2.2.2.2.2.2.2.2.2.2.1 v.2.2.2.2.2.2.2.2.2.2.2.2.2.2.2.2.2.2.2.2.2.2.1 v.2.2.2.2.2.2.2.2.2.2.2.2.2.2.2.2.2.2.2.2.2.2.2.1 v.2.2.2.2.2.2.2.2.2.2.2.2.2.2.2.2.2.2.2.2.2.2.2.2.1 v.2.2.2.2.2.2.2.2.2.2.2.2.2.2.2.2.2.2.2.2.2.2.2.2.2.1 v.2.2.2.2.2.2.2.2.2.2.2.2.2.2.2.2.2.2.2.2.2.2.2.2.2.2.1 v.2.2.2.2.2.2.2.2.2.2.2.2.2.2.2.2.2.2.2.2.2.2.2.2.2.2.2.1 v.2.2.2.2.2.2.2.2.2.2.2.2.2.2.2.2.2.2.2.2.2.2.2.2.2.2.2.2.1 v.2.2.2.2.2.2.2.2.2.2.2.2.2.2.2.2.2.2.2.2.2.2.2.2.2.2.2.2.2.1 v.2.2.2.2.2.2.2.2.2.2.2.2.2.2.2.2.2.2.2.2.2.2.2.2.2.2.2.2.2.2.1 v.2.2.2.2.2.2.2.2.2.2.2.2.2.2.2.2.2.2.2.2.2.2.2.2.2.2.2.2.2.2.2.1 v.2.2.2.2.2.2.2.2.2.2.2.2.2.2.2.2.2.2.2.2.2.2.2.2.2.2.2.2.2.2.2.2.1 v.2.2.2.2.2.2.2.2.2.2.2.2.2.2.2.2.2.2.2.2.2.2.2.2.2.2.2.2.2.2.2.2.2.1 v.2.2.2.2.2.2.2.2.2.2.2.2.2.2.2.2.2.2.2.2.2.2.2.2.2.2.2.2.2.2.2.2.2.2.1 v.2.2.2.2.2.2.2.2.2.2.2.2.2.2.2.2.2.2.2.2.2.2.2.2.2.2.2.2.2.2.2.2.2.2.2.1 v.2.2.2.2.2.2.2.2.2.2.2.2.2.2.2.2.2.2.2.2.2.2.2.2.2.2.2.2.2.2.2.2.2.2.2.2.1 v.2.2.2.2.2.2.2.2.2.2.2.2.2.2.2.2.2.2.2.2.2.2.2.2.2.2.2.2.2.2.2.2.2.2.2.2.2.1 v.2.2.2.2.2.2.2.2.2.2.2.2.2.2.2.2.2.2.2.2.2.2.2.2.2.2.2.2.2.2.2.2.2.2.2.2.2.2
theorem ex : ∃ c : T, P c → ∀ v, P v := ex_all ⟨((Classical.choice neW), 0, 0, none, default, default, (0 : Nat), .none, [], [], {}, {}, {}, (0 : Nat), (fun _ => none), default, [], (fun _ => none), (fun _ => none), (fun _ => none), [], {}, (fun _ _ => False), (fun _ _ => False), (fun _ _ => 0), (fun _ _ => 0), 0, 0, (0 : Nat), (0 : Nat), (0 : Nat), [], [], [], 0, 0, 0, (0 : Nat), (0 : Nat))⟩
@[irreducible] noncomputable def cT : T := Classical.choose ex
theorem cS : P cT → ∀ v, P v := by
  unfold cT
  exact Classical.choose_spec ex
noncomputable abbrev p : Program := cT.2.2.2.2.2.2.2.2.2.2.2.2.2.2.2.1
noncomputable abbrev news : List (Addr × Obj) := cT.2.2.2.2.2.2.2.2.2.2.2.2.2.2.2.2.2.2.2.2.1
noncomputable abbrev d : Nat → Nat → Int := cT.2.2.2.2.2.2.2.2.2.2.2.2.2.2.2.2.2.2.2.2.2.2.2.2.2.1
noncomputable abbrev ns : List Int := cT.2.2.2.2.2.2.2.2.2.2.2.2.2.2.2.2.2.2.2.2.2.2.2.2.2.2.2.2.2.2.2.2.2.1
noncomputable abbrev n : Nat := cT.2.2.2.2.2.2.2.2.2.2.2.2.2.2.2.2.2.2.2.2.2.2.2.2.2.2.2.2.2.2.2.2.2.2.2.2.1
set_option maxRecDepth 100000 in
set_option maxHeartbeats 0 in
theorem main : P0 cT.1 cT.2.1 cT.2.2.1 cT.2.2.2.1 cT.2.2.2.2.1 cT.2.2.2.2.2.1 cT.2.2.2.2.2.2.1 cT.2.2.2.2.2.2.2.1 cT.2.2.2.2.2.2.2.2.1 cT.2.2.2.2.2.2.2.2.2.1 cT.2.2.2.2.2.2.2.2.2.2.1 cT.2.2.2.2.2.2.2.2.2.2.2.1 cT.2.2.2.2.2.2.2.2.2.2.2.2.1 cT.2.2.2.2.2.2.2.2.2.2.2.2.2.1 cT.2.2.2.2.2.2.2.2.2.2.2.2.2.2.1 p cT.2.2.2.2.2.2.2.2.2.2.2.2.2.2.2.2.1 cT.2.2.2.2.2.2.2.2.2.2.2.2.2.2.2.2.2.1 cT.2.2.2.2.2.2.2.2.2.2.2.2.2.2.2.2.2.2.1 cT.2.2.2.2.2.2.2.2.2.2.2.2.2.2.2.2.2.2.2.1 news cT.2.2.2.2.2.2.2.2.2.2.2.2.2.2.2.2.2.2.2.2.2.1 cT.2.2.2.2.2.2.2.2.2.2.2.2.2.2.2.2.2.2.2.2.2.2.1 cT.2.2.2.2.2.2.2.2.2.2.2.2.2.2.2.2.2.2.2.2.2.2.2.1 cT.2.2.2.2.2.2.2.2.2.2.2.2.2.2.2.2.2.2.2.2.2.2.2.2.1 d cT.2.2.2.2.2.2.2.2.2.2.2.2.2.2.2.2.2.2.2.2.2.2.2.2.2.2.1 cT.2.2.2.2.2.2.2.2.2.2.2.2.2.2.2.2.2.2.2.2.2.2.2.2.2.2.2.1 cT.2.2.2.2.2.2.2.2.2.2.2.2.2.2.2.2.2.2.2.2.2.2.2.2.2.2.2.2.1 cT.2.2.2.2.2.2.2.2.2.2.2.2.2.2.2.2.2.2.2.2.2.2.2.2.2.2.2.2.2.1 cT.2.2.2.2.2.2.2.2.2.2.2.2.2.2.2.2.2.2.2.2.2.2.2.2.2.2.2.2.2.2.1 cT.2.2.2.2.2.2.2.2.2.2.2.2.2.2.2.2.2.2.2.2.2.2.2.2.2.2.2.2.2.2.2.1 cT.2.2.2.2.2.2.2.2.2.2.2.2.2.2.2.2.2.2.2.2.2.2.2.2.2.2.2.2.2.2.2.2.1 ns cT.2.2.2.2.2.2.2.2.2.2.2.2.2.2.2.2.2.2.2.2.2.2.2.2.2.2.2.2.2.2.2.2.2.2.1 cT.2.2.2.2.2.2.2.2.2.2.2.2.2.2.2.2.2.2.2.2.2.2.2.2.2.2.2.2.2.2.2.2.2.2.2.1 n cT.2.2.2.2.2.2.2.2.2.2.2.2.2.2.2.2.2.2.2.2.2.2.2.2.2.2.2.2.2.2.2.2.2.2.2.2.2.1 cT.2.2.2.2.2.2.2.2.2.2.2.2.2.2.2.2.2.2.2.2.2.2.2.2.2.2.2.2.2.2.2.2.2.2.2.2.2.2 := by
  unfold P0
  intro  B F KX T hk hdp hun N hls hlw hlv hw hi hn hbs hd ret
  walk_at "my enter"
  k_steps
  refine Hold.out ?_
  rename Fr _ _ _ _ => lF
  rename News _ _ _ _ => lN
  rename IsRange _ _ _ _ _ _ _ _ => lR
  rename (∀ p ∈ (_ : List (Addr × Obj)), p.1 < _) => lA9
  have lA4 := allLt_of lA9
  clear lA9
  obtain ⟨rD, rc, rus, hD, hc, hu⟩ := row_name (us := [_, _, _, _, _]) lN
  subst hD hc
  clear hu
  k_dflt (refine' for_count (ε := List Value) (n := 4) (fun i e => IntsAre e (rowOut d ns i)) (fun i e => []) (fun _ e => (rD, listOf (List.toArray e) 0) :: news) ["i", "j", "way", "told", "place", "share"] [_, _, _, _, _] (by rfl) lR ?small ?size lF lN ?hP (List.forall_mem_nil _) (fun _ _ => rfl) ?turn1 ?done1)
  case small => exact small_one (by decide) (by decide) (by decide) (by decide)
  case size => rfl
  case hP => exact .cons _ _ (.cons _ _ (.cons _ _ (.cons _ _ (.cons _ _ .nil))))
  case done1 =>
    clear lF lN lR
    intro e u h tk hP F1 N1
    dsimp only at F1 N1 hP ⊢
    k_steps
    exact ret _ _ _ _ _ (by k_asm) (by k_asm) hP lA4
  case turn1 =>
    clear lF lN lR
    intro i t e u I it h tk hi4 hP lI2 F1 N1
    have hrl := rowOut_len d ns i
    have hls : rowOut d ns (i + 1) = rowIn d ns i (rowOut d ns i) (i + 1) := rfl
    rw [hls]
    dsimp only at F1 N1 hP lI2 ⊢
    rw [Int.zero_add] at F1
    replace lI2 := allLt_of lI2
    simp only [AllLt] at lI2
    obtain ⟨lI2a, lI2b⟩ := lI2
    generalize rowOut d ns i = row at *
    k_steps
    refine Hold.out ?_
    rename IsRange _ _ _ _ _ _ _ _ => lR2
    rename Fr _ _ _ _ => lF2
    rename News _ _ _ _ => lN2
    k_dflt (refine' for_count (ε := List Value) (n := i + 1) (fun j e => IntsAre e (rowIn d ns i row j)) (fun j e => []) (fun _ e => (I, it) :: (rD, listOf (List.toArray e) 0) :: news) ["j", "way", "told", "place", "share"] e (by rfl) lR2 ?small ?size lF2 lN2 hP (List.forall_mem_nil _) (fun _ _ => rfl) ?turn3 ?done3)
    case small => exact small_one (by decide) (by decide) (by omega) (by omega)
    case size => exact size_natS (i + 1)
    case done3 =>
      clear lF2 lN2 lR2
      intro e2 u2 h2 tk2 hP2 F2 N2
      dsimp only at F2 N2 hP2 ⊢
      k_steps
      exact LoopEnd.next _ hP2 (by assumption) (by assumption) (List.forall_mem_nil _) (by walk_at "fr rest") (fun _ hp => .tail _ hp) (List.forall_mem_cons.mpr ⟨.head _, List.forall_mem_nil _⟩)
    case turn3 =>
      clear lF2 lN2 lR2
      intro j t2 e2 u2 I2 it2 h2 tk2 hj hP2 lI3 F2 N2
      have hcl : (rowIn d ns i row j).length = 5 := by rw [rowIn_len, hrl]
      have hst1 : rowIn d ns i row (j + 1) = cellStep d ns i (rowIn d ns i row j) j := rfl
      rw [hst1]
      dsimp only at F2 N2 hP2 lI3 ⊢
      rw [Int.zero_add] at F2
      replace lI3 := allLt_of lI3
      simp only [AllLt] at lI3
      obtain ⟨lI3a, lI3b, lI3c⟩ := lI3
      generalize rowIn d ns i row j = cell at F2 N2 hP2 hcl ⊢
      obtain ⟨hd0, hd4, hdt⟩ := hd i j hi4 (by omega)
      k_steps
      refine Hold.out ?_
      k_dflt (refine' c_told ?k1 ?k2 ?k3 ?k5 ?kK ?kd ?ku ?kN ?_; (case k1 => k_asm); (case k2 => k_asm); (case k3 => k_asm); (case k5 => k_asm); (case kK => exact rfl); (case kd => ktr_room); (case ku => ktr_units); (case kN => exact news_again (by k_asm) (by k_mem)))
      intro t3 h3 tk3 F3 N3
      replace N3 := news_sub N3 (fun p hp => .tail _ hp)
      rw [Int.toNat_natCast, Int.toNat_natCast, hdt]
      generalize hdd : d i j = place at *
      have hm9 : ∀ W : Int, place + 2 * min W 2 - 2 * (if 2 < W then 2 else W) = place := by
        intro W
        split <;> omega
      k_steps
      refine Hold.out ?_
      k_dflt (refine' c_sub (z := place) ?k1 ?k2 ?k3 ?k5 ?kK ?kd ?ku ?kN ?e9 ?_; (case k1 => k_asm); (case k2 => k_asm); (case k3 => k_asm); (case k5 => k_asm); (case kK => exact rfl); (case kd => ktr_room); (case ku => ktr_units); (case kN => k_asm); (case e9 => exact hm9 _))
      intro t4 h4 tk4 F4 N4
      k_steps
      · have hcs : cellStep d ns i cell j = cell.set place.toNat (cell.getD place.toNat 0 + (ns.getD i 0 * ns.getD j 0 + ns.getD i 0 * ns.getD j 0)) := by
          unfold cellStep
          rw [hdd, if_neg (by omega)]
        rw [hcs]
        exact LoopEnd.next _ (by assumption) (by assumption) (by assumption) (List.forall_mem_nil _) (by walk_at "fr rest") (fun _ hp => .tail _ hp) (List.forall_mem_cons.mpr ⟨.head _, List.forall_mem_nil _⟩)
      · have hcs : cellStep d ns i cell j = cell.set place.toNat (cell.getD place.toNat 0 + (ns.getD i 0 * ns.getD j 0)) := by
          unfold cellStep
          rw [hdd, if_pos (by omega)]
        rw [hcs]
        exact LoopEnd.next _ (by assumption) (by assumption) (by assumption) (List.forall_mem_nil _) (by walk_at "fr rest") (fun _ hp => .tail _ hp) (List.forall_mem_cons.mpr ⟨.head _, List.forall_mem_nil _⟩)
end X_c_shares
theorem c_shares {w : World} {dp : Nat} {un : Nat} {gd : Option (List Code)} {cn : Str} {cs : Scope} {a : Addr} {ccd : Value} {cl : List (Str × Addr)} {outer : List Env} {A₀ : Around} {base : Heap} {h₀ : Heap} {L : Addr} {m : Str → Option Value} {p : Program} {loose : List Str} {mean : ExcName → Option Value} {mg : Str → Option Value} {mb : Str → Option Value} {news : List (Addr × Obj)} {s : Shared} {Q : Value → Shared → Prop} {E : Value → Shared → Prop} {c : Nat → Nat → Nat} {d : Nat → Nat → Int} {u0 : Nat} {u1 : Nat} {lw : Addr} {lv : Addr} {ls : Addr} {ws : List Value} {vs : List Value} {ns : List Int} {nw : Nat} {nv : Nat} {n : Nat} {t0 : Tok} {t1 : Tok} (B : Below A₀ base outer h₀) (F : Fr h₀ L s.heap m) (KX : (kk w.params).In h₀) (T : Top p loose mean mg mb h₀) (hk : cs.kind = .function) (hdp : dp + 20 < recursionLimit) (hun : un + 200 < cLine) (N : News h₀ L s.heap news) (hls : (ls, listOf (List.toArray [.str ⟨#[u0]⟩ t0, .str ⟨#[u1]⟩ t1]) n) ∈ news) (hlw : (lw, listOf ws.toArray nw) ∈ news) (hlv : (lv, listOf vs.toArray nv) ∈ news) (hw : WordsAre ws c) (hi : IntsAre vs ns) (hn : ns.length = 4) (hbs : ∀ k, Builtin.Int.intBits (ns.getD k 0) ≤ 60) (hd : ∀ i j : Nat, i < 4 → j ≤ i → 0 ≤ d i j ∧ d i j ≤ 4 ∧ told4 scost (c i 0) (c i 1) (c i 2) (c i 3) (c j 0) (c j 1) (c j 2) (c j 3) u0 u1 (((i : Int) + j).fmod 4) = d i j + 2 * min (((i : Int) + j).fmod 4) 2) (ret : ∀ D us nn h' tk', Fr h₀ L h' m → News h₀ L h' ((D, listOf us.toArray nn) :: news) → IntsAre us (rowOut d ns 4) → AllLt D news → Q (.ref D) { s with heap := h', toks := tk' }) :
   wpAny (model PySem.Challenge.rw_tc0016_01.row.prog w) (ktrTop dp un gd cn cs L a ccd cl outer) (call (.ref 136) [.ref lw, .ref lv, .ref ls]) Q E s :=
  X_c_shares.cS X_c_shares.main (w, dp, un, gd, cn, cs, a, ccd, cl, outer, A₀, base, h₀, L, m, p, loose, mean, mg, mb, news, s, Q, E, c, d, u0, u1, lw, lv, ls, ws, vs, ns, nw, nv, n, t0, t1) B F KX T hk hdp hun N hls hlw hlv hw hi hn hbs hd ret

end
end
-- lawp
theorem off_ne {d a : Addr} {o : Obj} : ∀ {l : List (Addr × Obj)}, LCg.Off1 d l → (a, o) ∈ l → @Ne Nat a d
  | [], _, h => nomatch h
  | q :: r, h, hm => by
    rcases List.mem_cons.mp hm with e | hm
    · rw [← e] at h
      exact h.1
    · exact off_ne h.2 hm
theorem off3_ne {i c d a : Addr} {o : Obj} {l : List (Addr × Obj)} (h : LCg.Off3 i c d l) (hm : (a, o) ∈ l) : (@Ne Nat a i) ∧ (@Ne Nat a c) ∧ (@Ne Nat a d) := h.mem _ hm
theorem off_of_lt {d : Addr} : ∀ {l : List (Addr × Obj)}, (∀ p ∈ l, p.1 < d) → LCg.Off1 d l
  | [], _ => trivial
  | p :: _, h => ⟨Nat.ne_of_lt (h p (.head _)), off_of_lt fun q hq => h q (.tail _ hq)⟩
theorem news_rev {h₀ h : Heap} {L : Addr} {news : List (Addr × Obj)} (N : News h₀ L h news) : News h₀ L h news.reverse := fun p hp => N p (List.mem_reverse.mp hp)
theorem word_new {c : Addr} {oc : Obj} {q : Addr × Obj} {news : List (Addr × Obj)} (ca : ((#[] : Array Value) = #[] ∧ ∀ q ∈ news, q.1 < c) ∨ (tabObj #[] = hitA c ∧ (c, oc) ∈ news)) (hm : q ∈ news) (h30 : @LT.lt Nat _ 30 q.1) : LCg.Off1 c news ∧ c ≠ 30 := by
  rcases ca with ⟨_, h⟩ | ⟨e, _⟩
  · refine ⟨off_of_lt h, ?_⟩
    have h1 : @LT.lt Nat _ q.1 c := h q hm
    have : @Ne Nat c 30 := by omega
    exact this
  · have := congrArg Obj.data e
    cases this
theorem fm23 (x : Int) : 0 ≤ x.fmod 23 ∧ x.fmod 23 < 23 := ⟨Int.fmod_nonneg_of_pos x (by decide), Int.fmod_lt_of_pos x (by decide)⟩
theorem chr_26 {prog : Program} {w : World} {A : Around} {E : Value → Shared → Prop} {s : Shared} {x : Int} {t : Tok} {Q : Value → Shared → Prop} (h : Q (.str ⟨#[(97 + x.fmod 26).toNat]⟩ s.toks) { s with toks := s.toks + 1 }) :
    wpAny (model prog w) A (call (.builtin "chr") [.int (97 + x.fmod 26) t]) Q E s := by
  have h0 := Int.fmod_nonneg_of_pos x (show (0 : Int) < 26 by decide)
  have h1 := Int.fmod_lt_of_pos x (show (0 : Int) < 26 by decide)
  exact chr_of_range (by omega) (by omega) h
theorem pow109 {prog : Program} {w : World} {A : Around} {E : Value → Shared → Prop} {s : Shared} {t u : Tok} {Q : Value → Shared → Prop} (h : Q (.int 1000000000 s.toks) { s with toks := s.toks + 1 }) :
    wpAny (model prog w) A (binaryOp .Pow (.int 10 t) (.int 9 u)) Q E s := by
  refine pow_int_small (by decide) (by decide) (by decide) ?_
  rw [show (10 : Int) ^ (9 : Int).toNat = 1000000000 by decide]
  exact h
theorem rel_ints {f : Int → Int} : ∀ {ys : List Value} {ks : List Int}, RelAre (fun k y => ∃ t, y = .int (f k) t) ys ks → IntsAre ys (ks.map f)
  | [], [], _ => .nil
  | y :: ys, k :: ks, ⟨⟨t, e⟩, h⟩ => by
    subst e
    exact .cons _ _ (rel_ints h)
noncomputable def NumV (y : Value) : Prop := ∃ (n : Nat) (t : Tok), y = .int n t ∧ n < 16
theorem num16 (x : Int) (t : Tok) : NumV (.int (x.fmod 16) t) := by
  have h0 := Int.fmod_nonneg_of_pos x (show (0 : Int) < 16 by decide)
  have h1 := Int.fmod_lt_of_pos x (show (0 : Int) < 16 by decide)
  exact ⟨(x.fmod 16).toNat, t, by rw [Int.toNat_of_nonneg h0], by omega⟩
noncomputable def WtV (y : Value) : Prop := ∃ (n : Int) (t : Tok), y = .int n t ∧ -1000000000 ≤ n ∧ n ≤ 1000000000
theorem wt9 (x : Int) (t : Tok) : WtV (.int ((x + 1000000000).fmod (2 * 1000000000 + 1) - 1000000000) t) := by
  have h0 := Int.fmod_nonneg_of_pos (x + 1000000000) (show (0 : Int) < 2 * 1000000000 + 1 by decide)
  have h1 := Int.fmod_lt_of_pos (x + 1000000000) (show (0 : Int) < 2 * 1000000000 + 1 by decide)
  exact ⟨_, t, rfl, by omega, by omega⟩
noncomputable def lawS : Stmt := PySem.Challenge.pw_tc0016_01.main.body.getLastD (.Pass ⟨0, 0, 0, 0⟩)
theorem drop_more {α : Type} {l r : List α} {k : Nat} (j : Nat) (h : l.drop k = r) : l.drop (k + j) = r.drop j := by
  rw [← h, List.drop_drop]
noncomputable def sgnAt (nl wl : List Int) (k j : Int) : Int := wl.getD j.toNat 0 * (-1) ^ (shared k (nl.getD j.toNat 0)).toNat
noncomputable def sumAt (nl wl : List Int) (k : Int) : Int := ((rangeKs 0 4).map (sgnAt nl wl k)).sum
theorem ints4 (a b c d : Int) (t0 t1 t2 t3 : Tok) : IntsAre [.int a t0, .int b t1, .int c t2, .int d t3] [a, b, c, d] := .cons _ _ (.cons _ _ (.cons _ _ (.cons _ _ .nil)))
theorem bit_mul (a b : Int) : 0 ≤ a.fmod 2 * b.fmod 2 ∧ a.fmod 2 * b.fmod 2 ≤ 1 := by
  have h0 := Int.fmod_nonneg_of_pos a (show (0 : Int) < 2 by decide)
  have h1 := Int.fmod_lt_of_pos a (show (0 : Int) < 2 by decide)
  have h2 := Int.fmod_nonneg_of_pos b (show (0 : Int) < 2 by decide)
  have h3 := Int.fmod_lt_of_pos b (show (0 : Int) < 2 by decide)
  have ha : a.fmod 2 = 0 ∨ a.fmod 2 = 1 := by omega
  have hb : b.fmod 2 = 0 ∨ b.fmod 2 = 1 := by omega
  rcases ha with e | e <;> rcases hb with e' | e' <;> rw [e, e'] <;> decide
theorem shared_ok (x y : Int) : 0 ≤ shared x y ∧ shared x y ≤ 4 := by
  have a := bit_mul (x.fdiv 1) (y.fdiv 1)
  have b := bit_mul (x.fdiv 2) (y.fdiv 2)
  have c := bit_mul (x.fdiv 4) (y.fdiv 4)
  have d := bit_mul (x.fdiv 8) (y.fdiv 8)
  unfold shared
  simp only [List.map_cons, List.map_nil, List.sum_cons, List.sum_nil]
  omega
theorem wts_bits {w0 w1 w2 w3 : Int} (h0 : -1000000000 ≤ w0 ∧ w0 ≤ 1000000000) (h1 : -1000000000 ≤ w1 ∧ w1 ≤ 1000000000) (h2 : -1000000000 ≤ w2 ∧ w2 ≤ 1000000000) (h3 : -1000000000 ≤ w3 ∧ w3 ≤ 1000000000) : ∀ j : Nat, Builtin.Int.intBits ([w0, w1, w2, w3].getD j 0) ≤ 60 := by
  have key : ∀ x : Int, -1000000000 ≤ x ∧ x ≤ 1000000000 → Builtin.Int.intBits x ≤ 60 := fun x h => intBits_le_iff.mpr (by omega)
  intro j
  match j with
  | 0 => exact key _ h0
  | 1 => exact key _ h1
  | 2 => exact key _ h2
  | 3 => exact key _ h3
  | j + 4 => exact key 0 (by decide)
theorem mul_left_ok {prog : Program} {w : World} {A : Around} {E : Value → Shared → Prop} {s : Shared} {a b : Int} {t u : Tok} {Q : Value → Shared → Prop} (hb : Builtin.Int.intBits a ≤ 60) (h : Q (.int (a * b) s.toks) { s with toks := s.toks + 1 }) :
    wpAny (model prog w) A (binaryOp .Mult (.int a t) (.int b u)) Q E s := mul_int h (IntMulOk.of_left (Nat.le_trans hb (by decide)))
noncomputable def sqL (sl ol : List Int) (k : Int) : Int := (((rangeKs 0 16).filter (fun p => decide (ol.getD p.toNat 0 = k))).map (fun p => sl.getD p.toNat 0 ^ (2 : Int).toNat)).sum
theorem rel_ints_l {f : Int → Int} {ys : List Value} {ks : List Int} (h : RelAre (fun k y => ∃ t, y = .int (f k) t) ys ks) : IntsAre ys (ks.map f) := rel_ints h
theorem pow2_ok {prog : Program} {w : World} {A : Around} {E : Value → Shared → Prop} {s : Shared} {a : Int} {t u : Tok} {Q : Value → Shared → Prop} (hb : Builtin.Int.intBits a ≤ 60) (h : Q (.int (a ^ (2 : Int).toNat) s.toks) { s with toks := s.toks + 1 }) :
    wpAny (model prog w) A (binaryOp .Pow (.int a t) (.int 2 u)) Q E s := by
  refine pow_int (by decide) ?_ h
  have e2 : (2 : Int) ^ 27 = 134217728 := by decide
  rw [e2]
  omega
theorem tabB_new {c : Addr} {oc : Obj} {q : Addr × Obj} {news : List (Addr × Obj)} (ca : ((#[] : Array Value) = #[] ∧ ∀ q ∈ news, q.1 < c) ∨ (tabObj #[] = hitB c ∧ (c, oc) ∈ news)) (hm : q ∈ news) (h37 : @LT.lt Nat _ 37 q.1) : LCg.Off1 c news ∧ c ≠ 37 := by
  rcases ca with ⟨_, h⟩ | ⟨e, _⟩
  · refine ⟨off_of_lt h, ?_⟩
    have h1 : @LT.lt Nat _ q.1 c := h q hm
    have : @Ne Nat c 37 := by omega
    exact this
  · have := congrArg Obj.data e
    cases this
theorem pow_base_ok {prog : Program} {w : World} {A : Around} {E : Value → Shared → Prop} {s : Shared} {b k : Int} {t u : Tok} {Q : Value → Shared → Prop} (hb : Builtin.Int.intBits b ≤ 100) (h0 : 0 ≤ k) (h1 : k < 5) (h : Q (.int (b ^ k.toNat) s.toks) { s with toks := s.toks + 1 }) :
    wpAny (model prog w) A (binaryOp .Pow (.int b t) (.int k u)) Q E s := pow_int h0 (pow_fits hb (by decide) h0 (by omega)) h
theorem mul_pow_ok {prog : Program} {w : World} {A : Around} {E : Value → Shared → Prop} {s : Shared} {a b k : Int} {t u : Tok} {Q : Value → Shared → Prop} (ha : Builtin.Int.intBits a ≤ 200) (hb : Builtin.Int.intBits b ≤ 100) (h0 : 0 ≤ k) (h1 : k < 5) (h : Q (.int (a * b ^ k.toNat) s.toks) { s with toks := s.toks + 1 }) :
    wpAny (model prog w) A (binaryOp .Mult (.int a t) (.int (b ^ k.toNat) u)) Q E s := mul_int h (IntMulOk.of_le ha (intBits_pow_le hb k.toNat) (by omega))
theorem fdiv_ok {prog : Program} {w : World} {A : Around} {E : Value → Shared → Prop} {s : Shared} {a b : Int} {t u : Tok} {Q : Value → Shared → Prop} (h0 : b ≠ 0) (hb : Builtin.Int.intBits b ≤ 100) (h : Q (.int (a.fdiv b) s.toks) { s with toks := s.toks + 1 }) :
    wpAny (model prog w) A (binaryOp .FloorDiv (.int a t) (.int b u)) Q E s := by
  refine floordiv_int h0 h (Or.inl (PyProof.noPylong_of_log2 ?_))
  have h1 := intBits_le_iff.mp hb
  have h2 := (Nat.log2_lt (by omega)).mpr h1
  omega

-- wht
-- the butterflies are linear in the row
noncomputable def radd (c : Int) (l l' : List Int) : List Int := List.zipWith (fun a b => a + c * b) l l'
theorem radd_getD {c : Int} {l l' : List Int} (h : l.length = l'.length) (i : Nat) : (radd c l l').getD i 0 = l.getD i 0 + c * l'.getD i 0 := by
  unfold radd
  rw [List.getD_eq_getElem?_getD, List.getD_eq_getElem?_getD, List.getD_eq_getElem?_getD, List.getElem?_zipWith]
  by_cases hi : i < l.length
  · rw [List.getElem?_eq_getElem hi, List.getElem?_eq_getElem (h ▸ hi)]
    rfl
  · rw [List.getElem?_eq_none (Nat.not_lt.mp hi), List.getElem?_eq_none (h ▸ Nat.not_lt.mp hi)]
    try simp only [Option.getD_none]
    show (0 : Int) = 0 + c * 0
    rw [Int.mul_zero, Int.add_zero]
theorem radd_set (c : Int) (a b : Int) : ∀ (l l' : List Int) (i : Nat), radd c (l.set i a) (l'.set i b) = (radd c l l').set i (a + c * b)
  | [], l', i => by cases l' <;> rfl
  | x :: l, [], i => by cases i <;> rfl
  | x :: l, y :: l', 0 => rfl
  | x :: l, y :: l', i + 1 => congrArg (_ :: ·) (radd_set c a b l l' i)
theorem turn_len (s k : Int) (l : List Int) : (bfTurn s l k).length = l.length := by
  unfold bfTurn
  split
  · rw [List.length_set, List.length_set]
  · rfl
theorem turn_lin (c s k : Int) {l l' : List Int} (h : l.length = l'.length) : bfTurn s (radd c l l') k = radd c (bfTurn s l k) (bfTurn s l' k) := by
  unfold bfTurn
  split
  · rw [radd_set, radd_set, radd_getD h, radd_getD h]
    have e1 : ∀ x y z u : Int, x + c * y + (z + c * u) = x + z + c * (y + u) := fun x y z u => by rw [Int.mul_add]; omega
    have e2 : ∀ x y z u : Int, x + c * y - (z + c * u) = x - z + c * (y - u) := fun x y z u => by rw [Int.mul_sub]; omega
    rw [e1, e2]
  · rfl
theorem turns_len (s : Int) : ∀ (ks : List Int) (l : List Int), (ks.foldl (bfTurn s) l).length = l.length
  | [], _ => rfl
  | k :: ks, l => (turns_len s ks (bfTurn s l k)).trans (turn_len s k l)
theorem turns_lin (c s : Int) : ∀ (ks : List Int) {l l' : List Int}, l.length = l'.length → ks.foldl (bfTurn s) (radd c l l') = radd c (ks.foldl (bfTurn s) l) (ks.foldl (bfTurn s) l')
  | [], _, _, _ => rfl
  | k :: ks, l, l', h => by
    show ks.foldl (bfTurn s) (bfTurn s (radd c l l') k) = _
    rw [turn_lin c s k h]
    exact turns_lin c s ks (by rw [turn_len, turn_len, h])
noncomputable def bfT (row : List Int) : List Int := [1, 2, 4, 8].foldl (fun row step => (rangeKs 0 16).foldl (bfTurn step) row) row
noncomputable def bfS (ss : List Int) (row : List Int) : List Int := ss.foldl (fun row step => (rangeKs 0 16).foldl (bfTurn step) row) row
theorem bfS_len : ∀ (ss : List Int) (l : List Int), (bfS ss l).length = l.length
  | [], _ => rfl
  | s :: ss, l => (bfS_len ss _).trans (turns_len s _ l)
theorem bfS_lin (c : Int) : ∀ (ss : List Int) {l l' : List Int}, l.length = l'.length → bfS ss (radd c l l') = radd c (bfS ss l) (bfS ss l')
  | [], _, _, _ => rfl
  | s :: ss, l, l', h => by
    show bfS ss ((rangeKs 0 16).foldl (bfTurn s) (radd c l l')) = _
    rw [turns_lin c s _ h]
    exact bfS_lin c ss (by rw [turns_len, turns_len, h])
noncomputable def unit16 (n : Nat) : List Int := (List.replicate 16 0).set n 1
noncomputable def sgW (j i : Nat) : Int := (-1) ^ (shared (j : Int) (i : Int)).toNat
theorem bfS_unit : ∀ n : Fin 16, bfS [1, 2, 4, 8] (unit16 n.val) = (List.range 16).map (fun j => sgW j n.val) := by decide +kernel
theorem bfS_zero : bfS [1, 2, 4, 8] (List.replicate 16 0) = List.replicate 16 0 := by decide +kernel
theorem radd_zero (w : Int) : ∀ {l : List Int} {n : Nat}, l.length = n → radd w l (List.replicate n 0) = l
  | [], _, _ => rfl
  | x :: l, n, h => by
    subst h
    show (x + w * 0) :: radd w l (List.replicate l.length 0) = x :: l
    rw [Int.mul_zero, Int.add_zero, radd_zero w rfl]
theorem put_radd {l : List Int} (hl : l.length = 16) (w : Int) {n : Nat} (hn : n < 16) : l.set n (l.getD n 0 + w) = radd w l (unit16 n) := by
  have e := radd_set w (l.getD n 0) 1 l (List.replicate 16 0) n
  have e0 : radd w l (List.replicate 16 0) = l := radd_zero w hl
  have e2 : l.set n (l.getD n 0) = l := by
    rw [List.getD_eq_getElem?_getD, List.getElem?_eq_getElem (by omega), Option.getD_some, List.set_getElem_self]
  rw [e0, e2, Int.mul_one] at e
  exact e.symm
theorem put_one {l : List Int} {n : Nat} (w : Int) (hl : l.length = 16) (hn : n < 16) : (l.set ((n : Int)).toNat (l.getD ((n : Int)).toNat 0 + w)).length = 16 ∧ bfS [1, 2, 4, 8] (l.set ((n : Int)).toNat (l.getD ((n : Int)).toNat 0 + w)) = radd w (bfS [1, 2, 4, 8] l) ((List.range 16).map (fun j => sgW j n)) := by
  refine ⟨by rw [List.length_set, hl], ?_⟩
  rw [Int.toNat_natCast, put_radd hl w hn, bfS_lin w _ (by rw [hl]; unfold unit16; rw [List.length_set]; rfl), bfS_unit ⟨n, hn⟩]
theorem radd_map (w : Int) (f g : Nat → Int) : radd w ((List.range 16).map f) ((List.range 16).map g) = (List.range 16).map (fun j => f j + w * g j) := by
  unfold radd
  rw [List.zipWith_map, List.zipWith_self]
theorem bfly_row {n0 n1 n2 n3 : Nat} (h0 : n0 < 16) (h1 : n1 < 16) (h2 : n2 < 16) (h3 : n3 < 16) (w0 w1 w2 w3 : Int) :
    bfly [n0, n1, n2, n3] [w0, w1, w2, w3] = (List.range 16).map (fun j => 0 + w0 * sgW j n0 + w1 * sgW j n1 + w2 * sgW j n2 + w3 * sgW j n3) := by
  have a0 := put_one w0 (l := List.replicate 16 0) rfl h0
  have a1 := put_one w1 a0.1 h1
  have a2 := put_one w2 a1.1 h2
  have a3 := put_one w3 a2.1 h3
  refine a3.2.trans ?_
  rw [a2.2, a1.2, a0.2, bfS_zero, show (List.replicate 16 (0 : Int)) = (List.range 16).map (fun _ => 0) from rfl, radd_map, radd_map, radd_map, radd_map]
-- a row weighed: the sum of f (k + i) * row i
noncomputable def dot (f : Nat → Int) : Nat → List Int → Int
  | _, [] => 0
  | k, a :: l => f k * a + dot f (k + 1) l
theorem dot_set (f : Nat → Int) (v : Int) : ∀ (l : List Int) (k n : Nat), n < l.length → dot f k (l.set n (l.getD n 0 + v)) = dot f k l + f (k + n) * v
  | [], _, _, h => absurd h (Nat.not_lt_zero _)
  | a :: l, k, 0, _ => by
    show f k * (a + v) + dot f (k + 1) l = f k * a + dot f (k + 1) l + f (k + 0) * v
    rw [Int.mul_add, Nat.add_zero]
    exact Int.add_right_comm ..
  | a :: l, k, n + 1, h => by
    show f k * a + dot f (k + 1) (l.set n (l.getD n 0 + v)) = f k * a + dot f (k + 1) l + f (k + (n + 1)) * v
    rw [dot_set f v l (k + 1) n (Nat.lt_of_succ_lt_succ h), show k + 1 + n = k + (n + 1) by omega]
    omega
theorem dot_zero (f : Nat → Int) : ∀ (n k : Nat), dot f k (List.replicate n 0) = 0
  | 0, _ => rfl
  | n + 1, k => by
    show f k * 0 + dot f (k + 1) (List.replicate n 0) = 0
    rw [dot_zero f n, Int.mul_zero]
    rfl
theorem sum_four (n0 n1 n2 n3 : Nat) (w0 w1 w2 w3 : Int) (j : Nat) : sumAt [n0, n1, n2, n3] [w0, w1, w2, w3] (j : Int) = w0 * sgW j n0 + w1 * sgW j n1 + w2 * sgW j n2 + w3 * sgW j n3 := by
  show w0 * sgW j n0 + (w1 * sgW j n1 + (w2 * sgW j n2 + (w3 * sgW j n3 + 0))) = _
  omega
theorem bfly_sums {n0 n1 n2 n3 : Nat} (h0 : n0 < 16) (h1 : n1 < 16) (h2 : n2 < 16) (h3 : n3 < 16) (w0 w1 w2 w3 : Int) : bfly [n0, n1, n2, n3] [w0, w1, w2, w3] = (rangeKs 0 16).map (sumAt [n0, n1, n2, n3] [w0, w1, w2, w3]) := by
  rw [bfly_row h0 h1 h2 h3]
  show _ = ((List.range 16).map fun (i : Nat) => (0 : Int) + (i : Int)).map _
  rw [List.map_map]
  refine List.map_congr_left fun j _ => ?_
  show _ = sumAt _ _ (0 + (j : Int))
  rw [show (0 : Int) + (j : Int) = j from Int.zero_add _, sum_four, Int.zero_add]
theorem nums_ok {n0 n1 n2 n3 : Nat} (h0 : n0 < 16) (h1 : n1 < 16) (h2 : n2 < 16) (h3 : n3 < 16) : ∀ j : Nat, 0 ≤ [(n0 : Int), n1, n2, n3].getD j 0 ∧ [(n0 : Int), n1, n2, n3].getD j 0 < 16
  | 0 => ⟨by show (0 : Int) ≤ n0; omega, by show (n0 : Int) < 16; omega⟩
  | 1 => ⟨by show (0 : Int) ≤ n1; omega, by show (n1 : Int) < 16; omega⟩
  | 2 => ⟨by show (0 : Int) ≤ n2; omega, by show (n2 : Int) < 16; omega⟩
  | 3 => ⟨by show (0 : Int) ≤ n3; omega, by show (n3 : Int) < 16; omega⟩
  | _ + 4 => ⟨Int.le_refl 0, by show (0 : Int) < 16; decide⟩
theorem pow_sign : ∀ n : Nat, (-1 : Int) ^ n = 1 ∨ (-1 : Int) ^ n = -1
  | 0 => .inl rfl
  | n + 1 => by
    rw [Int.pow_succ]
    rcases pow_sign n with e | e <;> rw [e]
    · exact .inr rfl
    · exact .inl rfl
theorem sg_abs (w : Int) (j n : Nat) : (w * sgW j n).natAbs = w.natAbs := by
  have e : (sgW j n).natAbs = 1 := by
    unfold sgW
    rcases pow_sign (shared (j : Int) (n : Int)).toNat with e | e <;> rw [e] <;> rfl
  rw [Int.natAbs_mul, e, Nat.mul_one]
theorem sum_small (n0 n1 n2 n3 : Nat) (w0 w1 w2 w3 : Int) (j : Nat) : (sumAt [n0, n1, n2, n3] [w0, w1, w2, w3] (j : Int)).natAbs ≤ w0.natAbs + w1.natAbs + w2.natAbs + w3.natAbs := by
  rw [sum_four]
  refine Nat.le_trans (Int.natAbs_add_le _ _) ?_
  refine Nat.add_le_add (Nat.le_trans (Int.natAbs_add_le _ _) (Nat.add_le_add (Nat.le_trans (Int.natAbs_add_le _ _) ?_) ?_)) ?_
  · rw [sg_abs, sg_abs]
    exact Nat.le_refl _
  · rw [sg_abs]
    exact Nat.le_refl _
  · rw [sg_abs]
    exact Nat.le_refl _
theorem sum_getD (n0 n1 n2 n3 : Nat) (w0 w1 w2 w3 : Int) (j : Nat) : ((rangeKs 0 16).map (sumAt [n0, n1, n2, n3] [w0, w1, w2, w3])).getD j 0 = if j < 16 then sumAt [n0, n1, n2, n3] [w0, w1, w2, w3] (j : Int) else 0 := by
  rw [List.getD_eq_getElem?_getD]
  by_cases h : j < 16
  · rw [if_pos h, List.getElem?_eq_getElem (by rw [List.length_map, rangeKs_length]; exact h), Option.getD_some, List.getElem_map]
    unfold rangeKs
    rw [List.getElem_map, List.getElem_range, Int.zero_add]
  · rw [if_neg h, List.getElem?_eq_none (by rw [List.length_map, rangeKs_length]; omega), Option.getD_none]
theorem sums_small (n0 n1 n2 n3 : Nat) (w0 w1 w2 w3 : Int) (j : Nat) : (((rangeKs 0 16).map (sumAt [n0, n1, n2, n3] [w0, w1, w2, w3])).getD j 0).natAbs ≤ w0.natAbs + w1.natAbs + w2.natAbs + w3.natAbs := by
  rw [sum_getD]
  split
  · exact sum_small ..
  · omega
theorem sums_bits {n0 n1 n2 n3 : Nat} {w0 w1 w2 w3 : Int} (h0 : -1000000000 ≤ w0 ∧ w0 ≤ 1000000000) (h1 : -1000000000 ≤ w1 ∧ w1 ≤ 1000000000) (h2 : -1000000000 ≤ w2 ∧ w2 ≤ 1000000000) (h3 : -1000000000 ≤ w3 ∧ w3 ≤ 1000000000) : ∀ j : Nat, Builtin.Int.intBits (((rangeKs 0 16).map (sumAt [n0, n1, n2, n3] [w0, w1, w2, w3])).getD j 0) ≤ 60 := by
  intro j
  refine intBits_le_iff.mpr (Nat.lt_of_le_of_lt (sums_small ..) ?_)
  have e : (2 : Nat) ^ 60 = 1152921504606846976 := by decide
  omega

-- toldp
theorem lvCells_congr {f f' : Nat → Int} {i : Nat} {row : List Int} : ∀ k : Nat, (∀ j, j < k → f j = f' j) → lvCells f i row k = lvCells f' i row k
  | 0, _ => rfl
  | k + 1, h => by
    show lvTurn f (lvCells f i row k) k = lvTurn f' (lvCells f' i row k) k
    rw [lvCells_congr k fun j hj => h j (Nat.lt_succ_of_lt hj)]
    unfold lvTurn
    rw [h k (Nat.lt_succ_self k)]
theorem lvState_congr {f f' : Nat → Nat → Int} {n : Nat} : ∀ k : Nat, (∀ i, i < k → ∀ j, j < n → f i j = f' i j) → lvState f n k = lvState f' n k
  | 0, _ => rfl
  | k + 1, h => by
    show ((lvCells (f k) k (lvState f n k).2 n).2.1, _) = ((lvCells (f' k) k (lvState f' n k).2 n).2.1, _)
    rw [lvState_congr k fun i hi => h i (Nat.lt_succ_of_lt hi), lvCells_congr n (h k (Nat.lt_succ_self k))]
theorem lvMin_congr {f f' : Nat → Nat → Int} {n k i : Nat} (hi : i < k) (h : ∀ i, i < k → ∀ j, j < n → f i j = f' i j) : lvMin f n i = lvMin f' n i := by
  unfold lvMin
  rw [lvState_congr i fun i' hi' => h i' (Nat.lt_trans hi' hi), lvCells_congr n (h i hi)]
theorem lvOut_congr {f f' : Nat → Nat → Int} {n k : Nat} {mx : Int} (h : ∀ i, i < k → ∀ j, j < n → f i j = f' i j) : lvOut f n k mx = lvOut f' n k mx := by
  unfold lvOut
  rw [lvState_congr k h]
  have e : (List.range k).all (fun i => decide (lvMin f n i ≤ mx)) = (List.range k).all (fun i => decide (lvMin f' n i ≤ mx)) := by
    rw [Bool.eq_iff_iff, List.all_eq_true, List.all_eq_true]
    refine forall_congr' fun i => forall_congr' fun hi => ?_
    rw [lvMin_congr (List.mem_range.mp hi) h]
  rw [e]
section
variable {φ : Nat → Nat} {g g' : Nat → Nat → Int} {D : Nat → Prop} (hφ : ∀ a b, D a → D b → φ a = φ b → a = b) (hg : ∀ a b, D a → D b → g (φ a) (φ b) = g' a b)
include hφ
theorem map_same : ∀ {x y : List Nat}, (∀ a ∈ x, D a) → (∀ a ∈ y, D a) → (x.map φ = y.map φ ↔ x = y)
  | [], [], _, _ => ⟨fun _ => rfl, fun _ => rfl⟩
  | [], _ :: _, _, _ => ⟨fun h => (List.cons_ne_nil _ _ h.symm).elim, fun h => (List.cons_ne_nil _ _ h.symm).elim⟩
  | _ :: _, [], _, _ => ⟨fun h => (List.cons_ne_nil _ _ h).elim, fun h => (List.cons_ne_nil _ _ h).elim⟩
  | a :: x, b :: y, hx, hy => by
    refine ⟨fun h => ?_, fun h => by rw [h]⟩
    have h1 := List.cons.inj h
    rw [hφ a b (hx _ (.head _)) (hy _ (.head _)) h1.1, (map_same (fun c hc => hx c (.tail _ hc)) (fun c hc => hy c (.tail _ hc))).mp h1.2]
theorem map_lcp : ∀ {x y : List Nat}, (∀ a ∈ x, D a) → (∀ a ∈ y, D a) → lcp (fun a b => a == b) (x.map φ) (y.map φ) = lcp (fun a b => a == b) x y
  | [], [], _, _ => rfl
  | [], _ :: _, _, _ => rfl
  | _ :: _, [], _, _ => rfl
  | a :: x, b :: y, hx, hy => by
    show (if (φ a == φ b) = true then lcp _ (x.map φ) (y.map φ) + 1 else 0) = if (a == b) = true then lcp _ x y + 1 else 0
    rw [map_lcp (fun c hc => hx c (.tail _ hc)) (fun c hc => hy c (.tail _ hc))]
    by_cases e : a = b
    · subst e
      rw [if_pos (beq_self_eq_true _), if_pos (beq_self_eq_true _)]
    · rw [if_neg (fun h => e (hφ a b (hx _ (.head _)) (hy _ (.head _)) (eq_of_beq h))), if_neg (fun h => e (eq_of_beq h))]
omit hφ
include hg
theorem levC_map {x y : List Nat} {mx : Int} (hx : ∀ a ∈ x, D a) (hy : ∀ a ∈ y, D a) : levC g (x.map φ) (y.map φ) mx = levC g' x y mx := by
  unfold levC
  rw [List.length_map, List.length_map]
  split
  · rfl
  · refine lvOut_congr fun i hi j hj => ?_
    rw [List.getD_eq_getElem?_getD, List.getD_eq_getElem?_getD, List.getD_eq_getElem?_getD, List.getD_eq_getElem?_getD, List.getElem?_map, List.getElem?_map, List.getElem?_eq_getElem hi, List.getElem?_eq_getElem hj]
    exact hg _ _ (hy _ (List.getElem_mem hi)) (hx _ (List.getElem_mem hj))
theorem levB_map {x y : List Nat} {mx : Int} (hx : ∀ a ∈ x, D a) (hy : ∀ a ∈ y, D a) : levB g (x.map φ) (y.map φ) mx = levB g' x y mx := by
  unfold levB
  rw [List.length_map, List.length_map, levC_map hg hx hy, levC_map hg hy hx]
include hφ
theorem lev_map {x y : List Nat} {mx : Int} (hx : ∀ a ∈ x, D a) (hy : ∀ a ∈ y, D a) : lev g (x.map φ) (y.map φ) mx = lev g' x y mx := by
  unfold lev
  rw [map_lcp hφ hx hy]
  by_cases e : x = y
  · rw [if_pos e, if_pos (by rw [e])]
  · rw [if_neg e, if_neg (fun h => e ((map_same hφ hx hy).mp h))]
    generalize lcp (fun a b => a == b) x y = n
    have hx1 : ∀ a ∈ x.drop n, D a := fun a h => hx a (List.mem_of_mem_drop h)
    have hy1 : ∀ a ∈ y.drop n, D a := fun a h => hy a (List.mem_of_mem_drop h)
    rw [← List.map_drop, ← List.map_drop]
    generalize x.drop n = x1 at hx1 ⊢
    generalize y.drop n = y1 at hy1 ⊢
    rw [← List.map_reverse, ← List.map_reverse, map_lcp hφ (fun a h => hx1 a (List.mem_reverse.mp h)) (fun a h => hy1 a (List.mem_reverse.mp h))]
    generalize lcp (fun a b => a == b) x1.reverse y1.reverse = k
    unfold levA
    rw [List.length_map, List.length_map, ← List.map_take, ← List.map_take]
    exact levB_map hg (fun a h => hx1 a (List.mem_of_mem_take h)) (fun a h => hy1 a (List.mem_of_mem_take h))
end
-- letters: the small ones lie at 97 .. 122, the great ones at 65 .. 90
noncomputable def low (c : Nat) : Nat := if c < 97 then c + 32 else c
theorem low_txt : ∀ c, c < 123 → (65 ≤ c ∧ c < 91 ∨ 97 ≤ c) → Txt.lower ⟨#[c]⟩ = ⟨#[low c]⟩ := by
  decide +kernel
theorem scost_low {x y : Nat} (hx : x < 123 ∧ (65 ≤ x ∧ x < 91 ∨ 97 ≤ x)) (hy : y < 123 ∧ (65 ≤ y ∧ y < 91 ∨ 97 ≤ y)) : scost x y = if x = y then 0 else if low x = low y then 1 else 2 := by
  unfold scost
  rw [low_txt x hx.1 hx.2, low_txt y hy.1 hy.2, sign_eq, sign_eq]
  by_cases e : x = y
  · rw [if_pos e, if_pos (beq_iff_eq.mpr e)]
  · rw [if_neg e, if_neg (fun h => e (beq_iff_eq.mp h))]
    by_cases e2 : low x = low y
    · rw [if_pos e2, if_pos (beq_iff_eq.mpr e2)]
    · rw [if_neg e2, if_neg (fun h => e2 (beq_iff_eq.mp h))]
-- ten signs: 0 .. 3 the letters of the first word, 4 .. 7 the same in the other case, 8 and 9 the strange ones
noncomputable def sym (a b : Nat) : Int := if a = b then 0 else if a < 8 ∧ b < 8 ∧ a % 4 = b % 4 then 1 else 2
noncomputable def pick (b : Bool) (k : Nat) : Nat := if b then 4 + k else k
theorem sym_told : ∀ (b0 b1 b2 b3 : Bool) (way : Fin 4), told4 sym 0 1 2 3 (pick b0 0) (pick b1 1) (pick b2 2) (pick b3 3) 8 9 ((way.val : Nat) : Int) = (((if b0 then 1 else 0) + (if b1 then 1 else 0) + (if b2 then 1 else 0) + (if b3 then 1 else 0) : Nat) : Int) + 2 * min ((way.val : Nat) : Int) 2 := by
  decide +kernel
theorem sgn_told {φ : Nat → Nat} {g : Nat → Nat → Int} (hφ : ∀ a b, a < 10 → b < 10 → φ a = φ b → a = b) (hg : ∀ a b, a < 10 → b < 10 → g (φ a) (φ b) = sym a b) {b0 b1 b2 b3 : Nat} (h0 : b0 < 10) (h1 : b1 < 10) (h2 : b2 < 10) (h3 : b3 < 10) (way : Int) :
    told4 g (φ 0) (φ 1) (φ 2) (φ 3) (φ b0) (φ b1) (φ b2) (φ b3) (φ 8) (φ 9) way = told4 sym 0 1 2 3 b0 b1 b2 b3 8 9 way := by
  have nil : ∀ a ∈ ([] : List Nat), a < 10 := List.forall_mem_nil _
  have cons : ∀ {a : Nat} {l : List Nat}, a < 10 → (∀ a ∈ l, a < 10) → ∀ c ∈ a :: l, c < 10 := fun h h' => List.forall_mem_cons.mpr ⟨h, h'⟩
  have l : ∀ {k : Nat}, Nat.ble (k + 1) 10 = true → k < 10 := fun h => Nat.le_of_ble_eq_true h
  unfold told4
  split
  · exact lev_map (x := [0, 1, 2, 3]) (y := [b0, b1, b2, b3]) (D := (· < 10)) hφ hg (cons (l rfl) (cons (l rfl) (cons (l rfl) (cons (l rfl) nil)))) (cons h0 (cons h1 (cons h2 (cons h3 nil))))
  · split
    · exact lev_map (x := [0, 1, 8, 2, 3]) (y := [b0, b1, 9, b2, b3]) (D := (· < 10)) hφ hg (cons (l rfl) (cons (l rfl) (cons (l rfl) (cons (l rfl) (cons (l rfl) nil))))) (cons h0 (cons h1 (cons (l rfl) (cons h2 (cons h3 nil)))))
    · split
      · exact lev_map (x := [8, 0, 1, 2, 3]) (y := [b0, b1, b2, b3, 9]) (D := (· < 10)) hφ hg (cons (l rfl) (cons (l rfl) (cons (l rfl) (cons (l rfl) (cons (l rfl) nil))))) (cons h0 (cons h1 (cons h2 (cons h3 (cons (l rfl) nil)))))
      · exact lev_map (x := [0, 1, 2, 3, 9]) (y := [8, b0, b1, b2, b3]) (D := (· < 10)) hφ hg (cons (l rfl) (cons (l rfl) (cons (l rfl) (cons (l rfl) (cons (l rfl) nil))))) (cons (l rfl) (cons h0 (cons h1 (cons h2 (cons h3 nil)))))
noncomputable def bitN (X k : Nat) : Nat := X / 2 ^ k % 2
noncomputable def hamN (X Y : Nat) : Int := (((List.range 4).filter (fun k => decide (bitN X k ≠ bitN Y k))).length : Int)
noncomputable def nmN (n0 n1 n2 n3 i : Nat) : Nat := [n0, n1, n2, n3].getD i 0
noncomputable def cdN (n0 n1 n2 n3 : Nat) (pl : Int) (i k : Nat) : Nat := wcode (nmN n0 n1 n2 n3 i) pl k
noncomputable def dN (n0 n1 n2 n3 i j : Nat) : Int := hamN (nmN n0 n1 n2 n3 i) (nmN n0 n1 n2 n3 j)
-- the place of a sign's letter, and whether it is a great one
noncomputable def ltr (p a : Nat) : Nat := if a < 8 then p + a % 4 else if a = 8 then (p + 4) % 26 else (p + 5) % 26
noncomputable def upp (X a : Nat) : Nat := if a < 4 then bitN X a else if a < 8 then 1 - bitN X (a - 4) else 0
noncomputable def fcode (X p a : Nat) : Nat := 97 + ltr p a - 32 * upp X a
theorem bit_le (X k : Nat) : bitN X k ≤ 1 := Nat.le_of_lt_succ (Nat.mod_lt _ (by decide))
theorem upp_le (X a : Nat) : upp X a ≤ 1 := by
  unfold upp
  have := bit_le X a
  split
  · exact this
  · split <;> omega
theorem ltr_lt {p a : Nat} (hp : p < 23) : ltr p a < 26 := by
  unfold ltr
  split
  · omega
  · split <;> omega
theorem ltr_sameF : ∀ p : Fin 23, ∀ a b : Fin 10, decide (ltr p.val a.val = ltr p.val b.val) = decide (a.val = b.val ∨ (a.val < 8 ∧ b.val < 8 ∧ a.val % 4 = b.val % 4)) := by decide +kernel
theorem ltr_same {p a b : Nat} (hp : p < 23) (ha : a < 10) (hb : b < 10) : ltr p a = ltr p b ↔ (a = b ∨ (a < 8 ∧ b < 8 ∧ a % 4 = b % 4)) := decide_eq_decide.mp (ltr_sameF ⟨p, hp⟩ ⟨a, ha⟩ ⟨b, hb⟩)
theorem fcode_low {X p a : Nat} (hp : p < 23) : low (fcode X p a) = 97 + ltr p a ∧ fcode X p a < 123 ∧ (65 ≤ fcode X p a ∧ fcode X p a < 91 ∨ 97 ≤ fcode X p a) := by
  have h1 := upp_le X a
  have h2 := ltr_lt (a := a) hp
  unfold low fcode
  split <;> omega
theorem fcode_inj {X p a b : Nat} (hp : p < 23) (ha : a < 10) (hb : b < 10) (h : fcode X p a = fcode X p b) : a = b := by
  have h1 := upp_le X a
  have h2 := ltr_lt (a := a) hp
  have h3 := upp_le X b
  have h4 := ltr_lt (a := b) hp
  have e : ltr p a = ltr p b ∧ upp X a = upp X b := by
    unfold fcode at h
    omega
  rcases (ltr_same hp ha hb).mp e.1 with e1 | ⟨h8, h8', e1⟩
  · exact e1
  · have e2 := e.2
    unfold upp at e2
    have k1 := bit_le X a
    have k2 := bit_le X b
    by_cases c1 : a < 4
    · by_cases c2 : b < 4
      · omega
      · have : b - 4 = a := by omega
        rw [if_pos c1, if_neg c2, if_pos h8', this] at e2
        omega
    · by_cases c2 : b < 4
      · have : a - 4 = b := by omega
        rw [if_neg c1, if_pos c2, if_pos h8, this] at e2
        omega
      · omega
theorem fcode_cost {X p a b : Nat} (hp : p < 23) (ha : a < 10) (hb : b < 10) : scost (fcode X p a) (fcode X p b) = sym a b := by
  have fa := fcode_low (X := X) (a := a) hp
  have fb := fcode_low (X := X) (a := b) hp
  rw [scost_low fa.2 fb.2, fa.1, fb.1]
  unfold sym
  by_cases e : a = b
  · rw [if_pos e, if_pos (by rw [e])]
  · rw [if_neg e, if_neg (fun h => e (fcode_inj hp ha hb h))]
    by_cases e2 : ltr p a = ltr p b
    · rw [if_pos (by rw [e2]), if_pos]
      rcases (ltr_same hp ha hb).mp e2 with e3 | e3
      · exact absurd e3 e
      · exact e3
    · rw [if_neg (by omega), if_neg]
      intro h
      exact e2 ((ltr_same hp ha hb).mpr (.inr h))
theorem word_code {X Y p k : Nat} (hk : k < 4) : wcode Y (p : Int) (k : Int) = fcode X p (pick (decide (bitN X k ≠ bitN Y k)) k) := by
  have h1 := bit_le X k
  have h2 := bit_le Y k
  have e : wcode Y (p : Int) (k : Int) = 97 + (p + k) - 32 * bitN Y k := by
    unfold wcode
    rw [Int.toNat_natCast]
    show (97 + (p : Int) + (k : Int) - 32 * ((bitN Y k : Nat) : Int)).toNat = _
    omega
  rw [e]
  unfold fcode ltr upp
  by_cases c : bitN X k = bitN Y k
  · rw [show decide (bitN X k ≠ bitN Y k) = false from decide_eq_false (fun h => h c)]
    show _ = 97 + (if k < 8 then p + k % 4 else _) - 32 * (if k < 4 then bitN X k else _)
    rw [if_pos (by omega), if_pos hk, Nat.mod_eq_of_lt hk, c]
  · rw [show decide (bitN X k ≠ bitN Y k) = true from decide_eq_true c]
    show _ = 97 + (if 4 + k < 8 then p + (4 + k) % 4 else _) - 32 * (if 4 + k < 4 then bitN X (4 + k) else if 4 + k < 8 then 1 - bitN X (4 + k - 4) else 0)
    rw [if_pos (by omega), if_neg (by omega), if_pos (by omega), show (4 + k) % 4 = k by omega, show 4 + k - 4 = k by omega]
    omega
theorem word_same {X p k : Nat} (hk : k < 4) : wcode X (p : Int) (k : Int) = fcode X p k := by
  rw [word_code (X := X) hk, show decide (bitN X k ≠ bitN X k) = false from decide_eq_false (fun h => h rfl)]
  rfl
theorem strange_codeF : ∀ p : Fin 23, ∀ k : Fin 2, (97 + (((p.val : Nat) : Int) + 4 + ((k.val : Nat) : Int)).fmod 26).toNat = 97 + ltr p.val (8 + k.val) := by decide +kernel
theorem strange_code {X p k : Nat} (hk : k < 2) (hp : p < 23) : (97 + ((p : Int) + 4 + (k : Int)).fmod 26).toNat = fcode X p (8 + k) := by
  unfold fcode upp
  rw [if_neg (Nat.not_lt.mpr (Nat.le_trans (by decide) (Nat.le_add_right 8 k))), if_neg (Nat.not_lt.mpr (Nat.le_add_right 8 k))]
  exact strange_codeF ⟨p, hp⟩ ⟨k, hk⟩
theorem ham_bits (X Y : Nat) : hamN X Y = (((if decide (bitN X 0 ≠ bitN Y 0) then 1 else 0) + (if decide (bitN X 1 ≠ bitN Y 1) then 1 else 0) + (if decide (bitN X 2 ≠ bitN Y 2) then 1 else 0) + (if decide (bitN X 3 ≠ bitN Y 3) then 1 else 0) : Nat) : Int) := by
  unfold hamN
  show ((List.filter (fun k => decide (bitN X k ≠ bitN Y k)) [0, 1, 2, 3]).length : Int) = _
  simp only [List.filter_cons, List.filter_nil]
  generalize decide (bitN X 0 ≠ bitN Y 0) = b0
  generalize decide (bitN X 1 ≠ bitN Y 1) = b1
  generalize decide (bitN X 2 ≠ bitN Y 2) = b2
  generalize decide (bitN X 3 ≠ bitN Y 3) = b3
  cases b0 <;> cases b1 <;> cases b2 <;> cases b3 <;> rfl
theorem pick_lt {b : Bool} {k : Nat} (h : k < 4) : pick b k < 10 := by
  unfold pick
  split <;> omega
theorem told_ham {n0 n1 n2 n3 : Nat} (h0 : n0 < 16) (h1 : n1 < 16) (h2 : n2 < 16) (h3 : n3 < 16) {pl : Int} (hp : 0 ≤ pl ∧ pl < 23) {st0 st1 : Nat} (hs0 : st0 = (97 + (pl + 4 + 0).fmod 26).toNat) (hs1 : st1 = (97 + (pl + 4 + 1).fmod 26).toNat) :
    ∀ i j : Nat, i < 4 → j ≤ i → 0 ≤ dN n0 n1 n2 n3 i j ∧ dN n0 n1 n2 n3 i j ≤ 4 ∧ told4 scost (cdN n0 n1 n2 n3 pl i 0) (cdN n0 n1 n2 n3 pl i 1) (cdN n0 n1 n2 n3 pl i 2) (cdN n0 n1 n2 n3 pl i 3) (cdN n0 n1 n2 n3 pl j 0) (cdN n0 n1 n2 n3 pl j 1) (cdN n0 n1 n2 n3 pl j 2) (cdN n0 n1 n2 n3 pl j 3) st0 st1 (((i : Int) + j).fmod 4) = dN n0 n1 n2 n3 i j + 2 * min (((i : Int) + j).fmod 4) 2 := by
  intro i j _ _
  obtain ⟨p, rfl⟩ : ∃ p : Nat, pl = p := ⟨pl.toNat, by omega⟩
  have hp' : p < 23 := by omega
  unfold dN cdN
  generalize nmN n0 n1 n2 n3 i = X
  generalize nmN n0 n1 n2 n3 j = Y
  have hw : ((i : Int) + j).fmod 4 = (((⟨(i + j) % 4, Nat.mod_lt _ (by decide)⟩ : Fin 4).val : Nat) : Int) := by
    rw [Int.fmod_eq_emod_of_nonneg _ (by decide)]
    show _ = (((i + j) % 4 : Nat) : Int)
    omega
  rw [hw, ham_bits]
  refine ⟨Int.natCast_nonneg _, ?_, ?_⟩
  · split <;> split <;> split <;> split <;> decide
  · rw [hs0, hs1]
    rw [show (97 + ((p : Int) + 4 + 0).fmod 26).toNat = fcode X p 8 from strange_code (k := 0) (by decide) hp', show (97 + ((p : Int) + 4 + 1).fmod 26).toNat = fcode X p 9 from strange_code (k := 1) (by decide) hp']
    rw [word_same (X := X) (k := 0) (by decide), word_same (X := X) (k := 1) (by decide), word_same (X := X) (k := 2) (by decide), word_same (X := X) (k := 3) (by decide)]
    rw [word_code (X := X) (Y := Y) (k := 0) (by decide), word_code (X := X) (Y := Y) (k := 1) (by decide), word_code (X := X) (Y := Y) (k := 2) (by decide), word_code (X := X) (Y := Y) (k := 3) (by decide)]
    rw [sgn_told (φ := fcode X p) (fun a b ha hb => fcode_inj hp' ha hb) (fun a b ha hb => fcode_cost hp' ha hb) (pick_lt (by decide)) (pick_lt (by decide)) (pick_lt (by decide)) (pick_lt (by decide))]
    exact sym_told _ _ _ _ _
theorem words_are {n0 n1 n2 n3 : Nat} {pl : Int} {t0 t1 t2 t3 : Tok} : WordsAre [.str (word n0 pl) t0, .str (word n1 pl) t1, .str (word n2 pl) t2, .str (word n3 pl) t3] (cdN n0 n1 n2 n3 pl)
  | 0, _ => ⟨t0, rfl⟩
  | 1, _ => ⟨t1, rfl⟩
  | 2, _ => ⟨t2, rfl⟩
  | 3, _ => ⟨t3, rfl⟩
  | _ + 4, h => absurd h (by omega)
noncomputable abbrev shaL (n0 n1 n2 n3 : Nat) (w0 w1 w2 w3 : Int) : List Int := rowOut (dN n0 n1 n2 n3) [w0, w1, w2, w3] 4

-- macw
noncomputable abbrev smL (n0 n1 n2 n3 : Nat) (w0 w1 w2 w3 : Int) : List Int := (rangeKs 0 16).map (sumAt [(n0 : Int), n1, n2, n3] [w0, w1, w2, w3])
noncomputable abbrev onL : List Int := (rangeKs 0 16).map (fun k => shared k 15)
noncomputable abbrev sqs (n0 n1 n2 n3 : Nat) (w0 w1 w2 w3 : Int) : List Int := (rangeKs 0 5).map (sqL (smL n0 n1 n2 n3 w0 w1 w2 w3) onL)
-- what the squares make together, to the base B
noncomputable def packSq (sq : List Int) (B : Int) : Int := sq.getD 0 0 + sq.getD 1 0 * B + sq.getD 2 0 * B ^ 2 + sq.getD 3 0 * B ^ 3 + sq.getD 4 0 * B ^ 4
noncomputable def shNum (sh : List Int) (B : Int) : Int := ((rangeKs 0 5).map (fun k => sh.getD k.toNat 0 * B ^ k.toNat)).sum
-- the ten pairs of weights
noncomputable def wPair (w : List Int) (i j : Nat) : Int := if i = j then w.getD i 0 * w.getD j 0 else w.getD i 0 * w.getD j 0 + w.getD i 0 * w.getD j 0
noncomputable def qf (w : List Int) (m : Nat → Nat → Int) : Int := wPair w 0 0 * m 0 0 + wPair w 1 0 * m 1 0 + wPair w 1 1 * m 1 1 + wPair w 2 0 * m 2 0 + wPair w 2 1 * m 2 1 + wPair w 2 2 * m 2 2 + wPair w 3 0 * m 3 0 + wPair w 3 1 * m 3 1 + wPair w 3 2 * m 3 2 + wPair w 3 3 * m 3 3
theorem qf_add (w : List Int) (m m' : Nat → Nat → Int) : qf w (fun i j => m i j + m' i j) = qf w m + qf w m' := by
  unfold qf
  simp only [Int.mul_add]
  omega
theorem qf_mul (w : List Int) (c : Int) (m : Nat → Nat → Int) : qf w (fun i j => c * m i j) = c * qf w m := by
  unfold qf
  simp only [Int.mul_add, Int.mul_left_comm]
theorem qf_zero (w : List Int) : qf w (fun _ _ => 0) = 0 := by
  unfold qf
  simp only [Int.mul_zero]
  rfl
theorem qf_congr (w : List Int) {m m' : Nat → Nat → Int} (h : ∀ i j, i < 4 → j ≤ i → m i j = m' i j) : qf w m = qf w m' := by
  unfold qf
  rw [h 0 0 (by decide) (by decide), h 1 0 (by decide) (by decide), h 1 1 (by decide) (by decide), h 2 0 (by decide) (by decide), h 2 1 (by decide) (by decide), h 2 2 (by decide) (by decide), h 3 0 (by decide) (by decide), h 3 1 (by decide) (by decide), h 3 2 (by decide) (by decide), h 3 3 (by decide) (by decide)]
theorem qf_square (w0 w1 w2 w3 : Int) (u : Nat → Int) : (w0 * u 0 + w1 * u 1 + w2 * u 2 + w3 * u 3) ^ 2 = qf [w0, w1, w2, w3] (fun i j => u i * u j) := by
  show _ = w0 * w0 * (u 0 * u 0) + (w1 * w0 + w1 * w0) * (u 1 * u 0) + w1 * w1 * (u 1 * u 1) + (w2 * w0 + w2 * w0) * (u 2 * u 0) + (w2 * w1 + w2 * w1) * (u 2 * u 1) + w2 * w2 * (u 2 * u 2) + (w3 * w0 + w3 * w0) * (u 3 * u 0) + (w3 * w1 + w3 * w1) * (u 3 * u 1) + (w3 * w2 + w3 * w2) * (u 3 * u 2) + w3 * w3 * (u 3 * u 3)
  grind
theorem nm_at (n0 n1 n2 n3 : Nat) (w0 w1 w2 w3 : Int) (p : Nat) : sumAt [n0, n1, n2, n3] [w0, w1, w2, w3] (p : Int) = w0 * sgW p (nmN n0 n1 n2 n3 0) + w1 * sgW p (nmN n0 n1 n2 n3 1) + w2 * sgW p (nmN n0 n1 n2 n3 2) + w3 * sgW p (nmN n0 n1 n2 n3 3) := sum_four ..
theorem sq_sum (n0 n1 n2 n3 : Nat) (w0 w1 w2 w3 : Int) : ∀ l : List Nat, (l.map fun p : Nat => sumAt [n0, n1, n2, n3] [w0, w1, w2, w3] (p : Int) ^ 2).sum = qf [w0, w1, w2, w3] (fun i j => (l.map fun p : Nat => sgW p (nmN n0 n1 n2 n3 i) * sgW p (nmN n0 n1 n2 n3 j)).sum)
  | [] => (qf_zero _).symm
  | p :: l => by
    rw [List.map_cons, List.sum_cons, sq_sum n0 n1 n2 n3 w0 w1 w2 w3 l, nm_at, qf_square w0 w1 w2 w3 (fun i => sgW p (nmN n0 n1 n2 n3 i)), ← qf_add]
    rfl
-- the numbers below 16 by how many ones they bear
noncomputable def wtL (k : Nat) : List Nat := (List.range 16).filter fun p : Nat => decide (shared (p : Int) 15 = (k : Int))
theorem sq_of (n0 n1 n2 n3 : Nat) (w0 w1 w2 w3 : Int) (k : Nat) : sqL (smL n0 n1 n2 n3 w0 w1 w2 w3) onL (k : Int) = ((wtL k).map fun p : Nat => sumAt [n0, n1, n2, n3] [w0, w1, w2, w3] (p : Int) ^ 2).sum := by
  unfold sqL wtL
  have e : rangeKs 0 16 = (List.range 16).map (fun (i : Nat) => (i : Int)) := by
    unfold rangeKs
    exact List.map_congr_left fun i _ => Int.zero_add _
  have on_at : ∀ p, p < 16 → onL.getD ((p : Nat) : Int).toNat 0 = shared (p : Int) 15 := by
    intro p hp
    rw [Int.toNat_natCast, List.getD_eq_getElem?_getD, List.getElem?_eq_getElem (by rw [List.length_map, rangeKs_length]; exact hp), Option.getD_some, List.getElem_map]
    unfold rangeKs
    rw [List.getElem_map, List.getElem_range, Int.zero_add]
  rw [e, List.filter_map, List.map_map]
  have e1 : (List.range 16).filter ((fun p : Int => decide (onL.getD p.toNat 0 = (k : Int))) ∘ fun (i : Nat) => (i : Int)) = (List.range 16).filter fun p : Nat => decide (shared (p : Int) 15 = (k : Int)) := by
    refine List.filter_congr fun p hp => ?_
    show decide (onL.getD ((p : Nat) : Int).toNat 0 = (k : Int)) = _
    rw [on_at p (List.mem_range.mp hp)]
  rw [e1]
  congr 1
  refine List.map_congr_left fun p hp => ?_
  have hp' := List.mem_range.mp (List.mem_filter.mp hp).1
  show (smL n0 n1 n2 n3 w0 w1 w2 w3).getD ((p : Nat) : Int).toNat 0 ^ (2 : Int).toNat = _
  rw [Int.toNat_natCast, sum_getD, if_pos hp']
  rfl
theorem sqs_are (n0 n1 n2 n3 : Nat) (w0 w1 w2 w3 : Int) : sqs n0 n1 n2 n3 w0 w1 w2 w3 = (List.range 5).map (fun k => qf [w0, w1, w2, w3] (fun i j => ((wtL k).map fun p : Nat => sgW p (nmN n0 n1 n2 n3 i) * sgW p (nmN n0 n1 n2 n3 j)).sum)) := by
  show ((List.range 5).map fun (i : Nat) => (0 : Int) + (i : Int)).map _ = _
  rw [List.map_map]
  refine List.map_congr_left fun k _ => ?_
  show sqL _ _ ((0 : Int) + (k : Int)) = _
  rw [Int.zero_add, sq_of, sq_sum]
-- the sums over all numbers of one weight
noncomputable def krw (d : Nat) : List Int := [[1, 4, 6, 4, 1], [1, 2, 0, -2, -1], [1, 0, -2, 0, 1], [1, -2, 0, 2, -1], [1, -4, 6, -4, 1]].getD d []
theorem kr_all : ∀ x y : Fin 16, ((List.range 5).map fun k => ((wtL k).map fun p : Nat => sgW p x.val * sgW p y.val).sum) = krw (hamN x.val y.val).toNat := by
  decide +kernel
theorem kr_row {x y : Nat} (hx : x < 16) (hy : y < 16) : ((List.range 5).map fun k => ((wtL k).map fun p : Nat => sgW p x * sgW p y).sum) = krw (hamN x y).toNat := kr_all ⟨x, hx⟩ ⟨y, hy⟩
noncomputable def kr (G : Nat → Int) (d : Nat) : Int := dot G 0 (krw d)
theorem nm_lt {n0 n1 n2 n3 : Nat} (h0 : n0 < 16) (h1 : n1 < 16) (h2 : n2 < 16) (h3 : n3 < 16) : ∀ i, nmN n0 n1 n2 n3 i < 16
  | 0 => h0
  | 1 => h1
  | 2 => h2
  | 3 => h3
  | _ + 4 => by show (0 : Nat) < 16; decide
theorem dot_map (G : Nat → Int) (w : List Int) (m : Nat → Nat → Nat → Int) : ∀ (l : List Nat) (s : Nat), dot G s (l.map fun k => qf w (m k)) = qf w (fun i j => dot G s (l.map fun k => m k i j))
  | [], _ => (qf_zero w).symm
  | k :: l, s => by
    show G s * qf w (m k) + dot G (s + 1) (l.map fun k => qf w (m k)) = qf w (fun i j => G s * m k i j + dot G (s + 1) (l.map fun k => m k i j))
    rw [dot_map G w m l (s + 1), qf_add, qf_mul]
theorem sqs_dot {n0 n1 n2 n3 : Nat} (h0 : n0 < 16) (h1 : n1 < 16) (h2 : n2 < 16) (h3 : n3 < 16) (w0 w1 w2 w3 : Int) (G : Nat → Int) : dot G 0 (sqs n0 n1 n2 n3 w0 w1 w2 w3) = qf [w0, w1, w2, w3] (fun i j => kr G (dN n0 n1 n2 n3 i j).toNat) := by
  rw [sqs_are, dot_map G _ (fun k i j => ((wtL k).map fun p : Nat => sgW p (nmN n0 n1 n2 n3 i) * sgW p (nmN n0 n1 n2 n3 j)).sum)]
  refine qf_congr _ fun i j _ _ => ?_
  rw [kr_row (nm_lt h0 h1 h2 h3 i) (nm_lt h0 h1 h2 h3 j)]
  rfl
theorem ham_le (X Y : Nat) : (hamN X Y).toNat < 5 := by
  unfold hamN
  rw [Int.toNat_natCast]
  exact Nat.lt_succ_of_le (List.length_filter_le _ _)
theorem cell_dot (H : Nat → Int) (d : Nat → Nat → Int) (w row : List Int) (i j : Nat) (hl : row.length = 5) (hd : (d i j).toNat < 5) : dot H 0 (cellStep d w i row j) = dot H 0 row + wPair w i j * H (d i j).toNat := by
  unfold cellStep
  rw [dot_set H _ row 0 _ (by omega), Nat.zero_add, Int.mul_comm]
  rfl
theorem row_dot (H : Nat → Int) (d : Nat → Nat → Int) (w row : List Int) (i : Nat) (hl : row.length = 5) (hd : ∀ i j, (d i j).toNat < 5) (j : Nat) : dot H 0 (rowIn d w i row (j + 1)) = dot H 0 (rowIn d w i row j) + wPair w i j * H (d i j).toNat :=
  cell_dot H d w _ i j (by rw [rowIn_len, hl]) (hd i j)
theorem sha_dot (H : Nat → Int) (d : Nat → Nat → Int) (w : List Int) (hd : ∀ i j, (d i j).toNat < 5) : dot H 0 (rowOut d w 4) = qf w (fun i j => H (d i j).toNat) := by
  have s : ∀ i, dot H 0 (rowOut d w (i + 1)) = dot H 0 (rowIn d w i (rowOut d w i) (i + 1)) := fun _ => rfl
  have z : ∀ i, dot H 0 (rowIn d w i (rowOut d w i) 0) = dot H 0 (rowOut d w i) := fun _ => rfl
  have r : ∀ i j, dot H 0 (rowIn d w i (rowOut d w i) (j + 1)) = dot H 0 (rowIn d w i (rowOut d w i) j) + wPair w i j * H (d i j).toNat := fun i j => row_dot H d w _ i (rowOut_len ..) hd j
  have e0 : dot H 0 (rowOut d w 0) = 0 := dot_zero H 5 0
  rw [s 3, r, r, r, r, z, s 2, r, r, r, z, s 1, r, r, z, s 0, r, z, e0, Int.zero_add]
  rfl
theorem mac {n0 n1 n2 n3 : Nat} (h0 : n0 < 16) (h1 : n1 < 16) (h2 : n2 < 16) (h3 : n3 < 16) (w0 w1 w2 w3 : Int) (G : Nat → Int) : dot G 0 (sqs n0 n1 n2 n3 w0 w1 w2 w3) = dot (kr G) 0 (shaL n0 n1 n2 n3 w0 w1 w2 w3) := by
  exact (sqs_dot h0 h1 h2 h3 w0 w1 w2 w3 G).trans (sha_dot (kr G) (dN n0 n1 n2 n3) [w0, w1, w2, w3] fun i j => ham_le _ _).symm
theorem list5 : ∀ {l : List Int}, l.length = 5 → ∃ a b c d e : Int, l = [a, b, c, d, e]
  | [a, b, c, d, e], _ => ⟨a, b, c, d, e, rfl⟩
theorem dot_congr {f g : Nat → Int} : ∀ {l : List Int} {s : Nat}, (∀ k, k < s + l.length → f k = g k) → dot f s l = dot g s l
  | [], _, _ => rfl
  | a :: l, s, h => by
    show f s * a + dot f (s + 1) l = g s * a + dot g (s + 1) l
    rw [h s (by rw [List.length_cons]; omega), dot_congr fun k hk => h k (by rw [List.length_cons]; omega)]
theorem turned_dot {sh : List Int} (hl : sh.length = 5) (B : Int) : turned sh B = dot (fun k => (1 - B) ^ k * (1 + B) ^ (4 - k)) 0 sh := by
  obtain ⟨a, b, c, d, e, rfl⟩ := list5 hl
  show 0 + a * ((1 - B) ^ 0 * (1 + B) ^ 4) + b * ((1 - B) ^ 1 * (1 + B) ^ 3) + c * ((1 - B) ^ 2 * (1 + B) ^ 2) + d * ((1 - B) ^ 3 * (1 + B) ^ 1) + e * ((1 - B) ^ 4 * (1 + B) ^ 0) = (1 - B) ^ 0 * (1 + B) ^ 4 * a + ((1 - B) ^ 1 * (1 + B) ^ 3 * b + ((1 - B) ^ 2 * (1 + B) ^ 2 * c + ((1 - B) ^ 3 * (1 + B) ^ 1 * d + ((1 - B) ^ 4 * (1 + B) ^ 0 * e + 0))))
  rw [Int.mul_comm a, Int.mul_comm b, Int.mul_comm c, Int.mul_comm d, Int.mul_comm e]
  omega
theorem shNum_dot {sh : List Int} (hl : sh.length = 5) (B : Int) : shNum sh B = dot (fun k => B ^ k) 0 sh := by
  obtain ⟨a, b, c, d, e, rfl⟩ := list5 hl
  show a * B ^ 0 + (b * B ^ 1 + (c * B ^ 2 + (d * B ^ 3 + (e * B ^ 4 + 0)))) = B ^ 0 * a + (B ^ 1 * b + (B ^ 2 * c + (B ^ 3 * d + (B ^ 4 * e + 0))))
  rw [Int.mul_comm a, Int.mul_comm b, Int.mul_comm c, Int.mul_comm d, Int.mul_comm e]
theorem packSq_dot {sq : List Int} (hl : sq.length = 5) (B : Int) : packSq sq B = dot (fun k => B ^ k) 0 sq := by
  obtain ⟨a, b, c, d, e, rfl⟩ := list5 hl
  show a + b * B + c * B ^ 2 + d * B ^ 3 + e * B ^ 4 = B ^ 0 * a + (B ^ 1 * b + (B ^ 2 * c + (B ^ 3 * d + (B ^ 4 * e + 0))))
  grind
theorem sqs_len (n0 n1 n2 n3 : Nat) (w0 w1 w2 w3 : Int) : (sqs n0 n1 n2 n3 w0 w1 w2 w3).length = 5 := by rw [List.length_map, rangeKs_length]
theorem five {P : Nat → Prop} (h0 : P 0) (h1 : P 1) (h2 : P 2) (h3 : P 3) (h4 : P 4) : ∀ k, k < 5 → P k
  | 0, _ => h0
  | 1, _ => h1
  | 2, _ => h2
  | 3, _ => h3
  | 4, _ => h4
  | _ + 5, h => absurd h (by omega)
theorem kr_pow (B : Int) : ∀ d, d < 5 → kr (fun k => B ^ k) d = (1 - B) ^ d * (1 + B) ^ (4 - d) := by
  refine five ?_ ?_ ?_ ?_ ?_
  · show B ^ 0 * 1 + (B ^ 1 * 4 + (B ^ 2 * 6 + (B ^ 3 * 4 + (B ^ 4 * 1 + 0)))) = (1 - B) ^ 0 * (1 + B) ^ 4
    grind
  · show B ^ 0 * 1 + (B ^ 1 * 2 + (B ^ 2 * 0 + (B ^ 3 * -2 + (B ^ 4 * -1 + 0)))) = (1 - B) ^ 1 * (1 + B) ^ 3
    grind
  · show B ^ 0 * 1 + (B ^ 1 * 0 + (B ^ 2 * -2 + (B ^ 3 * 0 + (B ^ 4 * 1 + 0)))) = (1 - B) ^ 2 * (1 + B) ^ 2
    grind
  · show B ^ 0 * 1 + (B ^ 1 * -2 + (B ^ 2 * 0 + (B ^ 3 * 2 + (B ^ 4 * -1 + 0)))) = (1 - B) ^ 3 * (1 + B) ^ 1
    grind
  · show B ^ 0 * 1 + (B ^ 1 * -4 + (B ^ 2 * 6 + (B ^ 3 * -4 + (B ^ 4 * 1 + 0)))) = (1 - B) ^ 4 * (1 + B) ^ 0
    grind
theorem kr_back (B : Int) : ∀ d, d < 5 → kr (fun k => (1 - B) ^ k * (1 + B) ^ (4 - k)) d = 16 * B ^ d := by
  refine five ?_ ?_ ?_ ?_ ?_
  · show (1 - B) ^ 0 * (1 + B) ^ 4 * 1 + ((1 - B) ^ 1 * (1 + B) ^ 3 * 4 + ((1 - B) ^ 2 * (1 + B) ^ 2 * 6 + ((1 - B) ^ 3 * (1 + B) ^ 1 * 4 + ((1 - B) ^ 4 * (1 + B) ^ 0 * 1 + 0)))) = 16 * B ^ 0
    grind
  · show (1 - B) ^ 0 * (1 + B) ^ 4 * 1 + ((1 - B) ^ 1 * (1 + B) ^ 3 * 2 + ((1 - B) ^ 2 * (1 + B) ^ 2 * 0 + ((1 - B) ^ 3 * (1 + B) ^ 1 * -2 + ((1 - B) ^ 4 * (1 + B) ^ 0 * -1 + 0)))) = 16 * B ^ 1
    grind
  · show (1 - B) ^ 0 * (1 + B) ^ 4 * 1 + ((1 - B) ^ 1 * (1 + B) ^ 3 * 0 + ((1 - B) ^ 2 * (1 + B) ^ 2 * -2 + ((1 - B) ^ 3 * (1 + B) ^ 1 * 0 + ((1 - B) ^ 4 * (1 + B) ^ 0 * 1 + 0)))) = 16 * B ^ 2
    grind
  · show (1 - B) ^ 0 * (1 + B) ^ 4 * 1 + ((1 - B) ^ 1 * (1 + B) ^ 3 * -2 + ((1 - B) ^ 2 * (1 + B) ^ 2 * 0 + ((1 - B) ^ 3 * (1 + B) ^ 1 * 2 + ((1 - B) ^ 4 * (1 + B) ^ 0 * -1 + 0)))) = 16 * B ^ 3
    grind
  · show (1 - B) ^ 0 * (1 + B) ^ 4 * 1 + ((1 - B) ^ 1 * (1 + B) ^ 3 * -4 + ((1 - B) ^ 2 * (1 + B) ^ 2 * 6 + ((1 - B) ^ 3 * (1 + B) ^ 1 * -4 + ((1 - B) ^ 4 * (1 + B) ^ 0 * 1 + 0)))) = 16 * B ^ 4
    grind
theorem dot_mul (c : Int) (f : Nat → Int) : ∀ (l : List Int) (s : Nat), dot (fun k => c * f k) s l = c * dot f s l
  | [], _ => (Int.mul_zero c).symm
  | a :: l, s => by
    show c * f s * a + dot (fun k => c * f k) (s + 1) l = c * (f s * a + dot f (s + 1) l)
    rw [dot_mul c f l, Int.mul_add, Int.mul_assoc]
section
variable {n0 n1 n2 n3 : Nat} {w0 w1 w2 w3 Sz Wd Bs tp : Int}
theorem sha_len : (shaL n0 n1 n2 n3 w0 w1 w2 w3).length = 5 := rowOut_len ..
theorem turned_shares (h0 : n0 < 16) (h1 : n1 < 16) (h2 : n2 < 16) (h3 : n3 < 16) (B : Int) : turned (shaL n0 n1 n2 n3 w0 w1 w2 w3) B = packSq (sqs n0 n1 n2 n3 w0 w1 w2 w3) B := by
  rw [turned_dot sha_len, packSq_dot (sqs_len ..), mac h0 h1 h2 h3]
  exact (dot_congr fun k hk => kr_pow B k (by rw [sha_len] at hk; omega)).symm
theorem turned_sq (h0 : n0 < 16) (h1 : n1 < 16) (h2 : n2 < 16) (h3 : n3 < 16) (B : Int) : turned (sqs n0 n1 n2 n3 w0 w1 w2 w3) B = 16 * shNum (shaL n0 n1 n2 n3 w0 w1 w2 w3) B := by
  rw [turned_dot (sqs_len ..), shNum_dot sha_len, mac h0 h1 h2 h3, ← dot_mul]
  exact dot_congr fun k hk => kr_back B k (by rw [sha_len] at hk; omega)
end
section
variable {n0 n1 n2 n3 : Nat} {w0 w1 w2 w3 Sz Wd Bs tp : Int}
theorem sqr_le {x : Int} {z : Nat} (h : x.natAbs ≤ z) : 0 ≤ x ^ 2 ∧ x ^ 2 ≤ (z : Int) * z := by
  have e : x ^ 2 = ((x.natAbs * x.natAbs : Nat) : Int) := by
    rw [Int.natCast_mul, Int.natAbs_mul_self', Int.pow_succ, Int.pow_succ, Int.pow_zero, Int.one_mul]
  rw [e]
  have := Nat.mul_le_mul h h
  rw [← Int.natCast_mul]
  omega
theorem sum_sq_le {f : Nat → Int} {z : Int} (h : ∀ p, 0 ≤ f p ∧ f p ≤ z) : ∀ l : List Nat, 0 ≤ (l.map f).sum ∧ (l.map f).sum ≤ (l.length : Int) * z
  | [] => ⟨Int.le_refl 0, by rw [List.length_nil]; show (0 : Int) ≤ 0 * z; omega⟩
  | p :: l => by
    have h1 := h p
    have h2 := sum_sq_le h l
    rw [List.map_cons, List.sum_cons, List.length_cons, Int.natCast_add, Int.add_mul]
    have e : ((1 : Nat) : Int) * z = z := Int.one_mul z
    omega
theorem wt_len : ∀ k, k < 5 → (wtL k).length ≤ 6 := by decide
theorem sq_ok (hSz : ((w0.natAbs + w1.natAbs + w2.natAbs + w3.natAbs : Nat) : Int) = Sz) (hWd2 : 2 * (6 * Sz * Sz) < 2 ^ Wd.toNat) (hBs : (2 : Int) ^ Wd.toNat = Bs) : ∀ k : Nat, 0 ≤ (sqs n0 n1 n2 n3 w0 w1 w2 w3).getD k 0 ∧ (sqs n0 n1 n2 n3 w0 w1 w2 w3).getD k 0 < Bs := by
  intro k
  have hz : 0 ≤ Sz * Sz := by
    rw [← hSz, ← Int.natCast_mul]
    exact Int.natCast_nonneg _
  rw [Int.mul_assoc] at hWd2
  by_cases hk : k < 5
  · have e : (sqs n0 n1 n2 n3 w0 w1 w2 w3).getD k 0 = ((wtL k).map fun p : Nat => sumAt [n0, n1, n2, n3] [w0, w1, w2, w3] (p : Int) ^ 2).sum := by
      rw [List.getD_eq_getElem?_getD, List.getElem?_eq_getElem (by rw [sqs_len]; exact hk), Option.getD_some, List.getElem_map, ← sq_of]
      unfold rangeKs
      rw [List.getElem_map, List.getElem_range, Int.zero_add]
    rw [e]
    have h := sum_sq_le (fun p => sqr_le (sum_small n0 n1 n2 n3 w0 w1 w2 w3 p)) (wtL k)
    rw [hSz] at h
    have h6 : ((wtL k).length : Int) * (Sz * Sz) ≤ 6 * (Sz * Sz) := Int.mul_le_mul_of_nonneg_right (by have := wt_len k hk; omega) hz
    refine ⟨h.1, ?_⟩
    rw [← hBs]
    omega
  · rw [List.getD_eq_getElem?_getD, List.getElem?_eq_none (by rw [sqs_len]; omega), Option.getD_none]
    refine ⟨Int.le_refl 0, ?_⟩
    rw [← hBs]
    omega
-- how great the shares may be
theorem getD_set_le {row : List Int} {n V : Nat} {v : Int} (h : ∀ k, (row.getD k 0).natAbs ≤ n) (hv : v.natAbs ≤ V) (i : Nat) : ∀ k, ((row.set i (row.getD i 0 + v)).getD k 0).natAbs ≤ n + V := by
  intro k
  have h1 := h k
  have h2 := h i
  rw [List.getD_eq_getElem?_getD, List.getElem?_set]
  split
  · rename_i e
    split
    · rw [Option.getD_some]
      omega
    · rw [Option.getD_none]
      omega
  · rw [← List.getD_eq_getElem?_getD]
    omega
theorem cell_le {d : Nat → Nat → Int} {w row : List Int} {n V : Nat} (h : ∀ k, (row.getD k 0).natAbs ≤ n) (hv : ∀ i j, (wPair w i j).natAbs ≤ V) (i j : Nat) : ∀ k, ((cellStep d w i row j).getD k 0).natAbs ≤ n + V := getD_set_le h (hv i j) _
theorem rowIn_le {d : Nat → Nat → Int} {w row : List Int} {n V : Nat} (h : ∀ k, (row.getD k 0).natAbs ≤ n) (hv : ∀ i j, (wPair w i j).natAbs ≤ V) (i : Nat) : ∀ j k, ((rowIn d w i row j).getD k 0).natAbs ≤ n + j * V
  | 0, k => by
    rw [Nat.zero_mul]
    exact h k
  | j + 1, k => by
    have := cell_le (d := d) (row := rowIn d w i row j) (rowIn_le (d := d) h hv i j) hv i j k
    rw [Nat.add_mul, Nat.one_mul, ← Nat.add_assoc]
    exact this
theorem rowOut_le {d : Nat → Nat → Int} {w : List Int} {V : Nat} (hv : ∀ i j, (wPair w i j).natAbs ≤ V) : ∀ k, ((rowOut d w 4).getD k 0).natAbs ≤ 10 * V := by
  have r0 : ∀ k, ((rowOut d w 0).getD k 0).natAbs ≤ 0 := by
    intro k
    show (([0, 0, 0, 0, 0] : List Int).getD k 0).natAbs ≤ 0
    match k with
    | 0 => exact Nat.le_refl 0
    | 1 => exact Nat.le_refl 0
    | 2 => exact Nat.le_refl 0
    | 3 => exact Nat.le_refl 0
    | 4 => exact Nat.le_refl 0
    | k + 5 => exact Nat.le_refl 0
  intro k
  have h := rowIn_le (d := d) (rowIn_le (d := d) (rowIn_le (d := d) (rowIn_le (d := d) r0 hv 0 1) hv 1 2) hv 2 3) hv 3 4 k
  refine Nat.le_trans h (by omega)
theorem wP_le {w : List Int} {M : Nat} (hw : ∀ i, (w.getD i 0).natAbs ≤ M) (i j : Nat) : (wPair w i j).natAbs ≤ 2 * (M * M) := by
  have h := Nat.mul_le_mul (hw i) (hw j)
  rw [← Int.natAbs_mul] at h
  unfold wPair
  split <;> omega
theorem sha_le (hw0 : -1000000000 ≤ w0 ∧ w0 ≤ 1000000000) (hw1 : -1000000000 ≤ w1 ∧ w1 ≤ 1000000000) (hw2 : -1000000000 ≤ w2 ∧ w2 ≤ 1000000000) (hw3 : -1000000000 ≤ w3 ∧ w3 ≤ 1000000000) : ∀ k : Nat, ((shaL n0 n1 n2 n3 w0 w1 w2 w3).getD k 0).natAbs ≤ 20000000000000000000 := by
  have hw : ∀ i, ([w0, w1, w2, w3].getD i 0).natAbs ≤ 1000000000 := by
    intro i
    match i with
    | 0 => show w0.natAbs ≤ _; omega
    | 1 => show w1.natAbs ≤ _; omega
    | 2 => show w2.natAbs ≤ _; omega
    | 3 => show w3.natAbs ≤ _; omega
    | i + 4 => show (0 : Int).natAbs ≤ _; decide
  exact fun k => Nat.le_trans (rowOut_le (wP_le hw) k) (by decide)
theorem sha_bits (hw0 : -1000000000 ≤ w0 ∧ w0 ≤ 1000000000) (hw1 : -1000000000 ≤ w1 ∧ w1 ≤ 1000000000) (hw2 : -1000000000 ≤ w2 ∧ w2 ≤ 1000000000) (hw3 : -1000000000 ≤ w3 ∧ w3 ≤ 1000000000) : ∀ k : Nat, Builtin.Int.intBits ((shaL n0 n1 n2 n3 w0 w1 w2 w3).getD k 0) ≤ 200 := by
  intro k
  refine intBits_le_iff.mpr (Nat.lt_of_le_of_lt (sha_le hw0 hw1 hw2 hw3 k) ?_)
  decide
theorem bs_bits (h0 : 0 ≤ Wd) (h1 : Wd ≤ 72) (hBs : (2 : Int) ^ Wd.toNat = Bs) : Builtin.Int.intBits Bs ≤ 100 := by
  refine intBits_le_iff.mpr ?_
  rw [← hBs, Int.natAbs_pow]
  exact Nat.pow_lt_pow_right (by decide) (by omega)
end
section
variable {n0 n1 n2 n3 : Nat} {w0 w1 w2 w3 Sz Wd Bs tp : Int}
theorem d2i_num {sh : List Int} (hl : sh.length = 5) (hBs : (2 : Int) ^ Wd.toNat = Bs) : d2i (2 ^ Wd.toNat) sh = shNum sh Bs := by
  rw [shNum_dot hl]
  obtain ⟨a, b, c, d, e, rfl⟩ := list5 hl
  show a + ((2 ^ Wd.toNat : Nat) : Int) * (b + ((2 ^ Wd.toNat : Nat) : Int) * (c + ((2 ^ Wd.toNat : Nat) : Int) * (d + ((2 ^ Wd.toNat : Nat) : Int) * (e + ((2 ^ Wd.toNat : Nat) : Int) * 0)))) = Bs ^ 0 * a + (Bs ^ 1 * b + (Bs ^ 2 * c + (Bs ^ 3 * d + (Bs ^ 4 * e + 0))))
  rw [pow2_cast, hBs]
  grind
theorem d2i_pack {sq : List Int} (hl : sq.length = 5) (hBs : (2 : Int) ^ Wd.toNat = Bs) : d2i (2 ^ Wd.toNat) sq = packSq sq Bs := by
  rw [packSq_dot hl, d2i_num hl hBs, shNum_dot hl]
theorem sq_bits {sq : List Int} (hb : Builtin.Int.intBits Bs ≤ 100) (hs : ∀ k : Nat, 0 ≤ sq.getD k 0 ∧ sq.getD k 0 < Bs) : ∀ k : Nat, Builtin.Int.intBits (sq.getD k 0) ≤ 200 := fun k =>
  Nat.le_trans (intBits_le_of_natAbs (y := Bs) (by have := hs k; omega) hb) (by decide)
theorem bs_two (h0 : 0 < Wd) (hBs : (2 : Int) ^ Wd.toNat = Bs) : 2 ≤ Bs := by
  rw [← hBs]
  obtain ⟨k, hk⟩ : ∃ k, Wd.toNat = k + 1 := ⟨Wd.toNat - 1, by omega⟩
  rw [hk, Int.pow_succ]
  have : (0 : Int) < 2 ^ k := Int.pow_pos (by decide)
  omega
theorem bs_top (h1 : Wd ≤ 72) (hBs : (2 : Int) ^ Wd.toNat = Bs) : 0 < Bs ∧ Bs ≤ 4722366482869645213696 := by
  rw [← hBs]
  refine ⟨Int.pow_pos (by decide), ?_⟩
  have h : (2 : Nat) ^ Wd.toNat ≤ 2 ^ 72 := Nat.pow_le_pow_right (by decide) (by omega)
  rw [← pow2_cast]
  have e : (2 : Nat) ^ 72 = 4722366482869645213696 := by decide
  omega
theorem div_bits (h1 : Wd ≤ 72) (hBs : (2 : Int) ^ Wd.toNat = Bs) : Builtin.Int.intBits (16 * (Bs - 1)) ≤ 100 ∧ Builtin.Int.intBits (16 * (1 - Bs)) ≤ 100 := by
  have h := bs_top h1 hBs
  have e : (2 : Nat) ^ 100 = 1267650600228229401496703205376 := by decide
  exact ⟨intBits_le_iff.mpr (by omega), intBits_le_iff.mpr (by omega)⟩
theorem num_le {sh : List Int} {V : Nat} (hl : sh.length = 5) (hs : ∀ k : Nat, (sh.getD k 0).natAbs ≤ V) (hB : 2 ≤ Bs) : (shNum sh Bs).natAbs ≤ V * Bs.toNat ^ 5 := by
  obtain ⟨B, rfl⟩ : ∃ B : Nat, Bs = B := ⟨Bs.toNat, by omega⟩
  have hB' : 2 ≤ B := by omega
  have e : shNum sh (B : Int) = d2i B sh := by
    rw [shNum_dot hl]
    obtain ⟨a, b, c, d, e, rfl⟩ := list5 hl
    show (B : Int) ^ 0 * a + ((B : Int) ^ 1 * b + ((B : Int) ^ 2 * c + ((B : Int) ^ 3 * d + ((B : Int) ^ 4 * e + 0)))) = a + (B : Int) * (b + (B : Int) * (c + (B : Int) * (d + (B : Int) * (e + (B : Int) * 0))))
    grind
  rw [e, Int.toNat_natCast]
  have h := d2i_bound (M := V) hB' (l := sh) fun a ha => by
    obtain ⟨j, hj, e⟩ := List.getElem_of_mem ha
    have := hs j
    rw [List.getD_eq_getElem?_getD, List.getElem?_eq_getElem hj, Option.getD_some, e] at this
    exact this
  rw [hl] at h
  exact Nat.le_trans h (Nat.mul_le_mul_left V (Nat.sub_le _ _))
theorem back_low {x : Int} (hx : Bs ≤ x.natAbs) (hBs : (2 : Int) ^ Wd.toNat = Bs) : Wd.toNat < Builtin.Int.intBits x := by
  rcases Nat.lt_or_ge Wd.toNat (Builtin.Int.intBits x) with h | h
  · exact h
  · exfalso
    have := intBits_le_iff.mp h
    rw [← hBs, ← pow2_cast] at hx
    omega
theorem back_bits (hw0 : -1000000000 ≤ w0 ∧ w0 ≤ 1000000000) (hw1 : -1000000000 ≤ w1 ∧ w1 ≤ 1000000000) (hw2 : -1000000000 ≤ w2 ∧ w2 ≤ 1000000000) (hw3 : -1000000000 ≤ w3 ∧ w3 ≤ 1000000000) (hWd0 : 0 < Wd) (hBs : (2 : Int) ^ Wd.toNat = Bs) :
    (Builtin.Int.intBits (16 * shNum (shaL n0 n1 n2 n3 w0 w1 w2 w3) Bs) : Int) ≤ 16 * (Builtin.Int.intBits (16 * (Bs - 1)) : Int) ∧ (Builtin.Int.intBits (16 * shNum (shaL n0 n1 n2 n3 w0 w1 w2 w3) Bs) : Int) ≤ 16 * (Builtin.Int.intBits (16 * (1 - Bs)) : Int) := by
  have hB := bs_two hWd0 hBs
  have h := num_le (sha_len (n0 := n0) (n1 := n1) (n2 := n2) (n3 := n3)) (sha_le hw0 hw1 hw2 hw3) hB
  have eB : Bs.toNat = 2 ^ Wd.toNat := by
    rw [← hBs, ← pow2_cast, Int.toNat_natCast]
  rw [eB, ← Nat.pow_mul] at h
  have hb : Builtin.Int.intBits (16 * shNum (shaL n0 n1 n2 n3 w0 w1 w2 w3) Bs) ≤ 71 + Wd.toNat * 5 := by
    refine intBits_le_iff.mpr ?_
    rw [Int.natAbs_mul, Nat.pow_add]
    have e1 : (2 : Nat) ^ 71 = 2361183241434822606848 := by decide
    have hp : 0 < 2 ^ (Wd.toNat * 5) := Nat.pow_pos (by decide)
    have e2 : (16 : Int).natAbs = 16 := rfl
    rw [e1, e2]
    generalize 2 ^ (Wd.toNat * 5) = z at h hp ⊢
    omega
  have low : ∀ x : Int, 8 * Bs ≤ x.natAbs → Wd.toNat + 4 ≤ Builtin.Int.intBits x := by
    intro x hx
    have := back_low (Wd := Wd + 3) (Bs := 8 * Bs) (x := x) hx (by
      rw [show (Wd + 3).toNat = Wd.toNat + 3 by omega, Int.pow_add, hBs, Int.mul_comm]
      rfl)
    omega
  have l1 := low (16 * (Bs - 1)) (by omega)
  have l2 := low (16 * (1 - Bs)) (by omega)
  constructor <;> omega
-- casting out
theorem cast_out {sh : List Int} (hl : sh.length = 5) : ∃ c : Int, shNum sh Bs = dot (fun _ => 1) 0 sh + (Bs - 1) * c := by
  rw [shNum_dot hl]
  obtain ⟨a, b, c, d, e, rfl⟩ := list5 hl
  refine ⟨b + c * (Bs + 1) + d * (Bs ^ 2 + Bs + 1) + e * (Bs ^ 3 + Bs ^ 2 + Bs + 1), ?_⟩
  show Bs ^ 0 * a + (Bs ^ 1 * b + (Bs ^ 2 * c + (Bs ^ 3 * d + (Bs ^ 4 * e + 0)))) = 1 * a + (1 * b + (1 * c + (1 * d + (1 * e + 0)))) + (Bs - 1) * (b + c * (Bs + 1) + d * (Bs ^ 2 + Bs + 1) + e * (Bs ^ 3 + Bs ^ 2 + Bs + 1))
  grind
theorem kr_ones : ∀ d, d < 5 → kr (fun k => if k = 0 then 1 else 0) d = 1 := by decide
theorem sq_zero (h0 : n0 < 16) (h1 : n1 < 16) (h2 : n2 < 16) (h3 : n3 < 16) : (sqs n0 n1 n2 n3 w0 w1 w2 w3).getD 0 0 = dot (fun _ => 1) 0 (shaL n0 n1 n2 n3 w0 w1 w2 w3) := by
  have e : (sqs n0 n1 n2 n3 w0 w1 w2 w3).getD 0 0 = dot (fun k => if k = 0 then 1 else 0) 0 (sqs n0 n1 n2 n3 w0 w1 w2 w3) := by
    obtain ⟨a, b, c, d, e, h⟩ := list5 (sqs_len n0 n1 n2 n3 w0 w1 w2 w3)
    rw [h]
    show a = 1 * a + (0 * b + (0 * c + (0 * d + (0 * e + 0))))
    omega
  rw [e, mac h0 h1 h2 h3]
  exact dot_congr fun k hk => kr_ones k (by rw [sha_len] at hk; omega)
theorem fmod_cast {q c b : Int} (hb : b ≠ 0) : (q + b * c).fmod b = q.fmod b := by
  rw [Int.add_mul_fmod_self_left]
theorem div_ok (h0 : n0 < 16) (h1 : n1 < 16) (h2 : n2 < 16) (h3 : n3 < 16) (hB : 2 ≤ Bs) {by' : Int} (hby : by' = Bs - 1 ∨ by' = 1 - Bs) :
    (16 * shNum (shaL n0 n1 n2 n3 w0 w1 w2 w3) Bs).fdiv (16 * by') = (shNum (shaL n0 n1 n2 n3 w0 w1 w2 w3) Bs - ((sqs n0 n1 n2 n3 w0 w1 w2 w3).getD 0 0).fmod by').fdiv by' ∧ (16 * shNum (shaL n0 n1 n2 n3 w0 w1 w2 w3) Bs).fmod (16 * by') = 16 * ((sqs n0 n1 n2 n3 w0 w1 w2 w3).getD 0 0).fmod by' := by
  obtain ⟨c, hc⟩ := cast_out (Bs := Bs) (sha_len (n0 := n0) (n1 := n1) (n2 := n2) (n3 := n3) (w0 := w0) (w1 := w1) (w2 := w2) (w3 := w3))
  rw [← sq_zero h0 h1 h2 h3] at hc
  generalize (sqs n0 n1 n2 n3 w0 w1 w2 w3).getD 0 0 = q at hc ⊢
  generalize shNum (shaL n0 n1 n2 n3 w0 w1 w2 w3) Bs = N at hc ⊢
  have hb : by' ≠ 0 := by omega
  obtain ⟨c', hc'⟩ : ∃ c', N = q + by' * c' := by
    rcases hby with e | e
    · exact ⟨c, by rw [e]; exact hc⟩
    · refine ⟨-c, ?_⟩
      rw [e, Int.mul_neg, ← Int.neg_mul, Int.neg_sub]
      exact hc
  have hm : N.fmod by' = q.fmod by' := by rw [hc', Int.add_mul_fmod_self_left]
  have hd := Int.mul_fdiv_add_fmod N by'
  rw [hm] at hd
  refine ⟨?_, ?_⟩
  · rw [Int.mul_fdiv_mul_of_pos _ _ (by decide), show N - q.fmod by' = by' * N.fdiv by' by omega, Int.mul_fdiv_cancel_left _ hb]
  · rw [Int.mul_fmod_mul_of_pos _ _ (by decide), hm]
end
-- figures that lie in bounds are the figures of what they make
theorem digs_succ (b k x : Nat) : digs b (k + 1) x = ((x % b : Nat) : Int) :: digs b k (x / b) := by
  unfold digs
  rw [List.range_succ_eq_map, List.map_cons, List.map_map]
  congr 1
  · rw [Nat.pow_zero, Nat.div_one]
  · refine List.map_congr_left fun j _ => ?_
    show ((x / b ^ (j + 1) % b : Nat) : Int) = _
    rw [Nat.div_div_eq_div_mul, Nat.pow_succ']
theorem digs_d2i {b : Nat} : ∀ {l : List Int}, (∀ a ∈ l, 0 ≤ a ∧ a < (b : Int)) → ∃ X : Nat, d2i b l = (X : Int) ∧ X < b ^ l.length ∧ digs b l.length X = l
  | [], _ => ⟨0, rfl, Nat.one_pos, rfl⟩
  | a :: l, h => by
    obtain ⟨Y, e1, e2, e3⟩ := digs_d2i (l := l) fun c hc => h c (.tail _ hc)
    have ha := h a (.head _)
    obtain ⟨c, rfl⟩ : ∃ c : Nat, a = c := ⟨a.toNat, by omega⟩
    have hc : c < b := by omega
    refine ⟨c + b * Y, ?_, ?_, ?_⟩
    · show (c : Int) + (b : Int) * d2i b l = _
      rw [e1, Int.natCast_add, Int.natCast_mul]
    · rw [List.length_cons, Nat.pow_succ']
      have := Nat.mul_le_mul_left b e2
      rw [Nat.mul_succ] at this
      omega
    · rw [List.length_cons, digs_succ, Nat.add_mul_mod_self_left, Nat.mod_eq_of_lt hc, Nat.add_mul_div_left _ _ (by omega), Nat.div_eq_of_lt hc, Nat.zero_add, e3]
theorem d2i_zeros {b : Nat} : ∀ {l : List Int}, (∀ a ∈ l, a = 0) → d2i b l = 0
  | [], _ => rfl
  | a :: l, h => by
    show a + (b : Int) * d2i b l = 0
    rw [h a (.head _), d2i_zeros fun c hc => h c (.tail _ hc), Int.mul_zero]
    rfl
theorem ndig_is {n : Int} {X t : Nat} (hn : 0 < n) (h1 : X < (2 ^ n.toNat) ^ t) (h2 : t ≠ 0 → (2 ^ n.toNat) ^ (t - 1) ≤ X) : ndig n X = t := by
  obtain ⟨f0, f1, f2⟩ := ndig_facts (X := X) hn
  obtain ⟨m, rfl⟩ : ∃ m : Nat, n = m := ⟨n.toNat, by omega⟩
  rw [Int.toNat_natCast, ← Nat.pow_mul] at h1 h2
  have b1 : Builtin.Int.intBits (X : Int) ≤ m * t := intBits_le_iff.mpr (by rw [Int.natAbs_natCast]; exact h1)
  have u1 : (m : Int) * ndig m X < (m : Int) * (t + 1) := by
    have : (m : Int) * (t + 1) = ((m * t : Nat) : Int) + m := by rw [Int.mul_add, Int.mul_one, Int.natCast_mul]
    omega
  have u2 := Int.lt_of_mul_lt_mul_left u1 (by omega)
  rcases Nat.eq_zero_or_pos t with e | e
  · omega
  · have h3 := h2 (by omega)
    have b2 : m * (t - 1) < Builtin.Int.intBits (X : Int) := by
      rcases Nat.lt_or_ge (m * (t - 1)) (Builtin.Int.intBits (X : Int)) with h | h
      · exact h
      · exfalso
        have := intBits_le_iff.mp h
        rw [Int.natAbs_natCast] at this
        omega
    have u3 : (m : Int) * ((t - 1 : Nat) : Int) < (m : Int) * ndig m X := by
      rw [← Int.natCast_mul]
      omega
    have u4 := Int.lt_of_mul_lt_mul_left u3 (by omega)
    omega
theorem figs_ok {Wd Bs tp : Int} {sq : List Int} (hl : sq.length = 5) (hWd0 : 0 < Wd) (hBs : (2 : Int) ^ Wd.toNat = Bs) (hs : ∀ k : Nat, 0 ≤ sq.getD k 0 ∧ sq.getD k 0 < Bs)
    (htp : tp ∈ [0] ++ ((rangeKs 0 5).filter (fun p => decide (sq.getD p.toNat 0 ≠ 0))).map (fun k => k + 1)) (htq : ∀ a, a ∈ [0] ++ ((rangeKs 0 5).filter (fun p => decide (sq.getD p.toNat 0 ≠ 0))).map (fun k => k + 1) → a ≤ tp) :
    0 ≤ packSq sq Bs ∧ ndig Wd (packSq sq Bs).toNat ≤ 16 ∧ digs (2 ^ Wd.toNat) (ndig Wd (packSq sq Bs).toNat).toNat (packSq sq Bs).toNat = sq.take tp.toNat ∧ 0 ≤ tp ∧ tp ≤ 5 := by
  have t0 : 0 ≤ tp := htq 0 (.head _)
  have tt : tp ≤ 5 ∧ (tp = 0 ∨ sq.getD (tp - 1).toNat 0 ≠ 0) := by
    rcases List.mem_append.mp htp with h | h
    · rw [List.mem_singleton] at h
      exact ⟨by omega, .inl h⟩
    · obtain ⟨k, hk, e⟩ := List.mem_map.mp h
      have h1 := List.mem_filter.mp hk
      have h2 := mem_rangeKs h1.1
      refine ⟨by omega, .inr ?_⟩
      rw [show tp - 1 = k by omega]
      exact of_decide_eq_true h1.2
  have tm : ∀ k : Nat, k < 5 → sq.getD k 0 ≠ 0 → (k : Int) + 1 ≤ tp := by
    intro k hk hne
    refine htq _ (List.mem_append.mpr (.inr (List.mem_map.mpr ⟨(k : Int), List.mem_filter.mpr ⟨?_, ?_⟩, rfl⟩)))
    · exact List.mem_map.mpr ⟨k, List.mem_range.mpr hk, Int.zero_add _⟩
    · rw [Int.toNat_natCast]
      exact decide_eq_true hne
  obtain ⟨t, rfl⟩ : ∃ t : Nat, tp = t := ⟨tp.toNat, by omega⟩
  rw [Int.toNat_natCast]
  have hgt : ∀ a ∈ sq, 0 ≤ a ∧ a < ((2 ^ Wd.toNat : Nat) : Int) := by
    intro a ha
    obtain ⟨j, hj, e⟩ := List.getElem_of_mem ha
    have := hs j
    rw [List.getD_eq_getElem?_getD, List.getElem?_eq_getElem hj, Option.getD_some, e, ← hBs] at this
    rw [pow2_cast]
    exact this
  have hz : ∀ a ∈ sq.drop t, a = 0 := by
    intro a ha
    obtain ⟨j, hj, e⟩ := List.getElem_of_mem ha
    rw [List.length_drop] at hj
    rw [List.getElem_drop] at e
    have h1 : sq.getD (t + j) 0 = a := by
      rw [List.getD_eq_getElem?_getD, List.getElem?_eq_getElem (by omega), Option.getD_some, e]
    rcases Int.decEq a 0 with h | h
    · exfalso
      have := tm (t + j) (by omega) (by rw [h1]; exact h)
      omega
    · exact h
  obtain ⟨X, e1, e2, e3⟩ := digs_d2i (l := sq.take t) fun a ha => hgt a (List.mem_of_mem_take ha)
  have ep : packSq sq Bs = (X : Int) := by
    rw [← d2i_pack hl hBs, ← List.take_append_drop t sq, d2i_append, d2i_zeros hz, Int.mul_zero, Int.add_zero, e1]
  have elen : (sq.take t).length = t := by rw [List.length_take]; omega
  rw [elen] at e2 e3
  rw [ep, Int.toNat_natCast]
  have en : ndig Wd X = t := by
    refine ndig_is hWd0 e2 fun ht => ?_
    rcases Nat.lt_or_ge X ((2 ^ Wd.toNat) ^ (t - 1)) with h | h
    · exfalso
      have h1 := digs_getD (b := 2 ^ Wd.toNat) (x := X) (show t - 1 < t by omega)
      rw [e3, Nat.div_eq_of_lt h, Nat.zero_mod] at h1
      rcases tt.2 with h2 | h2
      · omega
      · apply h2
        rw [show ((t : Int) - 1).toNat = t - 1 by omega]
        rw [List.getD_eq_getElem?_getD, List.getElem?_take_of_lt (by omega), ← List.getD_eq_getElem?_getD] at h1
        exact h1
    · exact h
  refine ⟨Int.natCast_nonneg _, ?_, ?_, t0, tt.1⟩
  · rw [en]
    omega
  · rw [en, Int.toNat_natCast]
    exact e3

example : True := by
  k_with "h30_0" => (with_unfolding_all (refine LCg.CompRest.succ ?_; intro v_0' I_0' oI_0' C_0' oC_0' D_0' m_0' h_0' tk_0' E_0' hv_0' hC_0' hx_0' F_0' N_0' off_0' ne_0'; (first | lcg_open hv_0' | (obtain ⟨t9_0', hv9_0'⟩ := hv_0'; subst hv9_0'))))
  k_with "h30_0" => (with_unfolding_all (refine LCg.CompRest.succ ?_; intro v_1' I_1' oI_1' C_1' oC_1' D_1' m_1' h_1' tk_1' E_1' hv_1' hC_1' hx_1' F_1' N_1' off_1' ne_1'; (first | lcg_open hv_1' | (obtain ⟨t9_1', hv9_1'⟩ := hv_1'; subst hv9_1'))))
  k_with "h30_0" => (with_unfolding_all (refine LCg.CompRest.succ ?_; intro v_2' I_2' oI_2' C_2' oC_2' D_2' m_2' h_2' tk_2' E_2' hv_2' hC_2' hx_2' F_2' N_2' off_2' ne_2'; (first | lcg_open hv_2' | (obtain ⟨t9_2', hv9_2'⟩ := hv_2'; subst hv9_2'))))
  k_with "h30_0" => (with_unfolding_all (refine LCg.CompRest.succ ?_; intro v_3' I_3' oI_3' C_3' oC_3' D_3' m_3' h_3' tk_3' E_3' hv_3' hC_3' hx_3' F_3' N_3' off_3' ne_3'; (first | lcg_open hv_3' | (obtain ⟨t9_3', hv9_3'⟩ := hv_3'; subst hv9_3'))))
  k_with "h30_0" => (with_unfolding_all (refine LCg.CompRest.succ ?_; intro v_4' I_4' oI_4' C_4' oC_4' D_4' m_4' h_4' tk_4' E_4' hv_4' hC_4' hx_4' F_4' N_4' off_4' ne_4'; (first | lcg_open hv_4' | (obtain ⟨t9_4', hv9_4'⟩ := hv_4'; subst hv9_4'))))
  k_with "h30_0" => (with_unfolding_all (refine LCg.CompRest.succ ?_; intro v_5' I_5' oI_5' C_5' oC_5' D_5' m_5' h_5' tk_5' E_5' hv_5' hC_5' hx_5' F_5' N_5' off_5' ne_5'; (first | lcg_open hv_5' | (obtain ⟨t9_5', hv9_5'⟩ := hv_5'; subst hv9_5'))))
  k_with "h30_1" => ((unfold LCg.FinE); intro D_0' h_0' tk_0' F_0' N_0' o1_0'; (try simp only [List.nil_append, List.cons_append] at N_0'); (try dsimp only))
  k_with "h30_1" => ((unfold LCg.FinE); intro D_1' h_1' tk_1' F_1' N_1' o1_1'; (try simp only [List.nil_append, List.cons_append] at N_1'); (try dsimp only))
  k_with "h30_1" => ((unfold LCg.FinE); intro D_2' h_2' tk_2' F_2' N_2' o1_2'; (try simp only [List.nil_append, List.cons_append] at N_2'); (try dsimp only))
  k_with "h30_1" => ((unfold LCg.FinE); intro D_3' h_3' tk_3' F_3' N_3' o1_3'; (try simp only [List.nil_append, List.cons_append] at N_3'); (try dsimp only))
  k_with "h30_1" => ((unfold LCg.FinE); intro D_4' h_4' tk_4' F_4' N_4' o1_4'; (try simp only [List.nil_append, List.cons_append] at N_4'); (try dsimp only))
  k_with "h30_1" => ((unfold LCg.FinE); intro D_5' h_5' tk_5' F_5' N_5' o1_5'; (try simp only [List.nil_append, List.cons_append] at N_5'); (try dsimp only))
  k_with "h30_2" => ((unfold LCg.FinA); intro D_0' h_0' tk_0' F_0' N_0' o1_0'; (try simp only [List.nil_append, List.cons_append] at N_0'); (try dsimp only))
  k_with "h30_2" => ((unfold LCg.FinA); intro D_1' h_1' tk_1' F_1' N_1' o1_1'; (try simp only [List.nil_append, List.cons_append] at N_1'); (try dsimp only))
  k_with "h30_2" => ((unfold LCg.FinA); intro D_2' h_2' tk_2' F_2' N_2' o1_2'; (try simp only [List.nil_append, List.cons_append] at N_2'); (try dsimp only))
  k_with "h30_2" => ((unfold LCg.FinA); intro D_3' h_3' tk_3' F_3' N_3' o1_3'; (try simp only [List.nil_append, List.cons_append] at N_3'); (try dsimp only))
  k_with "h30_2" => ((unfold LCg.FinA); intro D_4' h_4' tk_4' F_4' N_4' o1_4'; (try simp only [List.nil_append, List.cons_append] at N_4'); (try dsimp only))
  k_with "h30_2" => ((unfold LCg.FinA); intro D_5' h_5' tk_5' F_5' N_5' o1_5'; (try simp only [List.nil_append, List.cons_append] at N_5'); (try dsimp only))
  k_with "h30_3" => ((with_reducible show wpAny _ _ (call (Value.ref 117) _) _ _ _); refine hold ?_)
  k_with "h30_4" => ((with_reducible show wpAny _ _ (call (Value.ref 122) _) _ _ _); refine hold ?_)
  k_with "h30_5" => ((with_reducible show wpAny _ _ (call (Value.ref 136) _) _ _ _); refine hold ?_)
  k_with "h30_6" => ((with_reducible show wpAny _ _ (call (Value.ref 150) _) _ _ _); refine hold ?_)
  k_with "h30_7" => ((with_reducible show wpAny _ _ (call (Value.ref 155) _) _ _ _); refine hold ?_)
  k_with "h30_8" => ((with_reducible show wpAny _ _ (call (Value.ref 143) _) _ _ _); refine hold ?_)
  k_with "h30_9" => ((with_reducible show wpAny _ _ (call (Value.ref 56) _) _ _ _); refine hold ?_)
  k_with "h30_10" => ((with_reducible show wpAny _ _ (call (Value.ref 35) _) _ _ _); refine hold ?_)
  k_with "h30_11" => ((with_reducible show wpAny _ _ (call (Value.ref 42) _) _ _ _); refine hold ?_)
  k_with "h30_12" => (k_here; (with_reducible show wpAny _ _ (binaryOp _ (Value.int 10 _) (Value.int 9 _)) _ _ _); (with_reducible refine pow109 ?_))
  k_with "h30_13" => (k_here; (with_reducible show wpAny _ _ (binaryOp _ (Value.int (-1) _) (Value.int _ _)) _ _ _); (with_reducible refine pow_int_small ?kb1_0 ?kb2_0 ?kb3_0 ?_); (case kb1_0 | kb2_0 => omega); (case kb3_0 => decide))
  k_with "h30_13" => (k_here; (with_reducible show wpAny _ _ (binaryOp _ (Value.int (-1) _) (Value.int _ _)) _ _ _); (with_reducible refine pow_int_small ?kb1_1 ?kb2_1 ?kb3_1 ?_); (case kb1_1 | kb2_1 => omega); (case kb3_1 => decide))
  k_with "h30_13" => (k_here; (with_reducible show wpAny _ _ (binaryOp _ (Value.int (-1) _) (Value.int _ _)) _ _ _); (with_reducible refine pow_int_small ?kb1_2 ?kb2_2 ?kb3_2 ?_); (case kb1_2 | kb2_2 => omega); (case kb3_2 => decide))
  k_with "h30_13" => (k_here; (with_reducible show wpAny _ _ (binaryOp _ (Value.int (-1) _) (Value.int _ _)) _ _ _); (with_reducible refine pow_int_small ?kb1_3 ?kb2_3 ?kb3_3 ?_); (case kb1_3 | kb2_3 => omega); (case kb3_3 => decide))
  k_with "h30_13" => (k_here; (with_reducible show wpAny _ _ (binaryOp _ (Value.int (-1) _) (Value.int _ _)) _ _ _); (with_reducible refine pow_int_small ?kb1_4 ?kb2_4 ?kb3_4 ?_); (case kb1_4 | kb2_4 => omega); (case kb3_4 => decide))
  k_with "h30_13" => (k_here; (with_reducible show wpAny _ _ (binaryOp _ (Value.int (-1) _) (Value.int _ _)) _ _ _); (with_reducible refine pow_int_small ?kb1_5 ?kb2_5 ?kb3_5 ?_); (case kb1_5 | kb2_5 => omega); (case kb3_5 => decide))
  k_with "h30_14" => (k_here; (rename (∀ _, Builtin.Int.intBits _ ≤ 60) => hbB_0); (with_reducible refine mul_left_ok (hbB_0 _) ?_))
  k_with "h30_14" => (k_here; (rename (∀ _, Builtin.Int.intBits _ ≤ 60) => hbB_1); (with_reducible refine mul_left_ok (hbB_1 _) ?_))
  k_with "h30_14" => (k_here; (rename (∀ _, Builtin.Int.intBits _ ≤ 60) => hbB_2); (with_reducible refine mul_left_ok (hbB_2 _) ?_))
  k_with "h30_14" => (k_here; (rename (∀ _, Builtin.Int.intBits _ ≤ 60) => hbB_3); (with_reducible refine mul_left_ok (hbB_3 _) ?_))
  k_with "h30_14" => (k_here; (rename (∀ _, Builtin.Int.intBits _ ≤ 60) => hbB_4); (with_reducible refine mul_left_ok (hbB_4 _) ?_))
  k_with "h30_14" => (k_here; (rename (∀ _, Builtin.Int.intBits _ ≤ 60) => hbB_5); (with_reducible refine mul_left_ok (hbB_5 _) ?_))
  k_with "h30_15" => (k_here; (with_reducible show wpAny _ _ (binaryOp _ (Value.int _ _) (Value.int 2 _)) _ _ _); (rename (∀ _, Builtin.Int.intBits _ ≤ 60) => hbB_0); (with_reducible refine pow2_ok (hbB_0 _) ?_))
  k_with "h30_15" => (k_here; (with_reducible show wpAny _ _ (binaryOp _ (Value.int _ _) (Value.int 2 _)) _ _ _); (rename (∀ _, Builtin.Int.intBits _ ≤ 60) => hbB_1); (with_reducible refine pow2_ok (hbB_1 _) ?_))
  k_with "h30_15" => (k_here; (with_reducible show wpAny _ _ (binaryOp _ (Value.int _ _) (Value.int 2 _)) _ _ _); (rename (∀ _, Builtin.Int.intBits _ ≤ 60) => hbB_2); (with_reducible refine pow2_ok (hbB_2 _) ?_))
  k_with "h30_15" => (k_here; (with_reducible show wpAny _ _ (binaryOp _ (Value.int _ _) (Value.int 2 _)) _ _ _); (rename (∀ _, Builtin.Int.intBits _ ≤ 60) => hbB_3); (with_reducible refine pow2_ok (hbB_3 _) ?_))
  k_with "h30_15" => (k_here; (with_reducible show wpAny _ _ (binaryOp _ (Value.int _ _) (Value.int 2 _)) _ _ _); (rename (∀ _, Builtin.Int.intBits _ ≤ 60) => hbB_4); (with_reducible refine pow2_ok (hbB_4 _) ?_))
  k_with "h30_15" => (k_here; (with_reducible show wpAny _ _ (binaryOp _ (Value.int _ _) (Value.int 2 _)) _ _ _); (rename (∀ _, Builtin.Int.intBits _ ≤ 60) => hbB_5); (with_reducible refine pow2_ok (hbB_5 _) ?_))
  k_with "h30_16" => (k_here; (rename MarkS 20 => hM20_0); (rename Builtin.Int.intBits _ ≤ 100 => hbB_0); (with_reducible refine pow_base_ok hbB_0 ?kb1_0 ?kb2_0 ?_); (case kb1_0 | kb2_0 => omega))
  k_with "h30_16" => (k_here; (rename MarkS 20 => hM20_1); (rename Builtin.Int.intBits _ ≤ 100 => hbB_1); (with_reducible refine pow_base_ok hbB_1 ?kb1_1 ?kb2_1 ?_); (case kb1_1 | kb2_1 => omega))
  k_with "h30_16" => (k_here; (rename MarkS 20 => hM20_2); (rename Builtin.Int.intBits _ ≤ 100 => hbB_2); (with_reducible refine pow_base_ok hbB_2 ?kb1_2 ?kb2_2 ?_); (case kb1_2 | kb2_2 => omega))
  k_with "h30_16" => (k_here; (rename MarkS 20 => hM20_3); (rename Builtin.Int.intBits _ ≤ 100 => hbB_3); (with_reducible refine pow_base_ok hbB_3 ?kb1_3 ?kb2_3 ?_); (case kb1_3 | kb2_3 => omega))
  k_with "h30_16" => (k_here; (rename MarkS 20 => hM20_4); (rename Builtin.Int.intBits _ ≤ 100 => hbB_4); (with_reducible refine pow_base_ok hbB_4 ?kb1_4 ?kb2_4 ?_); (case kb1_4 | kb2_4 => omega))
  k_with "h30_16" => (k_here; (rename MarkS 20 => hM20_5); (rename Builtin.Int.intBits _ ≤ 100 => hbB_5); (with_reducible refine pow_base_ok hbB_5 ?kb1_5 ?kb2_5 ?_); (case kb1_5 | kb2_5 => omega))
  k_with "h30_17" => (k_here; (rename MarkS 20 => hM20_0); (rename (∀ _, Builtin.Int.intBits _ ≤ 200) => hbS_0); (rename Builtin.Int.intBits _ ≤ 100 => hbB_0); (with_reducible refine mul_pow_ok (hbS_0 _) hbB_0 ?kb1_0 ?kb2_0 ?_); (case kb1_0 | kb2_0 => omega))
  k_with "h30_17" => (k_here; (rename MarkS 20 => hM20_1); (rename (∀ _, Builtin.Int.intBits _ ≤ 200) => hbS_1); (rename Builtin.Int.intBits _ ≤ 100 => hbB_1); (with_reducible refine mul_pow_ok (hbS_1 _) hbB_1 ?kb1_1 ?kb2_1 ?_); (case kb1_1 | kb2_1 => omega))
  k_with "h30_17" => (k_here; (rename MarkS 20 => hM20_2); (rename (∀ _, Builtin.Int.intBits _ ≤ 200) => hbS_2); (rename Builtin.Int.intBits _ ≤ 100 => hbB_2); (with_reducible refine mul_pow_ok (hbS_2 _) hbB_2 ?kb1_2 ?kb2_2 ?_); (case kb1_2 | kb2_2 => omega))
  k_with "h30_17" => (k_here; (rename MarkS 20 => hM20_3); (rename (∀ _, Builtin.Int.intBits _ ≤ 200) => hbS_3); (rename Builtin.Int.intBits _ ≤ 100 => hbB_3); (with_reducible refine mul_pow_ok (hbS_3 _) hbB_3 ?kb1_3 ?kb2_3 ?_); (case kb1_3 | kb2_3 => omega))
  k_with "h30_17" => (k_here; (rename MarkS 20 => hM20_4); (rename (∀ _, Builtin.Int.intBits _ ≤ 200) => hbS_4); (rename Builtin.Int.intBits _ ≤ 100 => hbB_4); (with_reducible refine mul_pow_ok (hbS_4 _) hbB_4 ?kb1_4 ?kb2_4 ?_); (case kb1_4 | kb2_4 => omega))
  k_with "h30_17" => (k_here; (rename MarkS 20 => hM20_5); (rename (∀ _, Builtin.Int.intBits _ ≤ 200) => hbS_5); (rename Builtin.Int.intBits _ ≤ 100 => hbB_5); (with_reducible refine mul_pow_ok (hbS_5 _) hbB_5 ?kb1_5 ?kb2_5 ?_); (case kb1_5 | kb2_5 => omega))
  k_with "h30_18" => (k_here; (with_reducible refine fdiv_ok ?kb1_0 ?kb2_0 ?_); (case kb1_0 => omega); (case kb2_0 => assumption))
  k_with "h30_18" => (k_here; (with_reducible refine fdiv_ok ?kb1_1 ?kb2_1 ?_); (case kb1_1 => omega); (case kb2_1 => assumption))
  k_with "h30_18" => (k_here; (with_reducible refine fdiv_ok ?kb1_2 ?kb2_2 ?_); (case kb1_2 => omega); (case kb2_2 => assumption))
  k_with "h30_18" => (k_here; (with_reducible refine fdiv_ok ?kb1_3 ?kb2_3 ?_); (case kb1_3 => omega); (case kb2_3 => assumption))
  k_with "h30_18" => (k_here; (with_reducible refine fdiv_ok ?kb1_4 ?kb2_4 ?_); (case kb1_4 => omega); (case kb2_4 => assumption))
  k_with "h30_18" => (k_here; (with_reducible refine fdiv_ok ?kb1_5 ?kb2_5 ?_); (case kb1_5 => omega); (case kb2_5 => assumption))
  trivial
section
example : True := by
  w_top off
  trivial
local macro_rules | `(tactic| walk_at "pad 0") => `(tactic| skip)
local macro_rules | `(tactic| walk_at "pad 1") => `(tactic| skip)
local macro_rules | `(tactic| walk_at "pad 2") => `(tactic| skip)
local macro_rules | `(tactic| walk_at "pad 3") => `(tactic| skip)
local macro_rules | `(tactic| walk_at "pad 4") => `(tactic| skip)
local macro_rules | `(tactic| walk_at "pad 5") => `(tactic| skip)
local macro_rules | `(tactic| walk_at "pad 6") => `(tactic| skip)
local macro_rules | `(tactic| walk_at "pad 7") => `(tactic| skip)
local macro_rules | `(tactic| walk_at "pad 8") => `(tactic| skip)
local macro_rules | `(tactic| walk_at "pad 9") => `(tactic| skip)
local macro_rules | `(tactic| walk_at "pad 10") => `(tactic| skip)
local macro_rules | `(tactic| walk_at "pad 11") => `(tactic| skip)
local macro_rules | `(tactic| walk_at "pad 12") => `(tactic| skip)
local macro_rules | `(tactic| k_ne) => `(tactic| (refine neN ?_; (try dsimp only); first
  | exact off_ne (by with_reducible assumption) (by repeat first | exact List.Mem.head _ | refine List.Mem.tail _ ?_)
  | exact (off_ne (by with_reducible assumption) (by repeat first | exact List.Mem.head _ | refine List.Mem.tail _ ?_)).symm
  | exact (off3_ne (by with_reducible assumption) (by repeat first | exact List.Mem.head _ | refine List.Mem.tail _ ?_)).1
  | exact (off3_ne (by with_reducible assumption) (by repeat first | exact List.Mem.head _ | refine List.Mem.tail _ ?_)).2.1
  | exact (off3_ne (by with_reducible assumption) (by repeat first | exact List.Mem.head _ | refine List.Mem.tail _ ?_)).2.2
  | exact (off3_ne (by with_reducible assumption) (by repeat first | exact List.Mem.head _ | refine List.Mem.tail _ ?_)).1.symm
  | exact (off3_ne (by with_reducible assumption) (by repeat first | exact List.Mem.head _ | refine List.Mem.tail _ ?_)).2.1.symm
  | exact (off3_ne (by with_reducible assumption) (by repeat first | exact List.Mem.head _ | refine List.Mem.tail _ ?_)).2.2.symm
  | assumption
  | exact Ne.symm (by assumption)))
local macro_rules | `(tactic| k_all) => `(tactic| ((repeat' (first | exact List.forall_mem_nil _ | refine List.forall_mem_cons.mpr ⟨?_, ?_⟩)); all_goals (first | k_ne | fail "k_ne")))
local macro_rules | `(tactic| walk_at "CompRest") => `(tactic| k_extra "h30_0")
local macro_rules | `(tactic| walk_at "execs cons") => `(tactic| ((rename MarkS 5 => hM9); clear hM9; refine hold ?_))
local macro_rules | `(tactic| walk_at "call builtin:chr") => `(tactic| (k_here; (with_reducible refine chr_26 ?_)))
local macro_rules | `(tactic| walk_at "FinE") => `(tactic| k_extra "h30_1")
local macro_rules | `(tactic| walk_at "FinA") => `(tactic| k_extra "h30_2")
local macro_rules | `(tactic| walk_at "CompSrc") => `(tactic| ((rename MarkS 2 => hM9); clear hM9; refine hold ?_))
local macro_rules | `(tactic| walk_at "call ref") => `(tactic| k_extra "h30_3")
local macro_rules | `(tactic| walk_at "call ref") => `(tactic| k_extra "h30_4")
local macro_rules | `(tactic| walk_at "call ref") => `(tactic| k_extra "h30_5")
local macro_rules | `(tactic| walk_at "call ref") => `(tactic| k_extra "h30_6")
local macro_rules | `(tactic| walk_at "call ref") => `(tactic| k_extra "h30_7")
local macro_rules | `(tactic| walk_at "call ref") => `(tactic| k_extra "h30_8")
local macro_rules | `(tactic| walk_at "call ref") => `(tactic| k_extra "h30_9")
local macro_rules | `(tactic| walk_at "call ref") => `(tactic| k_extra "h30_10")
local macro_rules | `(tactic| walk_at "call ref") => `(tactic| k_extra "h30_11")
local macro_rules | `(tactic| walk_at "binaryOp Pow int int") => `(tactic| k_extra "h30_12")
local macro_rules | `(tactic| walk_at "binaryOp Mult int int") => `(tactic| ((rename MarkS 7 => hM9); clear hM9; refine hold ?_))
local macro_rules | `(tactic| walk_at "binaryOp Pow int int") => `(tactic| ((rename MarkS 8 => hM9); clear hM9; refine hold ?_))
local macro_rules | `(tactic| walk_at "binaryOp Pow int int") => `(tactic| k_extra "h30_13")
local macro_rules | `(tactic| bits_by_make) => `(tactic| first
  | with_reducible assumption
  | ((rename (∀ _, Builtin.Int.intBits _ ≤ _) => hbB); exact hbB _))
local macro_rules | `(tactic| walk_at "binaryOp Mult int int") => `(tactic| k_extra "h30_14")
local macro_rules | `(tactic| walk_at "storeName") => `(tactic| ((rename MarkS 9 => hM9); clear hM9; refine hold ?_))
local macro_rules | `(tactic| walk_at "CompSrcT") => `(tactic| ((rename MarkS 4 => hM9); clear hM9; refine hold ?_))
local macro_rules | `(tactic| walk_at "binaryOp Pow int int") => `(tactic| k_extra "h30_15")
local macro_rules | `(tactic| walk_at "call builtin:len") => `(tactic| ((rename MarkS 11 => hM9); clear hM9; refine hold ?_))
local macro_rules | `(tactic| walk_at "eval ListComp") => `(tactic| ((rename MarkS 12 => hM9); clear hM9; refine hold ?_))
local macro_rules | `(tactic| walk_at "binaryOp Pow int int") => `(tactic| k_extra "h30_16")
local macro_rules | `(tactic| walk_at "binaryOp Mult int int") => `(tactic| k_extra "h30_17")
local macro_rules | `(tactic| walk_at "exec For Name List cons nil") => `(tactic| ((rename MarkS 21 => hM9); clear hM9; refine hold ?_))
local macro_rules | `(tactic| walk_at "binaryOp FloorDiv int int") => `(tactic| k_extra "h30_18")

-- lawt10
theorem no_eq {a b c d : Int} (h : a = b ∧ c = d) (ha : (a == b && c == d) = false) : False := by
  rw [h.1, h.2, beq_self_eq_true, beq_self_eq_true] at ha
  exact Bool.noConfusion ha
set_option maxRecDepth 100000 in
set_option maxHeartbeats 0 in
theorem law_t10 {w : World} {h₀ : Heap} {L : Addr} {m : Str → Option Value} {p : Program} {loose : List Str} {mean : ExcName → Option Value} {mg : Str → Option Value} {mb : Str → Option Value} {s : Shared} {E : Value → Shared → Prop} {fa cA D8 cB : Addr} {cd : Value} {c4 c7 : Obj} {n0 n1 n2 n3 : Nat} {w0 w1 w2 w3 : Int} {pl : Int} {st0 st1 : Nat} {Sz Wd Bs : Int} {tB : Tok} {ocA : Obj} {cvA : Array Value} {tcA : Tok} {ss os sq sh : List Value} {tp : Int} {tbk tpk : Tok} {ocB : Obj} {cvB : Array Value} {tcB : Tok} {sc : Scope} {bd : List Stmt} {Qf : Flow → Shared → Prop} (hsc : fnScope lawS = sc) (hbd : (fnBody lawS).drop 19 = bd) (K' : Below callerA h₀ [] h₀) (X' : (kk w.params).In h₀) (T' : Top p loose mean mg mb h₀) (C1 : CodeHd h₀ 41 37) (C2 : CodeHd h₀ 34 30) (l0 : @LT.lt Nat _ 37 L ∧ @LT.lt Nat _ 30 L) (hE : PassesOwn (model PySem.Challenge.rw_tc0016_01.row.prog w) (callerA.deeper (envOfC "law" sc L fa cd)) (envOfC "law" sc L fa cd) E) (F : Fr h₀ L s.heap (fun y => if y = "back" then some (.int (16 * (shNum (shaL n0 n1 n2 n3 w0 w1 w2 w3) Bs)) tbk) else if y = "packed" then some (.int (shNum (shaL n0 n1 n2 n3 w0 w1 w2 w3) Bs) tpk) else m y)) (N : News h₀ L s.heap [(37, hitB cB), (cB, ocB), (D8, LCg.lst sq), (30, hitA cA), (cA, ocA), (L + 1 + 1 + 1 + 1, c4), (L + 1 + 1 + 1 + 1 + 1 + 1 + 1, c7)]) (e4 : c4.data = .cell (some (.int Bs tB))) (e7 : c7.data = .cell (some (.ref D8))) (offcA : LCg.Off1 cA [(37, hitB cB), (30, hitA cA), (L + 1 + 1 + 1 + 1, c4), (L + 1 + 1 + 1 + 1 + 1 + 1 + 1, c7)]) (offD8 : LCg.Off1 D8 [(cA, ocA), (37, hitB cB), (30, hitA cA), (L + 1 + 1 + 1 + 1, c4), (L + 1 + 1 + 1 + 1 + 1 + 1 + 1, c7)]) (offcB : LCg.Off1 cB [(cA, ocA), (D8, LCg.lst sq), (37, hitB cB), (30, hitA cA), (L + 1 + 1 + 1 + 1, c4), (L + 1 + 1 + 1 + 1 + 1 + 1 + 1, c7)]) (hn0 : n0 < 16) (hn1 : n1 < 16) (hn2 : n2 < 16) (hn3 : n3 < 16) (hw0 : -1000000000 ≤ w0 ∧ w0 ≤ 1000000000) (hw1 : -1000000000 ≤ w1 ∧ w1 ≤ 1000000000) (hw2 : -1000000000 ≤ w2 ∧ w2 ≤ 1000000000) (hw3 : -1000000000 ≤ w3 ∧ w3 ≤ 1000000000) (hpl : 0 ≤ pl ∧ pl < 23) (hst0 : st0 = (97 + (pl + 4 + 0).fmod 26).toNat) (hst1 : st1 = (97 + (pl + 4 + 1).fmod 26).toNat) (edA : ocA.data = .fields cvA) (evA : cvA[1]? = some (.str quA tcA)) (hSz : ((w0.natAbs + w1.natAbs + w2.natAbs + w3.natAbs : Nat) : Int) = Sz) (hWd0 : 0 < Wd) (hWd1 : Wd ≤ 72) (hWd2 : 2 * (6 * Sz * Sz) < 2 ^ Wd.toNat) (hBs : (2 : Int) ^ Wd.toNat = Bs) (hI5 : IntsAre ss ((rangeKs 0 16).map (sumAt [(n0 : Int), n1, n2, n3] [w0, w1, w2, w3]))) (hI7 : IntsAre os ((rangeKs 0 16).map (fun k => shared k 15))) (hI8 : IntsAre sq ((rangeKs 0 5).map (sqL ((rangeKs 0 16).map (sumAt [(n0 : Int), n1, n2, n3] [w0, w1, w2, w3])) ((rangeKs 0 16).map (fun k => shared k 15))))) (hI9 : IntsAre sh (shaL n0 n1 n2 n3 w0 w1 w2 w3)) (htp : tp ∈ [0] ++ ((rangeKs 0 5).filter (fun p => decide ((((rangeKs 0 5).map (sqL ((rangeKs 0 16).map (sumAt [(n0 : Int), n1, n2, n3] [w0, w1, w2, w3])) ((rangeKs 0 16).map (fun k => shared k 15))))).getD p.toNat 0 ≠ 0))).map (fun k => k + 1)) (htq : ∀ a, a ∈ [0] ++ ((rangeKs 0 5).filter (fun p => decide ((((rangeKs 0 5).map (sqL ((rangeKs 0 16).map (sumAt [(n0 : Int), n1, n2, n3] [w0, w1, w2, w3])) ((rangeKs 0 16).map (fun k => shared k 15))))).getD p.toNat 0 ≠ 0))).map (fun k => k + 1) → a ≤ tp) (edB : ocB.data = .fields cvB) (evB : cvB[1]? = some (.str quB tcB)) (fin : ∀ m' h' tk' cA cB rest, Fr h₀ L h' m' → News h₀ L h' ((30, hitA cA) :: (37, hitB cB) :: rest) → Qf (.ret (.bool true)) { s with heap := h', toks := tk' }) :
   wpAny (model PySem.Challenge.rw_tc0016_01.row.prog w) (callerA.deeper (envOfC "law" sc L fa cd)) (execs bd (envOfC "law" sc L fa cd)) Qf E s := by
  have hsc0 := hsc
  have hbd0 := hbd
  conv at hsc => lhs; whnf
  conv at hbd => lhs; whnf
  subst hsc hbd
  have hBb := bs_bits (Int.le_of_lt hWd0) hWd1 hBs
  have hB2 := bs_two hWd0 hBs
  have hdb := div_bits hWd1 hBs
  have hkb := back_bits (n0 := n0) (n1 := n1) (n2 := n2) (n3 := n3) hw0 hw1 hw2 hw3 hWd0 hBs
  have hq1 := div_ok (w0 := w0) (w1 := w1) (w2 := w2) (w3 := w3) hn0 hn1 hn2 hn3 hB2 (Or.inl rfl)
  have hq2 := div_ok (w0 := w0) (w1 := w1) (w2 := w2) (w3 := w3) hn0 hn1 hn2 hn3 hB2 (Or.inr rfl)
  have lSQ : (sqs n0 n1 n2 n3 w0 w1 w2 w3).length = 5 := by rw [List.length_map, rangeKs_length]
  have hby1 : Builtin.Int.intBits (Bs - 1) ≤ 100 := intBits_le_of_natAbs (y := Bs) (by omega) hBb
  have hby2 : Builtin.Int.intBits (1 - Bs) ≤ 100 := intBits_le_of_natAbs (y := Bs) (by omega) hBb
  have hmark21 := MarkS.mk 21
  k_steps
  refine Hold.out ?_
  rename Fr _ _ _ _ => lF'
  k_dflt (with_unfolding_all refine' For_invVF lF' ?k1 ?k2 ?_ ?k3 hE; (case k1 => exact rfl); (case k2 => exact rfl); (case k3 => (intro _; exact rfl)))
  k_steps
  refine Hold.out ?_
  k_dflt (refine' c_idm ?k1 ?k2 ?k3 ?k5 ?kK ?kd ?ku ?kN ?h30 ?hc1 edA evA ?hC1 ?hcA ?h37 ?hc2 edB evB ?hC2 ?hcB (by omega) hdb.1 hkb.1 ?_; (case k1 => k_asm); (case k2 => k_asm); (case k3 => k_asm); (case k5 => k_asm); (case kK => exact rfl); (case kd => ktr_room); (case ku => ktr_units); (case kN => k_asm); (case h30 => k_mem); (case hc1 => k_mem); (case hC1 => assumption); (case hcA => k_ne); (case h37 => k_mem); (case hc2 => k_mem); (case hC2 => assumption); (case hcB => k_ne))
  intro D11 ta tb h11 tk11 F11 N11 lt11
  have of11 := off_of_lt lt11
  clear lt11
  have hmark5 := MarkS.mk 5
  k_steps
  all_goals refine Hold.out ?_
  · rename (_ && _) = true => ha
    clear ha
    rename D11 < _ ∧ _ => hl
    clear hl
    k_steps
    refine Hold.out ?_
    k_dflt (refine' c_idm ?k1 ?k2 ?k3 ?k5 ?kK ?kd ?ku ?kN ?h30 ?hc1 edA evA ?hC1 ?hcA ?h37 ?hc2 edB evB ?hC2 ?hcB (by omega) hdb.2 hkb.2 ?_; (case k1 => k_asm); (case k2 => k_asm); (case k3 => k_asm); (case k5 => k_asm); (case kK => exact rfl); (case kd => ktr_room); (case ku => ktr_units); (case kN => k_asm); (case h30 => k_mem); (case hc1 => k_mem); (case hC1 => assumption); (case hcA => k_ne); (case h37 => k_mem); (case hc2 => k_mem); (case hC2 => assumption); (case hcB => k_ne))
    intro D12 ta2 tb2 h12 tk12 F12 N12 lt12
    have of12 := off_of_lt lt12
    clear lt12
    have hmark5 := MarkS.mk 5
    k_steps
    all_goals refine Hold.out ?_
    · rename (_ && _) = true => ha
      clear ha
      rename D12 < _ ∧ _ => hl
      clear hl
      dsimp only
      k_steps
      refine fin _ _ _ cA cB [] (by k_asm) (news_sub (by assumption) (List.forall_mem_cons.mpr ⟨?_, List.forall_mem_cons.mpr ⟨?_, List.forall_mem_nil _⟩⟩))
      · repeat first | exact List.Mem.head _ | refine List.Mem.tail _ ?_
      · repeat first | exact List.Mem.head _ | refine List.Mem.tail _ ?_
    · rename (_ && _) = false => ha
      exact (no_eq hq2 ha).elim
  · rename (_ && _) = false => ha
    exact (no_eq hq1 ha).elim

-- lawt9
namespace X_law_t9
noncomputable def P0 (w : World) (h₀ : Heap) (L : Addr) (m : Str → Option Value) (p : Program) (loose : List Str) (mean : ExcName → Option Value) (mg : Str → Option Value) (mb : Str → Option Value) (s : Shared) (E : Value → Shared → Prop) (fa : Addr) (cA : Addr) (D8 : Addr) (D9 : Addr) (cd : Value) (c4 : Obj) (c7 : Obj) (c8 : Obj) (n0 : Nat) (n1 : Nat) (n2 : Nat) (n3 : Nat) (w0 : Int) (w1 : Int) (w2 : Int) (w3 : Int) (pl : Int) (st0 : Nat) (st1 : Nat) (Sz : Int) (Wd : Int) (Bs : Int) (tB : Tok) (tW : Tok) (ocA : Obj) (cvA : Array Value) (tcA : Tok) (ss : List Value) (os : List Value) (sq : List Value) (sh : List Value) (nsh : Nat) (tp : Int) (tT : Tok) (Qf : Flow → Shared → Prop) : Prop := ∀ (sc : Scope) (bd : List Stmt) (hsc : fnScope lawS = sc) (hbd : (fnBody lawS).drop 16 = bd) (K' : Below callerA h₀ [] h₀) (X' : (kk w.params).In h₀) (T' : Top p loose mean mg mb h₀) (C1 : CodeHd h₀ 41 37) (C2 : CodeHd h₀ 34 30) (l0 : @LT.lt Nat _ 37 L ∧ @LT.lt Nat _ 30 L) (hE : PassesOwn (model PySem.Challenge.rw_tc0016_01.row.prog w) (callerA.deeper (envOfC "law" sc L fa cd)) (envOfC "law" sc L fa cd) E) (F : Fr h₀ L s.heap (fun y => if y = "top" then some (.int tp tT) else if y = "width" then some (.int Wd tW) else m y)) (N : News h₀ L s.heap [(D9, listOf sh.toArray nsh), (D8, LCg.lst sq), (30, hitA cA), (cA, ocA), (37, tabObj #[]), (L + 1 + 1 + 1 + 1, c4), (L + 1 + 1 + 1 + 1 + 1 + 1 + 1, c7), (L + 1 + 1 + 1 + 1 + 1 + 1 + 1 + 1, c8)]) (e4 : c4.data = .cell (some (.int Bs tB))) (e7 : c7.data = .cell (some (.ref D8))) (e8 : c8.data = .cell (some (.ref D9))) (offcA : LCg.Off1 cA [(30, hitA cA), (37, tabObj #[]), (L + 1 + 1 + 1 + 1, c4), (L + 1 + 1 + 1 + 1 + 1 + 1 + 1, c7), (L + 1 + 1 + 1 + 1 + 1 + 1 + 1 + 1, c8)]) (offD8 : LCg.Off1 D8 [(cA, ocA), (30, hitA cA), (37, tabObj #[]), (L + 1 + 1 + 1 + 1, c4), (L + 1 + 1 + 1 + 1 + 1 + 1 + 1, c7), (L + 1 + 1 + 1 + 1 + 1 + 1 + 1 + 1, c8)]) (offD9 : LCg.Off1 D9 [(cA, ocA), (D8, LCg.lst sq), (30, hitA cA), (37, tabObj #[]), (L + 1 + 1 + 1 + 1, c4), (L + 1 + 1 + 1 + 1 + 1 + 1 + 1, c7), (L + 1 + 1 + 1 + 1 + 1 + 1 + 1 + 1, c8)]) (hn0 : n0 < 16) (hn1 : n1 < 16) (hn2 : n2 < 16) (hn3 : n3 < 16) (hw0 : -1000000000 ≤ w0 ∧ w0 ≤ 1000000000) (hw1 : -1000000000 ≤ w1 ∧ w1 ≤ 1000000000) (hw2 : -1000000000 ≤ w2 ∧ w2 ≤ 1000000000) (hw3 : -1000000000 ≤ w3 ∧ w3 ≤ 1000000000) (hpl : 0 ≤ pl ∧ pl < 23) (hst0 : st0 = (97 + (pl + 4 + 0).fmod 26).toNat) (hst1 : st1 = (97 + (pl + 4 + 1).fmod 26).toNat) (edA : ocA.data = .fields cvA) (evA : cvA[1]? = some (.str quA tcA)) (hSz : ((w0.natAbs + w1.natAbs + w2.natAbs + w3.natAbs : Nat) : Int) = Sz) (hWd0 : 0 < Wd) (hWd1 : Wd ≤ 72) (hWd2 : 2 * (6 * Sz * Sz) < 2 ^ Wd.toNat) (hBs : (2 : Int) ^ Wd.toNat = Bs) (hI5 : IntsAre ss ((rangeKs 0 16).map (sumAt [(n0 : Int), n1, n2, n3] [w0, w1, w2, w3]))) (hI7 : IntsAre os ((rangeKs 0 16).map (fun k => shared k 15))) (hI8 : IntsAre sq ((rangeKs 0 5).map (sqL ((rangeKs 0 16).map (sumAt [(n0 : Int), n1, n2, n3] [w0, w1, w2, w3])) ((rangeKs 0 16).map (fun k => shared k 15))))) (hI9 : IntsAre sh (shaL n0 n1 n2 n3 w0 w1 w2 w3)) (htp : tp ∈ [0] ++ ((rangeKs 0 5).filter (fun p => decide ((((rangeKs 0 5).map (sqL ((rangeKs 0 16).map (sumAt [(n0 : Int), n1, n2, n3] [w0, w1, w2, w3])) ((rangeKs 0 16).map (fun k => shared k 15))))).getD p.toNat 0 ≠ 0))).map (fun k => k + 1)) (htq : ∀ a, a ∈ [0] ++ ((rangeKs 0 5).filter (fun p => decide ((((rangeKs 0 5).map (sqL ((rangeKs 0 16).map (sumAt [(n0 : Int), n1, n2, n3] [w0, w1, w2, w3])) ((rangeKs 0 16).map (fun k => shared k 15))))).getD p.toNat 0 ≠ 0))).map (fun k => k + 1) → a ≤ tp) (fin : ∀ m' h' tk' cA cB rest, Fr h₀ L h' m' → News h₀ L h' ((30, hitA cA) :: (37, hitB cB) :: rest) → Qf (.ret (.bool true)) { s with heap := h', toks := tk' }),
   wpAny (model PySem.Challenge.rw_tc0016_01.row.prog w) (callerA.deeper (envOfC "law" sc L fa cd)) (execs bd (envOfC "law" sc L fa cd)) Qf E s
abbrev T : Type := World × Heap × Addr × (Str → Option Value) × Program × (List Str) × (ExcName → Option Value) × (Str → Option Value) × (Str → Option Value) × Shared × (Value → Shared → Prop) × Addr × Addr × Addr × Addr × Value × Obj × Obj × Obj × Nat × Nat × Nat × Nat × Int × Int × Int × Int × Int × Nat × Nat × Int × Int × Int × Tok × Tok × Obj × (Array Value) × Tok × (List Value) × (List Value) × (List Value) × (List Value) × Nat × Int × Tok × (Flow → Shared → Prop)
noncomputable def P (v : T) : Prop := P0 v.1 v.2.1 v.2.2.1 v.2.2.2.1 v.2.2.2.2.1 v.2.2.2.2.2.1 v.2.2.2.2.2.2.1 v.2.2.2.2.2.2.2.1 v.2.2.2.2.2.2.2.2.1 v.2.2.2.2.2.2.2.2.2.1 v.2.2.2.2.2.2.2.2.2.2.1 v.2.2.2.2.2.2.2.2.2.2.2.1 v.2.2.2.2.2.2.2.2.2.2.2.2.1 v.2.2.2.2.2.2.2.2.2.2.2.2.2.1 v.2.2.2.2.2.2.2.2.2.2.2.2.2.2.1 v.2.2.2.2.2.2.2.2.2.2.2.2.2.2.2.1 v.2.2.2.2.2.2.2.2.2.2.2.2.2.2.2.2.1 v.2.2.2.2.2.2.2.2.2.2.2.2.2.2.2.2.2.1 v.2.2.2.2.2.2.2.2.2.2.2.2.2.2.2.2.2.2.1 v.2.2.2.2.2.2.2.2.2.2.2.2.2.2.2.2.2.2.2.1 v.2.2.2.2.2.2.2.2.2.2.2.2.2.2.2.2.2.2.2.2.1 v.2.2.2.2.2.2.2.2.2.2.2.2.2.2.2.2.2.2.2.2.2.1 v.2.2.2.2.2.2.2.2.2.2.2.2.2.2.2.2.2.2.2.2.2.2.1 v.2.2.2.2.2.2.2.2.2.2.2.2.2.2.2.2.2.2.2.2.2.2.2.1 v.2.2.2.2.2.2.2.2.2.2.2.2.2.2.2.2.2.2.2.2.2.2.2.2.1 v.2.2.2.2.2.2.2.2.2.2.2.2.2.2.2.2.2.2.2.2.2.2.2.2.2.1 v.2.2.2.2.2.2.2.2.2.2.2.2.2.2.2.2.2.2.2.2.2.2.2.2.2.2.1 v.2.2.2.2.2.2.2.2.2.2.2.2.2.2.2.2.2.2.2.2.2.2.2.2.2.2.2.1 v.2.2.2.2.2.2.2.2.2.2.2.2.2.2.2.2.2.2.2.2.2.2.2.2.2.2.2.2.1 v.2.2.2.2.2.2.2.2.2.2.2.2.2.2.2.2.2.2.2.2.2.2.2.2.2.2.2.2.2.1 v.2.2.2.2.2.2.2.2.2.2.2.2.2.2.2.2.2.2.2.2.2.2.2.2.2.2.2.2.2.2.1 v.2.2.2.2.2.2.2.2.2.2.2.2.2.2.2.2.2.2.2.2.2.2.2.2.2.2.2.2.2.2.2.1 v.2.2.2.2.2.2.2.2.2.2.2.2.2.2.2.2.2.2.2.2.2.2.2.2.2.2.2.2.2.2.2.2.1 v.2.2.2.2.2.2.2.2.2.2.2.2.2.2.2.2.2.2.2.2.2.2.2.2.2.2.2.2.2.2.2.2.2.1 v.2.2.2.2.2.2.2.2.2.2.2.2.2.2.2.2.2.2.2.2.2.2.2.2.2.2.2.2.2.2.2.2.2.2.1 v.2.2.2.2.2.2.2.2.2.2.2.2.2.2.2.2.2.2.2.2.2.2.2.2.2.2.2.2.2.2.2.2.2.2.2.1 v.2.2.2.2.2.2.2.2.2.2.2.2.2.2.2.2.2.2.2.2.2.2.2.2.2.2.2.2.2.2.2.2.2.2.2.2.1 v.2.2.2.2.2.2.2.2.2.2.2.2.2.2.2.2.2.2.2.2.2.2.2.2.2.2.2.2.2.2.2.2.2.2.2.2.2.1 v.2.2.2.2.2.2.2.2.2.2.2.2.2.2.2.2.2.2.2.2.2.2.2.2.2.2.2.2.2.2.2.2.2.2.2.2.2.2.1 v.2.2.2.2.2.2.2.2.2.2.2.2.2.2.2.2.2.2.2.2.2.2.2.2.2.2.2.2.2.2.2.2.2.2.2.2.2.2.2.1 v.2.2.2.2.2.2.2.2.2.2.2.2.2.2.2.2.2.2.2.2.2.2.2.2.2.2.2.2.2.2.2.2.2.2.2.2.2.2.2.2.1 v.2.2.2.2.2.2.2.2.2.2.2.2.2.2.2.2.2.2.2.2.2.2.2.2.2.2.2.2.2.2.2.2.2.2.2.2.2.2.2.2.2.1 v.2.2.2.2.2.2.2.2.2.2.2.2.2.2.2.2.2.2.2.2.2.2.2.2.2.2.2.2.2.2.2.2.2.2.2.2.2.2.2.2.2.2.1 v.2.2.2.2.2.2.2.2.2.2.2.2.2.2.2.2.2.2.2.2.2.2.2.2.2.2.2.2.2.2.2.2.2.2.2.2.2.2.2.2.2.2.2.1 v.2.2.2.2.2.2.2.2.2.2.2.2.2.2.2.2.2.2.2.2.2.2.2.2.2.2.2.2.2.2.2.2.2.2.2.2.2.2.2.2.2.2.2.2.1 v.2.2.2.2.2.2.2.2.2.2.2.2.2.2.2.2.2.2.2.2.2.2.2.2.2.2.2.2.2.2.2.2.2.2.2.2.2.2.2.2.2.2.2.2.2
theorem ex : ∃ c : T, P c → ∀ v, P v := ex_all ⟨((Classical.choice neW), {}, (0 : Nat), (fun _ => none), default, [], (fun _ => none), (fun _ => none), (fun _ => none), {}, (fun _ _ => False), (0 : Nat), (0 : Nat), (0 : Nat), (0 : Nat), .none, default, default, default, 0, 0, 0, 0, 0, 0, 0, 0, 0, 0, 0, 0, 0, 0, (0 : Nat), (0 : Nat), default, #[], (0 : Nat), [], [], [], [], 0, 0, (0 : Nat), (fun _ _ => False))⟩
@[irreducible] noncomputable def cT : T := Classical.choose ex
theorem cS : P cT → ∀ v, P v := by
  unfold cT
  exact Classical.choose_spec ex
noncomputable abbrev L : Addr := cT.2.2.1
noncomputable abbrev cA : Addr := cT.2.2.2.2.2.2.2.2.2.2.2.2.1
noncomputable abbrev D8 : Addr := cT.2.2.2.2.2.2.2.2.2.2.2.2.2.1
noncomputable abbrev D9 : Addr := cT.2.2.2.2.2.2.2.2.2.2.2.2.2.2.1
noncomputable abbrev c4 : Obj := cT.2.2.2.2.2.2.2.2.2.2.2.2.2.2.2.2.1
noncomputable abbrev c7 : Obj := cT.2.2.2.2.2.2.2.2.2.2.2.2.2.2.2.2.2.1
noncomputable abbrev c8 : Obj := cT.2.2.2.2.2.2.2.2.2.2.2.2.2.2.2.2.2.2.1
noncomputable abbrev n0 : Nat := cT.2.2.2.2.2.2.2.2.2.2.2.2.2.2.2.2.2.2.2.1
noncomputable abbrev n1 : Nat := cT.2.2.2.2.2.2.2.2.2.2.2.2.2.2.2.2.2.2.2.2.1
noncomputable abbrev n2 : Nat := cT.2.2.2.2.2.2.2.2.2.2.2.2.2.2.2.2.2.2.2.2.2.1
noncomputable abbrev n3 : Nat := cT.2.2.2.2.2.2.2.2.2.2.2.2.2.2.2.2.2.2.2.2.2.2.1
noncomputable abbrev w0 : Int := cT.2.2.2.2.2.2.2.2.2.2.2.2.2.2.2.2.2.2.2.2.2.2.2.1
noncomputable abbrev w1 : Int := cT.2.2.2.2.2.2.2.2.2.2.2.2.2.2.2.2.2.2.2.2.2.2.2.2.1
noncomputable abbrev w2 : Int := cT.2.2.2.2.2.2.2.2.2.2.2.2.2.2.2.2.2.2.2.2.2.2.2.2.2.1
noncomputable abbrev w3 : Int := cT.2.2.2.2.2.2.2.2.2.2.2.2.2.2.2.2.2.2.2.2.2.2.2.2.2.2.1
noncomputable abbrev Bs : Int := cT.2.2.2.2.2.2.2.2.2.2.2.2.2.2.2.2.2.2.2.2.2.2.2.2.2.2.2.2.2.2.2.2.1
noncomputable abbrev ocA : Obj := cT.2.2.2.2.2.2.2.2.2.2.2.2.2.2.2.2.2.2.2.2.2.2.2.2.2.2.2.2.2.2.2.2.2.2.2.1
noncomputable abbrev sq : List Value := cT.2.2.2.2.2.2.2.2.2.2.2.2.2.2.2.2.2.2.2.2.2.2.2.2.2.2.2.2.2.2.2.2.2.2.2.2.2.2.2.2.1
noncomputable abbrev sh : List Value := cT.2.2.2.2.2.2.2.2.2.2.2.2.2.2.2.2.2.2.2.2.2.2.2.2.2.2.2.2.2.2.2.2.2.2.2.2.2.2.2.2.2.1
noncomputable abbrev nsh : Nat := cT.2.2.2.2.2.2.2.2.2.2.2.2.2.2.2.2.2.2.2.2.2.2.2.2.2.2.2.2.2.2.2.2.2.2.2.2.2.2.2.2.2.2.1
set_option maxRecDepth 100000 in
set_option maxHeartbeats 0 in
theorem main : P0 cT.1 cT.2.1 L cT.2.2.2.1 cT.2.2.2.2.1 cT.2.2.2.2.2.1 cT.2.2.2.2.2.2.1 cT.2.2.2.2.2.2.2.1 cT.2.2.2.2.2.2.2.2.1 cT.2.2.2.2.2.2.2.2.2.1 cT.2.2.2.2.2.2.2.2.2.2.1 cT.2.2.2.2.2.2.2.2.2.2.2.1 cA D8 D9 cT.2.2.2.2.2.2.2.2.2.2.2.2.2.2.2.1 c4 c7 c8 n0 n1 n2 n3 w0 w1 w2 w3 cT.2.2.2.2.2.2.2.2.2.2.2.2.2.2.2.2.2.2.2.2.2.2.2.2.2.2.2.1 cT.2.2.2.2.2.2.2.2.2.2.2.2.2.2.2.2.2.2.2.2.2.2.2.2.2.2.2.2.1 cT.2.2.2.2.2.2.2.2.2.2.2.2.2.2.2.2.2.2.2.2.2.2.2.2.2.2.2.2.2.1 cT.2.2.2.2.2.2.2.2.2.2.2.2.2.2.2.2.2.2.2.2.2.2.2.2.2.2.2.2.2.2.1 cT.2.2.2.2.2.2.2.2.2.2.2.2.2.2.2.2.2.2.2.2.2.2.2.2.2.2.2.2.2.2.2.1 Bs cT.2.2.2.2.2.2.2.2.2.2.2.2.2.2.2.2.2.2.2.2.2.2.2.2.2.2.2.2.2.2.2.2.2.1 cT.2.2.2.2.2.2.2.2.2.2.2.2.2.2.2.2.2.2.2.2.2.2.2.2.2.2.2.2.2.2.2.2.2.2.1 ocA cT.2.2.2.2.2.2.2.2.2.2.2.2.2.2.2.2.2.2.2.2.2.2.2.2.2.2.2.2.2.2.2.2.2.2.2.2.1 cT.2.2.2.2.2.2.2.2.2.2.2.2.2.2.2.2.2.2.2.2.2.2.2.2.2.2.2.2.2.2.2.2.2.2.2.2.2.1 cT.2.2.2.2.2.2.2.2.2.2.2.2.2.2.2.2.2.2.2.2.2.2.2.2.2.2.2.2.2.2.2.2.2.2.2.2.2.2.1 cT.2.2.2.2.2.2.2.2.2.2.2.2.2.2.2.2.2.2.2.2.2.2.2.2.2.2.2.2.2.2.2.2.2.2.2.2.2.2.2.1 sq sh nsh cT.2.2.2.2.2.2.2.2.2.2.2.2.2.2.2.2.2.2.2.2.2.2.2.2.2.2.2.2.2.2.2.2.2.2.2.2.2.2.2.2.2.2.2.1 cT.2.2.2.2.2.2.2.2.2.2.2.2.2.2.2.2.2.2.2.2.2.2.2.2.2.2.2.2.2.2.2.2.2.2.2.2.2.2.2.2.2.2.2.2.1 cT.2.2.2.2.2.2.2.2.2.2.2.2.2.2.2.2.2.2.2.2.2.2.2.2.2.2.2.2.2.2.2.2.2.2.2.2.2.2.2.2.2.2.2.2.2 := by
  unfold P0
  intro sc bd hsc hbd K' X' T' C1 C2 l0 hE F N e4 e7 e8 offcA offD8 offD9 hn0 hn1 hn2 hn3 hw0 hw1 hw2 hw3 hpl hst0 hst1 edA evA hSz hWd0 hWd1 hWd2 hBs hI5 hI7 hI8 hI9 htp htq fin
  have hsc0 := hsc
  have hbd0 := hbd
  conv at hsc => lhs; whnf
  conv at hbd => lhs; whnf
  subst hsc hbd
  have hBb := bs_bits (Int.le_of_lt hWd0) hWd1 hBs
  have hShb := sha_bits (n0 := n0) (n1 := n1) (n2 := n2) (n3 := n3) hw0 hw1 hw2 hw3
  have lSH : (shaL n0 n1 n2 n3 w0 w1 w2 w3).length = 5 := rowOut_len _ _ _
  k_steps
  refine Hold.out ?_
  rename News _ _ _ _ => lN
  have lN2 := news_sub (news := (37, tabObj #[]) :: [(D9, listOf sh.toArray nsh), (D8, LCg.lst sq), (30, hitA cA), (cA, ocA), (L + 1 + 1 + 1 + 1, c4), (L + 1 + 1 + 1 + 1 + 1 + 1 + 1, c7), (L + 1 + 1 + 1 + 1 + 1 + 1 + 1 + 1, c8)]) lN (by (repeat' (first | exact List.forall_mem_nil _ | refine List.forall_mem_cons.mpr ⟨?_, ?_⟩)); all_goals (repeat first | exact List.Mem.head _ | refine List.Mem.tail _ ?_))
  k_dflt (refine' c_d2i ?k1 ?k2 ?k3 ?k5 ?kK ?kd ?ku lN2 ?hne ?hC ?hok ?hm hI9 hWd0 (by omega) (by rw [lSH]; decide) (fun j => Nat.le_trans (hShb j) (by decide)) ?_; (case k1 => k_asm); (case k2 => k_asm); (case k3 => k_asm); (case k5 => k_asm); (case kK => exact rfl); (case kd => ktr_room); (case ku => ktr_units); (case hne => k_all); (case hC => assumption); (case hok => exact Or.inl rfl); (case hm => k_mem))
  intro cB ocB cvB tcB tB2 h1 tk1 F1 N1 edB evB ca
  obtain ⟨ofB, hcB⟩ := tabB_new ca (q := (L + 1 + 1 + 1 + 1, c4)) (by repeat first | exact List.Mem.head _ | refine List.Mem.tail _ ?_) (by omega)
  clear ca lN2
  rw [d2i_num lSH hBs]
  have hmark := MarkS.mk 2
  k_steps
  refine Hold.out ?_
  refine LCg.CompSrc.range (n := 5) (by rfl) (by k_asm) (by k_asm) (by assumption) (by decide) (by rfl) (by decide) ?_
  intro gg6
  refine comp_range (fun k y => ∃ t, y = .int ((shaL n0 n1 n2 n3 w0 w1 w2 w3).getD k.toNat 0 * Bs ^ k.toNat) t) ?_ ?_
  · intro k t I oI Ca oC D8 m2 ys h tk E' hk0 hk4 hC hx2 F2 N2 off ne
    replace hk4 : k < 5 := hk4
    dsimp only at F2 N2 ⊢
    have off0 := Hold.out off
    have hm20 := MarkS.mk 20
    k_steps
    first
      | exact ⟨rfl, _, rfl⟩
      | exact LCg.CompEnd.intro (by k_asm) (by k_asm) _ (fun _ hp => hp) off0 trivial ⟨rfl, _, rfl⟩
  intro ys hys
  have hI11 := rel_ints hys
  clear hys
  have e11 : (List.map (fun k => (shaL n0 n1 n2 n3 w0 w1 w2 w3).getD k.toNat 0 * Bs ^ k.toNat) (rangeKs 0 5)).sum = shNum (shaL n0 n1 n2 n3 w0 w1 w2 w3) Bs := rfl
  k_steps
  · exfalso
    rename shNum _ _ ≠ _ => hne
    exact hne e11.symm
  refine Hold.out ?_
  have hSqs := sq_ok (n0 := n0) (n1 := n1) (n2 := n2) (n3 := n3) hSz hWd2 hBs
  k_dflt (refine' c_turned ?k1 ?k2 ?k3 ?k5 ?kK ?kd ?ku ?kN ?hm hI8 (by rw [List.length_map, rangeKs_length]) (Nat.le_trans hBb (by decide)) (sq_bits hBb hSqs) ?_; (case k1 => k_asm); (case k2 => k_asm); (case k3 => k_asm); (case k5 => k_asm); (case kK => exact rfl); (case kd => ktr_room); (case ku => ktr_units); (case kN => k_asm); (case hm => k_mem))
  intro tt1 h3 tk3 F3 N3
  rw [show turned ((rangeKs 0 5).map (sqL ((rangeKs 0 16).map (sumAt [(n0 : Int), n1, n2, n3] [w0, w1, w2, w3])) ((rangeKs 0 16).map (fun k => shared k 15)))) Bs = 16 * shNum (shaL n0 n1 n2 n3 w0 w1 w2 w3) Bs from turned_sq hn0 hn1 hn2 hn3 Bs]
  have hmark5 := MarkS.mk 5
  k_steps
  refine Hold.out ?_
  k_dflt (refine' law_t10 ?hsc ?hbd K' X' T' C1 C2 l0 ?hE ?F ?N ?e4 ?e7 ?offcA ?offD8 ?offcB hn0 hn1 hn2 hn3 hw0 hw1 hw2 hw3 hpl hst0 hst1 edA evA hSz hWd0 hWd1 hWd2 hBs hI5 hI7 hI8 hI9 htp htq edB evB ?fin; (case hE => exact hE); (case hsc => exact hsc0); (case hbd => exact drop_more 3 hbd0); (case F => k_asm); (case N => (first | k_asm | (refine news_sub (by k_asm) ?_; (repeat' (first | exact List.forall_mem_nil _ | refine List.forall_mem_cons.mpr ⟨?_, ?_⟩)); all_goals (repeat first | exact List.Mem.head _ | refine List.Mem.tail _ ?_)))); (case e4 => assumption); (case e7 => assumption); (case offcA => ((repeat' (first | exact trivial | refine And.intro ?_ ?_)); all_goals (first | k_ne | fail "k_ne"))); (case offD8 => ((repeat' (first | exact trivial | refine And.intro ?_ ?_)); all_goals (first | k_ne | fail "k_ne"))); (case offcB => ((repeat' (first | exact trivial | refine And.intro ?_ ?_)); all_goals (first | k_ne | fail "k_ne"))))
  case fin => exact fin
end X_law_t9
theorem law_t9 {w : World} {h₀ : Heap} {L : Addr} {m : Str → Option Value} {p : Program} {loose : List Str} {mean : ExcName → Option Value} {mg : Str → Option Value} {mb : Str → Option Value} {s : Shared} {E : Value → Shared → Prop} {fa : Addr} {cA : Addr} {D8 : Addr} {D9 : Addr} {cd : Value} {c4 : Obj} {c7 : Obj} {c8 : Obj} {n0 : Nat} {n1 : Nat} {n2 : Nat} {n3 : Nat} {w0 : Int} {w1 : Int} {w2 : Int} {w3 : Int} {pl : Int} {st0 : Nat} {st1 : Nat} {Sz : Int} {Wd : Int} {Bs : Int} {tB : Tok} {tW : Tok} {ocA : Obj} {cvA : Array Value} {tcA : Tok} {ss : List Value} {os : List Value} {sq : List Value} {sh : List Value} {nsh : Nat} {tp : Int} {tT : Tok} {Qf : Flow → Shared → Prop} {sc : Scope} {bd : List Stmt} (hsc : fnScope lawS = sc) (hbd : (fnBody lawS).drop 16 = bd) (K' : Below callerA h₀ [] h₀) (X' : (kk w.params).In h₀) (T' : Top p loose mean mg mb h₀) (C1 : CodeHd h₀ 41 37) (C2 : CodeHd h₀ 34 30) (l0 : @LT.lt Nat _ 37 L ∧ @LT.lt Nat _ 30 L) (hE : PassesOwn (model PySem.Challenge.rw_tc0016_01.row.prog w) (callerA.deeper (envOfC "law" sc L fa cd)) (envOfC "law" sc L fa cd) E) (F : Fr h₀ L s.heap (fun y => if y = "top" then some (.int tp tT) else if y = "width" then some (.int Wd tW) else m y)) (N : News h₀ L s.heap [(D9, listOf sh.toArray nsh), (D8, LCg.lst sq), (30, hitA cA), (cA, ocA), (37, tabObj #[]), (L + 1 + 1 + 1 + 1, c4), (L + 1 + 1 + 1 + 1 + 1 + 1 + 1, c7), (L + 1 + 1 + 1 + 1 + 1 + 1 + 1 + 1, c8)]) (e4 : c4.data = .cell (some (.int Bs tB))) (e7 : c7.data = .cell (some (.ref D8))) (e8 : c8.data = .cell (some (.ref D9))) (offcA : LCg.Off1 cA [(30, hitA cA), (37, tabObj #[]), (L + 1 + 1 + 1 + 1, c4), (L + 1 + 1 + 1 + 1 + 1 + 1 + 1, c7), (L + 1 + 1 + 1 + 1 + 1 + 1 + 1 + 1, c8)]) (offD8 : LCg.Off1 D8 [(cA, ocA), (30, hitA cA), (37, tabObj #[]), (L + 1 + 1 + 1 + 1, c4), (L + 1 + 1 + 1 + 1 + 1 + 1 + 1, c7), (L + 1 + 1 + 1 + 1 + 1 + 1 + 1 + 1, c8)]) (offD9 : LCg.Off1 D9 [(cA, ocA), (D8, LCg.lst sq), (30, hitA cA), (37, tabObj #[]), (L + 1 + 1 + 1 + 1, c4), (L + 1 + 1 + 1 + 1 + 1 + 1 + 1, c7), (L + 1 + 1 + 1 + 1 + 1 + 1 + 1 + 1, c8)]) (hn0 : n0 < 16) (hn1 : n1 < 16) (hn2 : n2 < 16) (hn3 : n3 < 16) (hw0 : -1000000000 ≤ w0 ∧ w0 ≤ 1000000000) (hw1 : -1000000000 ≤ w1 ∧ w1 ≤ 1000000000) (hw2 : -1000000000 ≤ w2 ∧ w2 ≤ 1000000000) (hw3 : -1000000000 ≤ w3 ∧ w3 ≤ 1000000000) (hpl : 0 ≤ pl ∧ pl < 23) (hst0 : st0 = (97 + (pl + 4 + 0).fmod 26).toNat) (hst1 : st1 = (97 + (pl + 4 + 1).fmod 26).toNat) (edA : ocA.data = .fields cvA) (evA : cvA[1]? = some (.str quA tcA)) (hSz : ((w0.natAbs + w1.natAbs + w2.natAbs + w3.natAbs : Nat) : Int) = Sz) (hWd0 : 0 < Wd) (hWd1 : Wd ≤ 72) (hWd2 : 2 * (6 * Sz * Sz) < 2 ^ Wd.toNat) (hBs : (2 : Int) ^ Wd.toNat = Bs) (hI5 : IntsAre ss ((rangeKs 0 16).map (sumAt [(n0 : Int), n1, n2, n3] [w0, w1, w2, w3]))) (hI7 : IntsAre os ((rangeKs 0 16).map (fun k => shared k 15))) (hI8 : IntsAre sq ((rangeKs 0 5).map (sqL ((rangeKs 0 16).map (sumAt [(n0 : Int), n1, n2, n3] [w0, w1, w2, w3])) ((rangeKs 0 16).map (fun k => shared k 15))))) (hI9 : IntsAre sh (shaL n0 n1 n2 n3 w0 w1 w2 w3)) (htp : tp ∈ [0] ++ ((rangeKs 0 5).filter (fun p => decide ((((rangeKs 0 5).map (sqL ((rangeKs 0 16).map (sumAt [(n0 : Int), n1, n2, n3] [w0, w1, w2, w3])) ((rangeKs 0 16).map (fun k => shared k 15))))).getD p.toNat 0 ≠ 0))).map (fun k => k + 1)) (htq : ∀ a, a ∈ [0] ++ ((rangeKs 0 5).filter (fun p => decide ((((rangeKs 0 5).map (sqL ((rangeKs 0 16).map (sumAt [(n0 : Int), n1, n2, n3] [w0, w1, w2, w3])) ((rangeKs 0 16).map (fun k => shared k 15))))).getD p.toNat 0 ≠ 0))).map (fun k => k + 1) → a ≤ tp) (fin : ∀ m' h' tk' cA cB rest, Fr h₀ L h' m' → News h₀ L h' ((30, hitA cA) :: (37, hitB cB) :: rest) → Qf (.ret (.bool true)) { s with heap := h', toks := tk' }) :
   wpAny (model PySem.Challenge.rw_tc0016_01.row.prog w) (callerA.deeper (envOfC "law" sc L fa cd)) (execs bd (envOfC "law" sc L fa cd)) Qf E s :=
  X_law_t9.cS X_law_t9.main (w, h₀, L, m, p, loose, mean, mg, mb, s, E, fa, cA, D8, D9, cd, c4, c7, c8, n0, n1, n2, n3, w0, w1, w2, w3, pl, st0, st1, Sz, Wd, Bs, tB, tW, ocA, cvA, tcA, ss, os, sq, sh, nsh, tp, tT, Qf) sc bd hsc hbd K' X' T' C1 C2 l0 hE F N e4 e7 e8 offcA offD8 offD9 hn0 hn1 hn2 hn3 hw0 hw1 hw2 hw3 hpl hst0 hst1 edA evA hSz hWd0 hWd1 hWd2 hBs hI5 hI7 hI8 hI9 htp htq fin

-- lawt8
namespace X_law_t8
noncomputable def P0 (w : World) (h₀ : Heap) (L : Addr) (m : Str → Option Value) (p : Program) (loose : List Str) (mean : ExcName → Option Value) (mg : Str → Option Value) (mb : Str → Option Value) (s : Shared) (E : Value → Shared → Prop) (fa : Addr) (cA : Addr) (D8 : Addr) (D9 : Addr) (cd : Value) (c4 : Obj) (c7 : Obj) (c8 : Obj) (n0 : Nat) (n1 : Nat) (n2 : Nat) (n3 : Nat) (w0 : Int) (w1 : Int) (w2 : Int) (w3 : Int) (pl : Int) (st0 : Nat) (st1 : Nat) (Sz : Int) (Wd : Int) (Bs : Int) (tB : Tok) (tW : Tok) (ocA : Obj) (cvA : Array Value) (tcA : Tok) (ss : List Value) (os : List Value) (sq : List Value) (sh : List Value) (nsh : Nat) (tp : Int) (tT : Tok) (Qf : Flow → Shared → Prop) : Prop := ∀ (sc : Scope) (bd : List Stmt) (hsc : fnScope lawS = sc) (hbd : (fnBody lawS).drop 15 = bd) (K' : Below callerA h₀ [] h₀) (X' : (kk w.params).In h₀) (T' : Top p loose mean mg mb h₀) (C1 : CodeHd h₀ 41 37) (C2 : CodeHd h₀ 34 30) (l0 : @LT.lt Nat _ 37 L ∧ @LT.lt Nat _ 30 L) (hE : PassesOwn (model PySem.Challenge.rw_tc0016_01.row.prog w) (callerA.deeper (envOfC "law" sc L fa cd)) (envOfC "law" sc L fa cd) E) (F : Fr h₀ L s.heap (fun y => if y = "top" then some (.int tp tT) else if y = "width" then some (.int Wd tW) else m y)) (N : News h₀ L s.heap [(D9, listOf sh.toArray nsh), (D8, LCg.lst sq), (30, hitA cA), (cA, ocA), (37, tabObj #[]), (L + 1 + 1 + 1 + 1, c4), (L + 1 + 1 + 1 + 1 + 1 + 1 + 1, c7), (L + 1 + 1 + 1 + 1 + 1 + 1 + 1 + 1, c8)]) (e4 : c4.data = .cell (some (.int Bs tB))) (e7 : c7.data = .cell (some (.ref D8))) (e8 : c8.data = .cell (some (.ref D9))) (offcA : LCg.Off1 cA [(30, hitA cA), (37, tabObj #[]), (L + 1 + 1 + 1 + 1, c4), (L + 1 + 1 + 1 + 1 + 1 + 1 + 1, c7), (L + 1 + 1 + 1 + 1 + 1 + 1 + 1 + 1, c8)]) (offD8 : LCg.Off1 D8 [(cA, ocA), (30, hitA cA), (37, tabObj #[]), (L + 1 + 1 + 1 + 1, c4), (L + 1 + 1 + 1 + 1 + 1 + 1 + 1, c7), (L + 1 + 1 + 1 + 1 + 1 + 1 + 1 + 1, c8)]) (offD9 : LCg.Off1 D9 [(cA, ocA), (D8, LCg.lst sq), (30, hitA cA), (37, tabObj #[]), (L + 1 + 1 + 1 + 1, c4), (L + 1 + 1 + 1 + 1 + 1 + 1 + 1, c7), (L + 1 + 1 + 1 + 1 + 1 + 1 + 1 + 1, c8)]) (hn0 : n0 < 16) (hn1 : n1 < 16) (hn2 : n2 < 16) (hn3 : n3 < 16) (hw0 : -1000000000 ≤ w0 ∧ w0 ≤ 1000000000) (hw1 : -1000000000 ≤ w1 ∧ w1 ≤ 1000000000) (hw2 : -1000000000 ≤ w2 ∧ w2 ≤ 1000000000) (hw3 : -1000000000 ≤ w3 ∧ w3 ≤ 1000000000) (hpl : 0 ≤ pl ∧ pl < 23) (hst0 : st0 = (97 + (pl + 4 + 0).fmod 26).toNat) (hst1 : st1 = (97 + (pl + 4 + 1).fmod 26).toNat) (edA : ocA.data = .fields cvA) (evA : cvA[1]? = some (.str quA tcA)) (hSz : ((w0.natAbs + w1.natAbs + w2.natAbs + w3.natAbs : Nat) : Int) = Sz) (hWd0 : 0 < Wd) (hWd1 : Wd ≤ 72) (hWd2 : 2 * (6 * Sz * Sz) < 2 ^ Wd.toNat) (hBs : (2 : Int) ^ Wd.toNat = Bs) (hI5 : IntsAre ss ((rangeKs 0 16).map (sumAt [(n0 : Int), n1, n2, n3] [w0, w1, w2, w3]))) (hI7 : IntsAre os ((rangeKs 0 16).map (fun k => shared k 15))) (hI8 : IntsAre sq ((rangeKs 0 5).map (sqL ((rangeKs 0 16).map (sumAt [(n0 : Int), n1, n2, n3] [w0, w1, w2, w3])) ((rangeKs 0 16).map (fun k => shared k 15))))) (hI9 : IntsAre sh (shaL n0 n1 n2 n3 w0 w1 w2 w3)) (htp : tp ∈ [0] ++ ((rangeKs 0 5).filter (fun p => decide ((((rangeKs 0 5).map (sqL ((rangeKs 0 16).map (sumAt [(n0 : Int), n1, n2, n3] [w0, w1, w2, w3])) ((rangeKs 0 16).map (fun k => shared k 15))))).getD p.toNat 0 ≠ 0))).map (fun k => k + 1)) (htq : ∀ a, a ∈ [0] ++ ((rangeKs 0 5).filter (fun p => decide ((((rangeKs 0 5).map (sqL ((rangeKs 0 16).map (sumAt [(n0 : Int), n1, n2, n3] [w0, w1, w2, w3])) ((rangeKs 0 16).map (fun k => shared k 15))))).getD p.toNat 0 ≠ 0))).map (fun k => k + 1) → a ≤ tp) (fin : ∀ m' h' tk' cA cB rest, Fr h₀ L h' m' → News h₀ L h' ((30, hitA cA) :: (37, hitB cB) :: rest) → Qf (.ret (.bool true)) { s with heap := h', toks := tk' }),
   wpAny (model PySem.Challenge.rw_tc0016_01.row.prog w) (callerA.deeper (envOfC "law" sc L fa cd)) (execs bd (envOfC "law" sc L fa cd)) Qf E s
abbrev T : Type := World × Heap × Addr × (Str → Option Value) × Program × (List Str) × (ExcName → Option Value) × (Str → Option Value) × (Str → Option Value) × Shared × (Value → Shared → Prop) × Addr × Addr × Addr × Addr × Value × Obj × Obj × Obj × Nat × Nat × Nat × Nat × Int × Int × Int × Int × Int × Nat × Nat × Int × Int × Int × Tok × Tok × Obj × (Array Value) × Tok × (List Value) × (List Value) × (List Value) × (List Value) × Nat × Int × Tok × (Flow → Shared → Prop)
noncomputable def P (v : T) : Prop := P0 v.1 v.2.1 v.2.2.1 v.2.2.2.1 v.2.2.2.2.1 v.2.2.2.2.2.1 v.2.2.2.2.2.2.1 v.2.2.2.2.2.2.2.1 v.2.2.2.2.2.2.2.2.1 v.2.2.2.2.2.2.2.2.2.1 v.2.2.2.2.2.2.2.2.2.2.1 v.2.2.2.2.2.2.2.2.2.2.2.1 v.2.2.2.2.2.2.2.2.2.2.2.2.1 v.2.2.2.2.2.2.2.2.2.2.2.2.2.1 v.2.2.2.2.2.2.2.2.2.2.2.2.2.2.1 v.2.2.2.2.2.2.2.2.2.2.2.2.2.2.2.1 v.2.2.2.2.2.2.2.2.2.2.2.2.2.2.2.2.1 v.2.2.2.2.2.2.2.2.2.2.2.2.2.2.2.2.2.1 v.2.2.2.2.2.2.2.2.2.2.2.2.2.2.2.2.2.2.1 v.2.2.2.2.2.2.2.2.2.2.2.2.2.2.2.2.2.2.2.1 v.2.2.2.2.2.2.2.2.2.2.2.2.2.2.2.2.2.2.2.2.1 v.2.2.2.2.2.2.2.2.2.2.2.2.2.2.2.2.2.2.2.2.2.1 v.2.2.2.2.2.2.2.2.2.2.2.2.2.2.2.2.2.2.2.2.2.2.1 v.2.2.2.2.2.2.2.2.2.2.2.2.2.2.2.2.2.2.2.2.2.2.2.1 v.2.2.2.2.2.2.2.2.2.2.2.2.2.2.2.2.2.2.2.2.2.2.2.2.1 v.2.2.2.2.2.2.2.2.2.2.2.2.2.2.2.2.2.2.2.2.2.2.2.2.2.1 v.2.2.2.2.2.2.2.2.2.2.2.2.2.2.2.2.2.2.2.2.2.2.2.2.2.2.1 v.2.2.2.2.2.2.2.2.2.2.2.2.2.2.2.2.2.2.2.2.2.2.2.2.2.2.2.1 v.2.2.2.2.2.2.2.2.2.2.2.2.2.2.2.2.2.2.2.2.2.2.2.2.2.2.2.2.1 v.2.2.2.2.2.2.2.2.2.2.2.2.2.2.2.2.2.2.2.2.2.2.2.2.2.2.2.2.2.1 v.2.2.2.2.2.2.2.2.2.2.2.2.2.2.2.2.2.2.2.2.2.2.2.2.2.2.2.2.2.2.1 v.2.2.2.2.2.2.2.2.2.2.2.2.2.2.2.2.2.2.2.2.2.2.2.2.2.2.2.2.2.2.2.1 v.2.2.2.2.2.2.2.2.2.2.2.2.2.2.2.2.2.2.2.2.2.2.2.2.2.2.2.2.2.2.2.2.1 v.2.2.2.2.2.2.2.2.2.2.2.2.2.2.2.2.2.2.2.2.2.2.2.2.2.2.2.2.2.2.2.2.2.1 v.2.2.2.2.2.2.2.2.2.2.2.2.2.2.2.2.2.2.2.2.2.2.2.2.2.2.2.2.2.2.2.2.2.2.1 v.2.2.2.2.2.2.2.2.2.2.2.2.2.2.2.2.2.2.2.2.2.2.2.2.2.2.2.2.2.2.2.2.2.2.2.1 v.2.2.2.2.2.2.2.2.2.2.2.2.2.2.2.2.2.2.2.2.2.2.2.2.2.2.2.2.2.2.2.2.2.2.2.2.1 v.2.2.2.2.2.2.2.2.2.2.2.2.2.2.2.2.2.2.2.2.2.2.2.2.2.2.2.2.2.2.2.2.2.2.2.2.2.1 v.2.2.2.2.2.2.2.2.2.2.2.2.2.2.2.2.2.2.2.2.2.2.2.2.2.2.2.2.2.2.2.2.2.2.2.2.2.2.1 v.2.2.2.2.2.2.2.2.2.2.2.2.2.2.2.2.2.2.2.2.2.2.2.2.2.2.2.2.2.2.2.2.2.2.2.2.2.2.2.1 v.2.2.2.2.2.2.2.2.2.2.2.2.2.2.2.2.2.2.2.2.2.2.2.2.2.2.2.2.2.2.2.2.2.2.2.2.2.2.2.2.1 v.2.2.2.2.2.2.2.2.2.2.2.2.2.2.2.2.2.2.2.2.2.2.2.2.2.2.2.2.2.2.2.2.2.2.2.2.2.2.2.2.2.1 v.2.2.2.2.2.2.2.2.2.2.2.2.2.2.2.2.2.2.2.2.2.2.2.2.2.2.2.2.2.2.2.2.2.2.2.2.2.2.2.2.2.2.1 v.2.2.2.2.2.2.2.2.2.2.2.2.2.2.2.2.2.2.2.2.2.2.2.2.2.2.2.2.2.2.2.2.2.2.2.2.2.2.2.2.2.2.2.1 v.2.2.2.2.2.2.2.2.2.2.2.2.2.2.2.2.2.2.2.2.2.2.2.2.2.2.2.2.2.2.2.2.2.2.2.2.2.2.2.2.2.2.2.2.1 v.2.2.2.2.2.2.2.2.2.2.2.2.2.2.2.2.2.2.2.2.2.2.2.2.2.2.2.2.2.2.2.2.2.2.2.2.2.2.2.2.2.2.2.2.2
theorem ex : ∃ c : T, P c → ∀ v, P v := ex_all ⟨((Classical.choice neW), {}, (0 : Nat), (fun _ => none), default, [], (fun _ => none), (fun _ => none), (fun _ => none), {}, (fun _ _ => False), (0 : Nat), (0 : Nat), (0 : Nat), (0 : Nat), .none, default, default, default, 0, 0, 0, 0, 0, 0, 0, 0, 0, 0, 0, 0, 0, 0, (0 : Nat), (0 : Nat), default, #[], (0 : Nat), [], [], [], [], 0, 0, (0 : Nat), (fun _ _ => False))⟩
@[irreducible] noncomputable def cT : T := Classical.choose ex
theorem cS : P cT → ∀ v, P v := by
  unfold cT
  exact Classical.choose_spec ex
noncomputable abbrev n0 : Nat := cT.2.2.2.2.2.2.2.2.2.2.2.2.2.2.2.2.2.2.2.1
noncomputable abbrev n1 : Nat := cT.2.2.2.2.2.2.2.2.2.2.2.2.2.2.2.2.2.2.2.2.1
noncomputable abbrev n2 : Nat := cT.2.2.2.2.2.2.2.2.2.2.2.2.2.2.2.2.2.2.2.2.2.1
noncomputable abbrev n3 : Nat := cT.2.2.2.2.2.2.2.2.2.2.2.2.2.2.2.2.2.2.2.2.2.2.1
noncomputable abbrev w0 : Int := cT.2.2.2.2.2.2.2.2.2.2.2.2.2.2.2.2.2.2.2.2.2.2.2.1
noncomputable abbrev w1 : Int := cT.2.2.2.2.2.2.2.2.2.2.2.2.2.2.2.2.2.2.2.2.2.2.2.2.1
noncomputable abbrev w2 : Int := cT.2.2.2.2.2.2.2.2.2.2.2.2.2.2.2.2.2.2.2.2.2.2.2.2.2.1
noncomputable abbrev w3 : Int := cT.2.2.2.2.2.2.2.2.2.2.2.2.2.2.2.2.2.2.2.2.2.2.2.2.2.2.1
noncomputable abbrev Bs : Int := cT.2.2.2.2.2.2.2.2.2.2.2.2.2.2.2.2.2.2.2.2.2.2.2.2.2.2.2.2.2.2.2.2.1
set_option maxRecDepth 100000 in
set_option maxHeartbeats 0 in
theorem main : P0 cT.1 cT.2.1 cT.2.2.1 cT.2.2.2.1 cT.2.2.2.2.1 cT.2.2.2.2.2.1 cT.2.2.2.2.2.2.1 cT.2.2.2.2.2.2.2.1 cT.2.2.2.2.2.2.2.2.1 cT.2.2.2.2.2.2.2.2.2.1 cT.2.2.2.2.2.2.2.2.2.2.1 cT.2.2.2.2.2.2.2.2.2.2.2.1 cT.2.2.2.2.2.2.2.2.2.2.2.2.1 cT.2.2.2.2.2.2.2.2.2.2.2.2.2.1 cT.2.2.2.2.2.2.2.2.2.2.2.2.2.2.1 cT.2.2.2.2.2.2.2.2.2.2.2.2.2.2.2.1 cT.2.2.2.2.2.2.2.2.2.2.2.2.2.2.2.2.1 cT.2.2.2.2.2.2.2.2.2.2.2.2.2.2.2.2.2.1 cT.2.2.2.2.2.2.2.2.2.2.2.2.2.2.2.2.2.2.1 n0 n1 n2 n3 w0 w1 w2 w3 cT.2.2.2.2.2.2.2.2.2.2.2.2.2.2.2.2.2.2.2.2.2.2.2.2.2.2.2.1 cT.2.2.2.2.2.2.2.2.2.2.2.2.2.2.2.2.2.2.2.2.2.2.2.2.2.2.2.2.1 cT.2.2.2.2.2.2.2.2.2.2.2.2.2.2.2.2.2.2.2.2.2.2.2.2.2.2.2.2.2.1 cT.2.2.2.2.2.2.2.2.2.2.2.2.2.2.2.2.2.2.2.2.2.2.2.2.2.2.2.2.2.2.1 cT.2.2.2.2.2.2.2.2.2.2.2.2.2.2.2.2.2.2.2.2.2.2.2.2.2.2.2.2.2.2.2.1 Bs cT.2.2.2.2.2.2.2.2.2.2.2.2.2.2.2.2.2.2.2.2.2.2.2.2.2.2.2.2.2.2.2.2.2.1 cT.2.2.2.2.2.2.2.2.2.2.2.2.2.2.2.2.2.2.2.2.2.2.2.2.2.2.2.2.2.2.2.2.2.2.1 cT.2.2.2.2.2.2.2.2.2.2.2.2.2.2.2.2.2.2.2.2.2.2.2.2.2.2.2.2.2.2.2.2.2.2.2.1 cT.2.2.2.2.2.2.2.2.2.2.2.2.2.2.2.2.2.2.2.2.2.2.2.2.2.2.2.2.2.2.2.2.2.2.2.2.1 cT.2.2.2.2.2.2.2.2.2.2.2.2.2.2.2.2.2.2.2.2.2.2.2.2.2.2.2.2.2.2.2.2.2.2.2.2.2.1 cT.2.2.2.2.2.2.2.2.2.2.2.2.2.2.2.2.2.2.2.2.2.2.2.2.2.2.2.2.2.2.2.2.2.2.2.2.2.2.1 cT.2.2.2.2.2.2.2.2.2.2.2.2.2.2.2.2.2.2.2.2.2.2.2.2.2.2.2.2.2.2.2.2.2.2.2.2.2.2.2.1 cT.2.2.2.2.2.2.2.2.2.2.2.2.2.2.2.2.2.2.2.2.2.2.2.2.2.2.2.2.2.2.2.2.2.2.2.2.2.2.2.2.1 cT.2.2.2.2.2.2.2.2.2.2.2.2.2.2.2.2.2.2.2.2.2.2.2.2.2.2.2.2.2.2.2.2.2.2.2.2.2.2.2.2.2.1 cT.2.2.2.2.2.2.2.2.2.2.2.2.2.2.2.2.2.2.2.2.2.2.2.2.2.2.2.2.2.2.2.2.2.2.2.2.2.2.2.2.2.2.1 cT.2.2.2.2.2.2.2.2.2.2.2.2.2.2.2.2.2.2.2.2.2.2.2.2.2.2.2.2.2.2.2.2.2.2.2.2.2.2.2.2.2.2.2.1 cT.2.2.2.2.2.2.2.2.2.2.2.2.2.2.2.2.2.2.2.2.2.2.2.2.2.2.2.2.2.2.2.2.2.2.2.2.2.2.2.2.2.2.2.2.1 cT.2.2.2.2.2.2.2.2.2.2.2.2.2.2.2.2.2.2.2.2.2.2.2.2.2.2.2.2.2.2.2.2.2.2.2.2.2.2.2.2.2.2.2.2.2 := by
  unfold P0
  intro sc bd hsc hbd K' X' T' C1 C2 l0 hE F N e4 e7 e8 offcA offD8 offD9 hn0 hn1 hn2 hn3 hw0 hw1 hw2 hw3 hpl hst0 hst1 edA evA hSz hWd0 hWd1 hWd2 hBs hI5 hI7 hI8 hI9 htp htq fin
  have hsc0 := hsc
  have hbd0 := hbd
  conv at hsc => lhs; whnf
  conv at hbd => lhs; whnf
  subst hsc hbd
  have hBb := bs_bits (Int.le_of_lt hWd0) hWd1 hBs
  k_steps
  refine Hold.out ?_
  k_dflt (refine' c_turned ?k1 ?k2 ?k3 ?k5 ?kK ?kd ?ku ?kN ?hm hI9 (rowOut_len _ _ _) (Nat.le_trans hBb (by decide)) (sha_bits hw0 hw1 hw2 hw3) ?_; (case k1 => k_asm); (case k2 => k_asm); (case k3 => k_asm); (case k5 => k_asm); (case kK => exact rfl); (case kd => ktr_room); (case ku => ktr_units); (case kN => k_asm); (case hm => k_mem))
  intro tt1 h1 tk1 F1 N1
  rw [turned_shares hn0 hn1 hn2 hn3]
  have hSqs := sq_ok (n0 := n0) (n1 := n1) (n2 := n2) (n3 := n3) hSz hWd2 hBs
  have lSQ : (sqs n0 n1 n2 n3 w0 w1 w2 w3).length = 5 := by rw [List.length_map, rangeKs_length]
  obtain ⟨SQ, hSQ⟩ : ∃ l, sqs n0 n1 n2 n3 w0 w1 w2 w3 = l := ⟨_, rfl⟩
  have hI8' := hI8
  have htp' := htp
  have htq' := htq
  rw [show ((rangeKs 0 5).map (sqL ((rangeKs 0 16).map (sumAt [(n0 : Int), n1, n2, n3] [w0, w1, w2, w3])) ((rangeKs 0 16).map (fun k => shared k 15)))) = SQ from hSQ] at hI8' htp' htq'
  rw [hSQ] at hSqs lSQ ⊢
  obtain ⟨g0, g1, g2, g3, g4⟩ := figs_ok lSQ hWd0 hBs hSqs htp' htq'
  k_steps
  refine Hold.out ?_
  k_dflt (refine' c_i2d_hit ?k1 ?k2 ?k3 ?k5 ?kK ?kd ?ku ?kN ?h30 ?hc edA evA ?hC (X := (packSq SQ Bs).toNat) (Int.toNat_of_nonneg g0).symm hWd0 (by omega) g1 ?hcA ?_; (case k1 => k_asm); (case k2 => k_asm); (case k3 => k_asm); (case k5 => k_asm); (case kK => exact rfl); (case kd => ktr_room); (case ku => ktr_units); (case kN => k_asm); (case h30 => k_mem); (case hc => k_mem); (case hC => assumption); (case hcA => k_ne))
  intro D10 us10 h10 tk10 F10 N10 lt10 I10
  have off10 := off_of_lt lt10
  clear lt10
  rw [g2] at I10
  have hmark5 := MarkS.mk 5
  k_steps
  refine Hold.out ?_
  clear hI8' htp' htq'
  k_dflt (refine' law_t9 ?hsc ?hbd K' X' T' C1 C2 l0 ?hE ?F ?N ?e4 ?e7 ?e8 ?offcA ?offD8 ?offD9 hn0 hn1 hn2 hn3 hw0 hw1 hw2 hw3 hpl hst0 hst1 edA evA hSz hWd0 hWd1 hWd2 hBs hI5 hI7 hI8 hI9 htp htq ?fin; (case hE => exact hE); (case hsc => exact hsc0); (case hbd => exact drop_more 1 hbd0); (case F => k_asm); (case N => (first | k_asm | (refine news_sub (by k_asm) ?_; (repeat' (first | exact List.forall_mem_nil _ | refine List.forall_mem_cons.mpr ⟨?_, ?_⟩)); all_goals (repeat first | exact List.Mem.head _ | refine List.Mem.tail _ ?_)))); (case e4 => assumption); (case e7 => assumption); (case e8 => assumption); (case offcA => ((repeat' (first | exact trivial | refine And.intro ?_ ?_)); all_goals (first | k_ne | fail "k_ne"))); (case offD8 => ((repeat' (first | exact trivial | refine And.intro ?_ ?_)); all_goals (first | k_ne | fail "k_ne"))); (case offD9 => ((repeat' (first | exact trivial | refine And.intro ?_ ?_)); all_goals (first | k_ne | fail "k_ne"))))
  case fin => exact fin
end X_law_t8
theorem law_t8 {w : World} {h₀ : Heap} {L : Addr} {m : Str → Option Value} {p : Program} {loose : List Str} {mean : ExcName → Option Value} {mg : Str → Option Value} {mb : Str → Option Value} {s : Shared} {E : Value → Shared → Prop} {fa : Addr} {cA : Addr} {D8 : Addr} {D9 : Addr} {cd : Value} {c4 : Obj} {c7 : Obj} {c8 : Obj} {n0 : Nat} {n1 : Nat} {n2 : Nat} {n3 : Nat} {w0 : Int} {w1 : Int} {w2 : Int} {w3 : Int} {pl : Int} {st0 : Nat} {st1 : Nat} {Sz : Int} {Wd : Int} {Bs : Int} {tB : Tok} {tW : Tok} {ocA : Obj} {cvA : Array Value} {tcA : Tok} {ss : List Value} {os : List Value} {sq : List Value} {sh : List Value} {nsh : Nat} {tp : Int} {tT : Tok} {Qf : Flow → Shared → Prop} {sc : Scope} {bd : List Stmt} (hsc : fnScope lawS = sc) (hbd : (fnBody lawS).drop 15 = bd) (K' : Below callerA h₀ [] h₀) (X' : (kk w.params).In h₀) (T' : Top p loose mean mg mb h₀) (C1 : CodeHd h₀ 41 37) (C2 : CodeHd h₀ 34 30) (l0 : @LT.lt Nat _ 37 L ∧ @LT.lt Nat _ 30 L) (hE : PassesOwn (model PySem.Challenge.rw_tc0016_01.row.prog w) (callerA.deeper (envOfC "law" sc L fa cd)) (envOfC "law" sc L fa cd) E) (F : Fr h₀ L s.heap (fun y => if y = "top" then some (.int tp tT) else if y = "width" then some (.int Wd tW) else m y)) (N : News h₀ L s.heap [(D9, listOf sh.toArray nsh), (D8, LCg.lst sq), (30, hitA cA), (cA, ocA), (37, tabObj #[]), (L + 1 + 1 + 1 + 1, c4), (L + 1 + 1 + 1 + 1 + 1 + 1 + 1, c7), (L + 1 + 1 + 1 + 1 + 1 + 1 + 1 + 1, c8)]) (e4 : c4.data = .cell (some (.int Bs tB))) (e7 : c7.data = .cell (some (.ref D8))) (e8 : c8.data = .cell (some (.ref D9))) (offcA : LCg.Off1 cA [(30, hitA cA), (37, tabObj #[]), (L + 1 + 1 + 1 + 1, c4), (L + 1 + 1 + 1 + 1 + 1 + 1 + 1, c7), (L + 1 + 1 + 1 + 1 + 1 + 1 + 1 + 1, c8)]) (offD8 : LCg.Off1 D8 [(cA, ocA), (30, hitA cA), (37, tabObj #[]), (L + 1 + 1 + 1 + 1, c4), (L + 1 + 1 + 1 + 1 + 1 + 1 + 1, c7), (L + 1 + 1 + 1 + 1 + 1 + 1 + 1 + 1, c8)]) (offD9 : LCg.Off1 D9 [(cA, ocA), (D8, LCg.lst sq), (30, hitA cA), (37, tabObj #[]), (L + 1 + 1 + 1 + 1, c4), (L + 1 + 1 + 1 + 1 + 1 + 1 + 1, c7), (L + 1 + 1 + 1 + 1 + 1 + 1 + 1 + 1, c8)]) (hn0 : n0 < 16) (hn1 : n1 < 16) (hn2 : n2 < 16) (hn3 : n3 < 16) (hw0 : -1000000000 ≤ w0 ∧ w0 ≤ 1000000000) (hw1 : -1000000000 ≤ w1 ∧ w1 ≤ 1000000000) (hw2 : -1000000000 ≤ w2 ∧ w2 ≤ 1000000000) (hw3 : -1000000000 ≤ w3 ∧ w3 ≤ 1000000000) (hpl : 0 ≤ pl ∧ pl < 23) (hst0 : st0 = (97 + (pl + 4 + 0).fmod 26).toNat) (hst1 : st1 = (97 + (pl + 4 + 1).fmod 26).toNat) (edA : ocA.data = .fields cvA) (evA : cvA[1]? = some (.str quA tcA)) (hSz : ((w0.natAbs + w1.natAbs + w2.natAbs + w3.natAbs : Nat) : Int) = Sz) (hWd0 : 0 < Wd) (hWd1 : Wd ≤ 72) (hWd2 : 2 * (6 * Sz * Sz) < 2 ^ Wd.toNat) (hBs : (2 : Int) ^ Wd.toNat = Bs) (hI5 : IntsAre ss ((rangeKs 0 16).map (sumAt [(n0 : Int), n1, n2, n3] [w0, w1, w2, w3]))) (hI7 : IntsAre os ((rangeKs 0 16).map (fun k => shared k 15))) (hI8 : IntsAre sq ((rangeKs 0 5).map (sqL ((rangeKs 0 16).map (sumAt [(n0 : Int), n1, n2, n3] [w0, w1, w2, w3])) ((rangeKs 0 16).map (fun k => shared k 15))))) (hI9 : IntsAre sh (shaL n0 n1 n2 n3 w0 w1 w2 w3)) (htp : tp ∈ [0] ++ ((rangeKs 0 5).filter (fun p => decide ((((rangeKs 0 5).map (sqL ((rangeKs 0 16).map (sumAt [(n0 : Int), n1, n2, n3] [w0, w1, w2, w3])) ((rangeKs 0 16).map (fun k => shared k 15))))).getD p.toNat 0 ≠ 0))).map (fun k => k + 1)) (htq : ∀ a, a ∈ [0] ++ ((rangeKs 0 5).filter (fun p => decide ((((rangeKs 0 5).map (sqL ((rangeKs 0 16).map (sumAt [(n0 : Int), n1, n2, n3] [w0, w1, w2, w3])) ((rangeKs 0 16).map (fun k => shared k 15))))).getD p.toNat 0 ≠ 0))).map (fun k => k + 1) → a ≤ tp) (fin : ∀ m' h' tk' cA cB rest, Fr h₀ L h' m' → News h₀ L h' ((30, hitA cA) :: (37, hitB cB) :: rest) → Qf (.ret (.bool true)) { s with heap := h', toks := tk' }) :
   wpAny (model PySem.Challenge.rw_tc0016_01.row.prog w) (callerA.deeper (envOfC "law" sc L fa cd)) (execs bd (envOfC "law" sc L fa cd)) Qf E s :=
  X_law_t8.cS X_law_t8.main (w, h₀, L, m, p, loose, mean, mg, mb, s, E, fa, cA, D8, D9, cd, c4, c7, c8, n0, n1, n2, n3, w0, w1, w2, w3, pl, st0, st1, Sz, Wd, Bs, tB, tW, ocA, cvA, tcA, ss, os, sq, sh, nsh, tp, tT, Qf) sc bd hsc hbd K' X' T' C1 C2 l0 hE F N e4 e7 e8 offcA offD8 offD9 hn0 hn1 hn2 hn3 hw0 hw1 hw2 hw3 hpl hst0 hst1 edA evA hSz hWd0 hWd1 hWd2 hBs hI5 hI7 hI8 hI9 htp htq fin

-- lawt7
namespace X_law_t7
noncomputable def P0 (w : World) (h₀ : Heap) (L : Addr) (m : Str → Option Value) (p : Program) (loose : List Str) (mean : ExcName → Option Value) (mg : Str → Option Value) (mb : Str → Option Value) (s : Shared) (E : Value → Shared → Prop) (fa : Addr) (cA : Addr) (D8 : Addr) (D9 : Addr) (cd : Value) (c4 : Obj) (c7 : Obj) (c8 : Obj) (n0 : Nat) (n1 : Nat) (n2 : Nat) (n3 : Nat) (w0 : Int) (w1 : Int) (w2 : Int) (w3 : Int) (pl : Int) (st0 : Nat) (st1 : Nat) (Sz : Int) (Wd : Int) (Bs : Int) (tB : Tok) (tW : Tok) (ocA : Obj) (cvA : Array Value) (tcA : Tok) (ss : List Value) (os : List Value) (sq : List Value) (sh : List Value) (nsh : Nat) (Qf : Flow → Shared → Prop) : Prop := ∀ (sc : Scope) (bd : List Stmt) (hsc : fnScope lawS = sc) (hbd : (fnBody lawS).drop 14 = bd) (K' : Below callerA h₀ [] h₀) (X' : (kk w.params).In h₀) (T' : Top p loose mean mg mb h₀) (C1 : CodeHd h₀ 41 37) (C2 : CodeHd h₀ 34 30) (l0 : @LT.lt Nat _ 37 L ∧ @LT.lt Nat _ 30 L) (hE : PassesOwn (model PySem.Challenge.rw_tc0016_01.row.prog w) (callerA.deeper (envOfC "law" sc L fa cd)) (envOfC "law" sc L fa cd) E) (F : Fr h₀ L s.heap (fun y => if y = "width" then some (.int Wd tW) else m y)) (N : News h₀ L s.heap [(D9, listOf sh.toArray nsh), (D8, LCg.lst sq), (30, hitA cA), (cA, ocA), (37, tabObj #[]), (L + 1 + 1 + 1 + 1, c4), (L + 1 + 1 + 1 + 1 + 1 + 1 + 1, c7), (L + 1 + 1 + 1 + 1 + 1 + 1 + 1 + 1, c8)]) (e4 : c4.data = .cell (some (.int Bs tB))) (e7 : c7.data = .cell (some (.ref D8))) (e8 : c8.data = .cell (some (.ref D9))) (offcA : LCg.Off1 cA [(30, hitA cA), (37, tabObj #[]), (L + 1 + 1 + 1 + 1, c4), (L + 1 + 1 + 1 + 1 + 1 + 1 + 1, c7), (L + 1 + 1 + 1 + 1 + 1 + 1 + 1 + 1, c8)]) (offD8 : LCg.Off1 D8 [(cA, ocA), (30, hitA cA), (37, tabObj #[]), (L + 1 + 1 + 1 + 1, c4), (L + 1 + 1 + 1 + 1 + 1 + 1 + 1, c7), (L + 1 + 1 + 1 + 1 + 1 + 1 + 1 + 1, c8)]) (offD9 : LCg.Off1 D9 [(cA, ocA), (D8, LCg.lst sq), (30, hitA cA), (37, tabObj #[]), (L + 1 + 1 + 1 + 1, c4), (L + 1 + 1 + 1 + 1 + 1 + 1 + 1, c7), (L + 1 + 1 + 1 + 1 + 1 + 1 + 1 + 1, c8)]) (hn0 : n0 < 16) (hn1 : n1 < 16) (hn2 : n2 < 16) (hn3 : n3 < 16) (hw0 : -1000000000 ≤ w0 ∧ w0 ≤ 1000000000) (hw1 : -1000000000 ≤ w1 ∧ w1 ≤ 1000000000) (hw2 : -1000000000 ≤ w2 ∧ w2 ≤ 1000000000) (hw3 : -1000000000 ≤ w3 ∧ w3 ≤ 1000000000) (hpl : 0 ≤ pl ∧ pl < 23) (hst0 : st0 = (97 + (pl + 4 + 0).fmod 26).toNat) (hst1 : st1 = (97 + (pl + 4 + 1).fmod 26).toNat) (edA : ocA.data = .fields cvA) (evA : cvA[1]? = some (.str quA tcA)) (hSz : ((w0.natAbs + w1.natAbs + w2.natAbs + w3.natAbs : Nat) : Int) = Sz) (hWd0 : 0 < Wd) (hWd1 : Wd ≤ 72) (hWd2 : 2 * (6 * Sz * Sz) < 2 ^ Wd.toNat) (hBs : (2 : Int) ^ Wd.toNat = Bs) (hI5 : IntsAre ss ((rangeKs 0 16).map (sumAt [(n0 : Int), n1, n2, n3] [w0, w1, w2, w3]))) (hI7 : IntsAre os ((rangeKs 0 16).map (fun k => shared k 15))) (hI8 : IntsAre sq ((rangeKs 0 5).map (sqL ((rangeKs 0 16).map (sumAt [(n0 : Int), n1, n2, n3] [w0, w1, w2, w3])) ((rangeKs 0 16).map (fun k => shared k 15))))) (hI9 : IntsAre sh (shaL n0 n1 n2 n3 w0 w1 w2 w3)) (fin : ∀ m' h' tk' cA cB rest, Fr h₀ L h' m' → News h₀ L h' ((30, hitA cA) :: (37, hitB cB) :: rest) → Qf (.ret (.bool true)) { s with heap := h', toks := tk' }),
   wpAny (model PySem.Challenge.rw_tc0016_01.row.prog w) (callerA.deeper (envOfC "law" sc L fa cd)) (execs bd (envOfC "law" sc L fa cd)) Qf E s
abbrev T : Type := World × Heap × Addr × (Str → Option Value) × Program × (List Str) × (ExcName → Option Value) × (Str → Option Value) × (Str → Option Value) × Shared × (Value → Shared → Prop) × Addr × Addr × Addr × Addr × Value × Obj × Obj × Obj × Nat × Nat × Nat × Nat × Int × Int × Int × Int × Int × Nat × Nat × Int × Int × Int × Tok × Tok × Obj × (Array Value) × Tok × (List Value) × (List Value) × (List Value) × (List Value) × Nat × (Flow → Shared → Prop)
noncomputable def P (v : T) : Prop := P0 v.1 v.2.1 v.2.2.1 v.2.2.2.1 v.2.2.2.2.1 v.2.2.2.2.2.1 v.2.2.2.2.2.2.1 v.2.2.2.2.2.2.2.1 v.2.2.2.2.2.2.2.2.1 v.2.2.2.2.2.2.2.2.2.1 v.2.2.2.2.2.2.2.2.2.2.1 v.2.2.2.2.2.2.2.2.2.2.2.1 v.2.2.2.2.2.2.2.2.2.2.2.2.1 v.2.2.2.2.2.2.2.2.2.2.2.2.2.1 v.2.2.2.2.2.2.2.2.2.2.2.2.2.2.1 v.2.2.2.2.2.2.2.2.2.2.2.2.2.2.2.1 v.2.2.2.2.2.2.2.2.2.2.2.2.2.2.2.2.1 v.2.2.2.2.2.2.2.2.2.2.2.2.2.2.2.2.2.1 v.2.2.2.2.2.2.2.2.2.2.2.2.2.2.2.2.2.2.1 v.2.2.2.2.2.2.2.2.2.2.2.2.2.2.2.2.2.2.2.1 v.2.2.2.2.2.2.2.2.2.2.2.2.2.2.2.2.2.2.2.2.1 v.2.2.2.2.2.2.2.2.2.2.2.2.2.2.2.2.2.2.2.2.2.1 v.2.2.2.2.2.2.2.2.2.2.2.2.2.2.2.2.2.2.2.2.2.2.1 v.2.2.2.2.2.2.2.2.2.2.2.2.2.2.2.2.2.2.2.2.2.2.2.1 v.2.2.2.2.2.2.2.2.2.2.2.2.2.2.2.2.2.2.2.2.2.2.2.2.1 v.2.2.2.2.2.2.2.2.2.2.2.2.2.2.2.2.2.2.2.2.2.2.2.2.2.1 v.2.2.2.2.2.2.2.2.2.2.2.2.2.2.2.2.2.2.2.2.2.2.2.2.2.2.1 v.2.2.2.2.2.2.2.2.2.2.2.2.2.2.2.2.2.2.2.2.2.2.2.2.2.2.2.1 v.2.2.2.2.2.2.2.2.2.2.2.2.2.2.2.2.2.2.2.2.2.2.2.2.2.2.2.2.1 v.2.2.2.2.2.2.2.2.2.2.2.2.2.2.2.2.2.2.2.2.2.2.2.2.2.2.2.2.2.1 v.2.2.2.2.2.2.2.2.2.2.2.2.2.2.2.2.2.2.2.2.2.2.2.2.2.2.2.2.2.2.1 v.2.2.2.2.2.2.2.2.2.2.2.2.2.2.2.2.2.2.2.2.2.2.2.2.2.2.2.2.2.2.2.1 v.2.2.2.2.2.2.2.2.2.2.2.2.2.2.2.2.2.2.2.2.2.2.2.2.2.2.2.2.2.2.2.2.1 v.2.2.2.2.2.2.2.2.2.2.2.2.2.2.2.2.2.2.2.2.2.2.2.2.2.2.2.2.2.2.2.2.2.1 v.2.2.2.2.2.2.2.2.2.2.2.2.2.2.2.2.2.2.2.2.2.2.2.2.2.2.2.2.2.2.2.2.2.2.1 v.2.2.2.2.2.2.2.2.2.2.2.2.2.2.2.2.2.2.2.2.2.2.2.2.2.2.2.2.2.2.2.2.2.2.2.1 v.2.2.2.2.2.2.2.2.2.2.2.2.2.2.2.2.2.2.2.2.2.2.2.2.2.2.2.2.2.2.2.2.2.2.2.2.1 v.2.2.2.2.2.2.2.2.2.2.2.2.2.2.2.2.2.2.2.2.2.2.2.2.2.2.2.2.2.2.2.2.2.2.2.2.2.1 v.2.2.2.2.2.2.2.2.2.2.2.2.2.2.2.2.2.2.2.2.2.2.2.2.2.2.2.2.2.2.2.2.2.2.2.2.2.2.1 v.2.2.2.2.2.2.2.2.2.2.2.2.2.2.2.2.2.2.2.2.2.2.2.2.2.2.2.2.2.2.2.2.2.2.2.2.2.2.2.1 v.2.2.2.2.2.2.2.2.2.2.2.2.2.2.2.2.2.2.2.2.2.2.2.2.2.2.2.2.2.2.2.2.2.2.2.2.2.2.2.2.1 v.2.2.2.2.2.2.2.2.2.2.2.2.2.2.2.2.2.2.2.2.2.2.2.2.2.2.2.2.2.2.2.2.2.2.2.2.2.2.2.2.2.1 v.2.2.2.2.2.2.2.2.2.2.2.2.2.2.2.2.2.2.2.2.2.2.2.2.2.2.2.2.2.2.2.2.2.2.2.2.2.2.2.2.2.2.1 v.2.2.2.2.2.2.2.2.2.2.2.2.2.2.2.2.2.2.2.2.2.2.2.2.2.2.2.2.2.2.2.2.2.2.2.2.2.2.2.2.2.2.2
theorem ex : ∃ c : T, P c → ∀ v, P v := ex_all ⟨((Classical.choice neW), {}, (0 : Nat), (fun _ => none), default, [], (fun _ => none), (fun _ => none), (fun _ => none), {}, (fun _ _ => False), (0 : Nat), (0 : Nat), (0 : Nat), (0 : Nat), .none, default, default, default, 0, 0, 0, 0, 0, 0, 0, 0, 0, 0, 0, 0, 0, 0, (0 : Nat), (0 : Nat), default, #[], (0 : Nat), [], [], [], [], 0, (fun _ _ => False))⟩
@[irreducible] noncomputable def cT : T := Classical.choose ex
theorem cS : P cT → ∀ v, P v := by
  unfold cT
  exact Classical.choose_spec ex
noncomputable abbrev p : Program := cT.2.2.2.2.1
noncomputable abbrev s : Shared := cT.2.2.2.2.2.2.2.2.2.1
noncomputable abbrev D9 : Addr := cT.2.2.2.2.2.2.2.2.2.2.2.2.2.2.1
noncomputable abbrev n0 : Nat := cT.2.2.2.2.2.2.2.2.2.2.2.2.2.2.2.2.2.2.2.1
noncomputable abbrev n1 : Nat := cT.2.2.2.2.2.2.2.2.2.2.2.2.2.2.2.2.2.2.2.2.1
noncomputable abbrev n2 : Nat := cT.2.2.2.2.2.2.2.2.2.2.2.2.2.2.2.2.2.2.2.2.2.1
noncomputable abbrev n3 : Nat := cT.2.2.2.2.2.2.2.2.2.2.2.2.2.2.2.2.2.2.2.2.2.2.1
noncomputable abbrev w0 : Int := cT.2.2.2.2.2.2.2.2.2.2.2.2.2.2.2.2.2.2.2.2.2.2.2.1
noncomputable abbrev w1 : Int := cT.2.2.2.2.2.2.2.2.2.2.2.2.2.2.2.2.2.2.2.2.2.2.2.2.1
noncomputable abbrev w2 : Int := cT.2.2.2.2.2.2.2.2.2.2.2.2.2.2.2.2.2.2.2.2.2.2.2.2.2.1
noncomputable abbrev w3 : Int := cT.2.2.2.2.2.2.2.2.2.2.2.2.2.2.2.2.2.2.2.2.2.2.2.2.2.2.1
set_option maxRecDepth 100000 in
set_option maxHeartbeats 0 in
theorem main : P0 cT.1 cT.2.1 cT.2.2.1 cT.2.2.2.1 p cT.2.2.2.2.2.1 cT.2.2.2.2.2.2.1 cT.2.2.2.2.2.2.2.1 cT.2.2.2.2.2.2.2.2.1 s cT.2.2.2.2.2.2.2.2.2.2.1 cT.2.2.2.2.2.2.2.2.2.2.2.1 cT.2.2.2.2.2.2.2.2.2.2.2.2.1 cT.2.2.2.2.2.2.2.2.2.2.2.2.2.1 D9 cT.2.2.2.2.2.2.2.2.2.2.2.2.2.2.2.1 cT.2.2.2.2.2.2.2.2.2.2.2.2.2.2.2.2.1 cT.2.2.2.2.2.2.2.2.2.2.2.2.2.2.2.2.2.1 cT.2.2.2.2.2.2.2.2.2.2.2.2.2.2.2.2.2.2.1 n0 n1 n2 n3 w0 w1 w2 w3 cT.2.2.2.2.2.2.2.2.2.2.2.2.2.2.2.2.2.2.2.2.2.2.2.2.2.2.2.1 cT.2.2.2.2.2.2.2.2.2.2.2.2.2.2.2.2.2.2.2.2.2.2.2.2.2.2.2.2.1 cT.2.2.2.2.2.2.2.2.2.2.2.2.2.2.2.2.2.2.2.2.2.2.2.2.2.2.2.2.2.1 cT.2.2.2.2.2.2.2.2.2.2.2.2.2.2.2.2.2.2.2.2.2.2.2.2.2.2.2.2.2.2.1 cT.2.2.2.2.2.2.2.2.2.2.2.2.2.2.2.2.2.2.2.2.2.2.2.2.2.2.2.2.2.2.2.1 cT.2.2.2.2.2.2.2.2.2.2.2.2.2.2.2.2.2.2.2.2.2.2.2.2.2.2.2.2.2.2.2.2.1 cT.2.2.2.2.2.2.2.2.2.2.2.2.2.2.2.2.2.2.2.2.2.2.2.2.2.2.2.2.2.2.2.2.2.1 cT.2.2.2.2.2.2.2.2.2.2.2.2.2.2.2.2.2.2.2.2.2.2.2.2.2.2.2.2.2.2.2.2.2.2.1 cT.2.2.2.2.2.2.2.2.2.2.2.2.2.2.2.2.2.2.2.2.2.2.2.2.2.2.2.2.2.2.2.2.2.2.2.1 cT.2.2.2.2.2.2.2.2.2.2.2.2.2.2.2.2.2.2.2.2.2.2.2.2.2.2.2.2.2.2.2.2.2.2.2.2.1 cT.2.2.2.2.2.2.2.2.2.2.2.2.2.2.2.2.2.2.2.2.2.2.2.2.2.2.2.2.2.2.2.2.2.2.2.2.2.1 cT.2.2.2.2.2.2.2.2.2.2.2.2.2.2.2.2.2.2.2.2.2.2.2.2.2.2.2.2.2.2.2.2.2.2.2.2.2.2.1 cT.2.2.2.2.2.2.2.2.2.2.2.2.2.2.2.2.2.2.2.2.2.2.2.2.2.2.2.2.2.2.2.2.2.2.2.2.2.2.2.1 cT.2.2.2.2.2.2.2.2.2.2.2.2.2.2.2.2.2.2.2.2.2.2.2.2.2.2.2.2.2.2.2.2.2.2.2.2.2.2.2.2.1 cT.2.2.2.2.2.2.2.2.2.2.2.2.2.2.2.2.2.2.2.2.2.2.2.2.2.2.2.2.2.2.2.2.2.2.2.2.2.2.2.2.2.1 cT.2.2.2.2.2.2.2.2.2.2.2.2.2.2.2.2.2.2.2.2.2.2.2.2.2.2.2.2.2.2.2.2.2.2.2.2.2.2.2.2.2.2.1 cT.2.2.2.2.2.2.2.2.2.2.2.2.2.2.2.2.2.2.2.2.2.2.2.2.2.2.2.2.2.2.2.2.2.2.2.2.2.2.2.2.2.2.2 := by
  unfold P0
  intro sc bd hsc hbd K' X' T' C1 C2 l0 hE F N e4 e7 e8 offcA offD8 offD9 hn0 hn1 hn2 hn3 hw0 hw1 hw2 hw3 hpl hst0 hst1 edA evA hSz hWd0 hWd1 hWd2 hBs hI5 hI7 hI8 hI9 fin
  have hsc0 := hsc
  have hbd0 := hbd
  conv at hsc => lhs; whnf
  conv at hbd => lhs; whnf
  subst hsc hbd
  obtain ⟨SQ, hSQ⟩ : ∃ l, ((rangeKs 0 5).map (sqL ((rangeKs 0 16).map (sumAt [(n0 : Int), n1, n2, n3] [w0, w1, w2, w3])) ((rangeKs 0 16).map (fun k => shared k 15)))) = l := ⟨_, rfl⟩
  rw [hSQ] at hI8
  have lSQ : SQ.length = 5 := by rw [← hSQ, List.length_map, rangeKs_length]
  have hmark12 := MarkS.mk 12
  k_steps
  refine Hold.out ?_
  k_dflt (refine LCt.ListComp_T (F₀ := by k_asm) (by with_unfolding_all rfl) (by decide) (by rfl) (by decide) (by rfl) ?_)
  have hmark4 := MarkS.mk 4
  k_steps
  refine Hold.out ?_
  refine LCt.CompSrcT.range (n := 5) (by rfl) (by k_asm) (by k_asm) (by assumption) (by decide) (by rfl) (by decide) ?_
  intro gg7
  refine compT_range (fun p y => ∃ t, y = .int (p + 1) t) (fun p => decide (SQ.getD p.toNat 0 ≠ 0)) ?_ ?_
  · intro j t I2 oI2 C2 oC2 D9 m2 ys2 h2 tk2 E2 hj0 hj4 hC hx2 F3 N3 off ne
    replace hj4 : j < 5 := hj4
    dsimp only at F3 N3 ⊢
    have off0 := Hold.out off
    k_steps

    all_goals first
      | exact ⟨rfl, decide_eq_true (by assumption), _, rfl⟩
      | exact ⟨rfl, decide_eq_false (by assumption)⟩
      | exact ⟨rfl, decide_eq_false (fun hc => hc (by assumption))⟩
      | exact LCg.CompEnd.intro (by k_asm) (by k_asm) _ (fun _ hp => hp) off0 trivial ⟨rfl, decide_eq_true (by assumption), _, rfl⟩
      | exact LCg.CompEnd.intro (by k_asm) (by k_asm) _ (fun _ hp => hp) off0 trivial ⟨rfl, decide_eq_false (by assumption)⟩

  intro ys2 hys2
  have hI10 := rel_ints hys2
  clear hys2
  have hZ : IntsAre [Value.int 0 s.toks] [0] := .cons _ _ .nil
  obtain ⟨PL, hPL⟩ : ∃ l, ((rangeKs 0 5).filter (fun p => decide (SQ.getD p.toNat 0 ≠ 0))).map (fun k => k + 1) = l := ⟨_, rfl⟩
  rw [hPL] at hI10
  have lPL : PL.length ≤ 5 := by
    rw [← hPL, List.length_map]
    exact Nat.le_trans (List.length_filter_le _ _) (by rw [rangeKs_length]; exact Nat.le_refl _)
  have hmark5 := MarkS.mk 5
  k_steps
  refine Hold.out ?_
  subst hPL hSQ
  k_dflt (refine' law_t8 ?hsc ?hbd K' X' T' C1 C2 l0 ?hE ?F ?N ?e4 ?e7 ?e8 ?offcA ?offD8 ?offD9 hn0 hn1 hn2 hn3 hw0 hw1 hw2 hw3 hpl hst0 hst1 edA evA hSz hWd0 hWd1 hWd2 hBs hI5 hI7 hI8 hI9 (by assumption) (by assumption) ?fin; (case hE => exact hE); (case hsc => exact hsc0); (case hbd => exact drop_more 1 hbd0); (case F => k_asm); (case N => (first | k_asm | (refine news_sub (by k_asm) ?_; (repeat' (first | exact List.forall_mem_nil _ | refine List.forall_mem_cons.mpr ⟨?_, ?_⟩)); all_goals (repeat first | exact List.Mem.head _ | refine List.Mem.tail _ ?_)))); (case e4 => assumption); (case e7 => assumption); (case e8 => assumption); (case offcA => ((repeat' (first | exact trivial | refine And.intro ?_ ?_)); all_goals (first | k_ne | fail "k_ne"))); (case offD8 => ((repeat' (first | exact trivial | refine And.intro ?_ ?_)); all_goals (first | k_ne | fail "k_ne"))); (case offD9 => ((repeat' (first | exact trivial | refine And.intro ?_ ?_)); all_goals (first | k_ne | fail "k_ne"))))
  case fin => exact fin
end X_law_t7
theorem law_t7 {w : World} {h₀ : Heap} {L : Addr} {m : Str → Option Value} {p : Program} {loose : List Str} {mean : ExcName → Option Value} {mg : Str → Option Value} {mb : Str → Option Value} {s : Shared} {E : Value → Shared → Prop} {fa : Addr} {cA : Addr} {D8 : Addr} {D9 : Addr} {cd : Value} {c4 : Obj} {c7 : Obj} {c8 : Obj} {n0 : Nat} {n1 : Nat} {n2 : Nat} {n3 : Nat} {w0 : Int} {w1 : Int} {w2 : Int} {w3 : Int} {pl : Int} {st0 : Nat} {st1 : Nat} {Sz : Int} {Wd : Int} {Bs : Int} {tB : Tok} {tW : Tok} {ocA : Obj} {cvA : Array Value} {tcA : Tok} {ss : List Value} {os : List Value} {sq : List Value} {sh : List Value} {nsh : Nat} {Qf : Flow → Shared → Prop} {sc : Scope} {bd : List Stmt} (hsc : fnScope lawS = sc) (hbd : (fnBody lawS).drop 14 = bd) (K' : Below callerA h₀ [] h₀) (X' : (kk w.params).In h₀) (T' : Top p loose mean mg mb h₀) (C1 : CodeHd h₀ 41 37) (C2 : CodeHd h₀ 34 30) (l0 : @LT.lt Nat _ 37 L ∧ @LT.lt Nat _ 30 L) (hE : PassesOwn (model PySem.Challenge.rw_tc0016_01.row.prog w) (callerA.deeper (envOfC "law" sc L fa cd)) (envOfC "law" sc L fa cd) E) (F : Fr h₀ L s.heap (fun y => if y = "width" then some (.int Wd tW) else m y)) (N : News h₀ L s.heap [(D9, listOf sh.toArray nsh), (D8, LCg.lst sq), (30, hitA cA), (cA, ocA), (37, tabObj #[]), (L + 1 + 1 + 1 + 1, c4), (L + 1 + 1 + 1 + 1 + 1 + 1 + 1, c7), (L + 1 + 1 + 1 + 1 + 1 + 1 + 1 + 1, c8)]) (e4 : c4.data = .cell (some (.int Bs tB))) (e7 : c7.data = .cell (some (.ref D8))) (e8 : c8.data = .cell (some (.ref D9))) (offcA : LCg.Off1 cA [(30, hitA cA), (37, tabObj #[]), (L + 1 + 1 + 1 + 1, c4), (L + 1 + 1 + 1 + 1 + 1 + 1 + 1, c7), (L + 1 + 1 + 1 + 1 + 1 + 1 + 1 + 1, c8)]) (offD8 : LCg.Off1 D8 [(cA, ocA), (30, hitA cA), (37, tabObj #[]), (L + 1 + 1 + 1 + 1, c4), (L + 1 + 1 + 1 + 1 + 1 + 1 + 1, c7), (L + 1 + 1 + 1 + 1 + 1 + 1 + 1 + 1, c8)]) (offD9 : LCg.Off1 D9 [(cA, ocA), (D8, LCg.lst sq), (30, hitA cA), (37, tabObj #[]), (L + 1 + 1 + 1 + 1, c4), (L + 1 + 1 + 1 + 1 + 1 + 1 + 1, c7), (L + 1 + 1 + 1 + 1 + 1 + 1 + 1 + 1, c8)]) (hn0 : n0 < 16) (hn1 : n1 < 16) (hn2 : n2 < 16) (hn3 : n3 < 16) (hw0 : -1000000000 ≤ w0 ∧ w0 ≤ 1000000000) (hw1 : -1000000000 ≤ w1 ∧ w1 ≤ 1000000000) (hw2 : -1000000000 ≤ w2 ∧ w2 ≤ 1000000000) (hw3 : -1000000000 ≤ w3 ∧ w3 ≤ 1000000000) (hpl : 0 ≤ pl ∧ pl < 23) (hst0 : st0 = (97 + (pl + 4 + 0).fmod 26).toNat) (hst1 : st1 = (97 + (pl + 4 + 1).fmod 26).toNat) (edA : ocA.data = .fields cvA) (evA : cvA[1]? = some (.str quA tcA)) (hSz : ((w0.natAbs + w1.natAbs + w2.natAbs + w3.natAbs : Nat) : Int) = Sz) (hWd0 : 0 < Wd) (hWd1 : Wd ≤ 72) (hWd2 : 2 * (6 * Sz * Sz) < 2 ^ Wd.toNat) (hBs : (2 : Int) ^ Wd.toNat = Bs) (hI5 : IntsAre ss ((rangeKs 0 16).map (sumAt [(n0 : Int), n1, n2, n3] [w0, w1, w2, w3]))) (hI7 : IntsAre os ((rangeKs 0 16).map (fun k => shared k 15))) (hI8 : IntsAre sq ((rangeKs 0 5).map (sqL ((rangeKs 0 16).map (sumAt [(n0 : Int), n1, n2, n3] [w0, w1, w2, w3])) ((rangeKs 0 16).map (fun k => shared k 15))))) (hI9 : IntsAre sh (shaL n0 n1 n2 n3 w0 w1 w2 w3)) (fin : ∀ m' h' tk' cA cB rest, Fr h₀ L h' m' → News h₀ L h' ((30, hitA cA) :: (37, hitB cB) :: rest) → Qf (.ret (.bool true)) { s with heap := h', toks := tk' }) :
   wpAny (model PySem.Challenge.rw_tc0016_01.row.prog w) (callerA.deeper (envOfC "law" sc L fa cd)) (execs bd (envOfC "law" sc L fa cd)) Qf E s :=
  X_law_t7.cS X_law_t7.main (w, h₀, L, m, p, loose, mean, mg, mb, s, E, fa, cA, D8, D9, cd, c4, c7, c8, n0, n1, n2, n3, w0, w1, w2, w3, pl, st0, st1, Sz, Wd, Bs, tB, tW, ocA, cvA, tcA, ss, os, sq, sh, nsh, Qf) sc bd hsc hbd K' X' T' C1 C2 l0 hE F N e4 e7 e8 offcA offD8 offD9 hn0 hn1 hn2 hn3 hw0 hw1 hw2 hw3 hpl hst0 hst1 edA evA hSz hWd0 hWd1 hWd2 hBs hI5 hI7 hI8 hI9 fin

-- lawt6
namespace X_law_t6
noncomputable def P0 (w : World) (h₀ : Heap) (L : Addr) (m : Str → Option Value) (p : Program) (loose : List Str) (mean : ExcName → Option Value) (mg : Str → Option Value) (mb : Str → Option Value) (s : Shared) (E : Value → Shared → Prop) (fa : Addr) (D2 : Addr) (cA : Addr) (D3 : Addr) (D4 : Addr) (D8 : Addr) (cd : Value) (c3 : Obj) (c4 : Obj) (c7 : Obj) (c8 : Obj) (x8 : Option Value) (n0 : Nat) (n1 : Nat) (n2 : Nat) (n3 : Nat) (w0 : Int) (w1 : Int) (w2 : Int) (w3 : Int) (v0 : Tok) (v1 : Tok) (v2 : Tok) (v3 : Tok) (pl : Int) (tw0 : Tok) (tw1 : Tok) (tw2 : Tok) (tw3 : Tok) (st0 : Nat) (st1 : Nat) (q0 : Tok) (q1 : Tok) (Sz : Int) (Wd : Int) (Bs : Int) (tB : Tok) (tW : Tok) (tS : Tok) (ocA : Obj) (cvA : Array Value) (tcA : Tok) (ss : List Value) (os : List Value) (sq : List Value) (Qf : Flow → Shared → Prop) : Prop := ∀ (sc : Scope) (bd : List Stmt) (hsc : fnScope lawS = sc) (hbd : (fnBody lawS).drop 12 = bd) (K' : Below callerA h₀ [] h₀) (X' : (kk w.params).In h₀) (T' : Top p loose mean mg mb h₀) (C1 : CodeHd h₀ 41 37) (C2 : CodeHd h₀ 34 30) (l0 : @LT.lt Nat _ 37 L ∧ @LT.lt Nat _ 30 L) (hE : PassesOwn (model PySem.Challenge.rw_tc0016_01.row.prog w) (callerA.deeper (envOfC "law" sc L fa cd)) (envOfC "law" sc L fa cd) E) (F : Fr h₀ L s.heap (fun y => if y = "width" then some (.int Wd tW) else if y = "size" then some (.int Sz tS) else if y = "strange" then some (.ref D4) else if y = "words" then some (.ref D3) else m y)) (N : News h₀ L s.heap [(D8, LCg.lst sq), (D4, LCg.lst [.str ⟨#[st0]⟩ q0, .str ⟨#[st1]⟩ q1]), (D3, LCg.lst [.str (word n0 pl) tw0, .str (word n1 pl) tw1, .str (word n2 pl) tw2, .str (word n3 pl) tw3]), (30, hitA cA), (cA, ocA), (37, tabObj #[]), (L + 1 + 1 + 1, c3), (L + 1 + 1 + 1 + 1, c4), (L + 1 + 1 + 1 + 1 + 1 + 1 + 1, c7), (L + 1 + 1 + 1 + 1 + 1 + 1 + 1 + 1, c8), (D2, LCg.lst [.int w0 v0, .int w1 v1, .int w2 v2, .int w3 v3])]) (e3 : c3.data = .cell (some (.ref D2))) (e4 : c4.data = .cell (some (.int Bs tB))) (e7 : c7.data = .cell (some (.ref D8))) (e8 : c8.data = .cell x8) (offD2 : LCg.Off1 D2 [(30, hitA cA), (37, tabObj #[]), (L + 1 + 1 + 1, c3), (L + 1 + 1 + 1 + 1, c4), (L + 1 + 1 + 1 + 1 + 1 + 1 + 1, c7), (L + 1 + 1 + 1 + 1 + 1 + 1 + 1 + 1, c8)]) (offcA : LCg.Off1 cA [(D2, LCg.lst [.int w0 v0, .int w1 v1, .int w2 v2, .int w3 v3]), (30, hitA cA), (37, tabObj #[]), (L + 1 + 1 + 1, c3), (L + 1 + 1 + 1 + 1, c4), (L + 1 + 1 + 1 + 1 + 1 + 1 + 1, c7), (L + 1 + 1 + 1 + 1 + 1 + 1 + 1 + 1, c8)]) (offD3 : LCg.Off1 D3 [(D2, LCg.lst [.int w0 v0, .int w1 v1, .int w2 v2, .int w3 v3]), (cA, ocA), (30, hitA cA), (37, tabObj #[]), (L + 1 + 1 + 1, c3), (L + 1 + 1 + 1 + 1, c4), (L + 1 + 1 + 1 + 1 + 1 + 1 + 1, c7), (L + 1 + 1 + 1 + 1 + 1 + 1 + 1 + 1, c8)]) (offD4 : LCg.Off1 D4 [(D2, LCg.lst [.int w0 v0, .int w1 v1, .int w2 v2, .int w3 v3]), (cA, ocA), (D3, LCg.lst [.str (word n0 pl) tw0, .str (word n1 pl) tw1, .str (word n2 pl) tw2, .str (word n3 pl) tw3]), (30, hitA cA), (37, tabObj #[]), (L + 1 + 1 + 1, c3), (L + 1 + 1 + 1 + 1, c4), (L + 1 + 1 + 1 + 1 + 1 + 1 + 1, c7), (L + 1 + 1 + 1 + 1 + 1 + 1 + 1 + 1, c8)]) (offD8 : LCg.Off1 D8 [(D2, LCg.lst [.int w0 v0, .int w1 v1, .int w2 v2, .int w3 v3]), (cA, ocA), (D3, LCg.lst [.str (word n0 pl) tw0, .str (word n1 pl) tw1, .str (word n2 pl) tw2, .str (word n3 pl) tw3]), (D4, LCg.lst [.str ⟨#[st0]⟩ q0, .str ⟨#[st1]⟩ q1]), (30, hitA cA), (37, tabObj #[]), (L + 1 + 1 + 1, c3), (L + 1 + 1 + 1 + 1, c4), (L + 1 + 1 + 1 + 1 + 1 + 1 + 1, c7), (L + 1 + 1 + 1 + 1 + 1 + 1 + 1 + 1, c8)]) (hn0 : n0 < 16) (hn1 : n1 < 16) (hn2 : n2 < 16) (hn3 : n3 < 16) (hw0 : -1000000000 ≤ w0 ∧ w0 ≤ 1000000000) (hw1 : -1000000000 ≤ w1 ∧ w1 ≤ 1000000000) (hw2 : -1000000000 ≤ w2 ∧ w2 ≤ 1000000000) (hw3 : -1000000000 ≤ w3 ∧ w3 ≤ 1000000000) (hpl : 0 ≤ pl ∧ pl < 23) (hst0 : st0 = (97 + (pl + 4 + 0).fmod 26).toNat) (hst1 : st1 = (97 + (pl + 4 + 1).fmod 26).toNat) (edA : ocA.data = .fields cvA) (evA : cvA[1]? = some (.str quA tcA)) (hSz : ((w0.natAbs + w1.natAbs + w2.natAbs + w3.natAbs : Nat) : Int) = Sz) (hWd0 : 0 < Wd) (hWd1 : Wd ≤ 72) (hWd2 : 2 * (6 * Sz * Sz) < 2 ^ Wd.toNat) (hBs : (2 : Int) ^ Wd.toNat = Bs) (hI5 : IntsAre ss ((rangeKs 0 16).map (sumAt [(n0 : Int), n1, n2, n3] [w0, w1, w2, w3]))) (hI7 : IntsAre os ((rangeKs 0 16).map (fun k => shared k 15))) (hI8 : IntsAre sq ((rangeKs 0 5).map (sqL ((rangeKs 0 16).map (sumAt [(n0 : Int), n1, n2, n3] [w0, w1, w2, w3])) ((rangeKs 0 16).map (fun k => shared k 15))))) (fin : ∀ m' h' tk' cA cB rest, Fr h₀ L h' m' → News h₀ L h' ((30, hitA cA) :: (37, hitB cB) :: rest) → Qf (.ret (.bool true)) { s with heap := h', toks := tk' }),
   wpAny (model PySem.Challenge.rw_tc0016_01.row.prog w) (callerA.deeper (envOfC "law" sc L fa cd)) (execs bd (envOfC "law" sc L fa cd)) Qf E s
abbrev T : Type := World × Heap × Addr × (Str → Option Value) × Program × (List Str) × (ExcName → Option Value) × (Str → Option Value) × (Str → Option Value) × Shared × (Value → Shared → Prop) × Addr × Addr × Addr × Addr × Addr × Addr × Value × Obj × Obj × Obj × Obj × (Option Value) × Nat × Nat × Nat × Nat × Int × Int × Int × Int × Tok × Tok × Tok × Tok × Int × Tok × Tok × Tok × Tok × Nat × Nat × Tok × Tok × Int × Int × Int × Tok × Tok × Tok × Obj × (Array Value) × Tok × (List Value) × (List Value) × (List Value) × (Flow → Shared → Prop)
noncomputable def P (v : T) : Prop := P0 v.1 v.2.1 v.2.2.1 v.2.2.2.1 v.2.2.2.2.1 v.2.2.2.2.2.1 v.2.2.2.2.2.2.1 v.2.2.2.2.2.2.2.1 v.2.2.2.2.2.2.2.2.1 v.2.2.2.2.2.2.2.2.2.1 v.2.2.2.2.2.2.2.2.2.2.1 v.2.2.2.2.2.2.2.2.2.2.2.1 v.2.2.2.2.2.2.2.2.2.2.2.2.1 v.2.2.2.2.2.2.2.2.2.2.2.2.2.1 v.2.2.2.2.2.2.2.2.2.2.2.2.2.2.1 v.2.2.2.2.2.2.2.2.2.2.2.2.2.2.2.1 v.2.2.2.2.2.2.2.2.2.2.2.2.2.2.2.2.1 v.2.2.2.2.2.2.2.2.2.2.2.2.2.2.2.2.2.1 v.2.2.2.2.2.2.2.2.2.2.2.2.2.2.2.2.2.2.1 v.2.2.2.2.2.2.2.2.2.2.2.2.2.2.2.2.2.2.2.1 v.2.2.2.2.2.2.2.2.2.2.2.2.2.2.2.2.2.2.2.2.1 v.2.2.2.2.2.2.2.2.2.2.2.2.2.2.2.2.2.2.2.2.2.1 v.2.2.2.2.2.2.2.2.2.2.2.2.2.2.2.2.2.2.2.2.2.2.1 v.2.2.2.2.2.2.2.2.2.2.2.2.2.2.2.2.2.2.2.2.2.2.2.1 v.2.2.2.2.2.2.2.2.2.2.2.2.2.2.2.2.2.2.2.2.2.2.2.2.1 v.2.2.2.2.2.2.2.2.2.2.2.2.2.2.2.2.2.2.2.2.2.2.2.2.2.1 v.2.2.2.2.2.2.2.2.2.2.2.2.2.2.2.2.2.2.2.2.2.2.2.2.2.2.1 v.2.2.2.2.2.2.2.2.2.2.2.2.2.2.2.2.2.2.2.2.2.2.2.2.2.2.2.1 v.2.2.2.2.2.2.2.2.2.2.2.2.2.2.2.2.2.2.2.2.2.2.2.2.2.2.2.2.1 v.2.2.2.2.2.2.2.2.2.2.2.2.2.2.2.2.2.2.2.2.2.2.2.2.2.2.2.2.2.1 v.2.2.2.2.2.2.2.2.2.2.2.2.2.2.2.2.2.2.2.2.2.2.2.2.2.2.2.2.2.2.1 v.2.2.2.2.2.2.2.2.2.2.2.2.2.2.2.2.2.2.2.2.2.2.2.2.2.2.2.2.2.2.2.1 v.2.2.2.2.2.2.2.2.2.2.2.2.2.2.2.2.2.2.2.2.2.2.2.2.2.2.2.2.2.2.2.2.1 v.2.2.2.2.2.2.2.2.2.2.2.2.2.2.2.2.2.2.2.2.2.2.2.2.2.2.2.2.2.2.2.2.2.1 v.2.2.2.2.2.2.2.2.2.2.2.2.2.2.2.2.2.2.2.2.2.2.2.2.2.2.2.2.2.2.2.2.2.2.1 v.2.2.2.2.2.2.2.2.2.2.2.2.2.2.2.2.2.2.2.2.2.2.2.2.2.2.2.2.2.2.2.2.2.2.2.1 v.2.2.2.2.2.2.2.2.2.2.2.2.2.2.2.2.2.2.2.2.2.2.2.2.2.2.2.2.2.2.2.2.2.2.2.2.1 v.2.2.2.2.2.2.2.2.2.2.2.2.2.2.2.2.2.2.2.2.2.2.2.2.2.2.2.2.2.2.2.2.2.2.2.2.2.1 v.2.2.2.2.2.2.2.2.2.2.2.2.2.2.2.2.2.2.2.2.2.2.2.2.2.2.2.2.2.2.2.2.2.2.2.2.2.2.1 v.2.2.2.2.2.2.2.2.2.2.2.2.2.2.2.2.2.2.2.2.2.2.2.2.2.2.2.2.2.2.2.2.2.2.2.2.2.2.2.1 v.2.2.2.2.2.2.2.2.2.2.2.2.2.2.2.2.2.2.2.2.2.2.2.2.2.2.2.2.2.2.2.2.2.2.2.2.2.2.2.2.1 v.2.2.2.2.2.2.2.2.2.2.2.2.2.2.2.2.2.2.2.2.2.2.2.2.2.2.2.2.2.2.2.2.2.2.2.2.2.2.2.2.2.1 v.2.2.2.2.2.2.2.2.2.2.2.2.2.2.2.2.2.2.2.2.2.2.2.2.2.2.2.2.2.2.2.2.2.2.2.2.2.2.2.2.2.2.1 v.2.2.2.2.2.2.2.2.2.2.2.2.2.2.2.2.2.2.2.2.2.2.2.2.2.2.2.2.2.2.2.2.2.2.2.2.2.2.2.2.2.2.2.1 v.2.2.2.2.2.2.2.2.2.2.2.2.2.2.2.2.2.2.2.2.2.2.2.2.2.2.2.2.2.2.2.2.2.2.2.2.2.2.2.2.2.2.2.2.1 v.2.2.2.2.2.2.2.2.2.2.2.2.2.2.2.2.2.2.2.2.2.2.2.2.2.2.2.2.2.2.2.2.2.2.2.2.2.2.2.2.2.2.2.2.2.1 v.2.2.2.2.2.2.2.2.2.2.2.2.2.2.2.2.2.2.2.2.2.2.2.2.2.2.2.2.2.2.2.2.2.2.2.2.2.2.2.2.2.2.2.2.2.2.1 v.2.2.2.2.2.2.2.2.2.2.2.2.2.2.2.2.2.2.2.2.2.2.2.2.2.2.2.2.2.2.2.2.2.2.2.2.2.2.2.2.2.2.2.2.2.2.2.1 v.2.2.2.2.2.2.2.2.2.2.2.2.2.2.2.2.2.2.2.2.2.2.2.2.2.2.2.2.2.2.2.2.2.2.2.2.2.2.2.2.2.2.2.2.2.2.2.2.1 v.2.2.2.2.2.2.2.2.2.2.2.2.2.2.2.2.2.2.2.2.2.2.2.2.2.2.2.2.2.2.2.2.2.2.2.2.2.2.2.2.2.2.2.2.2.2.2.2.2.1 v.2.2.2.2.2.2.2.2.2.2.2.2.2.2.2.2.2.2.2.2.2.2.2.2.2.2.2.2.2.2.2.2.2.2.2.2.2.2.2.2.2.2.2.2.2.2.2.2.2.2.1 v.2.2.2.2.2.2.2.2.2.2.2.2.2.2.2.2.2.2.2.2.2.2.2.2.2.2.2.2.2.2.2.2.2.2.2.2.2.2.2.2.2.2.2.2.2.2.2.2.2.2.2.1 v.2.2.2.2.2.2.2.2.2.2.2.2.2.2.2.2.2.2.2.2.2.2.2.2.2.2.2.2.2.2.2.2.2.2.2.2.2.2.2.2.2.2.2.2.2.2.2.2.2.2.2.2.1 v.2.2.2.2.2.2.2.2.2.2.2.2.2.2.2.2.2.2.2.2.2.2.2.2.2.2.2.2.2.2.2.2.2.2.2.2.2.2.2.2.2.2.2.2.2.2.2.2.2.2.2.2.2.1 v.2.2.2.2.2.2.2.2.2.2.2.2.2.2.2.2.2.2.2.2.2.2.2.2.2.2.2.2.2.2.2.2.2.2.2.2.2.2.2.2.2.2.2.2.2.2.2.2.2.2.2.2.2.2.1 v.2.2.2.2.2.2.2.2.2.2.2.2.2.2.2.2.2.2.2.2.2.2.2.2.2.2.2.2.2.2.2.2.2.2.2.2.2.2.2.2.2.2.2.2.2.2.2.2.2.2.2.2.2.2.2.1 v.2.2.2.2.2.2.2.2.2.2.2.2.2.2.2.2.2.2.2.2.2.2.2.2.2.2.2.2.2.2.2.2.2.2.2.2.2.2.2.2.2.2.2.2.2.2.2.2.2.2.2.2.2.2.2.2
theorem ex : ∃ c : T, P c → ∀ v, P v := ex_all ⟨((Classical.choice neW), {}, (0 : Nat), (fun _ => none), default, [], (fun _ => none), (fun _ => none), (fun _ => none), {}, (fun _ _ => False), (0 : Nat), (0 : Nat), (0 : Nat), (0 : Nat), (0 : Nat), (0 : Nat), .none, default, default, default, default, none, 0, 0, 0, 0, 0, 0, 0, 0, (0 : Nat), (0 : Nat), (0 : Nat), (0 : Nat), 0, (0 : Nat), (0 : Nat), (0 : Nat), (0 : Nat), 0, 0, (0 : Nat), (0 : Nat), 0, 0, 0, (0 : Nat), (0 : Nat), (0 : Nat), default, #[], (0 : Nat), [], [], [], (fun _ _ => False))⟩
@[irreducible] noncomputable def cT : T := Classical.choose ex
theorem cS : P cT → ∀ v, P v := by
  unfold cT
  exact Classical.choose_spec ex
noncomputable abbrev n0 : Nat := cT.2.2.2.2.2.2.2.2.2.2.2.2.2.2.2.2.2.2.2.2.2.2.2.1
noncomputable abbrev n1 : Nat := cT.2.2.2.2.2.2.2.2.2.2.2.2.2.2.2.2.2.2.2.2.2.2.2.2.1
noncomputable abbrev n2 : Nat := cT.2.2.2.2.2.2.2.2.2.2.2.2.2.2.2.2.2.2.2.2.2.2.2.2.2.1
noncomputable abbrev n3 : Nat := cT.2.2.2.2.2.2.2.2.2.2.2.2.2.2.2.2.2.2.2.2.2.2.2.2.2.2.1
noncomputable abbrev w0 : Int := cT.2.2.2.2.2.2.2.2.2.2.2.2.2.2.2.2.2.2.2.2.2.2.2.2.2.2.2.1
noncomputable abbrev w1 : Int := cT.2.2.2.2.2.2.2.2.2.2.2.2.2.2.2.2.2.2.2.2.2.2.2.2.2.2.2.2.1
noncomputable abbrev w2 : Int := cT.2.2.2.2.2.2.2.2.2.2.2.2.2.2.2.2.2.2.2.2.2.2.2.2.2.2.2.2.2.1
noncomputable abbrev w3 : Int := cT.2.2.2.2.2.2.2.2.2.2.2.2.2.2.2.2.2.2.2.2.2.2.2.2.2.2.2.2.2.2.1
noncomputable abbrev v0 : Tok := cT.2.2.2.2.2.2.2.2.2.2.2.2.2.2.2.2.2.2.2.2.2.2.2.2.2.2.2.2.2.2.2.1
noncomputable abbrev v1 : Tok := cT.2.2.2.2.2.2.2.2.2.2.2.2.2.2.2.2.2.2.2.2.2.2.2.2.2.2.2.2.2.2.2.2.1
noncomputable abbrev v2 : Tok := cT.2.2.2.2.2.2.2.2.2.2.2.2.2.2.2.2.2.2.2.2.2.2.2.2.2.2.2.2.2.2.2.2.2.1
noncomputable abbrev v3 : Tok := cT.2.2.2.2.2.2.2.2.2.2.2.2.2.2.2.2.2.2.2.2.2.2.2.2.2.2.2.2.2.2.2.2.2.2.1
noncomputable abbrev pl : Int := cT.2.2.2.2.2.2.2.2.2.2.2.2.2.2.2.2.2.2.2.2.2.2.2.2.2.2.2.2.2.2.2.2.2.2.2.1
set_option maxRecDepth 100000 in
set_option maxHeartbeats 0 in
theorem main : P0 cT.1 cT.2.1 cT.2.2.1 cT.2.2.2.1 cT.2.2.2.2.1 cT.2.2.2.2.2.1 cT.2.2.2.2.2.2.1 cT.2.2.2.2.2.2.2.1 cT.2.2.2.2.2.2.2.2.1 cT.2.2.2.2.2.2.2.2.2.1 cT.2.2.2.2.2.2.2.2.2.2.1 cT.2.2.2.2.2.2.2.2.2.2.2.1 cT.2.2.2.2.2.2.2.2.2.2.2.2.1 cT.2.2.2.2.2.2.2.2.2.2.2.2.2.1 cT.2.2.2.2.2.2.2.2.2.2.2.2.2.2.1 cT.2.2.2.2.2.2.2.2.2.2.2.2.2.2.2.1 cT.2.2.2.2.2.2.2.2.2.2.2.2.2.2.2.2.1 cT.2.2.2.2.2.2.2.2.2.2.2.2.2.2.2.2.2.1 cT.2.2.2.2.2.2.2.2.2.2.2.2.2.2.2.2.2.2.1 cT.2.2.2.2.2.2.2.2.2.2.2.2.2.2.2.2.2.2.2.1 cT.2.2.2.2.2.2.2.2.2.2.2.2.2.2.2.2.2.2.2.2.1 cT.2.2.2.2.2.2.2.2.2.2.2.2.2.2.2.2.2.2.2.2.2.1 cT.2.2.2.2.2.2.2.2.2.2.2.2.2.2.2.2.2.2.2.2.2.2.1 n0 n1 n2 n3 w0 w1 w2 w3 v0 v1 v2 v3 pl cT.2.2.2.2.2.2.2.2.2.2.2.2.2.2.2.2.2.2.2.2.2.2.2.2.2.2.2.2.2.2.2.2.2.2.2.2.1 cT.2.2.2.2.2.2.2.2.2.2.2.2.2.2.2.2.2.2.2.2.2.2.2.2.2.2.2.2.2.2.2.2.2.2.2.2.2.1 cT.2.2.2.2.2.2.2.2.2.2.2.2.2.2.2.2.2.2.2.2.2.2.2.2.2.2.2.2.2.2.2.2.2.2.2.2.2.2.1 cT.2.2.2.2.2.2.2.2.2.2.2.2.2.2.2.2.2.2.2.2.2.2.2.2.2.2.2.2.2.2.2.2.2.2.2.2.2.2.2.1 cT.2.2.2.2.2.2.2.2.2.2.2.2.2.2.2.2.2.2.2.2.2.2.2.2.2.2.2.2.2.2.2.2.2.2.2.2.2.2.2.2.1 cT.2.2.2.2.2.2.2.2.2.2.2.2.2.2.2.2.2.2.2.2.2.2.2.2.2.2.2.2.2.2.2.2.2.2.2.2.2.2.2.2.2.1 cT.2.2.2.2.2.2.2.2.2.2.2.2.2.2.2.2.2.2.2.2.2.2.2.2.2.2.2.2.2.2.2.2.2.2.2.2.2.2.2.2.2.2.1 cT.2.2.2.2.2.2.2.2.2.2.2.2.2.2.2.2.2.2.2.2.2.2.2.2.2.2.2.2.2.2.2.2.2.2.2.2.2.2.2.2.2.2.2.1 cT.2.2.2.2.2.2.2.2.2.2.2.2.2.2.2.2.2.2.2.2.2.2.2.2.2.2.2.2.2.2.2.2.2.2.2.2.2.2.2.2.2.2.2.2.1 cT.2.2.2.2.2.2.2.2.2.2.2.2.2.2.2.2.2.2.2.2.2.2.2.2.2.2.2.2.2.2.2.2.2.2.2.2.2.2.2.2.2.2.2.2.2.1 cT.2.2.2.2.2.2.2.2.2.2.2.2.2.2.2.2.2.2.2.2.2.2.2.2.2.2.2.2.2.2.2.2.2.2.2.2.2.2.2.2.2.2.2.2.2.2.1 cT.2.2.2.2.2.2.2.2.2.2.2.2.2.2.2.2.2.2.2.2.2.2.2.2.2.2.2.2.2.2.2.2.2.2.2.2.2.2.2.2.2.2.2.2.2.2.2.1 cT.2.2.2.2.2.2.2.2.2.2.2.2.2.2.2.2.2.2.2.2.2.2.2.2.2.2.2.2.2.2.2.2.2.2.2.2.2.2.2.2.2.2.2.2.2.2.2.2.1 cT.2.2.2.2.2.2.2.2.2.2.2.2.2.2.2.2.2.2.2.2.2.2.2.2.2.2.2.2.2.2.2.2.2.2.2.2.2.2.2.2.2.2.2.2.2.2.2.2.2.1 cT.2.2.2.2.2.2.2.2.2.2.2.2.2.2.2.2.2.2.2.2.2.2.2.2.2.2.2.2.2.2.2.2.2.2.2.2.2.2.2.2.2.2.2.2.2.2.2.2.2.2.1 cT.2.2.2.2.2.2.2.2.2.2.2.2.2.2.2.2.2.2.2.2.2.2.2.2.2.2.2.2.2.2.2.2.2.2.2.2.2.2.2.2.2.2.2.2.2.2.2.2.2.2.2.1 cT.2.2.2.2.2.2.2.2.2.2.2.2.2.2.2.2.2.2.2.2.2.2.2.2.2.2.2.2.2.2.2.2.2.2.2.2.2.2.2.2.2.2.2.2.2.2.2.2.2.2.2.2.1 cT.2.2.2.2.2.2.2.2.2.2.2.2.2.2.2.2.2.2.2.2.2.2.2.2.2.2.2.2.2.2.2.2.2.2.2.2.2.2.2.2.2.2.2.2.2.2.2.2.2.2.2.2.2.1 cT.2.2.2.2.2.2.2.2.2.2.2.2.2.2.2.2.2.2.2.2.2.2.2.2.2.2.2.2.2.2.2.2.2.2.2.2.2.2.2.2.2.2.2.2.2.2.2.2.2.2.2.2.2.2.1 cT.2.2.2.2.2.2.2.2.2.2.2.2.2.2.2.2.2.2.2.2.2.2.2.2.2.2.2.2.2.2.2.2.2.2.2.2.2.2.2.2.2.2.2.2.2.2.2.2.2.2.2.2.2.2.2.1 cT.2.2.2.2.2.2.2.2.2.2.2.2.2.2.2.2.2.2.2.2.2.2.2.2.2.2.2.2.2.2.2.2.2.2.2.2.2.2.2.2.2.2.2.2.2.2.2.2.2.2.2.2.2.2.2.2 := by
  unfold P0
  intro sc bd hsc hbd K' X' T' C1 C2 l0 hE F N e3 e4 e7 e8 offD2 offcA offD3 offD4 offD8 hn0 hn1 hn2 hn3 hw0 hw1 hw2 hw3 hpl hst0 hst1 edA evA hSz hWd0 hWd1 hWd2 hBs hI5 hI7 hI8 fin
  have hsc0 := hsc
  have hbd0 := hbd
  conv at hsc => lhs; whnf
  conv at hbd => lhs; whnf
  subst hsc hbd
  k_steps
  refine Hold.out ?_
  have hWI := ints4 w0 w1 w2 w3 v0 v1 v2 v3
  k_dflt (refine' c_shares (c := cdN n0 n1 n2 n3 pl) (d := dN n0 n1 n2 n3) ?k1 ?k2 ?k3 ?k5 ?kK ?kd ?ku ?kN ?hls ?hlw ?hlv words_are hWI rfl (wts_bits hw0 hw1 hw2 hw3) (told_ham hn0 hn1 hn2 hn3 hpl hst0 hst1) ?_; (case k1 => k_asm); (case k2 => k_asm); (case k3 => k_asm); (case k5 => k_asm); (case kK => exact rfl); (case kd => ktr_room); (case ku => ktr_units); (case kN => k_asm); (case hls => k_mem); (case hlw => k_mem); (case hlv => k_mem))
  intro D9 us9 nn9 h9 tk9 F9 N9 I9 lt9
  have off9 := off_of_lt (ktn_ltOf lt9)
  clear lt9
  have l9 : (shaL n0 n1 n2 n3 w0 w1 w2 w3).length = 5 := rowOut_len _ _ _
  obtain ⟨RL, hRL⟩ : ∃ l, shaL n0 n1 n2 n3 w0 w1 w2 w3 = l := ⟨_, rfl⟩
  rw [show rowOut (dN n0 n1 n2 n3) [w0, w1, w2, w3] 4 = RL from hRL] at I9
  rw [hRL] at l9
  have hmark := MarkS.mk 11
  k_steps
  refine Hold.out ?_
  have hmark5 := MarkS.mk 5
  k_steps
  · exfalso
    omega
  refine Hold.out ?_
  subst hRL
  k_dflt (refine' law_t7 ?hsc ?hbd K' X' T' C1 C2 l0 ?hE ?F ?N ?e4 ?e7 ?e8 ?offcA ?offD8 ?offD9 hn0 hn1 hn2 hn3 hw0 hw1 hw2 hw3 hpl hst0 hst1 edA evA hSz hWd0 hWd1 hWd2 hBs hI5 hI7 hI8 I9 ?fin; (case hE => exact hE); (case hsc => exact hsc0); (case hbd => exact drop_more 2 hbd0); (case F => k_asm); (case N => (first | k_asm | (refine news_sub (by k_asm) ?_; (repeat' (first | exact List.forall_mem_nil _ | refine List.forall_mem_cons.mpr ⟨?_, ?_⟩)); all_goals (repeat first | exact List.Mem.head _ | refine List.Mem.tail _ ?_)))); (case e4 => assumption); (case e7 => assumption); (case e8 => assumption); (case offcA => ((repeat' (first | exact trivial | refine And.intro ?_ ?_)); all_goals (first | k_ne | fail "k_ne"))); (case offD8 => ((repeat' (first | exact trivial | refine And.intro ?_ ?_)); all_goals (first | k_ne | fail "k_ne"))); (case offD9 => ((repeat' (first | exact trivial | refine And.intro ?_ ?_)); all_goals (first | k_ne | fail "k_ne"))))
  case fin => exact fin
end X_law_t6
theorem law_t6 {w : World} {h₀ : Heap} {L : Addr} {m : Str → Option Value} {p : Program} {loose : List Str} {mean : ExcName → Option Value} {mg : Str → Option Value} {mb : Str → Option Value} {s : Shared} {E : Value → Shared → Prop} {fa : Addr} {D2 : Addr} {cA : Addr} {D3 : Addr} {D4 : Addr} {D8 : Addr} {cd : Value} {c3 : Obj} {c4 : Obj} {c7 : Obj} {c8 : Obj} {x8 : Option Value} {n0 : Nat} {n1 : Nat} {n2 : Nat} {n3 : Nat} {w0 : Int} {w1 : Int} {w2 : Int} {w3 : Int} {v0 : Tok} {v1 : Tok} {v2 : Tok} {v3 : Tok} {pl : Int} {tw0 : Tok} {tw1 : Tok} {tw2 : Tok} {tw3 : Tok} {st0 : Nat} {st1 : Nat} {q0 : Tok} {q1 : Tok} {Sz : Int} {Wd : Int} {Bs : Int} {tB : Tok} {tW : Tok} {tS : Tok} {ocA : Obj} {cvA : Array Value} {tcA : Tok} {ss : List Value} {os : List Value} {sq : List Value} {Qf : Flow → Shared → Prop} {sc : Scope} {bd : List Stmt} (hsc : fnScope lawS = sc) (hbd : (fnBody lawS).drop 12 = bd) (K' : Below callerA h₀ [] h₀) (X' : (kk w.params).In h₀) (T' : Top p loose mean mg mb h₀) (C1 : CodeHd h₀ 41 37) (C2 : CodeHd h₀ 34 30) (l0 : @LT.lt Nat _ 37 L ∧ @LT.lt Nat _ 30 L) (hE : PassesOwn (model PySem.Challenge.rw_tc0016_01.row.prog w) (callerA.deeper (envOfC "law" sc L fa cd)) (envOfC "law" sc L fa cd) E) (F : Fr h₀ L s.heap (fun y => if y = "width" then some (.int Wd tW) else if y = "size" then some (.int Sz tS) else if y = "strange" then some (.ref D4) else if y = "words" then some (.ref D3) else m y)) (N : News h₀ L s.heap [(D8, LCg.lst sq), (D4, LCg.lst [.str ⟨#[st0]⟩ q0, .str ⟨#[st1]⟩ q1]), (D3, LCg.lst [.str (word n0 pl) tw0, .str (word n1 pl) tw1, .str (word n2 pl) tw2, .str (word n3 pl) tw3]), (30, hitA cA), (cA, ocA), (37, tabObj #[]), (L + 1 + 1 + 1, c3), (L + 1 + 1 + 1 + 1, c4), (L + 1 + 1 + 1 + 1 + 1 + 1 + 1, c7), (L + 1 + 1 + 1 + 1 + 1 + 1 + 1 + 1, c8), (D2, LCg.lst [.int w0 v0, .int w1 v1, .int w2 v2, .int w3 v3])]) (e3 : c3.data = .cell (some (.ref D2))) (e4 : c4.data = .cell (some (.int Bs tB))) (e7 : c7.data = .cell (some (.ref D8))) (e8 : c8.data = .cell x8) (offD2 : LCg.Off1 D2 [(30, hitA cA), (37, tabObj #[]), (L + 1 + 1 + 1, c3), (L + 1 + 1 + 1 + 1, c4), (L + 1 + 1 + 1 + 1 + 1 + 1 + 1, c7), (L + 1 + 1 + 1 + 1 + 1 + 1 + 1 + 1, c8)]) (offcA : LCg.Off1 cA [(D2, LCg.lst [.int w0 v0, .int w1 v1, .int w2 v2, .int w3 v3]), (30, hitA cA), (37, tabObj #[]), (L + 1 + 1 + 1, c3), (L + 1 + 1 + 1 + 1, c4), (L + 1 + 1 + 1 + 1 + 1 + 1 + 1, c7), (L + 1 + 1 + 1 + 1 + 1 + 1 + 1 + 1, c8)]) (offD3 : LCg.Off1 D3 [(D2, LCg.lst [.int w0 v0, .int w1 v1, .int w2 v2, .int w3 v3]), (cA, ocA), (30, hitA cA), (37, tabObj #[]), (L + 1 + 1 + 1, c3), (L + 1 + 1 + 1 + 1, c4), (L + 1 + 1 + 1 + 1 + 1 + 1 + 1, c7), (L + 1 + 1 + 1 + 1 + 1 + 1 + 1 + 1, c8)]) (offD4 : LCg.Off1 D4 [(D2, LCg.lst [.int w0 v0, .int w1 v1, .int w2 v2, .int w3 v3]), (cA, ocA), (D3, LCg.lst [.str (word n0 pl) tw0, .str (word n1 pl) tw1, .str (word n2 pl) tw2, .str (word n3 pl) tw3]), (30, hitA cA), (37, tabObj #[]), (L + 1 + 1 + 1, c3), (L + 1 + 1 + 1 + 1, c4), (L + 1 + 1 + 1 + 1 + 1 + 1 + 1, c7), (L + 1 + 1 + 1 + 1 + 1 + 1 + 1 + 1, c8)]) (offD8 : LCg.Off1 D8 [(D2, LCg.lst [.int w0 v0, .int w1 v1, .int w2 v2, .int w3 v3]), (cA, ocA), (D3, LCg.lst [.str (word n0 pl) tw0, .str (word n1 pl) tw1, .str (word n2 pl) tw2, .str (word n3 pl) tw3]), (D4, LCg.lst [.str ⟨#[st0]⟩ q0, .str ⟨#[st1]⟩ q1]), (30, hitA cA), (37, tabObj #[]), (L + 1 + 1 + 1, c3), (L + 1 + 1 + 1 + 1, c4), (L + 1 + 1 + 1 + 1 + 1 + 1 + 1, c7), (L + 1 + 1 + 1 + 1 + 1 + 1 + 1 + 1, c8)]) (hn0 : n0 < 16) (hn1 : n1 < 16) (hn2 : n2 < 16) (hn3 : n3 < 16) (hw0 : -1000000000 ≤ w0 ∧ w0 ≤ 1000000000) (hw1 : -1000000000 ≤ w1 ∧ w1 ≤ 1000000000) (hw2 : -1000000000 ≤ w2 ∧ w2 ≤ 1000000000) (hw3 : -1000000000 ≤ w3 ∧ w3 ≤ 1000000000) (hpl : 0 ≤ pl ∧ pl < 23) (hst0 : st0 = (97 + (pl + 4 + 0).fmod 26).toNat) (hst1 : st1 = (97 + (pl + 4 + 1).fmod 26).toNat) (edA : ocA.data = .fields cvA) (evA : cvA[1]? = some (.str quA tcA)) (hSz : ((w0.natAbs + w1.natAbs + w2.natAbs + w3.natAbs : Nat) : Int) = Sz) (hWd0 : 0 < Wd) (hWd1 : Wd ≤ 72) (hWd2 : 2 * (6 * Sz * Sz) < 2 ^ Wd.toNat) (hBs : (2 : Int) ^ Wd.toNat = Bs) (hI5 : IntsAre ss ((rangeKs 0 16).map (sumAt [(n0 : Int), n1, n2, n3] [w0, w1, w2, w3]))) (hI7 : IntsAre os ((rangeKs 0 16).map (fun k => shared k 15))) (hI8 : IntsAre sq ((rangeKs 0 5).map (sqL ((rangeKs 0 16).map (sumAt [(n0 : Int), n1, n2, n3] [w0, w1, w2, w3])) ((rangeKs 0 16).map (fun k => shared k 15))))) (fin : ∀ m' h' tk' cA cB rest, Fr h₀ L h' m' → News h₀ L h' ((30, hitA cA) :: (37, hitB cB) :: rest) → Qf (.ret (.bool true)) { s with heap := h', toks := tk' }) :
   wpAny (model PySem.Challenge.rw_tc0016_01.row.prog w) (callerA.deeper (envOfC "law" sc L fa cd)) (execs bd (envOfC "law" sc L fa cd)) Qf E s :=
  X_law_t6.cS X_law_t6.main (w, h₀, L, m, p, loose, mean, mg, mb, s, E, fa, D2, cA, D3, D4, D8, cd, c3, c4, c7, c8, x8, n0, n1, n2, n3, w0, w1, w2, w3, v0, v1, v2, v3, pl, tw0, tw1, tw2, tw3, st0, st1, q0, q1, Sz, Wd, Bs, tB, tW, tS, ocA, cvA, tcA, ss, os, sq, Qf) sc bd hsc hbd K' X' T' C1 C2 l0 hE F N e3 e4 e7 e8 offD2 offcA offD3 offD4 offD8 hn0 hn1 hn2 hn3 hw0 hw1 hw2 hw3 hpl hst0 hst1 edA evA hSz hWd0 hWd1 hWd2 hBs hI5 hI7 hI8 fin

-- lawt5
namespace X_law_t5
noncomputable def P0 (w : World) (h₀ : Heap) (L : Addr) (m : Str → Option Value) (p : Program) (loose : List Str) (mean : ExcName → Option Value) (mg : Str → Option Value) (mb : Str → Option Value) (s : Shared) (E : Value → Shared → Prop) (fa : Addr) (D2 : Addr) (cA : Addr) (D3 : Addr) (D4 : Addr) (D5 : Addr) (D7 : Addr) (cd : Value) (c3 : Obj) (c4 : Obj) (c5 : Obj) (c6 : Obj) (c7 : Obj) (c8 : Obj) (x7 : Option Value) (x8 : Option Value) (n0 : Nat) (n1 : Nat) (n2 : Nat) (n3 : Nat) (w0 : Int) (w1 : Int) (w2 : Int) (w3 : Int) (v0 : Tok) (v1 : Tok) (v2 : Tok) (v3 : Tok) (pl : Int) (tw0 : Tok) (tw1 : Tok) (tw2 : Tok) (tw3 : Tok) (st0 : Nat) (st1 : Nat) (q0 : Tok) (q1 : Tok) (Sz : Int) (Wd : Int) (Bs : Int) (tB : Tok) (tW : Tok) (tS : Tok) (ocA : Obj) (cvA : Array Value) (tcA : Tok) (ss : List Value) (os : List Value) (Qf : Flow → Shared → Prop) : Prop := ∀ (sc : Scope) (bd : List Stmt) (hsc : fnScope lawS = sc) (hbd : (fnBody lawS).drop 11 = bd) (K' : Below callerA h₀ [] h₀) (X' : (kk w.params).In h₀) (T' : Top p loose mean mg mb h₀) (C1 : CodeHd h₀ 41 37) (C2 : CodeHd h₀ 34 30) (l0 : @LT.lt Nat _ 37 L ∧ @LT.lt Nat _ 30 L) (hE : PassesOwn (model PySem.Challenge.rw_tc0016_01.row.prog w) (callerA.deeper (envOfC "law" sc L fa cd)) (envOfC "law" sc L fa cd) E) (F : Fr h₀ L s.heap (fun y => if y = "width" then some (.int Wd tW) else if y = "size" then some (.int Sz tS) else if y = "strange" then some (.ref D4) else if y = "words" then some (.ref D3) else m y)) (N : News h₀ L s.heap [(D7, LCg.lst os), (D5, LCg.lst ss), (D4, LCg.lst [.str ⟨#[st0]⟩ q0, .str ⟨#[st1]⟩ q1]), (D3, LCg.lst [.str (word n0 pl) tw0, .str (word n1 pl) tw1, .str (word n2 pl) tw2, .str (word n3 pl) tw3]), (30, hitA cA), (cA, ocA), (37, tabObj #[]), (L + 1 + 1 + 1, c3), (L + 1 + 1 + 1 + 1, c4), (L + 1 + 1 + 1 + 1 + 1, c5), (L + 1 + 1 + 1 + 1 + 1 + 1, c6), (L + 1 + 1 + 1 + 1 + 1 + 1 + 1, c7), (L + 1 + 1 + 1 + 1 + 1 + 1 + 1 + 1, c8), (D2, LCg.lst [.int w0 v0, .int w1 v1, .int w2 v2, .int w3 v3])]) (e3 : c3.data = .cell (some (.ref D2))) (e4 : c4.data = .cell (some (.int Bs tB))) (e5 : c5.data = .cell (some (.ref D5))) (e6 : c6.data = .cell (some (.ref D7))) (e7 : c7.data = .cell x7) (e8 : c8.data = .cell x8) (offD2 : LCg.Off1 D2 [(30, hitA cA), (37, tabObj #[]), (L + 1 + 1 + 1, c3), (L + 1 + 1 + 1 + 1, c4), (L + 1 + 1 + 1 + 1 + 1, c5), (L + 1 + 1 + 1 + 1 + 1 + 1, c6), (L + 1 + 1 + 1 + 1 + 1 + 1 + 1, c7), (L + 1 + 1 + 1 + 1 + 1 + 1 + 1 + 1, c8)]) (offcA : LCg.Off1 cA [(D2, LCg.lst [.int w0 v0, .int w1 v1, .int w2 v2, .int w3 v3]), (30, hitA cA), (37, tabObj #[]), (L + 1 + 1 + 1, c3), (L + 1 + 1 + 1 + 1, c4), (L + 1 + 1 + 1 + 1 + 1, c5), (L + 1 + 1 + 1 + 1 + 1 + 1, c6), (L + 1 + 1 + 1 + 1 + 1 + 1 + 1, c7), (L + 1 + 1 + 1 + 1 + 1 + 1 + 1 + 1, c8)]) (offD3 : LCg.Off1 D3 [(D2, LCg.lst [.int w0 v0, .int w1 v1, .int w2 v2, .int w3 v3]), (cA, ocA), (30, hitA cA), (37, tabObj #[]), (L + 1 + 1 + 1, c3), (L + 1 + 1 + 1 + 1, c4), (L + 1 + 1 + 1 + 1 + 1, c5), (L + 1 + 1 + 1 + 1 + 1 + 1, c6), (L + 1 + 1 + 1 + 1 + 1 + 1 + 1, c7), (L + 1 + 1 + 1 + 1 + 1 + 1 + 1 + 1, c8)]) (offD4 : LCg.Off1 D4 [(D2, LCg.lst [.int w0 v0, .int w1 v1, .int w2 v2, .int w3 v3]), (cA, ocA), (D3, LCg.lst [.str (word n0 pl) tw0, .str (word n1 pl) tw1, .str (word n2 pl) tw2, .str (word n3 pl) tw3]), (30, hitA cA), (37, tabObj #[]), (L + 1 + 1 + 1, c3), (L + 1 + 1 + 1 + 1, c4), (L + 1 + 1 + 1 + 1 + 1, c5), (L + 1 + 1 + 1 + 1 + 1 + 1, c6), (L + 1 + 1 + 1 + 1 + 1 + 1 + 1, c7), (L + 1 + 1 + 1 + 1 + 1 + 1 + 1 + 1, c8)]) (offD5 : LCg.Off1 D5 [(D2, LCg.lst [.int w0 v0, .int w1 v1, .int w2 v2, .int w3 v3]), (cA, ocA), (D3, LCg.lst [.str (word n0 pl) tw0, .str (word n1 pl) tw1, .str (word n2 pl) tw2, .str (word n3 pl) tw3]), (D4, LCg.lst [.str ⟨#[st0]⟩ q0, .str ⟨#[st1]⟩ q1]), (30, hitA cA), (37, tabObj #[]), (L + 1 + 1 + 1, c3), (L + 1 + 1 + 1 + 1, c4), (L + 1 + 1 + 1 + 1 + 1, c5), (L + 1 + 1 + 1 + 1 + 1 + 1, c6), (L + 1 + 1 + 1 + 1 + 1 + 1 + 1, c7), (L + 1 + 1 + 1 + 1 + 1 + 1 + 1 + 1, c8)]) (offD7 : LCg.Off1 D7 [(D2, LCg.lst [.int w0 v0, .int w1 v1, .int w2 v2, .int w3 v3]), (cA, ocA), (D3, LCg.lst [.str (word n0 pl) tw0, .str (word n1 pl) tw1, .str (word n2 pl) tw2, .str (word n3 pl) tw3]), (D4, LCg.lst [.str ⟨#[st0]⟩ q0, .str ⟨#[st1]⟩ q1]), (D5, LCg.lst ss), (30, hitA cA), (37, tabObj #[]), (L + 1 + 1 + 1, c3), (L + 1 + 1 + 1 + 1, c4), (L + 1 + 1 + 1 + 1 + 1, c5), (L + 1 + 1 + 1 + 1 + 1 + 1, c6), (L + 1 + 1 + 1 + 1 + 1 + 1 + 1, c7), (L + 1 + 1 + 1 + 1 + 1 + 1 + 1 + 1, c8)]) (hn0 : n0 < 16) (hn1 : n1 < 16) (hn2 : n2 < 16) (hn3 : n3 < 16) (hw0 : -1000000000 ≤ w0 ∧ w0 ≤ 1000000000) (hw1 : -1000000000 ≤ w1 ∧ w1 ≤ 1000000000) (hw2 : -1000000000 ≤ w2 ∧ w2 ≤ 1000000000) (hw3 : -1000000000 ≤ w3 ∧ w3 ≤ 1000000000) (hpl : 0 ≤ pl ∧ pl < 23) (hst0 : st0 = (97 + (pl + 4 + 0).fmod 26).toNat) (hst1 : st1 = (97 + (pl + 4 + 1).fmod 26).toNat) (edA : ocA.data = .fields cvA) (evA : cvA[1]? = some (.str quA tcA)) (hSz : ((w0.natAbs + w1.natAbs + w2.natAbs + w3.natAbs : Nat) : Int) = Sz) (hWd0 : 0 < Wd) (hWd1 : Wd ≤ 72) (hWd2 : 2 * (6 * Sz * Sz) < 2 ^ Wd.toNat) (hBs : (2 : Int) ^ Wd.toNat = Bs) (hI5 : IntsAre ss ((rangeKs 0 16).map (sumAt [(n0 : Int), n1, n2, n3] [w0, w1, w2, w3]))) (hI7 : IntsAre os ((rangeKs 0 16).map (fun k => shared k 15))) (fin : ∀ m' h' tk' cA cB rest, Fr h₀ L h' m' → News h₀ L h' ((30, hitA cA) :: (37, hitB cB) :: rest) → Qf (.ret (.bool true)) { s with heap := h', toks := tk' }),
   wpAny (model PySem.Challenge.rw_tc0016_01.row.prog w) (callerA.deeper (envOfC "law" sc L fa cd)) (execs bd (envOfC "law" sc L fa cd)) Qf E s
abbrev T : Type := World × Heap × Addr × (Str → Option Value) × Program × (List Str) × (ExcName → Option Value) × (Str → Option Value) × (Str → Option Value) × Shared × (Value → Shared → Prop) × Addr × Addr × Addr × Addr × Addr × Addr × Addr × Value × Obj × Obj × Obj × Obj × Obj × Obj × (Option Value) × (Option Value) × Nat × Nat × Nat × Nat × Int × Int × Int × Int × Tok × Tok × Tok × Tok × Int × Tok × Tok × Tok × Tok × Nat × Nat × Tok × Tok × Int × Int × Int × Tok × Tok × Tok × Obj × (Array Value) × Tok × (List Value) × (List Value) × (Flow → Shared → Prop)
noncomputable def P (v : T) : Prop := P0 v.1 v.2.1 v.2.2.1 v.2.2.2.1 v.2.2.2.2.1 v.2.2.2.2.2.1 v.2.2.2.2.2.2.1 v.2.2.2.2.2.2.2.1 v.2.2.2.2.2.2.2.2.1 v.2.2.2.2.2.2.2.2.2.1 v.2.2.2.2.2.2.2.2.2.2.1 v.2.2.2.2.2.2.2.2.2.2.2.1 v.2.2.2.2.2.2.2.2.2.2.2.2.1 v.2.2.2.2.2.2.2.2.2.2.2.2.2.1 v.2.2.2.2.2.2.2.2.2.2.2.2.2.2.1 v.2.2.2.2.2.2.2.2.2.2.2.2.2.2.2.1 v.2.2.2.2.2.2.2.2.2.2.2.2.2.2.2.2.1 v.2.2.2.2.2.2.2.2.2.2.2.2.2.2.2.2.2.1 v.2.2.2.2.2.2.2.2.2.2.2.2.2.2.2.2.2.2.1 v.2.2.2.2.2.2.2.2.2.2.2.2.2.2.2.2.2.2.2.1 v.2.2.2.2.2.2.2.2.2.2.2.2.2.2.2.2.2.2.2.2.1 v.2.2.2.2.2.2.2.2.2.2.2.2.2.2.2.2.2.2.2.2.2.1 v.2.2.2.2.2.2.2.2.2.2.2.2.2.2.2.2.2.2.2.2.2.2.1 v.2.2.2.2.2.2.2.2.2.2.2.2.2.2.2.2.2.2.2.2.2.2.2.1 v.2.2.2.2.2.2.2.2.2.2.2.2.2.2.2.2.2.2.2.2.2.2.2.2.1 v.2.2.2.2.2.2.2.2.2.2.2.2.2.2.2.2.2.2.2.2.2.2.2.2.2.1 v.2.2.2.2.2.2.2.2.2.2.2.2.2.2.2.2.2.2.2.2.2.2.2.2.2.2.1 v.2.2.2.2.2.2.2.2.2.2.2.2.2.2.2.2.2.2.2.2.2.2.2.2.2.2.2.1 v.2.2.2.2.2.2.2.2.2.2.2.2.2.2.2.2.2.2.2.2.2.2.2.2.2.2.2.2.1 v.2.2.2.2.2.2.2.2.2.2.2.2.2.2.2.2.2.2.2.2.2.2.2.2.2.2.2.2.2.1 v.2.2.2.2.2.2.2.2.2.2.2.2.2.2.2.2.2.2.2.2.2.2.2.2.2.2.2.2.2.2.1 v.2.2.2.2.2.2.2.2.2.2.2.2.2.2.2.2.2.2.2.2.2.2.2.2.2.2.2.2.2.2.2.1 v.2.2.2.2.2.2.2.2.2.2.2.2.2.2.2.2.2.2.2.2.2.2.2.2.2.2.2.2.2.2.2.2.1 v.2.2.2.2.2.2.2.2.2.2.2.2.2.2.2.2.2.2.2.2.2.2.2.2.2.2.2.2.2.2.2.2.2.1 v.2.2.2.2.2.2.2.2.2.2.2.2.2.2.2.2.2.2.2.2.2.2.2.2.2.2.2.2.2.2.2.2.2.2.1 v.2.2.2.2.2.2.2.2.2.2.2.2.2.2.2.2.2.2.2.2.2.2.2.2.2.2.2.2.2.2.2.2.2.2.2.1 v.2.2.2.2.2.2.2.2.2.2.2.2.2.2.2.2.2.2.2.2.2.2.2.2.2.2.2.2.2.2.2.2.2.2.2.2.1 v.2.2.2.2.2.2.2.2.2.2.2.2.2.2.2.2.2.2.2.2.2.2.2.2.2.2.2.2.2.2.2.2.2.2.2.2.2.1 v.2.2.2.2.2.2.2.2.2.2.2.2.2.2.2.2.2.2.2.2.2.2.2.2.2.2.2.2.2.2.2.2.2.2.2.2.2.2.1 v.2.2.2.2.2.2.2.2.2.2.2.2.2.2.2.2.2.2.2.2.2.2.2.2.2.2.2.2.2.2.2.2.2.2.2.2.2.2.2.1 v.2.2.2.2.2.2.2.2.2.2.2.2.2.2.2.2.2.2.2.2.2.2.2.2.2.2.2.2.2.2.2.2.2.2.2.2.2.2.2.2.1 v.2.2.2.2.2.2.2.2.2.2.2.2.2.2.2.2.2.2.2.2.2.2.2.2.2.2.2.2.2.2.2.2.2.2.2.2.2.2.2.2.2.1 v.2.2.2.2.2.2.2.2.2.2.2.2.2.2.2.2.2.2.2.2.2.2.2.2.2.2.2.2.2.2.2.2.2.2.2.2.2.2.2.2.2.2.1 v.2.2.2.2.2.2.2.2.2.2.2.2.2.2.2.2.2.2.2.2.2.2.2.2.2.2.2.2.2.2.2.2.2.2.2.2.2.2.2.2.2.2.2.1 v.2.2.2.2.2.2.2.2.2.2.2.2.2.2.2.2.2.2.2.2.2.2.2.2.2.2.2.2.2.2.2.2.2.2.2.2.2.2.2.2.2.2.2.2.1 v.2.2.2.2.2.2.2.2.2.2.2.2.2.2.2.2.2.2.2.2.2.2.2.2.2.2.2.2.2.2.2.2.2.2.2.2.2.2.2.2.2.2.2.2.2.1 v.2.2.2.2.2.2.2.2.2.2.2.2.2.2.2.2.2.2.2.2.2.2.2.2.2.2.2.2.2.2.2.2.2.2.2.2.2.2.2.2.2.2.2.2.2.2.1 v.2.2.2.2.2.2.2.2.2.2.2.2.2.2.2.2.2.2.2.2.2.2.2.2.2.2.2.2.2.2.2.2.2.2.2.2.2.2.2.2.2.2.2.2.2.2.2.1 v.2.2.2.2.2.2.2.2.2.2.2.2.2.2.2.2.2.2.2.2.2.2.2.2.2.2.2.2.2.2.2.2.2.2.2.2.2.2.2.2.2.2.2.2.2.2.2.2.1 v.2.2.2.2.2.2.2.2.2.2.2.2.2.2.2.2.2.2.2.2.2.2.2.2.2.2.2.2.2.2.2.2.2.2.2.2.2.2.2.2.2.2.2.2.2.2.2.2.2.1 v.2.2.2.2.2.2.2.2.2.2.2.2.2.2.2.2.2.2.2.2.2.2.2.2.2.2.2.2.2.2.2.2.2.2.2.2.2.2.2.2.2.2.2.2.2.2.2.2.2.2.1 v.2.2.2.2.2.2.2.2.2.2.2.2.2.2.2.2.2.2.2.2.2.2.2.2.2.2.2.2.2.2.2.2.2.2.2.2.2.2.2.2.2.2.2.2.2.2.2.2.2.2.2.1 v.2.2.2.2.2.2.2.2.2.2.2.2.2.2.2.2.2.2.2.2.2.2.2.2.2.2.2.2.2.2.2.2.2.2.2.2.2.2.2.2.2.2.2.2.2.2.2.2.2.2.2.2.1 v.2.2.2.2.2.2.2.2.2.2.2.2.2.2.2.2.2.2.2.2.2.2.2.2.2.2.2.2.2.2.2.2.2.2.2.2.2.2.2.2.2.2.2.2.2.2.2.2.2.2.2.2.2.1 v.2.2.2.2.2.2.2.2.2.2.2.2.2.2.2.2.2.2.2.2.2.2.2.2.2.2.2.2.2.2.2.2.2.2.2.2.2.2.2.2.2.2.2.2.2.2.2.2.2.2.2.2.2.2.1 v.2.2.2.2.2.2.2.2.2.2.2.2.2.2.2.2.2.2.2.2.2.2.2.2.2.2.2.2.2.2.2.2.2.2.2.2.2.2.2.2.2.2.2.2.2.2.2.2.2.2.2.2.2.2.2.1 v.2.2.2.2.2.2.2.2.2.2.2.2.2.2.2.2.2.2.2.2.2.2.2.2.2.2.2.2.2.2.2.2.2.2.2.2.2.2.2.2.2.2.2.2.2.2.2.2.2.2.2.2.2.2.2.2.1 v.2.2.2.2.2.2.2.2.2.2.2.2.2.2.2.2.2.2.2.2.2.2.2.2.2.2.2.2.2.2.2.2.2.2.2.2.2.2.2.2.2.2.2.2.2.2.2.2.2.2.2.2.2.2.2.2.2.1 v.2.2.2.2.2.2.2.2.2.2.2.2.2.2.2.2.2.2.2.2.2.2.2.2.2.2.2.2.2.2.2.2.2.2.2.2.2.2.2.2.2.2.2.2.2.2.2.2.2.2.2.2.2.2.2.2.2.2.1 v.2.2.2.2.2.2.2.2.2.2.2.2.2.2.2.2.2.2.2.2.2.2.2.2.2.2.2.2.2.2.2.2.2.2.2.2.2.2.2.2.2.2.2.2.2.2.2.2.2.2.2.2.2.2.2.2.2.2.2
theorem ex : ∃ c : T, P c → ∀ v, P v := ex_all ⟨((Classical.choice neW), {}, (0 : Nat), (fun _ => none), default, [], (fun _ => none), (fun _ => none), (fun _ => none), {}, (fun _ _ => False), (0 : Nat), (0 : Nat), (0 : Nat), (0 : Nat), (0 : Nat), (0 : Nat), (0 : Nat), .none, default, default, default, default, default, default, none, none, 0, 0, 0, 0, 0, 0, 0, 0, (0 : Nat), (0 : Nat), (0 : Nat), (0 : Nat), 0, (0 : Nat), (0 : Nat), (0 : Nat), (0 : Nat), 0, 0, (0 : Nat), (0 : Nat), 0, 0, 0, (0 : Nat), (0 : Nat), (0 : Nat), default, #[], (0 : Nat), [], [], (fun _ _ => False))⟩
@[irreducible] noncomputable def cT : T := Classical.choose ex
theorem cS : P cT → ∀ v, P v := by
  unfold cT
  exact Classical.choose_spec ex
noncomputable abbrev p : Program := cT.2.2.2.2.1
noncomputable abbrev n0 : Nat := cT.2.2.2.2.2.2.2.2.2.2.2.2.2.2.2.2.2.2.2.2.2.2.2.2.2.2.2.1
noncomputable abbrev n1 : Nat := cT.2.2.2.2.2.2.2.2.2.2.2.2.2.2.2.2.2.2.2.2.2.2.2.2.2.2.2.2.1
noncomputable abbrev n2 : Nat := cT.2.2.2.2.2.2.2.2.2.2.2.2.2.2.2.2.2.2.2.2.2.2.2.2.2.2.2.2.2.1
noncomputable abbrev n3 : Nat := cT.2.2.2.2.2.2.2.2.2.2.2.2.2.2.2.2.2.2.2.2.2.2.2.2.2.2.2.2.2.2.1
noncomputable abbrev w0 : Int := cT.2.2.2.2.2.2.2.2.2.2.2.2.2.2.2.2.2.2.2.2.2.2.2.2.2.2.2.2.2.2.2.1
noncomputable abbrev w1 : Int := cT.2.2.2.2.2.2.2.2.2.2.2.2.2.2.2.2.2.2.2.2.2.2.2.2.2.2.2.2.2.2.2.2.1
noncomputable abbrev w2 : Int := cT.2.2.2.2.2.2.2.2.2.2.2.2.2.2.2.2.2.2.2.2.2.2.2.2.2.2.2.2.2.2.2.2.2.1
noncomputable abbrev w3 : Int := cT.2.2.2.2.2.2.2.2.2.2.2.2.2.2.2.2.2.2.2.2.2.2.2.2.2.2.2.2.2.2.2.2.2.2.1
set_option maxRecDepth 100000 in
set_option maxHeartbeats 0 in
theorem main : P0 cT.1 cT.2.1 cT.2.2.1 cT.2.2.2.1 p cT.2.2.2.2.2.1 cT.2.2.2.2.2.2.1 cT.2.2.2.2.2.2.2.1 cT.2.2.2.2.2.2.2.2.1 cT.2.2.2.2.2.2.2.2.2.1 cT.2.2.2.2.2.2.2.2.2.2.1 cT.2.2.2.2.2.2.2.2.2.2.2.1 cT.2.2.2.2.2.2.2.2.2.2.2.2.1 cT.2.2.2.2.2.2.2.2.2.2.2.2.2.1 cT.2.2.2.2.2.2.2.2.2.2.2.2.2.2.1 cT.2.2.2.2.2.2.2.2.2.2.2.2.2.2.2.1 cT.2.2.2.2.2.2.2.2.2.2.2.2.2.2.2.2.1 cT.2.2.2.2.2.2.2.2.2.2.2.2.2.2.2.2.2.1 cT.2.2.2.2.2.2.2.2.2.2.2.2.2.2.2.2.2.2.1 cT.2.2.2.2.2.2.2.2.2.2.2.2.2.2.2.2.2.2.2.1 cT.2.2.2.2.2.2.2.2.2.2.2.2.2.2.2.2.2.2.2.2.1 cT.2.2.2.2.2.2.2.2.2.2.2.2.2.2.2.2.2.2.2.2.2.1 cT.2.2.2.2.2.2.2.2.2.2.2.2.2.2.2.2.2.2.2.2.2.2.1 cT.2.2.2.2.2.2.2.2.2.2.2.2.2.2.2.2.2.2.2.2.2.2.2.1 cT.2.2.2.2.2.2.2.2.2.2.2.2.2.2.2.2.2.2.2.2.2.2.2.2.1 cT.2.2.2.2.2.2.2.2.2.2.2.2.2.2.2.2.2.2.2.2.2.2.2.2.2.1 cT.2.2.2.2.2.2.2.2.2.2.2.2.2.2.2.2.2.2.2.2.2.2.2.2.2.2.1 n0 n1 n2 n3 w0 w1 w2 w3 cT.2.2.2.2.2.2.2.2.2.2.2.2.2.2.2.2.2.2.2.2.2.2.2.2.2.2.2.2.2.2.2.2.2.2.2.1 cT.2.2.2.2.2.2.2.2.2.2.2.2.2.2.2.2.2.2.2.2.2.2.2.2.2.2.2.2.2.2.2.2.2.2.2.2.1 cT.2.2.2.2.2.2.2.2.2.2.2.2.2.2.2.2.2.2.2.2.2.2.2.2.2.2.2.2.2.2.2.2.2.2.2.2.2.1 cT.2.2.2.2.2.2.2.2.2.2.2.2.2.2.2.2.2.2.2.2.2.2.2.2.2.2.2.2.2.2.2.2.2.2.2.2.2.2.1 cT.2.2.2.2.2.2.2.2.2.2.2.2.2.2.2.2.2.2.2.2.2.2.2.2.2.2.2.2.2.2.2.2.2.2.2.2.2.2.2.1 cT.2.2.2.2.2.2.2.2.2.2.2.2.2.2.2.2.2.2.2.2.2.2.2.2.2.2.2.2.2.2.2.2.2.2.2.2.2.2.2.2.1 cT.2.2.2.2.2.2.2.2.2.2.2.2.2.2.2.2.2.2.2.2.2.2.2.2.2.2.2.2.2.2.2.2.2.2.2.2.2.2.2.2.2.1 cT.2.2.2.2.2.2.2.2.2.2.2.2.2.2.2.2.2.2.2.2.2.2.2.2.2.2.2.2.2.2.2.2.2.2.2.2.2.2.2.2.2.2.1 cT.2.2.2.2.2.2.2.2.2.2.2.2.2.2.2.2.2.2.2.2.2.2.2.2.2.2.2.2.2.2.2.2.2.2.2.2.2.2.2.2.2.2.2.1 cT.2.2.2.2.2.2.2.2.2.2.2.2.2.2.2.2.2.2.2.2.2.2.2.2.2.2.2.2.2.2.2.2.2.2.2.2.2.2.2.2.2.2.2.2.1 cT.2.2.2.2.2.2.2.2.2.2.2.2.2.2.2.2.2.2.2.2.2.2.2.2.2.2.2.2.2.2.2.2.2.2.2.2.2.2.2.2.2.2.2.2.2.1 cT.2.2.2.2.2.2.2.2.2.2.2.2.2.2.2.2.2.2.2.2.2.2.2.2.2.2.2.2.2.2.2.2.2.2.2.2.2.2.2.2.2.2.2.2.2.2.1 cT.2.2.2.2.2.2.2.2.2.2.2.2.2.2.2.2.2.2.2.2.2.2.2.2.2.2.2.2.2.2.2.2.2.2.2.2.2.2.2.2.2.2.2.2.2.2.2.1 cT.2.2.2.2.2.2.2.2.2.2.2.2.2.2.2.2.2.2.2.2.2.2.2.2.2.2.2.2.2.2.2.2.2.2.2.2.2.2.2.2.2.2.2.2.2.2.2.2.1 cT.2.2.2.2.2.2.2.2.2.2.2.2.2.2.2.2.2.2.2.2.2.2.2.2.2.2.2.2.2.2.2.2.2.2.2.2.2.2.2.2.2.2.2.2.2.2.2.2.2.1 cT.2.2.2.2.2.2.2.2.2.2.2.2.2.2.2.2.2.2.2.2.2.2.2.2.2.2.2.2.2.2.2.2.2.2.2.2.2.2.2.2.2.2.2.2.2.2.2.2.2.2.1 cT.2.2.2.2.2.2.2.2.2.2.2.2.2.2.2.2.2.2.2.2.2.2.2.2.2.2.2.2.2.2.2.2.2.2.2.2.2.2.2.2.2.2.2.2.2.2.2.2.2.2.2.1 cT.2.2.2.2.2.2.2.2.2.2.2.2.2.2.2.2.2.2.2.2.2.2.2.2.2.2.2.2.2.2.2.2.2.2.2.2.2.2.2.2.2.2.2.2.2.2.2.2.2.2.2.2.1 cT.2.2.2.2.2.2.2.2.2.2.2.2.2.2.2.2.2.2.2.2.2.2.2.2.2.2.2.2.2.2.2.2.2.2.2.2.2.2.2.2.2.2.2.2.2.2.2.2.2.2.2.2.2.1 cT.2.2.2.2.2.2.2.2.2.2.2.2.2.2.2.2.2.2.2.2.2.2.2.2.2.2.2.2.2.2.2.2.2.2.2.2.2.2.2.2.2.2.2.2.2.2.2.2.2.2.2.2.2.2.1 cT.2.2.2.2.2.2.2.2.2.2.2.2.2.2.2.2.2.2.2.2.2.2.2.2.2.2.2.2.2.2.2.2.2.2.2.2.2.2.2.2.2.2.2.2.2.2.2.2.2.2.2.2.2.2.2.1 cT.2.2.2.2.2.2.2.2.2.2.2.2.2.2.2.2.2.2.2.2.2.2.2.2.2.2.2.2.2.2.2.2.2.2.2.2.2.2.2.2.2.2.2.2.2.2.2.2.2.2.2.2.2.2.2.2.1 cT.2.2.2.2.2.2.2.2.2.2.2.2.2.2.2.2.2.2.2.2.2.2.2.2.2.2.2.2.2.2.2.2.2.2.2.2.2.2.2.2.2.2.2.2.2.2.2.2.2.2.2.2.2.2.2.2.2.1 cT.2.2.2.2.2.2.2.2.2.2.2.2.2.2.2.2.2.2.2.2.2.2.2.2.2.2.2.2.2.2.2.2.2.2.2.2.2.2.2.2.2.2.2.2.2.2.2.2.2.2.2.2.2.2.2.2.2.2.1 cT.2.2.2.2.2.2.2.2.2.2.2.2.2.2.2.2.2.2.2.2.2.2.2.2.2.2.2.2.2.2.2.2.2.2.2.2.2.2.2.2.2.2.2.2.2.2.2.2.2.2.2.2.2.2.2.2.2.2.2 := by
  unfold P0
  intro sc bd hsc hbd K' X' T' C1 C2 l0 hE F N e3 e4 e5 e6 e7 e8 offD2 offcA offD3 offD4 offD5 offD7 hn0 hn1 hn2 hn3 hw0 hw1 hw2 hw3 hpl hst0 hst1 edA evA hSz hWd0 hWd1 hWd2 hBs hI5 hI7 fin
  have hsc0 := hsc
  have hbd0 := hbd
  conv at hsc => lhs; whnf
  conv at hbd => lhs; whnf
  subst hsc hbd
  have hSb := sums_bits (n0 := n0) (n1 := n1) (n2 := n2) (n3 := n3) hw0 hw1 hw2 hw3
  obtain ⟨SL, hSL⟩ : ∃ l, ((rangeKs 0 16).map (sumAt [(n0 : Int), n1, n2, n3] [w0, w1, w2, w3])) = l := ⟨_, rfl⟩
  obtain ⟨OL, hOL⟩ : ∃ l, ((rangeKs 0 16).map (fun k => shared k 15)) = l := ⟨_, rfl⟩
  rw [hSL] at hI5 hSb
  rw [hOL] at hI7
  have lSL : SL.length = 16 := by rw [← hSL, List.length_map, rangeKs_length]
  have lOL : OL.length = 16 := by rw [← hOL, List.length_map, rangeKs_length]
  k_steps
  k_dflt (refine' ListComp_X ?F0 ?a1 ?a2 ?a3 ?a4 ?a5 ?a6 ?_ ?a7; (case F0 => k_asm); (case a1 => exact rfl); (case a2 => (intro _; exact rfl)); (case a3 => (intro _; exact rfl)); (case a4 => exact rfl); (case a5 => decide); (case a6 => (intro _ _; exact rfl)); (case a7 => (intro _; exact rfl)))
  k_steps
  refine ⟨5, fun k y => ∃ t, y = .int (sqL SL OL k) t, _, _, _, _, _, rfl, rfl, by k_asm, by k_asm, by assumption, by decide, by rfl, by decide, ?_, ?_⟩
  · intro k t' I oI C oC Kc oK D ys h tk E' hk0 hk1 dK F2 N2 ofI ofC ofK ofD
    have hmark := MarkS.mk 4
    k_steps
    refine Hold.out ?_
    refine LCt.CompSrcT.range (n := 16) (by rfl) (by k_asm) (by k_asm) (by assumption) (by decide) (by rfl) (by decide) ?_
    intro gg7
    refine compT_range (fun p y => ∃ t, y = .int (SL.getD p.toNat 0 ^ (2 : Int).toNat) t) (fun p => decide (OL.getD p.toNat 0 = k)) ?_ ?_
    · intro j t I2 oI2 C2 oC2 D9 m2 ys2 h2 tk2 E2 hj0 hj4 hC hx2 F3 N3 off ne
      replace hj4 : j < 16 := hj4
      dsimp only at F3 N3 ⊢
      have off0 := Hold.out off
      k_steps
      all_goals first
        | exact ⟨rfl, decide_eq_true (by assumption), _, rfl⟩
        | exact ⟨rfl, decide_eq_false (by assumption)⟩
        | exact LCg.CompEnd.intro (by k_asm) (by k_asm) _ (fun _ hp => hp) off0 trivial ⟨rfl, decide_eq_true (by assumption), _, rfl⟩
        | exact LCg.CompEnd.intro (by k_asm) (by k_asm) _ (fun _ hp => hp) off0 trivial ⟨rfl, decide_eq_false (by assumption)⟩
    intro ys2 hys2
    have hI9 := rel_ints hys2
    clear hys2
    k_steps
    exact XEnd.intro (by k_asm) (by k_asm) (fun _ hp => by simp only [List.mem_cons] at hp ⊢; simp only [hp, or_true, true_or]) ⟨_, rfl⟩
  intro ys D h tk hys F2 N2 of5
  have hI8 := rel_ints hys
  clear hys
  subst hSL hOL
  have hmark5 := MarkS.mk 5
  k_steps
  refine Hold.out ?_
  k_dflt (refine' law_t6 ?hsc ?hbd K' X' T' C1 C2 l0 ?hE ?F ?N ?e3 ?e4 ?e7 ?e8 ?offD2 ?offcA ?offD3 ?offD4 ?offD8 hn0 hn1 hn2 hn3 hw0 hw1 hw2 hw3 hpl hst0 hst1 edA evA hSz hWd0 hWd1 hWd2 hBs hI5 hI7 hI8 ?fin; (case hE => exact hE); (case hsc => exact hsc0); (case hbd => exact drop_more 1 hbd0); (case F => k_asm); (case N => (first | k_asm | (refine news_sub (by k_asm) ?_; (repeat' (first | exact List.forall_mem_nil _ | refine List.forall_mem_cons.mpr ⟨?_, ?_⟩)); all_goals (repeat first | exact List.Mem.head _ | refine List.Mem.tail _ ?_)))); (case e3 => assumption); (case e4 => assumption); (case e7 => assumption); (case e8 => assumption); (case offD2 => ((repeat' (first | exact trivial | refine And.intro ?_ ?_)); all_goals (first | k_ne | fail "k_ne"))); (case offcA => ((repeat' (first | exact trivial | refine And.intro ?_ ?_)); all_goals (first | k_ne | fail "k_ne"))); (case offD3 => ((repeat' (first | exact trivial | refine And.intro ?_ ?_)); all_goals (first | k_ne | fail "k_ne"))); (case offD4 => ((repeat' (first | exact trivial | refine And.intro ?_ ?_)); all_goals (first | k_ne | fail "k_ne"))); (case offD8 => ((repeat' (first | exact trivial | refine And.intro ?_ ?_)); all_goals (first | k_ne | fail "k_ne"))))
  case fin => exact fin
end X_law_t5
theorem law_t5 {w : World} {h₀ : Heap} {L : Addr} {m : Str → Option Value} {p : Program} {loose : List Str} {mean : ExcName → Option Value} {mg : Str → Option Value} {mb : Str → Option Value} {s : Shared} {E : Value → Shared → Prop} {fa : Addr} {D2 : Addr} {cA : Addr} {D3 : Addr} {D4 : Addr} {D5 : Addr} {D7 : Addr} {cd : Value} {c3 : Obj} {c4 : Obj} {c5 : Obj} {c6 : Obj} {c7 : Obj} {c8 : Obj} {x7 : Option Value} {x8 : Option Value} {n0 : Nat} {n1 : Nat} {n2 : Nat} {n3 : Nat} {w0 : Int} {w1 : Int} {w2 : Int} {w3 : Int} {v0 : Tok} {v1 : Tok} {v2 : Tok} {v3 : Tok} {pl : Int} {tw0 : Tok} {tw1 : Tok} {tw2 : Tok} {tw3 : Tok} {st0 : Nat} {st1 : Nat} {q0 : Tok} {q1 : Tok} {Sz : Int} {Wd : Int} {Bs : Int} {tB : Tok} {tW : Tok} {tS : Tok} {ocA : Obj} {cvA : Array Value} {tcA : Tok} {ss : List Value} {os : List Value} {Qf : Flow → Shared → Prop} {sc : Scope} {bd : List Stmt} (hsc : fnScope lawS = sc) (hbd : (fnBody lawS).drop 11 = bd) (K' : Below callerA h₀ [] h₀) (X' : (kk w.params).In h₀) (T' : Top p loose mean mg mb h₀) (C1 : CodeHd h₀ 41 37) (C2 : CodeHd h₀ 34 30) (l0 : @LT.lt Nat _ 37 L ∧ @LT.lt Nat _ 30 L) (hE : PassesOwn (model PySem.Challenge.rw_tc0016_01.row.prog w) (callerA.deeper (envOfC "law" sc L fa cd)) (envOfC "law" sc L fa cd) E) (F : Fr h₀ L s.heap (fun y => if y = "width" then some (.int Wd tW) else if y = "size" then some (.int Sz tS) else if y = "strange" then some (.ref D4) else if y = "words" then some (.ref D3) else m y)) (N : News h₀ L s.heap [(D7, LCg.lst os), (D5, LCg.lst ss), (D4, LCg.lst [.str ⟨#[st0]⟩ q0, .str ⟨#[st1]⟩ q1]), (D3, LCg.lst [.str (word n0 pl) tw0, .str (word n1 pl) tw1, .str (word n2 pl) tw2, .str (word n3 pl) tw3]), (30, hitA cA), (cA, ocA), (37, tabObj #[]), (L + 1 + 1 + 1, c3), (L + 1 + 1 + 1 + 1, c4), (L + 1 + 1 + 1 + 1 + 1, c5), (L + 1 + 1 + 1 + 1 + 1 + 1, c6), (L + 1 + 1 + 1 + 1 + 1 + 1 + 1, c7), (L + 1 + 1 + 1 + 1 + 1 + 1 + 1 + 1, c8), (D2, LCg.lst [.int w0 v0, .int w1 v1, .int w2 v2, .int w3 v3])]) (e3 : c3.data = .cell (some (.ref D2))) (e4 : c4.data = .cell (some (.int Bs tB))) (e5 : c5.data = .cell (some (.ref D5))) (e6 : c6.data = .cell (some (.ref D7))) (e7 : c7.data = .cell x7) (e8 : c8.data = .cell x8) (offD2 : LCg.Off1 D2 [(30, hitA cA), (37, tabObj #[]), (L + 1 + 1 + 1, c3), (L + 1 + 1 + 1 + 1, c4), (L + 1 + 1 + 1 + 1 + 1, c5), (L + 1 + 1 + 1 + 1 + 1 + 1, c6), (L + 1 + 1 + 1 + 1 + 1 + 1 + 1, c7), (L + 1 + 1 + 1 + 1 + 1 + 1 + 1 + 1, c8)]) (offcA : LCg.Off1 cA [(D2, LCg.lst [.int w0 v0, .int w1 v1, .int w2 v2, .int w3 v3]), (30, hitA cA), (37, tabObj #[]), (L + 1 + 1 + 1, c3), (L + 1 + 1 + 1 + 1, c4), (L + 1 + 1 + 1 + 1 + 1, c5), (L + 1 + 1 + 1 + 1 + 1 + 1, c6), (L + 1 + 1 + 1 + 1 + 1 + 1 + 1, c7), (L + 1 + 1 + 1 + 1 + 1 + 1 + 1 + 1, c8)]) (offD3 : LCg.Off1 D3 [(D2, LCg.lst [.int w0 v0, .int w1 v1, .int w2 v2, .int w3 v3]), (cA, ocA), (30, hitA cA), (37, tabObj #[]), (L + 1 + 1 + 1, c3), (L + 1 + 1 + 1 + 1, c4), (L + 1 + 1 + 1 + 1 + 1, c5), (L + 1 + 1 + 1 + 1 + 1 + 1, c6), (L + 1 + 1 + 1 + 1 + 1 + 1 + 1, c7), (L + 1 + 1 + 1 + 1 + 1 + 1 + 1 + 1, c8)]) (offD4 : LCg.Off1 D4 [(D2, LCg.lst [.int w0 v0, .int w1 v1, .int w2 v2, .int w3 v3]), (cA, ocA), (D3, LCg.lst [.str (word n0 pl) tw0, .str (word n1 pl) tw1, .str (word n2 pl) tw2, .str (word n3 pl) tw3]), (30, hitA cA), (37, tabObj #[]), (L + 1 + 1 + 1, c3), (L + 1 + 1 + 1 + 1, c4), (L + 1 + 1 + 1 + 1 + 1, c5), (L + 1 + 1 + 1 + 1 + 1 + 1, c6), (L + 1 + 1 + 1 + 1 + 1 + 1 + 1, c7), (L + 1 + 1 + 1 + 1 + 1 + 1 + 1 + 1, c8)]) (offD5 : LCg.Off1 D5 [(D2, LCg.lst [.int w0 v0, .int w1 v1, .int w2 v2, .int w3 v3]), (cA, ocA), (D3, LCg.lst [.str (word n0 pl) tw0, .str (word n1 pl) tw1, .str (word n2 pl) tw2, .str (word n3 pl) tw3]), (D4, LCg.lst [.str ⟨#[st0]⟩ q0, .str ⟨#[st1]⟩ q1]), (30, hitA cA), (37, tabObj #[]), (L + 1 + 1 + 1, c3), (L + 1 + 1 + 1 + 1, c4), (L + 1 + 1 + 1 + 1 + 1, c5), (L + 1 + 1 + 1 + 1 + 1 + 1, c6), (L + 1 + 1 + 1 + 1 + 1 + 1 + 1, c7), (L + 1 + 1 + 1 + 1 + 1 + 1 + 1 + 1, c8)]) (offD7 : LCg.Off1 D7 [(D2, LCg.lst [.int w0 v0, .int w1 v1, .int w2 v2, .int w3 v3]), (cA, ocA), (D3, LCg.lst [.str (word n0 pl) tw0, .str (word n1 pl) tw1, .str (word n2 pl) tw2, .str (word n3 pl) tw3]), (D4, LCg.lst [.str ⟨#[st0]⟩ q0, .str ⟨#[st1]⟩ q1]), (D5, LCg.lst ss), (30, hitA cA), (37, tabObj #[]), (L + 1 + 1 + 1, c3), (L + 1 + 1 + 1 + 1, c4), (L + 1 + 1 + 1 + 1 + 1, c5), (L + 1 + 1 + 1 + 1 + 1 + 1, c6), (L + 1 + 1 + 1 + 1 + 1 + 1 + 1, c7), (L + 1 + 1 + 1 + 1 + 1 + 1 + 1 + 1, c8)]) (hn0 : n0 < 16) (hn1 : n1 < 16) (hn2 : n2 < 16) (hn3 : n3 < 16) (hw0 : -1000000000 ≤ w0 ∧ w0 ≤ 1000000000) (hw1 : -1000000000 ≤ w1 ∧ w1 ≤ 1000000000) (hw2 : -1000000000 ≤ w2 ∧ w2 ≤ 1000000000) (hw3 : -1000000000 ≤ w3 ∧ w3 ≤ 1000000000) (hpl : 0 ≤ pl ∧ pl < 23) (hst0 : st0 = (97 + (pl + 4 + 0).fmod 26).toNat) (hst1 : st1 = (97 + (pl + 4 + 1).fmod 26).toNat) (edA : ocA.data = .fields cvA) (evA : cvA[1]? = some (.str quA tcA)) (hSz : ((w0.natAbs + w1.natAbs + w2.natAbs + w3.natAbs : Nat) : Int) = Sz) (hWd0 : 0 < Wd) (hWd1 : Wd ≤ 72) (hWd2 : 2 * (6 * Sz * Sz) < 2 ^ Wd.toNat) (hBs : (2 : Int) ^ Wd.toNat = Bs) (hI5 : IntsAre ss ((rangeKs 0 16).map (sumAt [(n0 : Int), n1, n2, n3] [w0, w1, w2, w3]))) (hI7 : IntsAre os ((rangeKs 0 16).map (fun k => shared k 15))) (fin : ∀ m' h' tk' cA cB rest, Fr h₀ L h' m' → News h₀ L h' ((30, hitA cA) :: (37, hitB cB) :: rest) → Qf (.ret (.bool true)) { s with heap := h', toks := tk' }) :
   wpAny (model PySem.Challenge.rw_tc0016_01.row.prog w) (callerA.deeper (envOfC "law" sc L fa cd)) (execs bd (envOfC "law" sc L fa cd)) Qf E s :=
  X_law_t5.cS X_law_t5.main (w, h₀, L, m, p, loose, mean, mg, mb, s, E, fa, D2, cA, D3, D4, D5, D7, cd, c3, c4, c5, c6, c7, c8, x7, x8, n0, n1, n2, n3, w0, w1, w2, w3, v0, v1, v2, v3, pl, tw0, tw1, tw2, tw3, st0, st1, q0, q1, Sz, Wd, Bs, tB, tW, tS, ocA, cvA, tcA, ss, os, Qf) sc bd hsc hbd K' X' T' C1 C2 l0 hE F N e3 e4 e5 e6 e7 e8 offD2 offcA offD3 offD4 offD5 offD7 hn0 hn1 hn2 hn3 hw0 hw1 hw2 hw3 hpl hst0 hst1 edA evA hSz hWd0 hWd1 hWd2 hBs hI5 hI7 fin

-- lawt4
namespace X_law_t4
noncomputable def P0 (w : World) (h₀ : Heap) (L : Addr) (m : Str → Option Value) (p : Program) (loose : List Str) (mean : ExcName → Option Value) (mg : Str → Option Value) (mb : Str → Option Value) (s : Shared) (E : Value → Shared → Prop) (fa : Addr) (D1 : Addr) (D2 : Addr) (cA : Addr) (D3 : Addr) (D4 : Addr) (D5 : Addr) (cd : Value) (c2 : Obj) (c3 : Obj) (c4 : Obj) (c5 : Obj) (c6 : Obj) (c7 : Obj) (c8 : Obj) (x6 : Option Value) (x7 : Option Value) (x8 : Option Value) (n0 : Nat) (n1 : Nat) (n2 : Nat) (n3 : Nat) (u0 : Tok) (u1 : Tok) (u2 : Tok) (u3 : Tok) (w0 : Int) (w1 : Int) (w2 : Int) (w3 : Int) (v0 : Tok) (v1 : Tok) (v2 : Tok) (v3 : Tok) (pl : Int) (tw0 : Tok) (tw1 : Tok) (tw2 : Tok) (tw3 : Tok) (st0 : Nat) (st1 : Nat) (q0 : Tok) (q1 : Tok) (Sz : Int) (Wd : Int) (Bs : Int) (tB : Tok) (tW : Tok) (tS : Tok) (ocA : Obj) (cvA : Array Value) (tcA : Tok) (ss : List Value) (Qf : Flow → Shared → Prop) : Prop := ∀ (sc : Scope) (bd : List Stmt) (hsc : fnScope lawS = sc) (hbd : (fnBody lawS).drop 9 = bd) (K' : Below callerA h₀ [] h₀) (X' : (kk w.params).In h₀) (T' : Top p loose mean mg mb h₀) (C1 : CodeHd h₀ 41 37) (C2 : CodeHd h₀ 34 30) (l0 : @LT.lt Nat _ 37 L ∧ @LT.lt Nat _ 30 L) (hE : PassesOwn (model PySem.Challenge.rw_tc0016_01.row.prog w) (callerA.deeper (envOfC "law" sc L fa cd)) (envOfC "law" sc L fa cd) E) (F : Fr h₀ L s.heap (fun y => if y = "width" then some (.int Wd tW) else if y = "size" then some (.int Sz tS) else if y = "strange" then some (.ref D4) else if y = "words" then some (.ref D3) else m y)) (N : News h₀ L s.heap [(D5, LCg.lst ss), (D4, LCg.lst [.str ⟨#[st0]⟩ q0, .str ⟨#[st1]⟩ q1]), (D3, LCg.lst [.str (word n0 pl) tw0, .str (word n1 pl) tw1, .str (word n2 pl) tw2, .str (word n3 pl) tw3]), (30, hitA cA), (cA, ocA), (37, tabObj #[]), (L + 1 + 1, c2), (L + 1 + 1 + 1, c3), (L + 1 + 1 + 1 + 1, c4), (L + 1 + 1 + 1 + 1 + 1, c5), (L + 1 + 1 + 1 + 1 + 1 + 1, c6), (L + 1 + 1 + 1 + 1 + 1 + 1 + 1, c7), (L + 1 + 1 + 1 + 1 + 1 + 1 + 1 + 1, c8), (D1, LCg.lst [.int n0 u0, .int n1 u1, .int n2 u2, .int n3 u3]), (D2, LCg.lst [.int w0 v0, .int w1 v1, .int w2 v2, .int w3 v3])]) (e2 : c2.data = .cell (some (.ref D1))) (e3 : c3.data = .cell (some (.ref D2))) (e4 : c4.data = .cell (some (.int Bs tB))) (e5 : c5.data = .cell (some (.ref D5))) (e6 : c6.data = .cell x6) (e7 : c7.data = .cell x7) (e8 : c8.data = .cell x8) (offD1 : LCg.Off1 D1 [(30, hitA cA), (37, tabObj #[]), (L + 1 + 1, c2), (L + 1 + 1 + 1, c3), (L + 1 + 1 + 1 + 1, c4), (L + 1 + 1 + 1 + 1 + 1, c5), (L + 1 + 1 + 1 + 1 + 1 + 1, c6), (L + 1 + 1 + 1 + 1 + 1 + 1 + 1, c7), (L + 1 + 1 + 1 + 1 + 1 + 1 + 1 + 1, c8)]) (offD2 : LCg.Off1 D2 [(D1, LCg.lst [.int n0 u0, .int n1 u1, .int n2 u2, .int n3 u3]), (30, hitA cA), (37, tabObj #[]), (L + 1 + 1, c2), (L + 1 + 1 + 1, c3), (L + 1 + 1 + 1 + 1, c4), (L + 1 + 1 + 1 + 1 + 1, c5), (L + 1 + 1 + 1 + 1 + 1 + 1, c6), (L + 1 + 1 + 1 + 1 + 1 + 1 + 1, c7), (L + 1 + 1 + 1 + 1 + 1 + 1 + 1 + 1, c8)]) (offcA : LCg.Off1 cA [(D1, LCg.lst [.int n0 u0, .int n1 u1, .int n2 u2, .int n3 u3]), (D2, LCg.lst [.int w0 v0, .int w1 v1, .int w2 v2, .int w3 v3]), (30, hitA cA), (37, tabObj #[]), (L + 1 + 1, c2), (L + 1 + 1 + 1, c3), (L + 1 + 1 + 1 + 1, c4), (L + 1 + 1 + 1 + 1 + 1, c5), (L + 1 + 1 + 1 + 1 + 1 + 1, c6), (L + 1 + 1 + 1 + 1 + 1 + 1 + 1, c7), (L + 1 + 1 + 1 + 1 + 1 + 1 + 1 + 1, c8)]) (offD3 : LCg.Off1 D3 [(D1, LCg.lst [.int n0 u0, .int n1 u1, .int n2 u2, .int n3 u3]), (D2, LCg.lst [.int w0 v0, .int w1 v1, .int w2 v2, .int w3 v3]), (cA, ocA), (30, hitA cA), (37, tabObj #[]), (L + 1 + 1, c2), (L + 1 + 1 + 1, c3), (L + 1 + 1 + 1 + 1, c4), (L + 1 + 1 + 1 + 1 + 1, c5), (L + 1 + 1 + 1 + 1 + 1 + 1, c6), (L + 1 + 1 + 1 + 1 + 1 + 1 + 1, c7), (L + 1 + 1 + 1 + 1 + 1 + 1 + 1 + 1, c8)]) (offD4 : LCg.Off1 D4 [(D1, LCg.lst [.int n0 u0, .int n1 u1, .int n2 u2, .int n3 u3]), (D2, LCg.lst [.int w0 v0, .int w1 v1, .int w2 v2, .int w3 v3]), (cA, ocA), (D3, LCg.lst [.str (word n0 pl) tw0, .str (word n1 pl) tw1, .str (word n2 pl) tw2, .str (word n3 pl) tw3]), (30, hitA cA), (37, tabObj #[]), (L + 1 + 1, c2), (L + 1 + 1 + 1, c3), (L + 1 + 1 + 1 + 1, c4), (L + 1 + 1 + 1 + 1 + 1, c5), (L + 1 + 1 + 1 + 1 + 1 + 1, c6), (L + 1 + 1 + 1 + 1 + 1 + 1 + 1, c7), (L + 1 + 1 + 1 + 1 + 1 + 1 + 1 + 1, c8)]) (offD5 : LCg.Off1 D5 [(D1, LCg.lst [.int n0 u0, .int n1 u1, .int n2 u2, .int n3 u3]), (D2, LCg.lst [.int w0 v0, .int w1 v1, .int w2 v2, .int w3 v3]), (cA, ocA), (D3, LCg.lst [.str (word n0 pl) tw0, .str (word n1 pl) tw1, .str (word n2 pl) tw2, .str (word n3 pl) tw3]), (D4, LCg.lst [.str ⟨#[st0]⟩ q0, .str ⟨#[st1]⟩ q1]), (30, hitA cA), (37, tabObj #[]), (L + 1 + 1, c2), (L + 1 + 1 + 1, c3), (L + 1 + 1 + 1 + 1, c4), (L + 1 + 1 + 1 + 1 + 1, c5), (L + 1 + 1 + 1 + 1 + 1 + 1, c6), (L + 1 + 1 + 1 + 1 + 1 + 1 + 1, c7), (L + 1 + 1 + 1 + 1 + 1 + 1 + 1 + 1, c8)]) (hn0 : n0 < 16) (hn1 : n1 < 16) (hn2 : n2 < 16) (hn3 : n3 < 16) (hw0 : -1000000000 ≤ w0 ∧ w0 ≤ 1000000000) (hw1 : -1000000000 ≤ w1 ∧ w1 ≤ 1000000000) (hw2 : -1000000000 ≤ w2 ∧ w2 ≤ 1000000000) (hw3 : -1000000000 ≤ w3 ∧ w3 ≤ 1000000000) (hpl : 0 ≤ pl ∧ pl < 23) (hst0 : st0 = (97 + (pl + 4 + 0).fmod 26).toNat) (hst1 : st1 = (97 + (pl + 4 + 1).fmod 26).toNat) (edA : ocA.data = .fields cvA) (evA : cvA[1]? = some (.str quA tcA)) (hSz : ((w0.natAbs + w1.natAbs + w2.natAbs + w3.natAbs : Nat) : Int) = Sz) (hWd0 : 0 < Wd) (hWd1 : Wd ≤ 72) (hWd2 : 2 * (6 * Sz * Sz) < 2 ^ Wd.toNat) (hBs : (2 : Int) ^ Wd.toNat = Bs) (hI5 : IntsAre ss ((rangeKs 0 16).map (sumAt [(n0 : Int), n1, n2, n3] [w0, w1, w2, w3]))) (fin : ∀ m' h' tk' cA cB rest, Fr h₀ L h' m' → News h₀ L h' ((30, hitA cA) :: (37, hitB cB) :: rest) → Qf (.ret (.bool true)) { s with heap := h', toks := tk' }),
   wpAny (model PySem.Challenge.rw_tc0016_01.row.prog w) (callerA.deeper (envOfC "law" sc L fa cd)) (execs bd (envOfC "law" sc L fa cd)) Qf E s
abbrev T : Type := World × Heap × Addr × (Str → Option Value) × Program × (List Str) × (ExcName → Option Value) × (Str → Option Value) × (Str → Option Value) × Shared × (Value → Shared → Prop) × Addr × Addr × Addr × Addr × Addr × Addr × Addr × Value × Obj × Obj × Obj × Obj × Obj × Obj × Obj × (Option Value) × (Option Value) × (Option Value) × Nat × Nat × Nat × Nat × Tok × Tok × Tok × Tok × Int × Int × Int × Int × Tok × Tok × Tok × Tok × Int × Tok × Tok × Tok × Tok × Nat × Nat × Tok × Tok × Int × Int × Int × Tok × Tok × Tok × Obj × (Array Value) × Tok × (List Value) × (Flow → Shared → Prop)
noncomputable def P (v : T) : Prop := P0 v.1 v.2.1 v.2.2.1 v.2.2.2.1 v.2.2.2.2.1 v.2.2.2.2.2.1 v.2.2.2.2.2.2.1 v.2.2.2.2.2.2.2.1 v.2.2.2.2.2.2.2.2.1 v.2.2.2.2.2.2.2.2.2.1 v.2.2.2.2.2.2.2.2.2.2.1 v.2.2.2.2.2.2.2.2.2.2.2.1 v.2.2.2.2.2.2.2.2.2.2.2.2.1 v.2.2.2.2.2.2.2.2.2.2.2.2.2.1 v.2.2.2.2.2.2.2.2.2.2.2.2.2.2.1 v.2.2.2.2.2.2.2.2.2.2.2.2.2.2.2.1 v.2.2.2.2.2.2.2.2.2.2.2.2.2.2.2.2.1 v.2.2.2.2.2.2.2.2.2.2.2.2.2.2.2.2.2.1 v.2.2.2.2.2.2.2.2.2.2.2.2.2.2.2.2.2.2.1 v.2.2.2.2.2.2.2.2.2.2.2.2.2.2.2.2.2.2.2.1 v.2.2.2.2.2.2.2.2.2.2.2.2.2.2.2.2.2.2.2.2.1 v.2.2.2.2.2.2.2.2.2.2.2.2.2.2.2.2.2.2.2.2.2.1 v.2.2.2.2.2.2.2.2.2.2.2.2.2.2.2.2.2.2.2.2.2.2.1 v.2.2.2.2.2.2.2.2.2.2.2.2.2.2.2.2.2.2.2.2.2.2.2.1 v.2.2.2.2.2.2.2.2.2.2.2.2.2.2.2.2.2.2.2.2.2.2.2.2.1 v.2.2.2.2.2.2.2.2.2.2.2.2.2.2.2.2.2.2.2.2.2.2.2.2.2.1 v.2.2.2.2.2.2.2.2.2.2.2.2.2.2.2.2.2.2.2.2.2.2.2.2.2.2.1 v.2.2.2.2.2.2.2.2.2.2.2.2.2.2.2.2.2.2.2.2.2.2.2.2.2.2.2.1 v.2.2.2.2.2.2.2.2.2.2.2.2.2.2.2.2.2.2.2.2.2.2.2.2.2.2.2.2.1 v.2.2.2.2.2.2.2.2.2.2.2.2.2.2.2.2.2.2.2.2.2.2.2.2.2.2.2.2.2.1 v.2.2.2.2.2.2.2.2.2.2.2.2.2.2.2.2.2.2.2.2.2.2.2.2.2.2.2.2.2.2.1 v.2.2.2.2.2.2.2.2.2.2.2.2.2.2.2.2.2.2.2.2.2.2.2.2.2.2.2.2.2.2.2.1 v.2.2.2.2.2.2.2.2.2.2.2.2.2.2.2.2.2.2.2.2.2.2.2.2.2.2.2.2.2.2.2.2.1 v.2.2.2.2.2.2.2.2.2.2.2.2.2.2.2.2.2.2.2.2.2.2.2.2.2.2.2.2.2.2.2.2.2.1 v.2.2.2.2.2.2.2.2.2.2.2.2.2.2.2.2.2.2.2.2.2.2.2.2.2.2.2.2.2.2.2.2.2.2.1 v.2.2.2.2.2.2.2.2.2.2.2.2.2.2.2.2.2.2.2.2.2.2.2.2.2.2.2.2.2.2.2.2.2.2.2.1 v.2.2.2.2.2.2.2.2.2.2.2.2.2.2.2.2.2.2.2.2.2.2.2.2.2.2.2.2.2.2.2.2.2.2.2.2.1 v.2.2.2.2.2.2.2.2.2.2.2.2.2.2.2.2.2.2.2.2.2.2.2.2.2.2.2.2.2.2.2.2.2.2.2.2.2.1 v.2.2.2.2.2.2.2.2.2.2.2.2.2.2.2.2.2.2.2.2.2.2.2.2.2.2.2.2.2.2.2.2.2.2.2.2.2.2.1 v.2.2.2.2.2.2.2.2.2.2.2.2.2.2.2.2.2.2.2.2.2.2.2.2.2.2.2.2.2.2.2.2.2.2.2.2.2.2.2.1 v.2.2.2.2.2.2.2.2.2.2.2.2.2.2.2.2.2.2.2.2.2.2.2.2.2.2.2.2.2.2.2.2.2.2.2.2.2.2.2.2.1 v.2.2.2.2.2.2.2.2.2.2.2.2.2.2.2.2.2.2.2.2.2.2.2.2.2.2.2.2.2.2.2.2.2.2.2.2.2.2.2.2.2.1 v.2.2.2.2.2.2.2.2.2.2.2.2.2.2.2.2.2.2.2.2.2.2.2.2.2.2.2.2.2.2.2.2.2.2.2.2.2.2.2.2.2.2.1 v.2.2.2.2.2.2.2.2.2.2.2.2.2.2.2.2.2.2.2.2.2.2.2.2.2.2.2.2.2.2.2.2.2.2.2.2.2.2.2.2.2.2.2.1 v.2.2.2.2.2.2.2.2.2.2.2.2.2.2.2.2.2.2.2.2.2.2.2.2.2.2.2.2.2.2.2.2.2.2.2.2.2.2.2.2.2.2.2.2.1 v.2.2.2.2.2.2.2.2.2.2.2.2.2.2.2.2.2.2.2.2.2.2.2.2.2.2.2.2.2.2.2.2.2.2.2.2.2.2.2.2.2.2.2.2.2.1 v.2.2.2.2.2.2.2.2.2.2.2.2.2.2.2.2.2.2.2.2.2.2.2.2.2.2.2.2.2.2.2.2.2.2.2.2.2.2.2.2.2.2.2.2.2.2.1 v.2.2.2.2.2.2.2.2.2.2.2.2.2.2.2.2.2.2.2.2.2.2.2.2.2.2.2.2.2.2.2.2.2.2.2.2.2.2.2.2.2.2.2.2.2.2.2.1 v.2.2.2.2.2.2.2.2.2.2.2.2.2.2.2.2.2.2.2.2.2.2.2.2.2.2.2.2.2.2.2.2.2.2.2.2.2.2.2.2.2.2.2.2.2.2.2.2.1 v.2.2.2.2.2.2.2.2.2.2.2.2.2.2.2.2.2.2.2.2.2.2.2.2.2.2.2.2.2.2.2.2.2.2.2.2.2.2.2.2.2.2.2.2.2.2.2.2.2.1 v.2.2.2.2.2.2.2.2.2.2.2.2.2.2.2.2.2.2.2.2.2.2.2.2.2.2.2.2.2.2.2.2.2.2.2.2.2.2.2.2.2.2.2.2.2.2.2.2.2.2.1 v.2.2.2.2.2.2.2.2.2.2.2.2.2.2.2.2.2.2.2.2.2.2.2.2.2.2.2.2.2.2.2.2.2.2.2.2.2.2.2.2.2.2.2.2.2.2.2.2.2.2.2.1 v.2.2.2.2.2.2.2.2.2.2.2.2.2.2.2.2.2.2.2.2.2.2.2.2.2.2.2.2.2.2.2.2.2.2.2.2.2.2.2.2.2.2.2.2.2.2.2.2.2.2.2.2.1 v.2.2.2.2.2.2.2.2.2.2.2.2.2.2.2.2.2.2.2.2.2.2.2.2.2.2.2.2.2.2.2.2.2.2.2.2.2.2.2.2.2.2.2.2.2.2.2.2.2.2.2.2.2.1 v.2.2.2.2.2.2.2.2.2.2.2.2.2.2.2.2.2.2.2.2.2.2.2.2.2.2.2.2.2.2.2.2.2.2.2.2.2.2.2.2.2.2.2.2.2.2.2.2.2.2.2.2.2.2.1 v.2.2.2.2.2.2.2.2.2.2.2.2.2.2.2.2.2.2.2.2.2.2.2.2.2.2.2.2.2.2.2.2.2.2.2.2.2.2.2.2.2.2.2.2.2.2.2.2.2.2.2.2.2.2.2.1 v.2.2.2.2.2.2.2.2.2.2.2.2.2.2.2.2.2.2.2.2.2.2.2.2.2.2.2.2.2.2.2.2.2.2.2.2.2.2.2.2.2.2.2.2.2.2.2.2.2.2.2.2.2.2.2.2.1 v.2.2.2.2.2.2.2.2.2.2.2.2.2.2.2.2.2.2.2.2.2.2.2.2.2.2.2.2.2.2.2.2.2.2.2.2.2.2.2.2.2.2.2.2.2.2.2.2.2.2.2.2.2.2.2.2.2.1 v.2.2.2.2.2.2.2.2.2.2.2.2.2.2.2.2.2.2.2.2.2.2.2.2.2.2.2.2.2.2.2.2.2.2.2.2.2.2.2.2.2.2.2.2.2.2.2.2.2.2.2.2.2.2.2.2.2.2.1 v.2.2.2.2.2.2.2.2.2.2.2.2.2.2.2.2.2.2.2.2.2.2.2.2.2.2.2.2.2.2.2.2.2.2.2.2.2.2.2.2.2.2.2.2.2.2.2.2.2.2.2.2.2.2.2.2.2.2.2.1 v.2.2.2.2.2.2.2.2.2.2.2.2.2.2.2.2.2.2.2.2.2.2.2.2.2.2.2.2.2.2.2.2.2.2.2.2.2.2.2.2.2.2.2.2.2.2.2.2.2.2.2.2.2.2.2.2.2.2.2.2.1 v.2.2.2.2.2.2.2.2.2.2.2.2.2.2.2.2.2.2.2.2.2.2.2.2.2.2.2.2.2.2.2.2.2.2.2.2.2.2.2.2.2.2.2.2.2.2.2.2.2.2.2.2.2.2.2.2.2.2.2.2.2.1 v.2.2.2.2.2.2.2.2.2.2.2.2.2.2.2.2.2.2.2.2.2.2.2.2.2.2.2.2.2.2.2.2.2.2.2.2.2.2.2.2.2.2.2.2.2.2.2.2.2.2.2.2.2.2.2.2.2.2.2.2.2.2.1 v.2.2.2.2.2.2.2.2.2.2.2.2.2.2.2.2.2.2.2.2.2.2.2.2.2.2.2.2.2.2.2.2.2.2.2.2.2.2.2.2.2.2.2.2.2.2.2.2.2.2.2.2.2.2.2.2.2.2.2.2.2.2.2.1 v.2.2.2.2.2.2.2.2.2.2.2.2.2.2.2.2.2.2.2.2.2.2.2.2.2.2.2.2.2.2.2.2.2.2.2.2.2.2.2.2.2.2.2.2.2.2.2.2.2.2.2.2.2.2.2.2.2.2.2.2.2.2.2.2
theorem ex : ∃ c : T, P c → ∀ v, P v := ex_all ⟨((Classical.choice neW), {}, (0 : Nat), (fun _ => none), default, [], (fun _ => none), (fun _ => none), (fun _ => none), {}, (fun _ _ => False), (0 : Nat), (0 : Nat), (0 : Nat), (0 : Nat), (0 : Nat), (0 : Nat), (0 : Nat), .none, default, default, default, default, default, default, default, none, none, none, 0, 0, 0, 0, (0 : Nat), (0 : Nat), (0 : Nat), (0 : Nat), 0, 0, 0, 0, (0 : Nat), (0 : Nat), (0 : Nat), (0 : Nat), 0, (0 : Nat), (0 : Nat), (0 : Nat), (0 : Nat), 0, 0, (0 : Nat), (0 : Nat), 0, 0, 0, (0 : Nat), (0 : Nat), (0 : Nat), default, #[], (0 : Nat), [], (fun _ _ => False))⟩
@[irreducible] noncomputable def cT : T := Classical.choose ex
theorem cS : P cT → ∀ v, P v := by
  unfold cT
  exact Classical.choose_spec ex
noncomputable abbrev n0 : Nat := cT.2.2.2.2.2.2.2.2.2.2.2.2.2.2.2.2.2.2.2.2.2.2.2.2.2.2.2.2.2.1
noncomputable abbrev n1 : Nat := cT.2.2.2.2.2.2.2.2.2.2.2.2.2.2.2.2.2.2.2.2.2.2.2.2.2.2.2.2.2.2.1
noncomputable abbrev n2 : Nat := cT.2.2.2.2.2.2.2.2.2.2.2.2.2.2.2.2.2.2.2.2.2.2.2.2.2.2.2.2.2.2.2.1
noncomputable abbrev n3 : Nat := cT.2.2.2.2.2.2.2.2.2.2.2.2.2.2.2.2.2.2.2.2.2.2.2.2.2.2.2.2.2.2.2.2.1
noncomputable abbrev u0 : Tok := cT.2.2.2.2.2.2.2.2.2.2.2.2.2.2.2.2.2.2.2.2.2.2.2.2.2.2.2.2.2.2.2.2.2.1
noncomputable abbrev u1 : Tok := cT.2.2.2.2.2.2.2.2.2.2.2.2.2.2.2.2.2.2.2.2.2.2.2.2.2.2.2.2.2.2.2.2.2.2.1
noncomputable abbrev u2 : Tok := cT.2.2.2.2.2.2.2.2.2.2.2.2.2.2.2.2.2.2.2.2.2.2.2.2.2.2.2.2.2.2.2.2.2.2.2.1
noncomputable abbrev u3 : Tok := cT.2.2.2.2.2.2.2.2.2.2.2.2.2.2.2.2.2.2.2.2.2.2.2.2.2.2.2.2.2.2.2.2.2.2.2.2.1
noncomputable abbrev w0 : Int := cT.2.2.2.2.2.2.2.2.2.2.2.2.2.2.2.2.2.2.2.2.2.2.2.2.2.2.2.2.2.2.2.2.2.2.2.2.2.1
noncomputable abbrev w1 : Int := cT.2.2.2.2.2.2.2.2.2.2.2.2.2.2.2.2.2.2.2.2.2.2.2.2.2.2.2.2.2.2.2.2.2.2.2.2.2.2.1
noncomputable abbrev w2 : Int := cT.2.2.2.2.2.2.2.2.2.2.2.2.2.2.2.2.2.2.2.2.2.2.2.2.2.2.2.2.2.2.2.2.2.2.2.2.2.2.2.1
noncomputable abbrev w3 : Int := cT.2.2.2.2.2.2.2.2.2.2.2.2.2.2.2.2.2.2.2.2.2.2.2.2.2.2.2.2.2.2.2.2.2.2.2.2.2.2.2.2.1
noncomputable abbrev v0 : Tok := cT.2.2.2.2.2.2.2.2.2.2.2.2.2.2.2.2.2.2.2.2.2.2.2.2.2.2.2.2.2.2.2.2.2.2.2.2.2.2.2.2.2.1
noncomputable abbrev v1 : Tok := cT.2.2.2.2.2.2.2.2.2.2.2.2.2.2.2.2.2.2.2.2.2.2.2.2.2.2.2.2.2.2.2.2.2.2.2.2.2.2.2.2.2.2.1
noncomputable abbrev v2 : Tok := cT.2.2.2.2.2.2.2.2.2.2.2.2.2.2.2.2.2.2.2.2.2.2.2.2.2.2.2.2.2.2.2.2.2.2.2.2.2.2.2.2.2.2.2.1
noncomputable abbrev v3 : Tok := cT.2.2.2.2.2.2.2.2.2.2.2.2.2.2.2.2.2.2.2.2.2.2.2.2.2.2.2.2.2.2.2.2.2.2.2.2.2.2.2.2.2.2.2.2.1
set_option maxRecDepth 100000 in
set_option maxHeartbeats 0 in
theorem main : P0 cT.1 cT.2.1 cT.2.2.1 cT.2.2.2.1 cT.2.2.2.2.1 cT.2.2.2.2.2.1 cT.2.2.2.2.2.2.1 cT.2.2.2.2.2.2.2.1 cT.2.2.2.2.2.2.2.2.1 cT.2.2.2.2.2.2.2.2.2.1 cT.2.2.2.2.2.2.2.2.2.2.1 cT.2.2.2.2.2.2.2.2.2.2.2.1 cT.2.2.2.2.2.2.2.2.2.2.2.2.1 cT.2.2.2.2.2.2.2.2.2.2.2.2.2.1 cT.2.2.2.2.2.2.2.2.2.2.2.2.2.2.1 cT.2.2.2.2.2.2.2.2.2.2.2.2.2.2.2.1 cT.2.2.2.2.2.2.2.2.2.2.2.2.2.2.2.2.1 cT.2.2.2.2.2.2.2.2.2.2.2.2.2.2.2.2.2.1 cT.2.2.2.2.2.2.2.2.2.2.2.2.2.2.2.2.2.2.1 cT.2.2.2.2.2.2.2.2.2.2.2.2.2.2.2.2.2.2.2.1 cT.2.2.2.2.2.2.2.2.2.2.2.2.2.2.2.2.2.2.2.2.1 cT.2.2.2.2.2.2.2.2.2.2.2.2.2.2.2.2.2.2.2.2.2.1 cT.2.2.2.2.2.2.2.2.2.2.2.2.2.2.2.2.2.2.2.2.2.2.1 cT.2.2.2.2.2.2.2.2.2.2.2.2.2.2.2.2.2.2.2.2.2.2.2.1 cT.2.2.2.2.2.2.2.2.2.2.2.2.2.2.2.2.2.2.2.2.2.2.2.2.1 cT.2.2.2.2.2.2.2.2.2.2.2.2.2.2.2.2.2.2.2.2.2.2.2.2.2.1 cT.2.2.2.2.2.2.2.2.2.2.2.2.2.2.2.2.2.2.2.2.2.2.2.2.2.2.1 cT.2.2.2.2.2.2.2.2.2.2.2.2.2.2.2.2.2.2.2.2.2.2.2.2.2.2.2.1 cT.2.2.2.2.2.2.2.2.2.2.2.2.2.2.2.2.2.2.2.2.2.2.2.2.2.2.2.2.1 n0 n1 n2 n3 u0 u1 u2 u3 w0 w1 w2 w3 v0 v1 v2 v3 cT.2.2.2.2.2.2.2.2.2.2.2.2.2.2.2.2.2.2.2.2.2.2.2.2.2.2.2.2.2.2.2.2.2.2.2.2.2.2.2.2.2.2.2.2.2.1 cT.2.2.2.2.2.2.2.2.2.2.2.2.2.2.2.2.2.2.2.2.2.2.2.2.2.2.2.2.2.2.2.2.2.2.2.2.2.2.2.2.2.2.2.2.2.2.1 cT.2.2.2.2.2.2.2.2.2.2.2.2.2.2.2.2.2.2.2.2.2.2.2.2.2.2.2.2.2.2.2.2.2.2.2.2.2.2.2.2.2.2.2.2.2.2.2.1 cT.2.2.2.2.2.2.2.2.2.2.2.2.2.2.2.2.2.2.2.2.2.2.2.2.2.2.2.2.2.2.2.2.2.2.2.2.2.2.2.2.2.2.2.2.2.2.2.2.1 cT.2.2.2.2.2.2.2.2.2.2.2.2.2.2.2.2.2.2.2.2.2.2.2.2.2.2.2.2.2.2.2.2.2.2.2.2.2.2.2.2.2.2.2.2.2.2.2.2.2.1 cT.2.2.2.2.2.2.2.2.2.2.2.2.2.2.2.2.2.2.2.2.2.2.2.2.2.2.2.2.2.2.2.2.2.2.2.2.2.2.2.2.2.2.2.2.2.2.2.2.2.2.1 cT.2.2.2.2.2.2.2.2.2.2.2.2.2.2.2.2.2.2.2.2.2.2.2.2.2.2.2.2.2.2.2.2.2.2.2.2.2.2.2.2.2.2.2.2.2.2.2.2.2.2.2.1 cT.2.2.2.2.2.2.2.2.2.2.2.2.2.2.2.2.2.2.2.2.2.2.2.2.2.2.2.2.2.2.2.2.2.2.2.2.2.2.2.2.2.2.2.2.2.2.2.2.2.2.2.2.1 cT.2.2.2.2.2.2.2.2.2.2.2.2.2.2.2.2.2.2.2.2.2.2.2.2.2.2.2.2.2.2.2.2.2.2.2.2.2.2.2.2.2.2.2.2.2.2.2.2.2.2.2.2.2.1 cT.2.2.2.2.2.2.2.2.2.2.2.2.2.2.2.2.2.2.2.2.2.2.2.2.2.2.2.2.2.2.2.2.2.2.2.2.2.2.2.2.2.2.2.2.2.2.2.2.2.2.2.2.2.2.1 cT.2.2.2.2.2.2.2.2.2.2.2.2.2.2.2.2.2.2.2.2.2.2.2.2.2.2.2.2.2.2.2.2.2.2.2.2.2.2.2.2.2.2.2.2.2.2.2.2.2.2.2.2.2.2.2.1 cT.2.2.2.2.2.2.2.2.2.2.2.2.2.2.2.2.2.2.2.2.2.2.2.2.2.2.2.2.2.2.2.2.2.2.2.2.2.2.2.2.2.2.2.2.2.2.2.2.2.2.2.2.2.2.2.2.1 cT.2.2.2.2.2.2.2.2.2.2.2.2.2.2.2.2.2.2.2.2.2.2.2.2.2.2.2.2.2.2.2.2.2.2.2.2.2.2.2.2.2.2.2.2.2.2.2.2.2.2.2.2.2.2.2.2.2.1 cT.2.2.2.2.2.2.2.2.2.2.2.2.2.2.2.2.2.2.2.2.2.2.2.2.2.2.2.2.2.2.2.2.2.2.2.2.2.2.2.2.2.2.2.2.2.2.2.2.2.2.2.2.2.2.2.2.2.2.1 cT.2.2.2.2.2.2.2.2.2.2.2.2.2.2.2.2.2.2.2.2.2.2.2.2.2.2.2.2.2.2.2.2.2.2.2.2.2.2.2.2.2.2.2.2.2.2.2.2.2.2.2.2.2.2.2.2.2.2.2.1 cT.2.2.2.2.2.2.2.2.2.2.2.2.2.2.2.2.2.2.2.2.2.2.2.2.2.2.2.2.2.2.2.2.2.2.2.2.2.2.2.2.2.2.2.2.2.2.2.2.2.2.2.2.2.2.2.2.2.2.2.2.1 cT.2.2.2.2.2.2.2.2.2.2.2.2.2.2.2.2.2.2.2.2.2.2.2.2.2.2.2.2.2.2.2.2.2.2.2.2.2.2.2.2.2.2.2.2.2.2.2.2.2.2.2.2.2.2.2.2.2.2.2.2.2.1 cT.2.2.2.2.2.2.2.2.2.2.2.2.2.2.2.2.2.2.2.2.2.2.2.2.2.2.2.2.2.2.2.2.2.2.2.2.2.2.2.2.2.2.2.2.2.2.2.2.2.2.2.2.2.2.2.2.2.2.2.2.2.2.1 cT.2.2.2.2.2.2.2.2.2.2.2.2.2.2.2.2.2.2.2.2.2.2.2.2.2.2.2.2.2.2.2.2.2.2.2.2.2.2.2.2.2.2.2.2.2.2.2.2.2.2.2.2.2.2.2.2.2.2.2.2.2.2.2.1 cT.2.2.2.2.2.2.2.2.2.2.2.2.2.2.2.2.2.2.2.2.2.2.2.2.2.2.2.2.2.2.2.2.2.2.2.2.2.2.2.2.2.2.2.2.2.2.2.2.2.2.2.2.2.2.2.2.2.2.2.2.2.2.2.2 := by
  unfold P0
  intro sc bd hsc hbd K' X' T' C1 C2 l0 hE F N e2 e3 e4 e5 e6 e7 e8 offD1 offD2 offcA offD3 offD4 offD5 hn0 hn1 hn2 hn3 hw0 hw1 hw2 hw3 hpl hst0 hst1 edA evA hSz hWd0 hWd1 hWd2 hBs hI5 fin
  have hsc0 := hsc
  have hbd0 := hbd
  conv at hsc => lhs; whnf
  conv at hbd => lhs; whnf
  subst hsc hbd
  have hNI := ints4 n0 n1 n2 n3 u0 u1 u2 u3
  have hWI := ints4 w0 w1 w2 w3 v0 v1 v2 v3
  k_steps
  refine Hold.out ?_
  k_dflt (refine' c_bfly ?k1 ?k2 ?k3 ?k5 ?kK ?kd ?ku ?kN ?hm hNI rfl ?hm2 hWI rfl (nums_ok hn0 hn1 hn2 hn3) ?_; (case k1 => k_asm); (case k2 => k_asm); (case k3 => k_asm); (case k5 => k_asm); (case kK => exact rfl); (case kd => ktr_room); (case ku => ktr_units); (case kN => k_asm); (case hm => k_mem); (case hm2 => k_mem))
  intro D6 us6 h6 tk6 F6 N6 lt6 I6 len6
  have off6 := off_of_lt lt6
  clear lt6 len6
  rw [bfly_sums hn0 hn1 hn2 hn3] at I6
  have hmark := MarkS.mk 2
  k_steps
  refine Hold.out ?_
  refine LCg.CompSrc.range (n := 16) (by rfl) (by k_asm) (by k_asm) (by assumption) (by decide) (by rfl) (by decide) ?_
  intro gg6
  refine comp_range (fun k y => ∃ t, y = .int (shared k 15) t) ?_ ?_
  · intro k t I oI Ca oC D8 m2 ys h tk E' hk0 hk4 hC hx2 F2 N2 off ne
    dsimp only at F2 N2 ⊢
    have off0 := Hold.out off
    k_steps
    refine Hold.out ?_
    k_dflt (refine' c_shared ?k1 ?k2 ?k3 ?k5 ?kK ?kd ?ku ?kN  ?_; (case k1 => k_asm); (case k2 => k_asm); (case k3 => k_asm); (case k5 => k_asm); (case kK => exact rfl); (case kd => ktr_room); (case ku => ktr_units); (case kN => k_asm))
    intro t3 h3 tk3 F4 N4
    k_steps
    first
      | exact ⟨rfl, _, rfl⟩
      | exact LCg.CompEnd.intro (by k_asm) (by k_asm) _ (fun _ hp => hp) off0 trivial ⟨rfl, _, rfl⟩
  intro ys hys
  have hI7 := rel_ints hys
  clear hys
  have hmark5 := MarkS.mk 5
  k_steps
  refine Hold.out ?_
  k_dflt (refine' law_t5 ?hsc ?hbd K' X' T' C1 C2 l0 ?hE ?F ?N ?e3 ?e4 ?e5 ?e6 ?e7 ?e8 ?offD2 ?offcA ?offD3 ?offD4 ?offD5 ?offD7 hn0 hn1 hn2 hn3 hw0 hw1 hw2 hw3 hpl hst0 hst1 edA evA hSz hWd0 hWd1 hWd2 hBs hI5 hI7 ?fin; (case hE => exact hE); (case hsc => exact hsc0); (case hbd => exact drop_more 2 hbd0); (case F => k_asm); (case N => (first | k_asm | (refine news_sub (by k_asm) ?_; (repeat' (first | exact List.forall_mem_nil _ | refine List.forall_mem_cons.mpr ⟨?_, ?_⟩)); all_goals (repeat first | exact List.Mem.head _ | refine List.Mem.tail _ ?_)))); (case e3 => assumption); (case e4 => assumption); (case e5 => assumption); (case e6 => assumption); (case e7 => assumption); (case e8 => assumption); (case offD2 => ((repeat' (first | exact trivial | refine And.intro ?_ ?_)); all_goals (first | k_ne | fail "k_ne"))); (case offcA => ((repeat' (first | exact trivial | refine And.intro ?_ ?_)); all_goals (first | k_ne | fail "k_ne"))); (case offD3 => ((repeat' (first | exact trivial | refine And.intro ?_ ?_)); all_goals (first | k_ne | fail "k_ne"))); (case offD4 => ((repeat' (first | exact trivial | refine And.intro ?_ ?_)); all_goals (first | k_ne | fail "k_ne"))); (case offD5 => ((repeat' (first | exact trivial | refine And.intro ?_ ?_)); all_goals (first | k_ne | fail "k_ne"))); (case offD7 => ((repeat' (first | exact trivial | refine And.intro ?_ ?_)); all_goals (first | k_ne | fail "k_ne"))))
  case fin => exact fin
end X_law_t4
theorem law_t4 {w : World} {h₀ : Heap} {L : Addr} {m : Str → Option Value} {p : Program} {loose : List Str} {mean : ExcName → Option Value} {mg : Str → Option Value} {mb : Str → Option Value} {s : Shared} {E : Value → Shared → Prop} {fa : Addr} {D1 : Addr} {D2 : Addr} {cA : Addr} {D3 : Addr} {D4 : Addr} {D5 : Addr} {cd : Value} {c2 : Obj} {c3 : Obj} {c4 : Obj} {c5 : Obj} {c6 : Obj} {c7 : Obj} {c8 : Obj} {x6 : Option Value} {x7 : Option Value} {x8 : Option Value} {n0 : Nat} {n1 : Nat} {n2 : Nat} {n3 : Nat} {u0 : Tok} {u1 : Tok} {u2 : Tok} {u3 : Tok} {w0 : Int} {w1 : Int} {w2 : Int} {w3 : Int} {v0 : Tok} {v1 : Tok} {v2 : Tok} {v3 : Tok} {pl : Int} {tw0 : Tok} {tw1 : Tok} {tw2 : Tok} {tw3 : Tok} {st0 : Nat} {st1 : Nat} {q0 : Tok} {q1 : Tok} {Sz : Int} {Wd : Int} {Bs : Int} {tB : Tok} {tW : Tok} {tS : Tok} {ocA : Obj} {cvA : Array Value} {tcA : Tok} {ss : List Value} {Qf : Flow → Shared → Prop} {sc : Scope} {bd : List Stmt} (hsc : fnScope lawS = sc) (hbd : (fnBody lawS).drop 9 = bd) (K' : Below callerA h₀ [] h₀) (X' : (kk w.params).In h₀) (T' : Top p loose mean mg mb h₀) (C1 : CodeHd h₀ 41 37) (C2 : CodeHd h₀ 34 30) (l0 : @LT.lt Nat _ 37 L ∧ @LT.lt Nat _ 30 L) (hE : PassesOwn (model PySem.Challenge.rw_tc0016_01.row.prog w) (callerA.deeper (envOfC "law" sc L fa cd)) (envOfC "law" sc L fa cd) E) (F : Fr h₀ L s.heap (fun y => if y = "width" then some (.int Wd tW) else if y = "size" then some (.int Sz tS) else if y = "strange" then some (.ref D4) else if y = "words" then some (.ref D3) else m y)) (N : News h₀ L s.heap [(D5, LCg.lst ss), (D4, LCg.lst [.str ⟨#[st0]⟩ q0, .str ⟨#[st1]⟩ q1]), (D3, LCg.lst [.str (word n0 pl) tw0, .str (word n1 pl) tw1, .str (word n2 pl) tw2, .str (word n3 pl) tw3]), (30, hitA cA), (cA, ocA), (37, tabObj #[]), (L + 1 + 1, c2), (L + 1 + 1 + 1, c3), (L + 1 + 1 + 1 + 1, c4), (L + 1 + 1 + 1 + 1 + 1, c5), (L + 1 + 1 + 1 + 1 + 1 + 1, c6), (L + 1 + 1 + 1 + 1 + 1 + 1 + 1, c7), (L + 1 + 1 + 1 + 1 + 1 + 1 + 1 + 1, c8), (D1, LCg.lst [.int n0 u0, .int n1 u1, .int n2 u2, .int n3 u3]), (D2, LCg.lst [.int w0 v0, .int w1 v1, .int w2 v2, .int w3 v3])]) (e2 : c2.data = .cell (some (.ref D1))) (e3 : c3.data = .cell (some (.ref D2))) (e4 : c4.data = .cell (some (.int Bs tB))) (e5 : c5.data = .cell (some (.ref D5))) (e6 : c6.data = .cell x6) (e7 : c7.data = .cell x7) (e8 : c8.data = .cell x8) (offD1 : LCg.Off1 D1 [(30, hitA cA), (37, tabObj #[]), (L + 1 + 1, c2), (L + 1 + 1 + 1, c3), (L + 1 + 1 + 1 + 1, c4), (L + 1 + 1 + 1 + 1 + 1, c5), (L + 1 + 1 + 1 + 1 + 1 + 1, c6), (L + 1 + 1 + 1 + 1 + 1 + 1 + 1, c7), (L + 1 + 1 + 1 + 1 + 1 + 1 + 1 + 1, c8)]) (offD2 : LCg.Off1 D2 [(D1, LCg.lst [.int n0 u0, .int n1 u1, .int n2 u2, .int n3 u3]), (30, hitA cA), (37, tabObj #[]), (L + 1 + 1, c2), (L + 1 + 1 + 1, c3), (L + 1 + 1 + 1 + 1, c4), (L + 1 + 1 + 1 + 1 + 1, c5), (L + 1 + 1 + 1 + 1 + 1 + 1, c6), (L + 1 + 1 + 1 + 1 + 1 + 1 + 1, c7), (L + 1 + 1 + 1 + 1 + 1 + 1 + 1 + 1, c8)]) (offcA : LCg.Off1 cA [(D1, LCg.lst [.int n0 u0, .int n1 u1, .int n2 u2, .int n3 u3]), (D2, LCg.lst [.int w0 v0, .int w1 v1, .int w2 v2, .int w3 v3]), (30, hitA cA), (37, tabObj #[]), (L + 1 + 1, c2), (L + 1 + 1 + 1, c3), (L + 1 + 1 + 1 + 1, c4), (L + 1 + 1 + 1 + 1 + 1, c5), (L + 1 + 1 + 1 + 1 + 1 + 1, c6), (L + 1 + 1 + 1 + 1 + 1 + 1 + 1, c7), (L + 1 + 1 + 1 + 1 + 1 + 1 + 1 + 1, c8)]) (offD3 : LCg.Off1 D3 [(D1, LCg.lst [.int n0 u0, .int n1 u1, .int n2 u2, .int n3 u3]), (D2, LCg.lst [.int w0 v0, .int w1 v1, .int w2 v2, .int w3 v3]), (cA, ocA), (30, hitA cA), (37, tabObj #[]), (L + 1 + 1, c2), (L + 1 + 1 + 1, c3), (L + 1 + 1 + 1 + 1, c4), (L + 1 + 1 + 1 + 1 + 1, c5), (L + 1 + 1 + 1 + 1 + 1 + 1, c6), (L + 1 + 1 + 1 + 1 + 1 + 1 + 1, c7), (L + 1 + 1 + 1 + 1 + 1 + 1 + 1 + 1, c8)]) (offD4 : LCg.Off1 D4 [(D1, LCg.lst [.int n0 u0, .int n1 u1, .int n2 u2, .int n3 u3]), (D2, LCg.lst [.int w0 v0, .int w1 v1, .int w2 v2, .int w3 v3]), (cA, ocA), (D3, LCg.lst [.str (word n0 pl) tw0, .str (word n1 pl) tw1, .str (word n2 pl) tw2, .str (word n3 pl) tw3]), (30, hitA cA), (37, tabObj #[]), (L + 1 + 1, c2), (L + 1 + 1 + 1, c3), (L + 1 + 1 + 1 + 1, c4), (L + 1 + 1 + 1 + 1 + 1, c5), (L + 1 + 1 + 1 + 1 + 1 + 1, c6), (L + 1 + 1 + 1 + 1 + 1 + 1 + 1, c7), (L + 1 + 1 + 1 + 1 + 1 + 1 + 1 + 1, c8)]) (offD5 : LCg.Off1 D5 [(D1, LCg.lst [.int n0 u0, .int n1 u1, .int n2 u2, .int n3 u3]), (D2, LCg.lst [.int w0 v0, .int w1 v1, .int w2 v2, .int w3 v3]), (cA, ocA), (D3, LCg.lst [.str (word n0 pl) tw0, .str (word n1 pl) tw1, .str (word n2 pl) tw2, .str (word n3 pl) tw3]), (D4, LCg.lst [.str ⟨#[st0]⟩ q0, .str ⟨#[st1]⟩ q1]), (30, hitA cA), (37, tabObj #[]), (L + 1 + 1, c2), (L + 1 + 1 + 1, c3), (L + 1 + 1 + 1 + 1, c4), (L + 1 + 1 + 1 + 1 + 1, c5), (L + 1 + 1 + 1 + 1 + 1 + 1, c6), (L + 1 + 1 + 1 + 1 + 1 + 1 + 1, c7), (L + 1 + 1 + 1 + 1 + 1 + 1 + 1 + 1, c8)]) (hn0 : n0 < 16) (hn1 : n1 < 16) (hn2 : n2 < 16) (hn3 : n3 < 16) (hw0 : -1000000000 ≤ w0 ∧ w0 ≤ 1000000000) (hw1 : -1000000000 ≤ w1 ∧ w1 ≤ 1000000000) (hw2 : -1000000000 ≤ w2 ∧ w2 ≤ 1000000000) (hw3 : -1000000000 ≤ w3 ∧ w3 ≤ 1000000000) (hpl : 0 ≤ pl ∧ pl < 23) (hst0 : st0 = (97 + (pl + 4 + 0).fmod 26).toNat) (hst1 : st1 = (97 + (pl + 4 + 1).fmod 26).toNat) (edA : ocA.data = .fields cvA) (evA : cvA[1]? = some (.str quA tcA)) (hSz : ((w0.natAbs + w1.natAbs + w2.natAbs + w3.natAbs : Nat) : Int) = Sz) (hWd0 : 0 < Wd) (hWd1 : Wd ≤ 72) (hWd2 : 2 * (6 * Sz * Sz) < 2 ^ Wd.toNat) (hBs : (2 : Int) ^ Wd.toNat = Bs) (hI5 : IntsAre ss ((rangeKs 0 16).map (sumAt [(n0 : Int), n1, n2, n3] [w0, w1, w2, w3]))) (fin : ∀ m' h' tk' cA cB rest, Fr h₀ L h' m' → News h₀ L h' ((30, hitA cA) :: (37, hitB cB) :: rest) → Qf (.ret (.bool true)) { s with heap := h', toks := tk' }) :
   wpAny (model PySem.Challenge.rw_tc0016_01.row.prog w) (callerA.deeper (envOfC "law" sc L fa cd)) (execs bd (envOfC "law" sc L fa cd)) Qf E s :=
  X_law_t4.cS X_law_t4.main (w, h₀, L, m, p, loose, mean, mg, mb, s, E, fa, D1, D2, cA, D3, D4, D5, cd, c2, c3, c4, c5, c6, c7, c8, x6, x7, x8, n0, n1, n2, n3, u0, u1, u2, u3, w0, w1, w2, w3, v0, v1, v2, v3, pl, tw0, tw1, tw2, tw3, st0, st1, q0, q1, Sz, Wd, Bs, tB, tW, tS, ocA, cvA, tcA, ss, Qf) sc bd hsc hbd K' X' T' C1 C2 l0 hE F N e2 e3 e4 e5 e6 e7 e8 offD1 offD2 offcA offD3 offD4 offD5 hn0 hn1 hn2 hn3 hw0 hw1 hw2 hw3 hpl hst0 hst1 edA evA hSz hWd0 hWd1 hWd2 hBs hI5 fin

-- lawt3
namespace X_law_t3
noncomputable def P0 (w : World) (h₀ : Heap) (L : Addr) (m : Str → Option Value) (p : Program) (loose : List Str) (mean : ExcName → Option Value) (mg : Str → Option Value) (mb : Str → Option Value) (s : Shared) (E : Value → Shared → Prop) (fa : Addr) (D1 : Addr) (D2 : Addr) (cA : Addr) (D3 : Addr) (D4 : Addr) (cd : Value) (c2 : Obj) (c3 : Obj) (c4 : Obj) (c5 : Obj) (c6 : Obj) (c7 : Obj) (c8 : Obj) (x5 : Option Value) (x6 : Option Value) (x7 : Option Value) (x8 : Option Value) (n0 : Nat) (n1 : Nat) (n2 : Nat) (n3 : Nat) (u0 : Tok) (u1 : Tok) (u2 : Tok) (u3 : Tok) (w0 : Int) (w1 : Int) (w2 : Int) (w3 : Int) (v0 : Tok) (v1 : Tok) (v2 : Tok) (v3 : Tok) (pl : Int) (tw0 : Tok) (tw1 : Tok) (tw2 : Tok) (tw3 : Tok) (st0 : Nat) (st1 : Nat) (q0 : Tok) (q1 : Tok) (Sz : Int) (Wd : Int) (Bs : Int) (tB : Tok) (tW : Tok) (tS : Tok) (ocA : Obj) (cvA : Array Value) (tcA : Tok) (Qf : Flow → Shared → Prop) : Prop := ∀ (sc : Scope) (bd : List Stmt) (hsc : fnScope lawS = sc) (hbd : (fnBody lawS).drop 8 = bd) (K' : Below callerA h₀ [] h₀) (X' : (kk w.params).In h₀) (T' : Top p loose mean mg mb h₀) (C1 : CodeHd h₀ 41 37) (C2 : CodeHd h₀ 34 30) (l0 : @LT.lt Nat _ 37 L ∧ @LT.lt Nat _ 30 L) (hE : PassesOwn (model PySem.Challenge.rw_tc0016_01.row.prog w) (callerA.deeper (envOfC "law" sc L fa cd)) (envOfC "law" sc L fa cd) E) (F : Fr h₀ L s.heap (fun y => if y = "width" then some (.int Wd tW) else if y = "size" then some (.int Sz tS) else if y = "strange" then some (.ref D4) else if y = "words" then some (.ref D3) else m y)) (N : News h₀ L s.heap [(D4, LCg.lst [.str ⟨#[st0]⟩ q0, .str ⟨#[st1]⟩ q1]), (D3, LCg.lst [.str (word n0 pl) tw0, .str (word n1 pl) tw1, .str (word n2 pl) tw2, .str (word n3 pl) tw3]), (30, hitA cA), (cA, ocA), (37, tabObj #[]), (L + 1 + 1, c2), (L + 1 + 1 + 1, c3), (L + 1 + 1 + 1 + 1, c4), (L + 1 + 1 + 1 + 1 + 1, c5), (L + 1 + 1 + 1 + 1 + 1 + 1, c6), (L + 1 + 1 + 1 + 1 + 1 + 1 + 1, c7), (L + 1 + 1 + 1 + 1 + 1 + 1 + 1 + 1, c8), (D1, LCg.lst [.int n0 u0, .int n1 u1, .int n2 u2, .int n3 u3]), (D2, LCg.lst [.int w0 v0, .int w1 v1, .int w2 v2, .int w3 v3])]) (e2 : c2.data = .cell (some (.ref D1))) (e3 : c3.data = .cell (some (.ref D2))) (e4 : c4.data = .cell (some (.int Bs tB))) (e5 : c5.data = .cell x5) (e6 : c6.data = .cell x6) (e7 : c7.data = .cell x7) (e8 : c8.data = .cell x8) (offD1 : LCg.Off1 D1 [(30, hitA cA), (37, tabObj #[]), (L + 1 + 1, c2), (L + 1 + 1 + 1, c3), (L + 1 + 1 + 1 + 1, c4), (L + 1 + 1 + 1 + 1 + 1, c5), (L + 1 + 1 + 1 + 1 + 1 + 1, c6), (L + 1 + 1 + 1 + 1 + 1 + 1 + 1, c7), (L + 1 + 1 + 1 + 1 + 1 + 1 + 1 + 1, c8)]) (offD2 : LCg.Off1 D2 [(D1, LCg.lst [.int n0 u0, .int n1 u1, .int n2 u2, .int n3 u3]), (30, hitA cA), (37, tabObj #[]), (L + 1 + 1, c2), (L + 1 + 1 + 1, c3), (L + 1 + 1 + 1 + 1, c4), (L + 1 + 1 + 1 + 1 + 1, c5), (L + 1 + 1 + 1 + 1 + 1 + 1, c6), (L + 1 + 1 + 1 + 1 + 1 + 1 + 1, c7), (L + 1 + 1 + 1 + 1 + 1 + 1 + 1 + 1, c8)]) (offcA : LCg.Off1 cA [(D1, LCg.lst [.int n0 u0, .int n1 u1, .int n2 u2, .int n3 u3]), (D2, LCg.lst [.int w0 v0, .int w1 v1, .int w2 v2, .int w3 v3]), (30, hitA cA), (37, tabObj #[]), (L + 1 + 1, c2), (L + 1 + 1 + 1, c3), (L + 1 + 1 + 1 + 1, c4), (L + 1 + 1 + 1 + 1 + 1, c5), (L + 1 + 1 + 1 + 1 + 1 + 1, c6), (L + 1 + 1 + 1 + 1 + 1 + 1 + 1, c7), (L + 1 + 1 + 1 + 1 + 1 + 1 + 1 + 1, c8)]) (offD3 : LCg.Off1 D3 [(D1, LCg.lst [.int n0 u0, .int n1 u1, .int n2 u2, .int n3 u3]), (D2, LCg.lst [.int w0 v0, .int w1 v1, .int w2 v2, .int w3 v3]), (cA, ocA), (30, hitA cA), (37, tabObj #[]), (L + 1 + 1, c2), (L + 1 + 1 + 1, c3), (L + 1 + 1 + 1 + 1, c4), (L + 1 + 1 + 1 + 1 + 1, c5), (L + 1 + 1 + 1 + 1 + 1 + 1, c6), (L + 1 + 1 + 1 + 1 + 1 + 1 + 1, c7), (L + 1 + 1 + 1 + 1 + 1 + 1 + 1 + 1, c8)]) (offD4 : LCg.Off1 D4 [(D1, LCg.lst [.int n0 u0, .int n1 u1, .int n2 u2, .int n3 u3]), (D2, LCg.lst [.int w0 v0, .int w1 v1, .int w2 v2, .int w3 v3]), (cA, ocA), (D3, LCg.lst [.str (word n0 pl) tw0, .str (word n1 pl) tw1, .str (word n2 pl) tw2, .str (word n3 pl) tw3]), (30, hitA cA), (37, tabObj #[]), (L + 1 + 1, c2), (L + 1 + 1 + 1, c3), (L + 1 + 1 + 1 + 1, c4), (L + 1 + 1 + 1 + 1 + 1, c5), (L + 1 + 1 + 1 + 1 + 1 + 1, c6), (L + 1 + 1 + 1 + 1 + 1 + 1 + 1, c7), (L + 1 + 1 + 1 + 1 + 1 + 1 + 1 + 1, c8)]) (hn0 : n0 < 16) (hn1 : n1 < 16) (hn2 : n2 < 16) (hn3 : n3 < 16) (hw0 : -1000000000 ≤ w0 ∧ w0 ≤ 1000000000) (hw1 : -1000000000 ≤ w1 ∧ w1 ≤ 1000000000) (hw2 : -1000000000 ≤ w2 ∧ w2 ≤ 1000000000) (hw3 : -1000000000 ≤ w3 ∧ w3 ≤ 1000000000) (hpl : 0 ≤ pl ∧ pl < 23) (hst0 : st0 = (97 + (pl + 4 + 0).fmod 26).toNat) (hst1 : st1 = (97 + (pl + 4 + 1).fmod 26).toNat) (edA : ocA.data = .fields cvA) (evA : cvA[1]? = some (.str quA tcA)) (hSz : ((w0.natAbs + w1.natAbs + w2.natAbs + w3.natAbs : Nat) : Int) = Sz) (hWd0 : 0 < Wd) (hWd1 : Wd ≤ 72) (hWd2 : 2 * (6 * Sz * Sz) < 2 ^ Wd.toNat) (hBs : (2 : Int) ^ Wd.toNat = Bs) (fin : ∀ m' h' tk' cA cB rest, Fr h₀ L h' m' → News h₀ L h' ((30, hitA cA) :: (37, hitB cB) :: rest) → Qf (.ret (.bool true)) { s with heap := h', toks := tk' }),
   wpAny (model PySem.Challenge.rw_tc0016_01.row.prog w) (callerA.deeper (envOfC "law" sc L fa cd)) (execs bd (envOfC "law" sc L fa cd)) Qf E s
abbrev T : Type := World × Heap × Addr × (Str → Option Value) × Program × (List Str) × (ExcName → Option Value) × (Str → Option Value) × (Str → Option Value) × Shared × (Value → Shared → Prop) × Addr × Addr × Addr × Addr × Addr × Addr × Value × Obj × Obj × Obj × Obj × Obj × Obj × Obj × (Option Value) × (Option Value) × (Option Value) × (Option Value) × Nat × Nat × Nat × Nat × Tok × Tok × Tok × Tok × Int × Int × Int × Int × Tok × Tok × Tok × Tok × Int × Tok × Tok × Tok × Tok × Nat × Nat × Tok × Tok × Int × Int × Int × Tok × Tok × Tok × Obj × (Array Value) × Tok × (Flow → Shared → Prop)
noncomputable def P (v : T) : Prop := P0 v.1 v.2.1 v.2.2.1 v.2.2.2.1 v.2.2.2.2.1 v.2.2.2.2.2.1 v.2.2.2.2.2.2.1 v.2.2.2.2.2.2.2.1 v.2.2.2.2.2.2.2.2.1 v.2.2.2.2.2.2.2.2.2.1 v.2.2.2.2.2.2.2.2.2.2.1 v.2.2.2.2.2.2.2.2.2.2.2.1 v.2.2.2.2.2.2.2.2.2.2.2.2.1 v.2.2.2.2.2.2.2.2.2.2.2.2.2.1 v.2.2.2.2.2.2.2.2.2.2.2.2.2.2.1 v.2.2.2.2.2.2.2.2.2.2.2.2.2.2.2.1 v.2.2.2.2.2.2.2.2.2.2.2.2.2.2.2.2.1 v.2.2.2.2.2.2.2.2.2.2.2.2.2.2.2.2.2.1 v.2.2.2.2.2.2.2.2.2.2.2.2.2.2.2.2.2.2.1 v.2.2.2.2.2.2.2.2.2.2.2.2.2.2.2.2.2.2.2.1 v.2.2.2.2.2.2.2.2.2.2.2.2.2.2.2.2.2.2.2.2.1 v.2.2.2.2.2.2.2.2.2.2.2.2.2.2.2.2.2.2.2.2.2.1 v.2.2.2.2.2.2.2.2.2.2.2.2.2.2.2.2.2.2.2.2.2.2.1 v.2.2.2.2.2.2.2.2.2.2.2.2.2.2.2.2.2.2.2.2.2.2.2.1 v.2.2.2.2.2.2.2.2.2.2.2.2.2.2.2.2.2.2.2.2.2.2.2.2.1 v.2.2.2.2.2.2.2.2.2.2.2.2.2.2.2.2.2.2.2.2.2.2.2.2.2.1 v.2.2.2.2.2.2.2.2.2.2.2.2.2.2.2.2.2.2.2.2.2.2.2.2.2.2.1 v.2.2.2.2.2.2.2.2.2.2.2.2.2.2.2.2.2.2.2.2.2.2.2.2.2.2.2.1 v.2.2.2.2.2.2.2.2.2.2.2.2.2.2.2.2.2.2.2.2.2.2.2.2.2.2.2.2.1 v.2.2.2.2.2.2.2.2.2.2.2.2.2.2.2.2.2.2.2.2.2.2.2.2.2.2.2.2.2.1 v.2.2.2.2.2.2.2.2.2.2.2.2.2.2.2.2.2.2.2.2.2.2.2.2.2.2.2.2.2.2.1 v.2.2.2.2.2.2.2.2.2.2.2.2.2.2.2.2.2.2.2.2.2.2.2.2.2.2.2.2.2.2.2.1 v.2.2.2.2.2.2.2.2.2.2.2.2.2.2.2.2.2.2.2.2.2.2.2.2.2.2.2.2.2.2.2.2.1 v.2.2.2.2.2.2.2.2.2.2.2.2.2.2.2.2.2.2.2.2.2.2.2.2.2.2.2.2.2.2.2.2.2.1 v.2.2.2.2.2.2.2.2.2.2.2.2.2.2.2.2.2.2.2.2.2.2.2.2.2.2.2.2.2.2.2.2.2.2.1 v.2.2.2.2.2.2.2.2.2.2.2.2.2.2.2.2.2.2.2.2.2.2.2.2.2.2.2.2.2.2.2.2.2.2.2.1 v.2.2.2.2.2.2.2.2.2.2.2.2.2.2.2.2.2.2.2.2.2.2.2.2.2.2.2.2.2.2.2.2.2.2.2.2.1 v.2.2.2.2.2.2.2.2.2.2.2.2.2.2.2.2.2.2.2.2.2.2.2.2.2.2.2.2.2.2.2.2.2.2.2.2.2.1 v.2.2.2.2.2.2.2.2.2.2.2.2.2.2.2.2.2.2.2.2.2.2.2.2.2.2.2.2.2.2.2.2.2.2.2.2.2.2.1 v.2.2.2.2.2.2.2.2.2.2.2.2.2.2.2.2.2.2.2.2.2.2.2.2.2.2.2.2.2.2.2.2.2.2.2.2.2.2.2.1 v.2.2.2.2.2.2.2.2.2.2.2.2.2.2.2.2.2.2.2.2.2.2.2.2.2.2.2.2.2.2.2.2.2.2.2.2.2.2.2.2.1 v.2.2.2.2.2.2.2.2.2.2.2.2.2.2.2.2.2.2.2.2.2.2.2.2.2.2.2.2.2.2.2.2.2.2.2.2.2.2.2.2.2.1 v.2.2.2.2.2.2.2.2.2.2.2.2.2.2.2.2.2.2.2.2.2.2.2.2.2.2.2.2.2.2.2.2.2.2.2.2.2.2.2.2.2.2.1 v.2.2.2.2.2.2.2.2.2.2.2.2.2.2.2.2.2.2.2.2.2.2.2.2.2.2.2.2.2.2.2.2.2.2.2.2.2.2.2.2.2.2.2.1 v.2.2.2.2.2.2.2.2.2.2.2.2.2.2.2.2.2.2.2.2.2.2.2.2.2.2.2.2.2.2.2.2.2.2.2.2.2.2.2.2.2.2.2.2.1 v.2.2.2.2.2.2.2.2.2.2.2.2.2.2.2.2.2.2.2.2.2.2.2.2.2.2.2.2.2.2.2.2.2.2.2.2.2.2.2.2.2.2.2.2.2.1 v.2.2.2.2.2.2.2.2.2.2.2.2.2.2.2.2.2.2.2.2.2.2.2.2.2.2.2.2.2.2.2.2.2.2.2.2.2.2.2.2.2.2.2.2.2.2.1 v.2.2.2.2.2.2.2.2.2.2.2.2.2.2.2.2.2.2.2.2.2.2.2.2.2.2.2.2.2.2.2.2.2.2.2.2.2.2.2.2.2.2.2.2.2.2.2.1 v.2.2.2.2.2.2.2.2.2.2.2.2.2.2.2.2.2.2.2.2.2.2.2.2.2.2.2.2.2.2.2.2.2.2.2.2.2.2.2.2.2.2.2.2.2.2.2.2.1 v.2.2.2.2.2.2.2.2.2.2.2.2.2.2.2.2.2.2.2.2.2.2.2.2.2.2.2.2.2.2.2.2.2.2.2.2.2.2.2.2.2.2.2.2.2.2.2.2.2.1 v.2.2.2.2.2.2.2.2.2.2.2.2.2.2.2.2.2.2.2.2.2.2.2.2.2.2.2.2.2.2.2.2.2.2.2.2.2.2.2.2.2.2.2.2.2.2.2.2.2.2.1 v.2.2.2.2.2.2.2.2.2.2.2.2.2.2.2.2.2.2.2.2.2.2.2.2.2.2.2.2.2.2.2.2.2.2.2.2.2.2.2.2.2.2.2.2.2.2.2.2.2.2.2.1 v.2.2.2.2.2.2.2.2.2.2.2.2.2.2.2.2.2.2.2.2.2.2.2.2.2.2.2.2.2.2.2.2.2.2.2.2.2.2.2.2.2.2.2.2.2.2.2.2.2.2.2.2.1 v.2.2.2.2.2.2.2.2.2.2.2.2.2.2.2.2.2.2.2.2.2.2.2.2.2.2.2.2.2.2.2.2.2.2.2.2.2.2.2.2.2.2.2.2.2.2.2.2.2.2.2.2.2.1 v.2.2.2.2.2.2.2.2.2.2.2.2.2.2.2.2.2.2.2.2.2.2.2.2.2.2.2.2.2.2.2.2.2.2.2.2.2.2.2.2.2.2.2.2.2.2.2.2.2.2.2.2.2.2.1 v.2.2.2.2.2.2.2.2.2.2.2.2.2.2.2.2.2.2.2.2.2.2.2.2.2.2.2.2.2.2.2.2.2.2.2.2.2.2.2.2.2.2.2.2.2.2.2.2.2.2.2.2.2.2.2.1 v.2.2.2.2.2.2.2.2.2.2.2.2.2.2.2.2.2.2.2.2.2.2.2.2.2.2.2.2.2.2.2.2.2.2.2.2.2.2.2.2.2.2.2.2.2.2.2.2.2.2.2.2.2.2.2.2.1 v.2.2.2.2.2.2.2.2.2.2.2.2.2.2.2.2.2.2.2.2.2.2.2.2.2.2.2.2.2.2.2.2.2.2.2.2.2.2.2.2.2.2.2.2.2.2.2.2.2.2.2.2.2.2.2.2.2.1 v.2.2.2.2.2.2.2.2.2.2.2.2.2.2.2.2.2.2.2.2.2.2.2.2.2.2.2.2.2.2.2.2.2.2.2.2.2.2.2.2.2.2.2.2.2.2.2.2.2.2.2.2.2.2.2.2.2.2.1 v.2.2.2.2.2.2.2.2.2.2.2.2.2.2.2.2.2.2.2.2.2.2.2.2.2.2.2.2.2.2.2.2.2.2.2.2.2.2.2.2.2.2.2.2.2.2.2.2.2.2.2.2.2.2.2.2.2.2.2.1 v.2.2.2.2.2.2.2.2.2.2.2.2.2.2.2.2.2.2.2.2.2.2.2.2.2.2.2.2.2.2.2.2.2.2.2.2.2.2.2.2.2.2.2.2.2.2.2.2.2.2.2.2.2.2.2.2.2.2.2.2.1 v.2.2.2.2.2.2.2.2.2.2.2.2.2.2.2.2.2.2.2.2.2.2.2.2.2.2.2.2.2.2.2.2.2.2.2.2.2.2.2.2.2.2.2.2.2.2.2.2.2.2.2.2.2.2.2.2.2.2.2.2.2.1 v.2.2.2.2.2.2.2.2.2.2.2.2.2.2.2.2.2.2.2.2.2.2.2.2.2.2.2.2.2.2.2.2.2.2.2.2.2.2.2.2.2.2.2.2.2.2.2.2.2.2.2.2.2.2.2.2.2.2.2.2.2.2.1 v.2.2.2.2.2.2.2.2.2.2.2.2.2.2.2.2.2.2.2.2.2.2.2.2.2.2.2.2.2.2.2.2.2.2.2.2.2.2.2.2.2.2.2.2.2.2.2.2.2.2.2.2.2.2.2.2.2.2.2.2.2.2.2
theorem ex : ∃ c : T, P c → ∀ v, P v := ex_all ⟨((Classical.choice neW), {}, (0 : Nat), (fun _ => none), default, [], (fun _ => none), (fun _ => none), (fun _ => none), {}, (fun _ _ => False), (0 : Nat), (0 : Nat), (0 : Nat), (0 : Nat), (0 : Nat), (0 : Nat), .none, default, default, default, default, default, default, default, none, none, none, none, 0, 0, 0, 0, (0 : Nat), (0 : Nat), (0 : Nat), (0 : Nat), 0, 0, 0, 0, (0 : Nat), (0 : Nat), (0 : Nat), (0 : Nat), 0, (0 : Nat), (0 : Nat), (0 : Nat), (0 : Nat), 0, 0, (0 : Nat), (0 : Nat), 0, 0, 0, (0 : Nat), (0 : Nat), (0 : Nat), default, #[], (0 : Nat), (fun _ _ => False))⟩
@[irreducible] noncomputable def cT : T := Classical.choose ex
theorem cS : P cT → ∀ v, P v := by
  unfold cT
  exact Classical.choose_spec ex
noncomputable abbrev D2 : Addr := cT.2.2.2.2.2.2.2.2.2.2.2.2.2.1
noncomputable abbrev n0 : Nat := cT.2.2.2.2.2.2.2.2.2.2.2.2.2.2.2.2.2.2.2.2.2.2.2.2.2.2.2.2.2.1
noncomputable abbrev n1 : Nat := cT.2.2.2.2.2.2.2.2.2.2.2.2.2.2.2.2.2.2.2.2.2.2.2.2.2.2.2.2.2.2.1
noncomputable abbrev n2 : Nat := cT.2.2.2.2.2.2.2.2.2.2.2.2.2.2.2.2.2.2.2.2.2.2.2.2.2.2.2.2.2.2.2.1
noncomputable abbrev n3 : Nat := cT.2.2.2.2.2.2.2.2.2.2.2.2.2.2.2.2.2.2.2.2.2.2.2.2.2.2.2.2.2.2.2.2.1
noncomputable abbrev u0 : Tok := cT.2.2.2.2.2.2.2.2.2.2.2.2.2.2.2.2.2.2.2.2.2.2.2.2.2.2.2.2.2.2.2.2.2.1
noncomputable abbrev u1 : Tok := cT.2.2.2.2.2.2.2.2.2.2.2.2.2.2.2.2.2.2.2.2.2.2.2.2.2.2.2.2.2.2.2.2.2.2.1
noncomputable abbrev u2 : Tok := cT.2.2.2.2.2.2.2.2.2.2.2.2.2.2.2.2.2.2.2.2.2.2.2.2.2.2.2.2.2.2.2.2.2.2.2.1
noncomputable abbrev u3 : Tok := cT.2.2.2.2.2.2.2.2.2.2.2.2.2.2.2.2.2.2.2.2.2.2.2.2.2.2.2.2.2.2.2.2.2.2.2.2.1
noncomputable abbrev w0 : Int := cT.2.2.2.2.2.2.2.2.2.2.2.2.2.2.2.2.2.2.2.2.2.2.2.2.2.2.2.2.2.2.2.2.2.2.2.2.2.1
noncomputable abbrev w1 : Int := cT.2.2.2.2.2.2.2.2.2.2.2.2.2.2.2.2.2.2.2.2.2.2.2.2.2.2.2.2.2.2.2.2.2.2.2.2.2.2.1
noncomputable abbrev w2 : Int := cT.2.2.2.2.2.2.2.2.2.2.2.2.2.2.2.2.2.2.2.2.2.2.2.2.2.2.2.2.2.2.2.2.2.2.2.2.2.2.2.1
noncomputable abbrev w3 : Int := cT.2.2.2.2.2.2.2.2.2.2.2.2.2.2.2.2.2.2.2.2.2.2.2.2.2.2.2.2.2.2.2.2.2.2.2.2.2.2.2.2.1
noncomputable abbrev v0 : Tok := cT.2.2.2.2.2.2.2.2.2.2.2.2.2.2.2.2.2.2.2.2.2.2.2.2.2.2.2.2.2.2.2.2.2.2.2.2.2.2.2.2.2.1
noncomputable abbrev v1 : Tok := cT.2.2.2.2.2.2.2.2.2.2.2.2.2.2.2.2.2.2.2.2.2.2.2.2.2.2.2.2.2.2.2.2.2.2.2.2.2.2.2.2.2.2.1
noncomputable abbrev v2 : Tok := cT.2.2.2.2.2.2.2.2.2.2.2.2.2.2.2.2.2.2.2.2.2.2.2.2.2.2.2.2.2.2.2.2.2.2.2.2.2.2.2.2.2.2.2.1
noncomputable abbrev v3 : Tok := cT.2.2.2.2.2.2.2.2.2.2.2.2.2.2.2.2.2.2.2.2.2.2.2.2.2.2.2.2.2.2.2.2.2.2.2.2.2.2.2.2.2.2.2.2.1
set_option maxRecDepth 100000 in
set_option maxHeartbeats 0 in
theorem main : P0 cT.1 cT.2.1 cT.2.2.1 cT.2.2.2.1 cT.2.2.2.2.1 cT.2.2.2.2.2.1 cT.2.2.2.2.2.2.1 cT.2.2.2.2.2.2.2.1 cT.2.2.2.2.2.2.2.2.1 cT.2.2.2.2.2.2.2.2.2.1 cT.2.2.2.2.2.2.2.2.2.2.1 cT.2.2.2.2.2.2.2.2.2.2.2.1 cT.2.2.2.2.2.2.2.2.2.2.2.2.1 D2 cT.2.2.2.2.2.2.2.2.2.2.2.2.2.2.1 cT.2.2.2.2.2.2.2.2.2.2.2.2.2.2.2.1 cT.2.2.2.2.2.2.2.2.2.2.2.2.2.2.2.2.1 cT.2.2.2.2.2.2.2.2.2.2.2.2.2.2.2.2.2.1 cT.2.2.2.2.2.2.2.2.2.2.2.2.2.2.2.2.2.2.1 cT.2.2.2.2.2.2.2.2.2.2.2.2.2.2.2.2.2.2.2.1 cT.2.2.2.2.2.2.2.2.2.2.2.2.2.2.2.2.2.2.2.2.1 cT.2.2.2.2.2.2.2.2.2.2.2.2.2.2.2.2.2.2.2.2.2.1 cT.2.2.2.2.2.2.2.2.2.2.2.2.2.2.2.2.2.2.2.2.2.2.1 cT.2.2.2.2.2.2.2.2.2.2.2.2.2.2.2.2.2.2.2.2.2.2.2.1 cT.2.2.2.2.2.2.2.2.2.2.2.2.2.2.2.2.2.2.2.2.2.2.2.2.1 cT.2.2.2.2.2.2.2.2.2.2.2.2.2.2.2.2.2.2.2.2.2.2.2.2.2.1 cT.2.2.2.2.2.2.2.2.2.2.2.2.2.2.2.2.2.2.2.2.2.2.2.2.2.2.1 cT.2.2.2.2.2.2.2.2.2.2.2.2.2.2.2.2.2.2.2.2.2.2.2.2.2.2.2.1 cT.2.2.2.2.2.2.2.2.2.2.2.2.2.2.2.2.2.2.2.2.2.2.2.2.2.2.2.2.1 n0 n1 n2 n3 u0 u1 u2 u3 w0 w1 w2 w3 v0 v1 v2 v3 cT.2.2.2.2.2.2.2.2.2.2.2.2.2.2.2.2.2.2.2.2.2.2.2.2.2.2.2.2.2.2.2.2.2.2.2.2.2.2.2.2.2.2.2.2.2.1 cT.2.2.2.2.2.2.2.2.2.2.2.2.2.2.2.2.2.2.2.2.2.2.2.2.2.2.2.2.2.2.2.2.2.2.2.2.2.2.2.2.2.2.2.2.2.2.1 cT.2.2.2.2.2.2.2.2.2.2.2.2.2.2.2.2.2.2.2.2.2.2.2.2.2.2.2.2.2.2.2.2.2.2.2.2.2.2.2.2.2.2.2.2.2.2.2.1 cT.2.2.2.2.2.2.2.2.2.2.2.2.2.2.2.2.2.2.2.2.2.2.2.2.2.2.2.2.2.2.2.2.2.2.2.2.2.2.2.2.2.2.2.2.2.2.2.2.1 cT.2.2.2.2.2.2.2.2.2.2.2.2.2.2.2.2.2.2.2.2.2.2.2.2.2.2.2.2.2.2.2.2.2.2.2.2.2.2.2.2.2.2.2.2.2.2.2.2.2.1 cT.2.2.2.2.2.2.2.2.2.2.2.2.2.2.2.2.2.2.2.2.2.2.2.2.2.2.2.2.2.2.2.2.2.2.2.2.2.2.2.2.2.2.2.2.2.2.2.2.2.2.1 cT.2.2.2.2.2.2.2.2.2.2.2.2.2.2.2.2.2.2.2.2.2.2.2.2.2.2.2.2.2.2.2.2.2.2.2.2.2.2.2.2.2.2.2.2.2.2.2.2.2.2.2.1 cT.2.2.2.2.2.2.2.2.2.2.2.2.2.2.2.2.2.2.2.2.2.2.2.2.2.2.2.2.2.2.2.2.2.2.2.2.2.2.2.2.2.2.2.2.2.2.2.2.2.2.2.2.1 cT.2.2.2.2.2.2.2.2.2.2.2.2.2.2.2.2.2.2.2.2.2.2.2.2.2.2.2.2.2.2.2.2.2.2.2.2.2.2.2.2.2.2.2.2.2.2.2.2.2.2.2.2.2.1 cT.2.2.2.2.2.2.2.2.2.2.2.2.2.2.2.2.2.2.2.2.2.2.2.2.2.2.2.2.2.2.2.2.2.2.2.2.2.2.2.2.2.2.2.2.2.2.2.2.2.2.2.2.2.2.1 cT.2.2.2.2.2.2.2.2.2.2.2.2.2.2.2.2.2.2.2.2.2.2.2.2.2.2.2.2.2.2.2.2.2.2.2.2.2.2.2.2.2.2.2.2.2.2.2.2.2.2.2.2.2.2.2.1 cT.2.2.2.2.2.2.2.2.2.2.2.2.2.2.2.2.2.2.2.2.2.2.2.2.2.2.2.2.2.2.2.2.2.2.2.2.2.2.2.2.2.2.2.2.2.2.2.2.2.2.2.2.2.2.2.2.1 cT.2.2.2.2.2.2.2.2.2.2.2.2.2.2.2.2.2.2.2.2.2.2.2.2.2.2.2.2.2.2.2.2.2.2.2.2.2.2.2.2.2.2.2.2.2.2.2.2.2.2.2.2.2.2.2.2.2.1 cT.2.2.2.2.2.2.2.2.2.2.2.2.2.2.2.2.2.2.2.2.2.2.2.2.2.2.2.2.2.2.2.2.2.2.2.2.2.2.2.2.2.2.2.2.2.2.2.2.2.2.2.2.2.2.2.2.2.2.1 cT.2.2.2.2.2.2.2.2.2.2.2.2.2.2.2.2.2.2.2.2.2.2.2.2.2.2.2.2.2.2.2.2.2.2.2.2.2.2.2.2.2.2.2.2.2.2.2.2.2.2.2.2.2.2.2.2.2.2.2.1 cT.2.2.2.2.2.2.2.2.2.2.2.2.2.2.2.2.2.2.2.2.2.2.2.2.2.2.2.2.2.2.2.2.2.2.2.2.2.2.2.2.2.2.2.2.2.2.2.2.2.2.2.2.2.2.2.2.2.2.2.2.1 cT.2.2.2.2.2.2.2.2.2.2.2.2.2.2.2.2.2.2.2.2.2.2.2.2.2.2.2.2.2.2.2.2.2.2.2.2.2.2.2.2.2.2.2.2.2.2.2.2.2.2.2.2.2.2.2.2.2.2.2.2.2.1 cT.2.2.2.2.2.2.2.2.2.2.2.2.2.2.2.2.2.2.2.2.2.2.2.2.2.2.2.2.2.2.2.2.2.2.2.2.2.2.2.2.2.2.2.2.2.2.2.2.2.2.2.2.2.2.2.2.2.2.2.2.2.2.1 cT.2.2.2.2.2.2.2.2.2.2.2.2.2.2.2.2.2.2.2.2.2.2.2.2.2.2.2.2.2.2.2.2.2.2.2.2.2.2.2.2.2.2.2.2.2.2.2.2.2.2.2.2.2.2.2.2.2.2.2.2.2.2.2 := by
  unfold P0
  intro sc bd hsc hbd K' X' T' C1 C2 l0 hE F N e2 e3 e4 e5 e6 e7 e8 offD1 offD2 offcA offD3 offD4 hn0 hn1 hn2 hn3 hw0 hw1 hw2 hw3 hpl hst0 hst1 edA evA hSz hWd0 hWd1 hWd2 hBs fin
  have hsc0 := hsc
  have hbd0 := hbd
  conv at hsc => lhs; whnf
  conv at hbd => lhs; whnf
  subst hsc hbd
  k_steps
  k_dflt (refine' ListComp_X ?F0 ?a1 ?a2 ?a3 ?a4 ?a5 ?a6 ?_ ?a7; (case F0 => k_asm); (case a1 => exact rfl); (case a2 => (intro _; exact rfl)); (case a3 => (intro _; exact rfl)); (case a4 => exact rfl); (case a5 => decide); (case a6 => (intro _ _; exact rfl)); (case a7 => (intro _; exact rfl)))
  k_steps
  refine ⟨16, fun k y => ∃ t, y = .int (sumAt [n0, n1, n2, n3] [w0, w1, w2, w3] k) t, _, _, _, _, _, rfl, rfl, by k_asm, by k_asm, by assumption, by decide, by rfl, by decide, ?_, ?_⟩
  · intro k t' I oI C oC Kc oK D ys h tk E' hk0 hk1 dK F2 N2 ofI ofC ofK ofD
    have hNI := ints4 n0 n1 n2 n3 u0 u1 u2 u3
    have hWI := ints4 w0 w1 w2 w3 v0 v1 v2 v3
    have hbs := wts_bits hw0 hw1 hw2 hw3
    have hmark := MarkS.mk 2
    k_steps
    refine Hold.out ?_
    refine LCg.CompSrc.range (n := 4) (by rfl) (by k_asm) (by k_asm) (by assumption) (by decide) (by rfl) (by decide) ?_
    intro gg5
    refine comp_range (fun j y => ∃ t, y = .int (sgnAt [n0, n1, n2, n3] [w0, w1, w2, w3] k j) t) ?_ ?_
    · intro j t I2 oI2 C2 oC2 D2 m2 ys2 h2 tk2 E2 hj0 hj4 hC hx2 F3 N3 off ne
      replace hj4 : j < 4 := hj4
      dsimp only at F3 N3 ⊢
      have off0 := Hold.out off
      k_steps
      refine Hold.out ?_
      k_dflt (refine' c_shared ?k1 ?k2 ?k3 ?k5 ?kK ?kd ?ku ?kN ?_; (case k1 => k_asm); (case k2 => k_asm); (case k3 => k_asm); (case k5 => k_asm); (case kK => exact rfl); (case kd => ktr_room); (case ku => ktr_units); (case kN => k_asm))
      intro t3 h3 tk3 F4 N4
      have hsh := shared_ok k ([(n0 : Int), n1, n2, n3].getD j.toNat 0)
      k_steps
      first
        | exact ⟨rfl, _, rfl⟩
        | exact LCg.CompEnd.intro (by k_asm) (by k_asm) _ (fun _ hp => hp) off0 trivial ⟨rfl, _, rfl⟩
    intro ys2 hys2
    have hI2 := rel_ints hys2
    clear hys2
    k_steps
    exact XEnd.intro (by k_asm) (by k_asm) (fun _ hp => by simp only [List.mem_cons] at hp ⊢; simp only [hp, or_true, true_or]) ⟨_, rfl⟩
  intro ys D h tk hys F2 N2 of5
  have hI2 := rel_ints hys
  clear hys
  have hmark5 := MarkS.mk 5
  k_steps
  refine Hold.out ?_
  k_dflt (refine' law_t4 ?hsc ?hbd K' X' T' C1 C2 l0 ?hE ?F ?N ?e2 ?e3 ?e4 ?e5 ?e6 ?e7 ?e8 ?offD1 ?offD2 ?offcA ?offD3 ?offD4 ?offD5 hn0 hn1 hn2 hn3 hw0 hw1 hw2 hw3 hpl hst0 hst1 edA evA hSz hWd0 hWd1 hWd2 hBs hI2 ?fin; (case hE => exact hE); (case hsc => exact hsc0); (case hbd => exact drop_more 1 hbd0); (case F => k_asm); (case N => (first | k_asm | (refine news_sub (by k_asm) ?_; (repeat' (first | exact List.forall_mem_nil _ | refine List.forall_mem_cons.mpr ⟨?_, ?_⟩)); all_goals (repeat first | exact List.Mem.head _ | refine List.Mem.tail _ ?_)))); (case e2 => assumption); (case e3 => assumption); (case e4 => assumption); (case e5 => assumption); (case e6 => assumption); (case e7 => assumption); (case e8 => assumption); (case offD1 => ((repeat' (first | exact trivial | refine And.intro ?_ ?_)); all_goals (first | k_ne | fail "k_ne"))); (case offD2 => ((repeat' (first | exact trivial | refine And.intro ?_ ?_)); all_goals (first | k_ne | fail "k_ne"))); (case offcA => ((repeat' (first | exact trivial | refine And.intro ?_ ?_)); all_goals (first | k_ne | fail "k_ne"))); (case offD3 => ((repeat' (first | exact trivial | refine And.intro ?_ ?_)); all_goals (first | k_ne | fail "k_ne"))); (case offD4 => ((repeat' (first | exact trivial | refine And.intro ?_ ?_)); all_goals (first | k_ne | fail "k_ne"))); (case offD5 => ((repeat' (first | exact trivial | refine And.intro ?_ ?_)); all_goals (first | k_ne | fail "k_ne"))))
  case fin => exact fin
end X_law_t3
theorem law_t3 {w : World} {h₀ : Heap} {L : Addr} {m : Str → Option Value} {p : Program} {loose : List Str} {mean : ExcName → Option Value} {mg : Str → Option Value} {mb : Str → Option Value} {s : Shared} {E : Value → Shared → Prop} {fa : Addr} {D1 : Addr} {D2 : Addr} {cA : Addr} {D3 : Addr} {D4 : Addr} {cd : Value} {c2 : Obj} {c3 : Obj} {c4 : Obj} {c5 : Obj} {c6 : Obj} {c7 : Obj} {c8 : Obj} {x5 : Option Value} {x6 : Option Value} {x7 : Option Value} {x8 : Option Value} {n0 : Nat} {n1 : Nat} {n2 : Nat} {n3 : Nat} {u0 : Tok} {u1 : Tok} {u2 : Tok} {u3 : Tok} {w0 : Int} {w1 : Int} {w2 : Int} {w3 : Int} {v0 : Tok} {v1 : Tok} {v2 : Tok} {v3 : Tok} {pl : Int} {tw0 : Tok} {tw1 : Tok} {tw2 : Tok} {tw3 : Tok} {st0 : Nat} {st1 : Nat} {q0 : Tok} {q1 : Tok} {Sz : Int} {Wd : Int} {Bs : Int} {tB : Tok} {tW : Tok} {tS : Tok} {ocA : Obj} {cvA : Array Value} {tcA : Tok} {Qf : Flow → Shared → Prop} {sc : Scope} {bd : List Stmt} (hsc : fnScope lawS = sc) (hbd : (fnBody lawS).drop 8 = bd) (K' : Below callerA h₀ [] h₀) (X' : (kk w.params).In h₀) (T' : Top p loose mean mg mb h₀) (C1 : CodeHd h₀ 41 37) (C2 : CodeHd h₀ 34 30) (l0 : @LT.lt Nat _ 37 L ∧ @LT.lt Nat _ 30 L) (hE : PassesOwn (model PySem.Challenge.rw_tc0016_01.row.prog w) (callerA.deeper (envOfC "law" sc L fa cd)) (envOfC "law" sc L fa cd) E) (F : Fr h₀ L s.heap (fun y => if y = "width" then some (.int Wd tW) else if y = "size" then some (.int Sz tS) else if y = "strange" then some (.ref D4) else if y = "words" then some (.ref D3) else m y)) (N : News h₀ L s.heap [(D4, LCg.lst [.str ⟨#[st0]⟩ q0, .str ⟨#[st1]⟩ q1]), (D3, LCg.lst [.str (word n0 pl) tw0, .str (word n1 pl) tw1, .str (word n2 pl) tw2, .str (word n3 pl) tw3]), (30, hitA cA), (cA, ocA), (37, tabObj #[]), (L + 1 + 1, c2), (L + 1 + 1 + 1, c3), (L + 1 + 1 + 1 + 1, c4), (L + 1 + 1 + 1 + 1 + 1, c5), (L + 1 + 1 + 1 + 1 + 1 + 1, c6), (L + 1 + 1 + 1 + 1 + 1 + 1 + 1, c7), (L + 1 + 1 + 1 + 1 + 1 + 1 + 1 + 1, c8), (D1, LCg.lst [.int n0 u0, .int n1 u1, .int n2 u2, .int n3 u3]), (D2, LCg.lst [.int w0 v0, .int w1 v1, .int w2 v2, .int w3 v3])]) (e2 : c2.data = .cell (some (.ref D1))) (e3 : c3.data = .cell (some (.ref D2))) (e4 : c4.data = .cell (some (.int Bs tB))) (e5 : c5.data = .cell x5) (e6 : c6.data = .cell x6) (e7 : c7.data = .cell x7) (e8 : c8.data = .cell x8) (offD1 : LCg.Off1 D1 [(30, hitA cA), (37, tabObj #[]), (L + 1 + 1, c2), (L + 1 + 1 + 1, c3), (L + 1 + 1 + 1 + 1, c4), (L + 1 + 1 + 1 + 1 + 1, c5), (L + 1 + 1 + 1 + 1 + 1 + 1, c6), (L + 1 + 1 + 1 + 1 + 1 + 1 + 1, c7), (L + 1 + 1 + 1 + 1 + 1 + 1 + 1 + 1, c8)]) (offD2 : LCg.Off1 D2 [(D1, LCg.lst [.int n0 u0, .int n1 u1, .int n2 u2, .int n3 u3]), (30, hitA cA), (37, tabObj #[]), (L + 1 + 1, c2), (L + 1 + 1 + 1, c3), (L + 1 + 1 + 1 + 1, c4), (L + 1 + 1 + 1 + 1 + 1, c5), (L + 1 + 1 + 1 + 1 + 1 + 1, c6), (L + 1 + 1 + 1 + 1 + 1 + 1 + 1, c7), (L + 1 + 1 + 1 + 1 + 1 + 1 + 1 + 1, c8)]) (offcA : LCg.Off1 cA [(D1, LCg.lst [.int n0 u0, .int n1 u1, .int n2 u2, .int n3 u3]), (D2, LCg.lst [.int w0 v0, .int w1 v1, .int w2 v2, .int w3 v3]), (30, hitA cA), (37, tabObj #[]), (L + 1 + 1, c2), (L + 1 + 1 + 1, c3), (L + 1 + 1 + 1 + 1, c4), (L + 1 + 1 + 1 + 1 + 1, c5), (L + 1 + 1 + 1 + 1 + 1 + 1, c6), (L + 1 + 1 + 1 + 1 + 1 + 1 + 1, c7), (L + 1 + 1 + 1 + 1 + 1 + 1 + 1 + 1, c8)]) (offD3 : LCg.Off1 D3 [(D1, LCg.lst [.int n0 u0, .int n1 u1, .int n2 u2, .int n3 u3]), (D2, LCg.lst [.int w0 v0, .int w1 v1, .int w2 v2, .int w3 v3]), (cA, ocA), (30, hitA cA), (37, tabObj #[]), (L + 1 + 1, c2), (L + 1 + 1 + 1, c3), (L + 1 + 1 + 1 + 1, c4), (L + 1 + 1 + 1 + 1 + 1, c5), (L + 1 + 1 + 1 + 1 + 1 + 1, c6), (L + 1 + 1 + 1 + 1 + 1 + 1 + 1, c7), (L + 1 + 1 + 1 + 1 + 1 + 1 + 1 + 1, c8)]) (offD4 : LCg.Off1 D4 [(D1, LCg.lst [.int n0 u0, .int n1 u1, .int n2 u2, .int n3 u3]), (D2, LCg.lst [.int w0 v0, .int w1 v1, .int w2 v2, .int w3 v3]), (cA, ocA), (D3, LCg.lst [.str (word n0 pl) tw0, .str (word n1 pl) tw1, .str (word n2 pl) tw2, .str (word n3 pl) tw3]), (30, hitA cA), (37, tabObj #[]), (L + 1 + 1, c2), (L + 1 + 1 + 1, c3), (L + 1 + 1 + 1 + 1, c4), (L + 1 + 1 + 1 + 1 + 1, c5), (L + 1 + 1 + 1 + 1 + 1 + 1, c6), (L + 1 + 1 + 1 + 1 + 1 + 1 + 1, c7), (L + 1 + 1 + 1 + 1 + 1 + 1 + 1 + 1, c8)]) (hn0 : n0 < 16) (hn1 : n1 < 16) (hn2 : n2 < 16) (hn3 : n3 < 16) (hw0 : -1000000000 ≤ w0 ∧ w0 ≤ 1000000000) (hw1 : -1000000000 ≤ w1 ∧ w1 ≤ 1000000000) (hw2 : -1000000000 ≤ w2 ∧ w2 ≤ 1000000000) (hw3 : -1000000000 ≤ w3 ∧ w3 ≤ 1000000000) (hpl : 0 ≤ pl ∧ pl < 23) (hst0 : st0 = (97 + (pl + 4 + 0).fmod 26).toNat) (hst1 : st1 = (97 + (pl + 4 + 1).fmod 26).toNat) (edA : ocA.data = .fields cvA) (evA : cvA[1]? = some (.str quA tcA)) (hSz : ((w0.natAbs + w1.natAbs + w2.natAbs + w3.natAbs : Nat) : Int) = Sz) (hWd0 : 0 < Wd) (hWd1 : Wd ≤ 72) (hWd2 : 2 * (6 * Sz * Sz) < 2 ^ Wd.toNat) (hBs : (2 : Int) ^ Wd.toNat = Bs) (fin : ∀ m' h' tk' cA cB rest, Fr h₀ L h' m' → News h₀ L h' ((30, hitA cA) :: (37, hitB cB) :: rest) → Qf (.ret (.bool true)) { s with heap := h', toks := tk' }) :
   wpAny (model PySem.Challenge.rw_tc0016_01.row.prog w) (callerA.deeper (envOfC "law" sc L fa cd)) (execs bd (envOfC "law" sc L fa cd)) Qf E s :=
  X_law_t3.cS X_law_t3.main (w, h₀, L, m, p, loose, mean, mg, mb, s, E, fa, D1, D2, cA, D3, D4, cd, c2, c3, c4, c5, c6, c7, c8, x5, x6, x7, x8, n0, n1, n2, n3, u0, u1, u2, u3, w0, w1, w2, w3, v0, v1, v2, v3, pl, tw0, tw1, tw2, tw3, st0, st1, q0, q1, Sz, Wd, Bs, tB, tW, tS, ocA, cvA, tcA, Qf) sc bd hsc hbd K' X' T' C1 C2 l0 hE F N e2 e3 e4 e5 e6 e7 e8 offD1 offD2 offcA offD3 offD4 hn0 hn1 hn2 hn3 hw0 hw1 hw2 hw3 hpl hst0 hst1 edA evA hSz hWd0 hWd1 hWd2 hBs fin

-- lawt2
theorem abs_sum (w0 w1 w2 w3 : Int) : (List.map (fun k' => if k' < 0 then -k' else k') [w0, w1, w2, w3]).sum = ((w0.natAbs + w1.natAbs + w2.natAbs + w3.natAbs : Nat) : Int) := by
  simp only [List.map_cons, List.map_nil, List.sum_cons, List.sum_nil]
  omega
theorem bits_sz {x : Int} (h0 : 0 ≤ x) (h1 : x ≤ 4000000000) : Builtin.Int.intBits x ≤ 32 ∧ Builtin.Int.intBits (6 * x * x) ≤ 67 := by
  have a : Builtin.Int.intBits x ≤ 32 := intBits_le_iff.mpr (by omega)
  exact ⟨a, Nat.le_trans (intBits_mul_le (intBits_mul_le (show Builtin.Int.intBits 6 ≤ 3 by decide) a) a) (by decide)⟩
theorem width_ok (x c : Int) (h0 : 0 ≤ x) (hb : Builtin.Int.intBits (6 * x * x) ≤ 67) : 0 < ((Builtin.Int.intBits (6 * x * x) : Int) + 1 + c.fmod 5) ∧ ((Builtin.Int.intBits (6 * x * x) : Int) + 1 + c.fmod 5) ≤ 72 ∧ 2 * (6 * x * x) < 2 ^ ((Builtin.Int.intBits (6 * x * x) : Int) + 1 + c.fmod 5).toNat := by
  have h1 := Int.fmod_nonneg_of_pos c (show (0 : Int) < 5 by decide)
  have h2 := Int.fmod_lt_of_pos c (show (0 : Int) < 5 by decide)
  refine ⟨by omega, by omega, ?_⟩
  have h3 := intBits_le_iff.mp (Nat.le_refl (Builtin.Int.intBits (6 * x * x)))
  have h4 : 0 ≤ 6 * x * x := Int.mul_nonneg (by omega) h0
  generalize 6 * x * x = z at *
  have h5 : (2 : Nat) ^ (Builtin.Int.intBits z + 1) ≤ 2 ^ ((Builtin.Int.intBits z : Int) + 1 + c.fmod 5).toNat := Nat.pow_le_pow_right (by decide) (by omega)
  rw [Nat.pow_succ] at h5
  have h6 : ((2 ^ ((Builtin.Int.intBits z : Int) + 1 + c.fmod 5).toNat : Nat) : Int) = (2 : Int) ^ ((Builtin.Int.intBits z : Int) + 1 + c.fmod 5).toNat := by norm_cast
  rw [← h6]
  generalize 2 ^ ((Builtin.Int.intBits z : Int) + 1 + c.fmod 5).toNat = zz at *
  omega
theorem two_fits {W : Int} (h0 : 0 ≤ W) (h1 : W ≤ 72) : (Builtin.Int.intBits 2 : Int) * W ≤ 2 ^ 27 := by
  have e : Builtin.Int.intBits 2 ≤ 2 := intBits_le_iff.mpr (by decide)
  have e2 : (2 : Int) ^ 27 = 134217728 := by decide
  rw [e2]
  have : (Builtin.Int.intBits 2 : Int) * W ≤ 2 * 72 := Int.mul_le_mul (by omega) h1 h0 (by decide)
  omega
theorem fm5 (x : Int) : 0 ≤ x.fmod 5 ∧ x.fmod 5 < 5 := ⟨Int.fmod_nonneg_of_pos x (by decide), Int.fmod_lt_of_pos x (by decide)⟩
namespace X_law_t2
noncomputable def P0 (w : World) (h₀ : Heap) (L : Addr) (m : Str → Option Value) (p : Program) (loose : List Str) (mean : ExcName → Option Value) (mg : Str → Option Value) (mb : Str → Option Value) (s : Shared) (E : Value → Shared → Prop) (fa : Addr) (D0 : Addr) (D1 : Addr) (D2 : Addr) (cA : Addr) (D3 : Addr) (D4 : Addr) (cd : Value) (c1 : Obj) (c2 : Obj) (c3 : Obj) (c4 : Obj) (c5 : Obj) (c6 : Obj) (c7 : Obj) (c8 : Obj) (x4 : Option Value) (x5 : Option Value) (x6 : Option Value) (x7 : Option Value) (x8 : Option Value) (n0 : Nat) (n1 : Nat) (n2 : Nat) (n3 : Nat) (u0 : Tok) (u1 : Tok) (u2 : Tok) (u3 : Tok) (w0 : Int) (w1 : Int) (w2 : Int) (w3 : Int) (v0 : Tok) (v1 : Tok) (v2 : Tok) (v3 : Tok) (pl : Int) (tw0 : Tok) (tw1 : Tok) (tw2 : Tok) (tw3 : Tok) (st0 : Nat) (st1 : Nat) (q0 : Tok) (q1 : Tok) (us : List Value) (hs : List Int) (ocA : Obj) (cvA : Array Value) (tcA : Tok) (Qf : Flow → Shared → Prop) : Prop := ∀ (sc : Scope) (bd : List Stmt) (hsc : fnScope lawS = sc) (hbd : (fnBody lawS).drop 5 = bd) (K' : Below callerA h₀ [] h₀) (X' : (kk w.params).In h₀) (T' : Top p loose mean mg mb h₀) (C1 : CodeHd h₀ 41 37) (C2 : CodeHd h₀ 34 30) (l0 : @LT.lt Nat _ 37 L ∧ @LT.lt Nat _ 30 L) (hE : PassesOwn (model PySem.Challenge.rw_tc0016_01.row.prog w) (callerA.deeper (envOfC "law" sc L fa cd)) (envOfC "law" sc L fa cd) E) (F : Fr h₀ L s.heap (fun y => if y = "strange" then some (.ref D4) else if y = "words" then some (.ref D3) else m y)) (N : News h₀ L s.heap [(D4, LCg.lst [.str ⟨#[st0]⟩ q0, .str ⟨#[st1]⟩ q1]), (D3, LCg.lst [.str (word n0 pl) tw0, .str (word n1 pl) tw1, .str (word n2 pl) tw2, .str (word n3 pl) tw3]), (30, hitA cA), (cA, ocA), (37, tabObj #[]), (L + 1, c1), (L + 1 + 1, c2), (L + 1 + 1 + 1, c3), (L + 1 + 1 + 1 + 1, c4), (L + 1 + 1 + 1 + 1 + 1, c5), (L + 1 + 1 + 1 + 1 + 1 + 1, c6), (L + 1 + 1 + 1 + 1 + 1 + 1 + 1, c7), (L + 1 + 1 + 1 + 1 + 1 + 1 + 1 + 1, c8), (D0, LCg.lst us), (D1, LCg.lst [.int n0 u0, .int n1 u1, .int n2 u2, .int n3 u3]), (D2, LCg.lst [.int w0 v0, .int w1 v1, .int w2 v2, .int w3 v3])]) (e1 : c1.data = .cell (some (.ref D0))) (e2 : c2.data = .cell (some (.ref D1))) (e3 : c3.data = .cell (some (.ref D2))) (e4 : c4.data = .cell x4) (e5 : c5.data = .cell x5) (e6 : c6.data = .cell x6) (e7 : c7.data = .cell x7) (e8 : c8.data = .cell x8) (offD0 : LCg.Off1 D0 [(30, hitA cA), (37, tabObj #[]), (L + 1, c1), (L + 1 + 1, c2), (L + 1 + 1 + 1, c3), (L + 1 + 1 + 1 + 1, c4), (L + 1 + 1 + 1 + 1 + 1, c5), (L + 1 + 1 + 1 + 1 + 1 + 1, c6), (L + 1 + 1 + 1 + 1 + 1 + 1 + 1, c7), (L + 1 + 1 + 1 + 1 + 1 + 1 + 1 + 1, c8)]) (offD1 : LCg.Off1 D1 [(D0, LCg.lst us), (30, hitA cA), (37, tabObj #[]), (L + 1, c1), (L + 1 + 1, c2), (L + 1 + 1 + 1, c3), (L + 1 + 1 + 1 + 1, c4), (L + 1 + 1 + 1 + 1 + 1, c5), (L + 1 + 1 + 1 + 1 + 1 + 1, c6), (L + 1 + 1 + 1 + 1 + 1 + 1 + 1, c7), (L + 1 + 1 + 1 + 1 + 1 + 1 + 1 + 1, c8)]) (offD2 : LCg.Off1 D2 [(D0, LCg.lst us), (D1, LCg.lst [.int n0 u0, .int n1 u1, .int n2 u2, .int n3 u3]), (30, hitA cA), (37, tabObj #[]), (L + 1, c1), (L + 1 + 1, c2), (L + 1 + 1 + 1, c3), (L + 1 + 1 + 1 + 1, c4), (L + 1 + 1 + 1 + 1 + 1, c5), (L + 1 + 1 + 1 + 1 + 1 + 1, c6), (L + 1 + 1 + 1 + 1 + 1 + 1 + 1, c7), (L + 1 + 1 + 1 + 1 + 1 + 1 + 1 + 1, c8)]) (offcA : LCg.Off1 cA [(D0, LCg.lst us), (D1, LCg.lst [.int n0 u0, .int n1 u1, .int n2 u2, .int n3 u3]), (D2, LCg.lst [.int w0 v0, .int w1 v1, .int w2 v2, .int w3 v3]), (30, hitA cA), (37, tabObj #[]), (L + 1, c1), (L + 1 + 1, c2), (L + 1 + 1 + 1, c3), (L + 1 + 1 + 1 + 1, c4), (L + 1 + 1 + 1 + 1 + 1, c5), (L + 1 + 1 + 1 + 1 + 1 + 1, c6), (L + 1 + 1 + 1 + 1 + 1 + 1 + 1, c7), (L + 1 + 1 + 1 + 1 + 1 + 1 + 1 + 1, c8)]) (offD3 : LCg.Off1 D3 [(D0, LCg.lst us), (D1, LCg.lst [.int n0 u0, .int n1 u1, .int n2 u2, .int n3 u3]), (D2, LCg.lst [.int w0 v0, .int w1 v1, .int w2 v2, .int w3 v3]), (cA, ocA), (30, hitA cA), (37, tabObj #[]), (L + 1, c1), (L + 1 + 1, c2), (L + 1 + 1 + 1, c3), (L + 1 + 1 + 1 + 1, c4), (L + 1 + 1 + 1 + 1 + 1, c5), (L + 1 + 1 + 1 + 1 + 1 + 1, c6), (L + 1 + 1 + 1 + 1 + 1 + 1 + 1, c7), (L + 1 + 1 + 1 + 1 + 1 + 1 + 1 + 1, c8)]) (offD4 : LCg.Off1 D4 [(D0, LCg.lst us), (D1, LCg.lst [.int n0 u0, .int n1 u1, .int n2 u2, .int n3 u3]), (D2, LCg.lst [.int w0 v0, .int w1 v1, .int w2 v2, .int w3 v3]), (cA, ocA), (D3, LCg.lst [.str (word n0 pl) tw0, .str (word n1 pl) tw1, .str (word n2 pl) tw2, .str (word n3 pl) tw3]), (30, hitA cA), (37, tabObj #[]), (L + 1, c1), (L + 1 + 1, c2), (L + 1 + 1 + 1, c3), (L + 1 + 1 + 1 + 1, c4), (L + 1 + 1 + 1 + 1 + 1, c5), (L + 1 + 1 + 1 + 1 + 1 + 1, c6), (L + 1 + 1 + 1 + 1 + 1 + 1 + 1, c7), (L + 1 + 1 + 1 + 1 + 1 + 1 + 1 + 1, c8)]) (hn0 : n0 < 16) (hn1 : n1 < 16) (hn2 : n2 < 16) (hn3 : n3 < 16) (hw0 : -1000000000 ≤ w0 ∧ w0 ≤ 1000000000) (hw1 : -1000000000 ≤ w1 ∧ w1 ≤ 1000000000) (hw2 : -1000000000 ≤ w2 ∧ w2 ≤ 1000000000) (hw3 : -1000000000 ≤ w3 ∧ w3 ≤ 1000000000) (hpl : 0 ≤ pl ∧ pl < 23) (hst0 : st0 = (97 + (pl + 4 + 0).fmod 26).toNat) (hst1 : st1 = (97 + (pl + 4 + 1).fmod 26).toNat) (hI : IntsAre us hs) (hlen : hs.length = 10) (edA : ocA.data = .fields cvA) (evA : cvA[1]? = some (.str quA tcA)) (fin : ∀ m' h' tk' cA cB rest, Fr h₀ L h' m' → News h₀ L h' ((30, hitA cA) :: (37, hitB cB) :: rest) → Qf (.ret (.bool true)) { s with heap := h', toks := tk' }),
   wpAny (model PySem.Challenge.rw_tc0016_01.row.prog w) (callerA.deeper (envOfC "law" sc L fa cd)) (execs bd (envOfC "law" sc L fa cd)) Qf E s
abbrev T : Type := World × Heap × Addr × (Str → Option Value) × Program × (List Str) × (ExcName → Option Value) × (Str → Option Value) × (Str → Option Value) × Shared × (Value → Shared → Prop) × Addr × Addr × Addr × Addr × Addr × Addr × Addr × Value × Obj × Obj × Obj × Obj × Obj × Obj × Obj × Obj × (Option Value) × (Option Value) × (Option Value) × (Option Value) × (Option Value) × Nat × Nat × Nat × Nat × Tok × Tok × Tok × Tok × Int × Int × Int × Int × Tok × Tok × Tok × Tok × Int × Tok × Tok × Tok × Tok × Nat × Nat × Tok × Tok × (List Value) × (List Int) × Obj × (Array Value) × Tok × (Flow → Shared → Prop)
noncomputable def P (v : T) : Prop := P0 v.1 v.2.1 v.2.2.1 v.2.2.2.1 v.2.2.2.2.1 v.2.2.2.2.2.1 v.2.2.2.2.2.2.1 v.2.2.2.2.2.2.2.1 v.2.2.2.2.2.2.2.2.1 v.2.2.2.2.2.2.2.2.2.1 v.2.2.2.2.2.2.2.2.2.2.1 v.2.2.2.2.2.2.2.2.2.2.2.1 v.2.2.2.2.2.2.2.2.2.2.2.2.1 v.2.2.2.2.2.2.2.2.2.2.2.2.2.1 v.2.2.2.2.2.2.2.2.2.2.2.2.2.2.1 v.2.2.2.2.2.2.2.2.2.2.2.2.2.2.2.1 v.2.2.2.2.2.2.2.2.2.2.2.2.2.2.2.2.1 v.2.2.2.2.2.2.2.2.2.2.2.2.2.2.2.2.2.1 v.2.2.2.2.2.2.2.2.2.2.2.2.2.2.2.2.2.2.1 v.2.2.2.2.2.2.2.2.2.2.2.2.2.2.2.2.2.2.2.1 v.2.2.2.2.2.2.2.2.2.2.2.2.2.2.2.2.2.2.2.2.1 v.2.2.2.2.2.2.2.2.2.2.2.2.2.2.2.2.2.2.2.2.2.1 v.2.2.2.2.2.2.2.2.2.2.2.2.2.2.2.2.2.2.2.2.2.2.1 v.2.2.2.2.2.2.2.2.2.2.2.2.2.2.2.2.2.2.2.2.2.2.2.1 v.2.2.2.2.2.2.2.2.2.2.2.2.2.2.2.2.2.2.2.2.2.2.2.2.1 v.2.2.2.2.2.2.2.2.2.2.2.2.2.2.2.2.2.2.2.2.2.2.2.2.2.1 v.2.2.2.2.2.2.2.2.2.2.2.2.2.2.2.2.2.2.2.2.2.2.2.2.2.2.1 v.2.2.2.2.2.2.2.2.2.2.2.2.2.2.2.2.2.2.2.2.2.2.2.2.2.2.2.1 v.2.2.2.2.2.2.2.2.2.2.2.2.2.2.2.2.2.2.2.2.2.2.2.2.2.2.2.2.1 v.2.2.2.2.2.2.2.2.2.2.2.2.2.2.2.2.2.2.2.2.2.2.2.2.2.2.2.2.2.1 v.2.2.2.2.2.2.2.2.2.2.2.2.2.2.2.2.2.2.2.2.2.2.2.2.2.2.2.2.2.2.1 v.2.2.2.2.2.2.2.2.2.2.2.2.2.2.2.2.2.2.2.2.2.2.2.2.2.2.2.2.2.2.2.1 v.2.2.2.2.2.2.2.2.2.2.2.2.2.2.2.2.2.2.2.2.2.2.2.2.2.2.2.2.2.2.2.2.1 v.2.2.2.2.2.2.2.2.2.2.2.2.2.2.2.2.2.2.2.2.2.2.2.2.2.2.2.2.2.2.2.2.2.1 v.2.2.2.2.2.2.2.2.2.2.2.2.2.2.2.2.2.2.2.2.2.2.2.2.2.2.2.2.2.2.2.2.2.2.1 v.2.2.2.2.2.2.2.2.2.2.2.2.2.2.2.2.2.2.2.2.2.2.2.2.2.2.2.2.2.2.2.2.2.2.2.1 v.2.2.2.2.2.2.2.2.2.2.2.2.2.2.2.2.2.2.2.2.2.2.2.2.2.2.2.2.2.2.2.2.2.2.2.2.1 v.2.2.2.2.2.2.2.2.2.2.2.2.2.2.2.2.2.2.2.2.2.2.2.2.2.2.2.2.2.2.2.2.2.2.2.2.2.1 v.2.2.2.2.2.2.2.2.2.2.2.2.2.2.2.2.2.2.2.2.2.2.2.2.2.2.2.2.2.2.2.2.2.2.2.2.2.2.1 v.2.2.2.2.2.2.2.2.2.2.2.2.2.2.2.2.2.2.2.2.2.2.2.2.2.2.2.2.2.2.2.2.2.2.2.2.2.2.2.1 v.2.2.2.2.2.2.2.2.2.2.2.2.2.2.2.2.2.2.2.2.2.2.2.2.2.2.2.2.2.2.2.2.2.2.2.2.2.2.2.2.1 v.2.2.2.2.2.2.2.2.2.2.2.2.2.2.2.2.2.2.2.2.2.2.2.2.2.2.2.2.2.2.2.2.2.2.2.2.2.2.2.2.2.1 v.2.2.2.2.2.2.2.2.2.2.2.2.2.2.2.2.2.2.2.2.2.2.2.2.2.2.2.2.2.2.2.2.2.2.2.2.2.2.2.2.2.2.1 v.2.2.2.2.2.2.2.2.2.2.2.2.2.2.2.2.2.2.2.2.2.2.2.2.2.2.2.2.2.2.2.2.2.2.2.2.2.2.2.2.2.2.2.1 v.2.2.2.2.2.2.2.2.2.2.2.2.2.2.2.2.2.2.2.2.2.2.2.2.2.2.2.2.2.2.2.2.2.2.2.2.2.2.2.2.2.2.2.2.1 v.2.2.2.2.2.2.2.2.2.2.2.2.2.2.2.2.2.2.2.2.2.2.2.2.2.2.2.2.2.2.2.2.2.2.2.2.2.2.2.2.2.2.2.2.2.1 v.2.2.2.2.2.2.2.2.2.2.2.2.2.2.2.2.2.2.2.2.2.2.2.2.2.2.2.2.2.2.2.2.2.2.2.2.2.2.2.2.2.2.2.2.2.2.1 v.2.2.2.2.2.2.2.2.2.2.2.2.2.2.2.2.2.2.2.2.2.2.2.2.2.2.2.2.2.2.2.2.2.2.2.2.2.2.2.2.2.2.2.2.2.2.2.1 v.2.2.2.2.2.2.2.2.2.2.2.2.2.2.2.2.2.2.2.2.2.2.2.2.2.2.2.2.2.2.2.2.2.2.2.2.2.2.2.2.2.2.2.2.2.2.2.2.1 v.2.2.2.2.2.2.2.2.2.2.2.2.2.2.2.2.2.2.2.2.2.2.2.2.2.2.2.2.2.2.2.2.2.2.2.2.2.2.2.2.2.2.2.2.2.2.2.2.2.1 v.2.2.2.2.2.2.2.2.2.2.2.2.2.2.2.2.2.2.2.2.2.2.2.2.2.2.2.2.2.2.2.2.2.2.2.2.2.2.2.2.2.2.2.2.2.2.2.2.2.2.1 v.2.2.2.2.2.2.2.2.2.2.2.2.2.2.2.2.2.2.2.2.2.2.2.2.2.2.2.2.2.2.2.2.2.2.2.2.2.2.2.2.2.2.2.2.2.2.2.2.2.2.2.1 v.2.2.2.2.2.2.2.2.2.2.2.2.2.2.2.2.2.2.2.2.2.2.2.2.2.2.2.2.2.2.2.2.2.2.2.2.2.2.2.2.2.2.2.2.2.2.2.2.2.2.2.2.1 v.2.2.2.2.2.2.2.2.2.2.2.2.2.2.2.2.2.2.2.2.2.2.2.2.2.2.2.2.2.2.2.2.2.2.2.2.2.2.2.2.2.2.2.2.2.2.2.2.2.2.2.2.2.1 v.2.2.2.2.2.2.2.2.2.2.2.2.2.2.2.2.2.2.2.2.2.2.2.2.2.2.2.2.2.2.2.2.2.2.2.2.2.2.2.2.2.2.2.2.2.2.2.2.2.2.2.2.2.2.1 v.2.2.2.2.2.2.2.2.2.2.2.2.2.2.2.2.2.2.2.2.2.2.2.2.2.2.2.2.2.2.2.2.2.2.2.2.2.2.2.2.2.2.2.2.2.2.2.2.2.2.2.2.2.2.2.1 v.2.2.2.2.2.2.2.2.2.2.2.2.2.2.2.2.2.2.2.2.2.2.2.2.2.2.2.2.2.2.2.2.2.2.2.2.2.2.2.2.2.2.2.2.2.2.2.2.2.2.2.2.2.2.2.2.1 v.2.2.2.2.2.2.2.2.2.2.2.2.2.2.2.2.2.2.2.2.2.2.2.2.2.2.2.2.2.2.2.2.2.2.2.2.2.2.2.2.2.2.2.2.2.2.2.2.2.2.2.2.2.2.2.2.2.1 v.2.2.2.2.2.2.2.2.2.2.2.2.2.2.2.2.2.2.2.2.2.2.2.2.2.2.2.2.2.2.2.2.2.2.2.2.2.2.2.2.2.2.2.2.2.2.2.2.2.2.2.2.2.2.2.2.2.2.1 v.2.2.2.2.2.2.2.2.2.2.2.2.2.2.2.2.2.2.2.2.2.2.2.2.2.2.2.2.2.2.2.2.2.2.2.2.2.2.2.2.2.2.2.2.2.2.2.2.2.2.2.2.2.2.2.2.2.2.2.1 v.2.2.2.2.2.2.2.2.2.2.2.2.2.2.2.2.2.2.2.2.2.2.2.2.2.2.2.2.2.2.2.2.2.2.2.2.2.2.2.2.2.2.2.2.2.2.2.2.2.2.2.2.2.2.2.2.2.2.2.2.1 v.2.2.2.2.2.2.2.2.2.2.2.2.2.2.2.2.2.2.2.2.2.2.2.2.2.2.2.2.2.2.2.2.2.2.2.2.2.2.2.2.2.2.2.2.2.2.2.2.2.2.2.2.2.2.2.2.2.2.2.2.2.1 v.2.2.2.2.2.2.2.2.2.2.2.2.2.2.2.2.2.2.2.2.2.2.2.2.2.2.2.2.2.2.2.2.2.2.2.2.2.2.2.2.2.2.2.2.2.2.2.2.2.2.2.2.2.2.2.2.2.2.2.2.2.2
theorem ex : ∃ c : T, P c → ∀ v, P v := ex_all ⟨((Classical.choice neW), {}, (0 : Nat), (fun _ => none), default, [], (fun _ => none), (fun _ => none), (fun _ => none), {}, (fun _ _ => False), (0 : Nat), (0 : Nat), (0 : Nat), (0 : Nat), (0 : Nat), (0 : Nat), (0 : Nat), .none, default, default, default, default, default, default, default, default, none, none, none, none, none, 0, 0, 0, 0, (0 : Nat), (0 : Nat), (0 : Nat), (0 : Nat), 0, 0, 0, 0, (0 : Nat), (0 : Nat), (0 : Nat), (0 : Nat), 0, (0 : Nat), (0 : Nat), (0 : Nat), (0 : Nat), 0, 0, (0 : Nat), (0 : Nat), [], [], default, #[], (0 : Nat), (fun _ _ => False))⟩
@[irreducible] noncomputable def cT : T := Classical.choose ex
theorem cS : P cT → ∀ v, P v := by
  unfold cT
  exact Classical.choose_spec ex
noncomputable abbrev w0 : Int := cT.2.2.2.2.2.2.2.2.2.2.2.2.2.2.2.2.2.2.2.2.2.2.2.2.2.2.2.2.2.2.2.2.2.2.2.2.2.2.2.2.1
noncomputable abbrev w1 : Int := cT.2.2.2.2.2.2.2.2.2.2.2.2.2.2.2.2.2.2.2.2.2.2.2.2.2.2.2.2.2.2.2.2.2.2.2.2.2.2.2.2.2.1
noncomputable abbrev w2 : Int := cT.2.2.2.2.2.2.2.2.2.2.2.2.2.2.2.2.2.2.2.2.2.2.2.2.2.2.2.2.2.2.2.2.2.2.2.2.2.2.2.2.2.2.1
noncomputable abbrev w3 : Int := cT.2.2.2.2.2.2.2.2.2.2.2.2.2.2.2.2.2.2.2.2.2.2.2.2.2.2.2.2.2.2.2.2.2.2.2.2.2.2.2.2.2.2.2.1
noncomputable abbrev hs : List Int := cT.2.2.2.2.2.2.2.2.2.2.2.2.2.2.2.2.2.2.2.2.2.2.2.2.2.2.2.2.2.2.2.2.2.2.2.2.2.2.2.2.2.2.2.2.2.2.2.2.2.2.2.2.2.2.2.2.2.2.1
set_option maxRecDepth 100000 in
set_option maxHeartbeats 0 in
theorem main : P0 cT.1 cT.2.1 cT.2.2.1 cT.2.2.2.1 cT.2.2.2.2.1 cT.2.2.2.2.2.1 cT.2.2.2.2.2.2.1 cT.2.2.2.2.2.2.2.1 cT.2.2.2.2.2.2.2.2.1 cT.2.2.2.2.2.2.2.2.2.1 cT.2.2.2.2.2.2.2.2.2.2.1 cT.2.2.2.2.2.2.2.2.2.2.2.1 cT.2.2.2.2.2.2.2.2.2.2.2.2.1 cT.2.2.2.2.2.2.2.2.2.2.2.2.2.1 cT.2.2.2.2.2.2.2.2.2.2.2.2.2.2.1 cT.2.2.2.2.2.2.2.2.2.2.2.2.2.2.2.1 cT.2.2.2.2.2.2.2.2.2.2.2.2.2.2.2.2.1 cT.2.2.2.2.2.2.2.2.2.2.2.2.2.2.2.2.2.1 cT.2.2.2.2.2.2.2.2.2.2.2.2.2.2.2.2.2.2.1 cT.2.2.2.2.2.2.2.2.2.2.2.2.2.2.2.2.2.2.2.1 cT.2.2.2.2.2.2.2.2.2.2.2.2.2.2.2.2.2.2.2.2.1 cT.2.2.2.2.2.2.2.2.2.2.2.2.2.2.2.2.2.2.2.2.2.1 cT.2.2.2.2.2.2.2.2.2.2.2.2.2.2.2.2.2.2.2.2.2.2.1 cT.2.2.2.2.2.2.2.2.2.2.2.2.2.2.2.2.2.2.2.2.2.2.2.1 cT.2.2.2.2.2.2.2.2.2.2.2.2.2.2.2.2.2.2.2.2.2.2.2.2.1 cT.2.2.2.2.2.2.2.2.2.2.2.2.2.2.2.2.2.2.2.2.2.2.2.2.2.1 cT.2.2.2.2.2.2.2.2.2.2.2.2.2.2.2.2.2.2.2.2.2.2.2.2.2.2.1 cT.2.2.2.2.2.2.2.2.2.2.2.2.2.2.2.2.2.2.2.2.2.2.2.2.2.2.2.1 cT.2.2.2.2.2.2.2.2.2.2.2.2.2.2.2.2.2.2.2.2.2.2.2.2.2.2.2.2.1 cT.2.2.2.2.2.2.2.2.2.2.2.2.2.2.2.2.2.2.2.2.2.2.2.2.2.2.2.2.2.1 cT.2.2.2.2.2.2.2.2.2.2.2.2.2.2.2.2.2.2.2.2.2.2.2.2.2.2.2.2.2.2.1 cT.2.2.2.2.2.2.2.2.2.2.2.2.2.2.2.2.2.2.2.2.2.2.2.2.2.2.2.2.2.2.2.1 cT.2.2.2.2.2.2.2.2.2.2.2.2.2.2.2.2.2.2.2.2.2.2.2.2.2.2.2.2.2.2.2.2.1 cT.2.2.2.2.2.2.2.2.2.2.2.2.2.2.2.2.2.2.2.2.2.2.2.2.2.2.2.2.2.2.2.2.2.1 cT.2.2.2.2.2.2.2.2.2.2.2.2.2.2.2.2.2.2.2.2.2.2.2.2.2.2.2.2.2.2.2.2.2.2.1 cT.2.2.2.2.2.2.2.2.2.2.2.2.2.2.2.2.2.2.2.2.2.2.2.2.2.2.2.2.2.2.2.2.2.2.2.1 cT.2.2.2.2.2.2.2.2.2.2.2.2.2.2.2.2.2.2.2.2.2.2.2.2.2.2.2.2.2.2.2.2.2.2.2.2.1 cT.2.2.2.2.2.2.2.2.2.2.2.2.2.2.2.2.2.2.2.2.2.2.2.2.2.2.2.2.2.2.2.2.2.2.2.2.2.1 cT.2.2.2.2.2.2.2.2.2.2.2.2.2.2.2.2.2.2.2.2.2.2.2.2.2.2.2.2.2.2.2.2.2.2.2.2.2.2.1 cT.2.2.2.2.2.2.2.2.2.2.2.2.2.2.2.2.2.2.2.2.2.2.2.2.2.2.2.2.2.2.2.2.2.2.2.2.2.2.2.1 w0 w1 w2 w3 cT.2.2.2.2.2.2.2.2.2.2.2.2.2.2.2.2.2.2.2.2.2.2.2.2.2.2.2.2.2.2.2.2.2.2.2.2.2.2.2.2.2.2.2.2.1 cT.2.2.2.2.2.2.2.2.2.2.2.2.2.2.2.2.2.2.2.2.2.2.2.2.2.2.2.2.2.2.2.2.2.2.2.2.2.2.2.2.2.2.2.2.2.1 cT.2.2.2.2.2.2.2.2.2.2.2.2.2.2.2.2.2.2.2.2.2.2.2.2.2.2.2.2.2.2.2.2.2.2.2.2.2.2.2.2.2.2.2.2.2.2.1 cT.2.2.2.2.2.2.2.2.2.2.2.2.2.2.2.2.2.2.2.2.2.2.2.2.2.2.2.2.2.2.2.2.2.2.2.2.2.2.2.2.2.2.2.2.2.2.2.1 cT.2.2.2.2.2.2.2.2.2.2.2.2.2.2.2.2.2.2.2.2.2.2.2.2.2.2.2.2.2.2.2.2.2.2.2.2.2.2.2.2.2.2.2.2.2.2.2.2.1 cT.2.2.2.2.2.2.2.2.2.2.2.2.2.2.2.2.2.2.2.2.2.2.2.2.2.2.2.2.2.2.2.2.2.2.2.2.2.2.2.2.2.2.2.2.2.2.2.2.2.1 cT.2.2.2.2.2.2.2.2.2.2.2.2.2.2.2.2.2.2.2.2.2.2.2.2.2.2.2.2.2.2.2.2.2.2.2.2.2.2.2.2.2.2.2.2.2.2.2.2.2.2.1 cT.2.2.2.2.2.2.2.2.2.2.2.2.2.2.2.2.2.2.2.2.2.2.2.2.2.2.2.2.2.2.2.2.2.2.2.2.2.2.2.2.2.2.2.2.2.2.2.2.2.2.2.1 cT.2.2.2.2.2.2.2.2.2.2.2.2.2.2.2.2.2.2.2.2.2.2.2.2.2.2.2.2.2.2.2.2.2.2.2.2.2.2.2.2.2.2.2.2.2.2.2.2.2.2.2.2.1 cT.2.2.2.2.2.2.2.2.2.2.2.2.2.2.2.2.2.2.2.2.2.2.2.2.2.2.2.2.2.2.2.2.2.2.2.2.2.2.2.2.2.2.2.2.2.2.2.2.2.2.2.2.2.1 cT.2.2.2.2.2.2.2.2.2.2.2.2.2.2.2.2.2.2.2.2.2.2.2.2.2.2.2.2.2.2.2.2.2.2.2.2.2.2.2.2.2.2.2.2.2.2.2.2.2.2.2.2.2.2.1 cT.2.2.2.2.2.2.2.2.2.2.2.2.2.2.2.2.2.2.2.2.2.2.2.2.2.2.2.2.2.2.2.2.2.2.2.2.2.2.2.2.2.2.2.2.2.2.2.2.2.2.2.2.2.2.2.1 cT.2.2.2.2.2.2.2.2.2.2.2.2.2.2.2.2.2.2.2.2.2.2.2.2.2.2.2.2.2.2.2.2.2.2.2.2.2.2.2.2.2.2.2.2.2.2.2.2.2.2.2.2.2.2.2.2.1 cT.2.2.2.2.2.2.2.2.2.2.2.2.2.2.2.2.2.2.2.2.2.2.2.2.2.2.2.2.2.2.2.2.2.2.2.2.2.2.2.2.2.2.2.2.2.2.2.2.2.2.2.2.2.2.2.2.2.1 hs cT.2.2.2.2.2.2.2.2.2.2.2.2.2.2.2.2.2.2.2.2.2.2.2.2.2.2.2.2.2.2.2.2.2.2.2.2.2.2.2.2.2.2.2.2.2.2.2.2.2.2.2.2.2.2.2.2.2.2.2.1 cT.2.2.2.2.2.2.2.2.2.2.2.2.2.2.2.2.2.2.2.2.2.2.2.2.2.2.2.2.2.2.2.2.2.2.2.2.2.2.2.2.2.2.2.2.2.2.2.2.2.2.2.2.2.2.2.2.2.2.2.2.1 cT.2.2.2.2.2.2.2.2.2.2.2.2.2.2.2.2.2.2.2.2.2.2.2.2.2.2.2.2.2.2.2.2.2.2.2.2.2.2.2.2.2.2.2.2.2.2.2.2.2.2.2.2.2.2.2.2.2.2.2.2.2.1 cT.2.2.2.2.2.2.2.2.2.2.2.2.2.2.2.2.2.2.2.2.2.2.2.2.2.2.2.2.2.2.2.2.2.2.2.2.2.2.2.2.2.2.2.2.2.2.2.2.2.2.2.2.2.2.2.2.2.2.2.2.2.2 := by
  unfold P0
  intro sc bd hsc hbd K' X' T' C1 C2 l0 hE F N e1 e2 e3 e4 e5 e6 e7 e8 offD0 offD1 offD2 offcA offD3 offD4 hn0 hn1 hn2 hn3 hw0 hw1 hw2 hw3 hpl hst0 hst1 hI hlen edA evA fin
  have hsc0 := hsc
  have hbd0 := hbd
  conv at hsc => lhs; whnf
  conv at hbd => lhs; whnf
  subst hsc hbd
  have hmark7 := MarkS.mk 7
  k_steps
  refine Hold.out ?_
  rw [abs_sum] at *
  generalize hSz : ((w0.natAbs + w1.natAbs + w2.natAbs + w3.natAbs : Nat) : Int) = Sz at *
  have hSb := bits_sz (x := Sz) (by omega) (by omega)
  have hmark9 := MarkS.mk 9
  k_steps
  refine Hold.out ?_
  have hWx := width_ok Sz (hs.getD (9 : Int).toNat 0) (by omega) hSb.2
  refine (fun (hgo : ∀ z : Int, (0 < z ∧ z ≤ 72 ∧ 2 * (6 * Sz * Sz) < 2 ^ z.toNat) → wpAny _ _ (storeName _ _ (Value.int z _)) _ _ _) => hgo _ hWx) ?_
  clear hWx
  intro Wd hWx
  have hmark8 := MarkS.mk 8
  k_steps
  refine Hold.out ?_
  k_dflt (refine' pow_int ?kb1 ?kb2 ?_; (case kb1 => omega); (case kb2 => exact two_fits (Int.le_of_lt hWx.1) hWx.2.1))
  obtain ⟨Bs, hBs⟩ : ∃ z : Int, (2 : Int) ^ Wd.toNat = z := ⟨_, rfl⟩
  rw [hBs]
  have hmark5 := MarkS.mk 5
  k_steps
  refine Hold.out ?_

  k_dflt (refine' law_t3 ?hsc ?hbd K' X' T' C1 C2 l0 ?hE ?F ?N ?e2 ?e3 ?e4 ?e5 ?e6 ?e7 ?e8 ?offD1 ?offD2 ?offcA ?offD3 ?offD4 hn0 hn1 hn2 hn3 hw0 hw1 hw2 hw3 hpl hst0 hst1 edA evA hSz hWx.1 hWx.2.1 hWx.2.2 hBs ?fin; (case hE => exact hE); (case hsc => exact hsc0); (case hbd => exact drop_more 3 hbd0); (case F => k_asm); (case N => (first | k_asm | (refine news_sub (by k_asm) ?_; (repeat' (first | exact List.forall_mem_nil _ | refine List.forall_mem_cons.mpr ⟨?_, ?_⟩)); all_goals (repeat first | exact List.Mem.head _ | refine List.Mem.tail _ ?_)))); (case e2 => assumption); (case e3 => assumption); (case e4 => assumption); (case e5 => assumption); (case e6 => assumption); (case e7 => assumption); (case e8 => assumption); (case offD1 => ((repeat' (first | exact trivial | refine And.intro ?_ ?_)); all_goals (first | k_ne | fail "k_ne"))); (case offD2 => ((repeat' (first | exact trivial | refine And.intro ?_ ?_)); all_goals (first | k_ne | fail "k_ne"))); (case offcA => ((repeat' (first | exact trivial | refine And.intro ?_ ?_)); all_goals (first | k_ne | fail "k_ne"))); (case offD3 => ((repeat' (first | exact trivial | refine And.intro ?_ ?_)); all_goals (first | k_ne | fail "k_ne"))); (case offD4 => ((repeat' (first | exact trivial | refine And.intro ?_ ?_)); all_goals (first | k_ne | fail "k_ne"))))
  case fin => exact fin
end X_law_t2
theorem law_t2 {w : World} {h₀ : Heap} {L : Addr} {m : Str → Option Value} {p : Program} {loose : List Str} {mean : ExcName → Option Value} {mg : Str → Option Value} {mb : Str → Option Value} {s : Shared} {E : Value → Shared → Prop} {fa : Addr} {D0 : Addr} {D1 : Addr} {D2 : Addr} {cA : Addr} {D3 : Addr} {D4 : Addr} {cd : Value} {c1 : Obj} {c2 : Obj} {c3 : Obj} {c4 : Obj} {c5 : Obj} {c6 : Obj} {c7 : Obj} {c8 : Obj} {x4 : Option Value} {x5 : Option Value} {x6 : Option Value} {x7 : Option Value} {x8 : Option Value} {n0 : Nat} {n1 : Nat} {n2 : Nat} {n3 : Nat} {u0 : Tok} {u1 : Tok} {u2 : Tok} {u3 : Tok} {w0 : Int} {w1 : Int} {w2 : Int} {w3 : Int} {v0 : Tok} {v1 : Tok} {v2 : Tok} {v3 : Tok} {pl : Int} {tw0 : Tok} {tw1 : Tok} {tw2 : Tok} {tw3 : Tok} {st0 : Nat} {st1 : Nat} {q0 : Tok} {q1 : Tok} {us : List Value} {hs : List Int} {ocA : Obj} {cvA : Array Value} {tcA : Tok} {Qf : Flow → Shared → Prop} {sc : Scope} {bd : List Stmt} (hsc : fnScope lawS = sc) (hbd : (fnBody lawS).drop 5 = bd) (K' : Below callerA h₀ [] h₀) (X' : (kk w.params).In h₀) (T' : Top p loose mean mg mb h₀) (C1 : CodeHd h₀ 41 37) (C2 : CodeHd h₀ 34 30) (l0 : @LT.lt Nat _ 37 L ∧ @LT.lt Nat _ 30 L) (hE : PassesOwn (model PySem.Challenge.rw_tc0016_01.row.prog w) (callerA.deeper (envOfC "law" sc L fa cd)) (envOfC "law" sc L fa cd) E) (F : Fr h₀ L s.heap (fun y => if y = "strange" then some (.ref D4) else if y = "words" then some (.ref D3) else m y)) (N : News h₀ L s.heap [(D4, LCg.lst [.str ⟨#[st0]⟩ q0, .str ⟨#[st1]⟩ q1]), (D3, LCg.lst [.str (word n0 pl) tw0, .str (word n1 pl) tw1, .str (word n2 pl) tw2, .str (word n3 pl) tw3]), (30, hitA cA), (cA, ocA), (37, tabObj #[]), (L + 1, c1), (L + 1 + 1, c2), (L + 1 + 1 + 1, c3), (L + 1 + 1 + 1 + 1, c4), (L + 1 + 1 + 1 + 1 + 1, c5), (L + 1 + 1 + 1 + 1 + 1 + 1, c6), (L + 1 + 1 + 1 + 1 + 1 + 1 + 1, c7), (L + 1 + 1 + 1 + 1 + 1 + 1 + 1 + 1, c8), (D0, LCg.lst us), (D1, LCg.lst [.int n0 u0, .int n1 u1, .int n2 u2, .int n3 u3]), (D2, LCg.lst [.int w0 v0, .int w1 v1, .int w2 v2, .int w3 v3])]) (e1 : c1.data = .cell (some (.ref D0))) (e2 : c2.data = .cell (some (.ref D1))) (e3 : c3.data = .cell (some (.ref D2))) (e4 : c4.data = .cell x4) (e5 : c5.data = .cell x5) (e6 : c6.data = .cell x6) (e7 : c7.data = .cell x7) (e8 : c8.data = .cell x8) (offD0 : LCg.Off1 D0 [(30, hitA cA), (37, tabObj #[]), (L + 1, c1), (L + 1 + 1, c2), (L + 1 + 1 + 1, c3), (L + 1 + 1 + 1 + 1, c4), (L + 1 + 1 + 1 + 1 + 1, c5), (L + 1 + 1 + 1 + 1 + 1 + 1, c6), (L + 1 + 1 + 1 + 1 + 1 + 1 + 1, c7), (L + 1 + 1 + 1 + 1 + 1 + 1 + 1 + 1, c8)]) (offD1 : LCg.Off1 D1 [(D0, LCg.lst us), (30, hitA cA), (37, tabObj #[]), (L + 1, c1), (L + 1 + 1, c2), (L + 1 + 1 + 1, c3), (L + 1 + 1 + 1 + 1, c4), (L + 1 + 1 + 1 + 1 + 1, c5), (L + 1 + 1 + 1 + 1 + 1 + 1, c6), (L + 1 + 1 + 1 + 1 + 1 + 1 + 1, c7), (L + 1 + 1 + 1 + 1 + 1 + 1 + 1 + 1, c8)]) (offD2 : LCg.Off1 D2 [(D0, LCg.lst us), (D1, LCg.lst [.int n0 u0, .int n1 u1, .int n2 u2, .int n3 u3]), (30, hitA cA), (37, tabObj #[]), (L + 1, c1), (L + 1 + 1, c2), (L + 1 + 1 + 1, c3), (L + 1 + 1 + 1 + 1, c4), (L + 1 + 1 + 1 + 1 + 1, c5), (L + 1 + 1 + 1 + 1 + 1 + 1, c6), (L + 1 + 1 + 1 + 1 + 1 + 1 + 1, c7), (L + 1 + 1 + 1 + 1 + 1 + 1 + 1 + 1, c8)]) (offcA : LCg.Off1 cA [(D0, LCg.lst us), (D1, LCg.lst [.int n0 u0, .int n1 u1, .int n2 u2, .int n3 u3]), (D2, LCg.lst [.int w0 v0, .int w1 v1, .int w2 v2, .int w3 v3]), (30, hitA cA), (37, tabObj #[]), (L + 1, c1), (L + 1 + 1, c2), (L + 1 + 1 + 1, c3), (L + 1 + 1 + 1 + 1, c4), (L + 1 + 1 + 1 + 1 + 1, c5), (L + 1 + 1 + 1 + 1 + 1 + 1, c6), (L + 1 + 1 + 1 + 1 + 1 + 1 + 1, c7), (L + 1 + 1 + 1 + 1 + 1 + 1 + 1 + 1, c8)]) (offD3 : LCg.Off1 D3 [(D0, LCg.lst us), (D1, LCg.lst [.int n0 u0, .int n1 u1, .int n2 u2, .int n3 u3]), (D2, LCg.lst [.int w0 v0, .int w1 v1, .int w2 v2, .int w3 v3]), (cA, ocA), (30, hitA cA), (37, tabObj #[]), (L + 1, c1), (L + 1 + 1, c2), (L + 1 + 1 + 1, c3), (L + 1 + 1 + 1 + 1, c4), (L + 1 + 1 + 1 + 1 + 1, c5), (L + 1 + 1 + 1 + 1 + 1 + 1, c6), (L + 1 + 1 + 1 + 1 + 1 + 1 + 1, c7), (L + 1 + 1 + 1 + 1 + 1 + 1 + 1 + 1, c8)]) (offD4 : LCg.Off1 D4 [(D0, LCg.lst us), (D1, LCg.lst [.int n0 u0, .int n1 u1, .int n2 u2, .int n3 u3]), (D2, LCg.lst [.int w0 v0, .int w1 v1, .int w2 v2, .int w3 v3]), (cA, ocA), (D3, LCg.lst [.str (word n0 pl) tw0, .str (word n1 pl) tw1, .str (word n2 pl) tw2, .str (word n3 pl) tw3]), (30, hitA cA), (37, tabObj #[]), (L + 1, c1), (L + 1 + 1, c2), (L + 1 + 1 + 1, c3), (L + 1 + 1 + 1 + 1, c4), (L + 1 + 1 + 1 + 1 + 1, c5), (L + 1 + 1 + 1 + 1 + 1 + 1, c6), (L + 1 + 1 + 1 + 1 + 1 + 1 + 1, c7), (L + 1 + 1 + 1 + 1 + 1 + 1 + 1 + 1, c8)]) (hn0 : n0 < 16) (hn1 : n1 < 16) (hn2 : n2 < 16) (hn3 : n3 < 16) (hw0 : -1000000000 ≤ w0 ∧ w0 ≤ 1000000000) (hw1 : -1000000000 ≤ w1 ∧ w1 ≤ 1000000000) (hw2 : -1000000000 ≤ w2 ∧ w2 ≤ 1000000000) (hw3 : -1000000000 ≤ w3 ∧ w3 ≤ 1000000000) (hpl : 0 ≤ pl ∧ pl < 23) (hst0 : st0 = (97 + (pl + 4 + 0).fmod 26).toNat) (hst1 : st1 = (97 + (pl + 4 + 1).fmod 26).toNat) (hI : IntsAre us hs) (hlen : hs.length = 10) (edA : ocA.data = .fields cvA) (evA : cvA[1]? = some (.str quA tcA)) (fin : ∀ m' h' tk' cA cB rest, Fr h₀ L h' m' → News h₀ L h' ((30, hitA cA) :: (37, hitB cB) :: rest) → Qf (.ret (.bool true)) { s with heap := h', toks := tk' }) :
   wpAny (model PySem.Challenge.rw_tc0016_01.row.prog w) (callerA.deeper (envOfC "law" sc L fa cd)) (execs bd (envOfC "law" sc L fa cd)) Qf E s :=
  X_law_t2.cS X_law_t2.main (w, h₀, L, m, p, loose, mean, mg, mb, s, E, fa, D0, D1, D2, cA, D3, D4, cd, c1, c2, c3, c4, c5, c6, c7, c8, x4, x5, x6, x7, x8, n0, n1, n2, n3, u0, u1, u2, u3, w0, w1, w2, w3, v0, v1, v2, v3, pl, tw0, tw1, tw2, tw3, st0, st1, q0, q1, us, hs, ocA, cvA, tcA, Qf) sc bd hsc hbd K' X' T' C1 C2 l0 hE F N e1 e2 e3 e4 e5 e6 e7 e8 offD0 offD1 offD2 offcA offD3 offD4 hn0 hn1 hn2 hn3 hw0 hw1 hw2 hw3 hpl hst0 hst1 hI hlen edA evA fin

-- lawt1
namespace X_law_t1
noncomputable def P0 (w : World) (h₀ : Heap) (L : Addr) (m : Str → Option Value) (p : Program) (loose : List Str) (mean : ExcName → Option Value) (mg : Str → Option Value) (mb : Str → Option Value) (s : Shared) (E : Value → Shared → Prop) (fa : Addr) (D0 : Addr) (D1 : Addr) (D2 : Addr) (cd : Value) (c1 : Obj) (c2 : Obj) (c3 : Obj) (c4 : Obj) (c5 : Obj) (c6 : Obj) (c7 : Obj) (c8 : Obj) (x4 : Option Value) (x5 : Option Value) (x6 : Option Value) (x7 : Option Value) (x8 : Option Value) (n0 : Nat) (n1 : Nat) (n2 : Nat) (n3 : Nat) (u0 : Tok) (u1 : Tok) (u2 : Tok) (u3 : Tok) (w0 : Int) (w1 : Int) (w2 : Int) (w3 : Int) (v0 : Tok) (v1 : Tok) (v2 : Tok) (v3 : Tok) (us : List Value) (hs : List Int) (Qf : Flow → Shared → Prop) : Prop := ∀ (sc : Scope) (bd : List Stmt) (hsc : fnScope lawS = sc) (hbd : (fnBody lawS).drop 3 = bd) (K' : Below callerA h₀ [] h₀) (X' : (kk w.params).In h₀) (T' : Top p loose mean mg mb h₀) (C1 : CodeHd h₀ 41 37) (C2 : CodeHd h₀ 34 30) (l0 : @LT.lt Nat _ 37 L ∧ @LT.lt Nat _ 30 L) (hE : PassesOwn (model PySem.Challenge.rw_tc0016_01.row.prog w) (callerA.deeper (envOfC "law" sc L fa cd)) (envOfC "law" sc L fa cd) E) (F : Fr h₀ L s.heap (m)) (N : News h₀ L s.heap [(D2, LCg.lst [.int w0 v0, .int w1 v1, .int w2 v2, .int w3 v3]), (D1, LCg.lst [.int n0 u0, .int n1 u1, .int n2 u2, .int n3 u3]), (D0, LCg.lst us), (L + 1 + 1 + 1 + 1 + 1 + 1 + 1 + 1, c8), (L + 1 + 1 + 1 + 1 + 1 + 1 + 1, c7), (L + 1 + 1 + 1 + 1 + 1 + 1, c6), (L + 1 + 1 + 1 + 1 + 1, c5), (L + 1 + 1 + 1 + 1, c4), (L + 1 + 1 + 1, c3), (L + 1 + 1, c2), (L + 1, c1), (37, tabObj #[]), (30, tabObj #[])]) (e1 : c1.data = .cell (some (.ref D0))) (e2 : c2.data = .cell (some (.ref D1))) (e3 : c3.data = .cell (some (.ref D2))) (e4 : c4.data = .cell x4) (e5 : c5.data = .cell x5) (e6 : c6.data = .cell x6) (e7 : c7.data = .cell x7) (e8 : c8.data = .cell x8) (offD0 : LCg.Off1 D0 [(L + 1 + 1 + 1 + 1 + 1 + 1 + 1 + 1, c8), (L + 1 + 1 + 1 + 1 + 1 + 1 + 1, c7), (L + 1 + 1 + 1 + 1 + 1 + 1, c6), (L + 1 + 1 + 1 + 1 + 1, c5), (L + 1 + 1 + 1 + 1, c4), (L + 1 + 1 + 1, c3), (L + 1 + 1, c2), (L + 1, c1), (37, tabObj #[]), (30, tabObj #[])]) (offD1 : LCg.Off1 D1 [(D0, LCg.lst us), (L + 1 + 1 + 1 + 1 + 1 + 1 + 1 + 1, c8), (L + 1 + 1 + 1 + 1 + 1 + 1 + 1, c7), (L + 1 + 1 + 1 + 1 + 1 + 1, c6), (L + 1 + 1 + 1 + 1 + 1, c5), (L + 1 + 1 + 1 + 1, c4), (L + 1 + 1 + 1, c3), (L + 1 + 1, c2), (L + 1, c1), (37, tabObj #[]), (30, tabObj #[])]) (offD2 : LCg.Off1 D2 [(D0, LCg.lst us), (D1, LCg.lst [.int n0 u0, .int n1 u1, .int n2 u2, .int n3 u3]), (L + 1 + 1 + 1 + 1 + 1 + 1 + 1 + 1, c8), (L + 1 + 1 + 1 + 1 + 1 + 1 + 1, c7), (L + 1 + 1 + 1 + 1 + 1 + 1, c6), (L + 1 + 1 + 1 + 1 + 1, c5), (L + 1 + 1 + 1 + 1, c4), (L + 1 + 1 + 1, c3), (L + 1 + 1, c2), (L + 1, c1), (37, tabObj #[]), (30, tabObj #[])]) (hn0 : n0 < 16) (hn1 : n1 < 16) (hn2 : n2 < 16) (hn3 : n3 < 16) (hw0 : -1000000000 ≤ w0 ∧ w0 ≤ 1000000000) (hw1 : -1000000000 ≤ w1 ∧ w1 ≤ 1000000000) (hw2 : -1000000000 ≤ w2 ∧ w2 ≤ 1000000000) (hw3 : -1000000000 ≤ w3 ∧ w3 ≤ 1000000000) (hI : IntsAre us hs) (hlen : hs.length = 10) (fin : ∀ m' h' tk' cA cB rest, Fr h₀ L h' m' → News h₀ L h' ((30, hitA cA) :: (37, hitB cB) :: rest) → Qf (.ret (.bool true)) { s with heap := h', toks := tk' }),
   wpAny (model PySem.Challenge.rw_tc0016_01.row.prog w) (callerA.deeper (envOfC "law" sc L fa cd)) (execs bd (envOfC "law" sc L fa cd)) Qf E s
abbrev T : Type := World × Heap × Addr × (Str → Option Value) × Program × (List Str) × (ExcName → Option Value) × (Str → Option Value) × (Str → Option Value) × Shared × (Value → Shared → Prop) × Addr × Addr × Addr × Addr × Value × Obj × Obj × Obj × Obj × Obj × Obj × Obj × Obj × (Option Value) × (Option Value) × (Option Value) × (Option Value) × (Option Value) × Nat × Nat × Nat × Nat × Tok × Tok × Tok × Tok × Int × Int × Int × Int × Tok × Tok × Tok × Tok × (List Value) × (List Int) × (Flow → Shared → Prop)
noncomputable def P (v : T) : Prop := P0 v.1 v.2.1 v.2.2.1 v.2.2.2.1 v.2.2.2.2.1 v.2.2.2.2.2.1 v.2.2.2.2.2.2.1 v.2.2.2.2.2.2.2.1 v.2.2.2.2.2.2.2.2.1 v.2.2.2.2.2.2.2.2.2.1 v.2.2.2.2.2.2.2.2.2.2.1 v.2.2.2.2.2.2.2.2.2.2.2.1 v.2.2.2.2.2.2.2.2.2.2.2.2.1 v.2.2.2.2.2.2.2.2.2.2.2.2.2.1 v.2.2.2.2.2.2.2.2.2.2.2.2.2.2.1 v.2.2.2.2.2.2.2.2.2.2.2.2.2.2.2.1 v.2.2.2.2.2.2.2.2.2.2.2.2.2.2.2.2.1 v.2.2.2.2.2.2.2.2.2.2.2.2.2.2.2.2.2.1 v.2.2.2.2.2.2.2.2.2.2.2.2.2.2.2.2.2.2.1 v.2.2.2.2.2.2.2.2.2.2.2.2.2.2.2.2.2.2.2.1 v.2.2.2.2.2.2.2.2.2.2.2.2.2.2.2.2.2.2.2.2.1 v.2.2.2.2.2.2.2.2.2.2.2.2.2.2.2.2.2.2.2.2.2.1 v.2.2.2.2.2.2.2.2.2.2.2.2.2.2.2.2.2.2.2.2.2.2.1 v.2.2.2.2.2.2.2.2.2.2.2.2.2.2.2.2.2.2.2.2.2.2.2.1 v.2.2.2.2.2.2.2.2.2.2.2.2.2.2.2.2.2.2.2.2.2.2.2.2.1 v.2.2.2.2.2.2.2.2.2.2.2.2.2.2.2.2.2.2.2.2.2.2.2.2.2.1 v.2.2.2.2.2.2.2.2.2.2.2.2.2.2.2.2.2.2.2.2.2.2.2.2.2.2.1 v.2.2.2.2.2.2.2.2.2.2.2.2.2.2.2.2.2.2.2.2.2.2.2.2.2.2.2.1 v.2.2.2.2.2.2.2.2.2.2.2.2.2.2.2.2.2.2.2.2.2.2.2.2.2.2.2.2.1 v.2.2.2.2.2.2.2.2.2.2.2.2.2.2.2.2.2.2.2.2.2.2.2.2.2.2.2.2.2.1 v.2.2.2.2.2.2.2.2.2.2.2.2.2.2.2.2.2.2.2.2.2.2.2.2.2.2.2.2.2.2.1 v.2.2.2.2.2.2.2.2.2.2.2.2.2.2.2.2.2.2.2.2.2.2.2.2.2.2.2.2.2.2.2.1 v.2.2.2.2.2.2.2.2.2.2.2.2.2.2.2.2.2.2.2.2.2.2.2.2.2.2.2.2.2.2.2.2.1 v.2.2.2.2.2.2.2.2.2.2.2.2.2.2.2.2.2.2.2.2.2.2.2.2.2.2.2.2.2.2.2.2.2.1 v.2.2.2.2.2.2.2.2.2.2.2.2.2.2.2.2.2.2.2.2.2.2.2.2.2.2.2.2.2.2.2.2.2.2.1 v.2.2.2.2.2.2.2.2.2.2.2.2.2.2.2.2.2.2.2.2.2.2.2.2.2.2.2.2.2.2.2.2.2.2.2.1 v.2.2.2.2.2.2.2.2.2.2.2.2.2.2.2.2.2.2.2.2.2.2.2.2.2.2.2.2.2.2.2.2.2.2.2.2.1 v.2.2.2.2.2.2.2.2.2.2.2.2.2.2.2.2.2.2.2.2.2.2.2.2.2.2.2.2.2.2.2.2.2.2.2.2.2.1 v.2.2.2.2.2.2.2.2.2.2.2.2.2.2.2.2.2.2.2.2.2.2.2.2.2.2.2.2.2.2.2.2.2.2.2.2.2.2.1 v.2.2.2.2.2.2.2.2.2.2.2.2.2.2.2.2.2.2.2.2.2.2.2.2.2.2.2.2.2.2.2.2.2.2.2.2.2.2.2.1 v.2.2.2.2.2.2.2.2.2.2.2.2.2.2.2.2.2.2.2.2.2.2.2.2.2.2.2.2.2.2.2.2.2.2.2.2.2.2.2.2.1 v.2.2.2.2.2.2.2.2.2.2.2.2.2.2.2.2.2.2.2.2.2.2.2.2.2.2.2.2.2.2.2.2.2.2.2.2.2.2.2.2.2.1 v.2.2.2.2.2.2.2.2.2.2.2.2.2.2.2.2.2.2.2.2.2.2.2.2.2.2.2.2.2.2.2.2.2.2.2.2.2.2.2.2.2.2.1 v.2.2.2.2.2.2.2.2.2.2.2.2.2.2.2.2.2.2.2.2.2.2.2.2.2.2.2.2.2.2.2.2.2.2.2.2.2.2.2.2.2.2.2.1 v.2.2.2.2.2.2.2.2.2.2.2.2.2.2.2.2.2.2.2.2.2.2.2.2.2.2.2.2.2.2.2.2.2.2.2.2.2.2.2.2.2.2.2.2.1 v.2.2.2.2.2.2.2.2.2.2.2.2.2.2.2.2.2.2.2.2.2.2.2.2.2.2.2.2.2.2.2.2.2.2.2.2.2.2.2.2.2.2.2.2.2.1 v.2.2.2.2.2.2.2.2.2.2.2.2.2.2.2.2.2.2.2.2.2.2.2.2.2.2.2.2.2.2.2.2.2.2.2.2.2.2.2.2.2.2.2.2.2.2.1 v.2.2.2.2.2.2.2.2.2.2.2.2.2.2.2.2.2.2.2.2.2.2.2.2.2.2.2.2.2.2.2.2.2.2.2.2.2.2.2.2.2.2.2.2.2.2.2
theorem ex : ∃ c : T, P c → ∀ v, P v := ex_all ⟨((Classical.choice neW), {}, (0 : Nat), (fun _ => none), default, [], (fun _ => none), (fun _ => none), (fun _ => none), {}, (fun _ _ => False), (0 : Nat), (0 : Nat), (0 : Nat), (0 : Nat), .none, default, default, default, default, default, default, default, default, none, none, none, none, none, 0, 0, 0, 0, (0 : Nat), (0 : Nat), (0 : Nat), (0 : Nat), 0, 0, 0, 0, (0 : Nat), (0 : Nat), (0 : Nat), (0 : Nat), [], [], (fun _ _ => False))⟩
@[irreducible] noncomputable def cT : T := Classical.choose ex
theorem cS : P cT → ∀ v, P v := by
  unfold cT
  exact Classical.choose_spec ex
noncomputable abbrev D2 : Addr := cT.2.2.2.2.2.2.2.2.2.2.2.2.2.2.1
noncomputable abbrev n0 : Nat := cT.2.2.2.2.2.2.2.2.2.2.2.2.2.2.2.2.2.2.2.2.2.2.2.2.2.2.2.2.2.1
noncomputable abbrev n1 : Nat := cT.2.2.2.2.2.2.2.2.2.2.2.2.2.2.2.2.2.2.2.2.2.2.2.2.2.2.2.2.2.2.1
noncomputable abbrev n2 : Nat := cT.2.2.2.2.2.2.2.2.2.2.2.2.2.2.2.2.2.2.2.2.2.2.2.2.2.2.2.2.2.2.2.1
noncomputable abbrev n3 : Nat := cT.2.2.2.2.2.2.2.2.2.2.2.2.2.2.2.2.2.2.2.2.2.2.2.2.2.2.2.2.2.2.2.2.1
noncomputable abbrev hs : List Int := cT.2.2.2.2.2.2.2.2.2.2.2.2.2.2.2.2.2.2.2.2.2.2.2.2.2.2.2.2.2.2.2.2.2.2.2.2.2.2.2.2.2.2.2.2.2.2.1
set_option maxRecDepth 100000 in
set_option maxHeartbeats 0 in
theorem main : P0 cT.1 cT.2.1 cT.2.2.1 cT.2.2.2.1 cT.2.2.2.2.1 cT.2.2.2.2.2.1 cT.2.2.2.2.2.2.1 cT.2.2.2.2.2.2.2.1 cT.2.2.2.2.2.2.2.2.1 cT.2.2.2.2.2.2.2.2.2.1 cT.2.2.2.2.2.2.2.2.2.2.1 cT.2.2.2.2.2.2.2.2.2.2.2.1 cT.2.2.2.2.2.2.2.2.2.2.2.2.1 cT.2.2.2.2.2.2.2.2.2.2.2.2.2.1 D2 cT.2.2.2.2.2.2.2.2.2.2.2.2.2.2.2.1 cT.2.2.2.2.2.2.2.2.2.2.2.2.2.2.2.2.1 cT.2.2.2.2.2.2.2.2.2.2.2.2.2.2.2.2.2.1 cT.2.2.2.2.2.2.2.2.2.2.2.2.2.2.2.2.2.2.1 cT.2.2.2.2.2.2.2.2.2.2.2.2.2.2.2.2.2.2.2.1 cT.2.2.2.2.2.2.2.2.2.2.2.2.2.2.2.2.2.2.2.2.1 cT.2.2.2.2.2.2.2.2.2.2.2.2.2.2.2.2.2.2.2.2.2.1 cT.2.2.2.2.2.2.2.2.2.2.2.2.2.2.2.2.2.2.2.2.2.2.1 cT.2.2.2.2.2.2.2.2.2.2.2.2.2.2.2.2.2.2.2.2.2.2.2.1 cT.2.2.2.2.2.2.2.2.2.2.2.2.2.2.2.2.2.2.2.2.2.2.2.2.1 cT.2.2.2.2.2.2.2.2.2.2.2.2.2.2.2.2.2.2.2.2.2.2.2.2.2.1 cT.2.2.2.2.2.2.2.2.2.2.2.2.2.2.2.2.2.2.2.2.2.2.2.2.2.2.1 cT.2.2.2.2.2.2.2.2.2.2.2.2.2.2.2.2.2.2.2.2.2.2.2.2.2.2.2.1 cT.2.2.2.2.2.2.2.2.2.2.2.2.2.2.2.2.2.2.2.2.2.2.2.2.2.2.2.2.1 n0 n1 n2 n3 cT.2.2.2.2.2.2.2.2.2.2.2.2.2.2.2.2.2.2.2.2.2.2.2.2.2.2.2.2.2.2.2.2.2.1 cT.2.2.2.2.2.2.2.2.2.2.2.2.2.2.2.2.2.2.2.2.2.2.2.2.2.2.2.2.2.2.2.2.2.2.1 cT.2.2.2.2.2.2.2.2.2.2.2.2.2.2.2.2.2.2.2.2.2.2.2.2.2.2.2.2.2.2.2.2.2.2.2.1 cT.2.2.2.2.2.2.2.2.2.2.2.2.2.2.2.2.2.2.2.2.2.2.2.2.2.2.2.2.2.2.2.2.2.2.2.2.1 cT.2.2.2.2.2.2.2.2.2.2.2.2.2.2.2.2.2.2.2.2.2.2.2.2.2.2.2.2.2.2.2.2.2.2.2.2.2.1 cT.2.2.2.2.2.2.2.2.2.2.2.2.2.2.2.2.2.2.2.2.2.2.2.2.2.2.2.2.2.2.2.2.2.2.2.2.2.2.1 cT.2.2.2.2.2.2.2.2.2.2.2.2.2.2.2.2.2.2.2.2.2.2.2.2.2.2.2.2.2.2.2.2.2.2.2.2.2.2.2.1 cT.2.2.2.2.2.2.2.2.2.2.2.2.2.2.2.2.2.2.2.2.2.2.2.2.2.2.2.2.2.2.2.2.2.2.2.2.2.2.2.2.1 cT.2.2.2.2.2.2.2.2.2.2.2.2.2.2.2.2.2.2.2.2.2.2.2.2.2.2.2.2.2.2.2.2.2.2.2.2.2.2.2.2.2.1 cT.2.2.2.2.2.2.2.2.2.2.2.2.2.2.2.2.2.2.2.2.2.2.2.2.2.2.2.2.2.2.2.2.2.2.2.2.2.2.2.2.2.2.1 cT.2.2.2.2.2.2.2.2.2.2.2.2.2.2.2.2.2.2.2.2.2.2.2.2.2.2.2.2.2.2.2.2.2.2.2.2.2.2.2.2.2.2.2.1 cT.2.2.2.2.2.2.2.2.2.2.2.2.2.2.2.2.2.2.2.2.2.2.2.2.2.2.2.2.2.2.2.2.2.2.2.2.2.2.2.2.2.2.2.2.1 cT.2.2.2.2.2.2.2.2.2.2.2.2.2.2.2.2.2.2.2.2.2.2.2.2.2.2.2.2.2.2.2.2.2.2.2.2.2.2.2.2.2.2.2.2.2.1 hs cT.2.2.2.2.2.2.2.2.2.2.2.2.2.2.2.2.2.2.2.2.2.2.2.2.2.2.2.2.2.2.2.2.2.2.2.2.2.2.2.2.2.2.2.2.2.2.2 := by
  unfold P0
  intro sc bd hsc hbd K' X' T' C1 C2 l0 hE F N e1 e2 e3 e4 e5 e6 e7 e8 offD0 offD1 offD2 hn0 hn1 hn2 hn3 hw0 hw1 hw2 hw3 hI hlen fin
  have hsc0 := hsc
  have hbd0 := hbd
  conv at hsc => lhs; whnf
  conv at hbd => lhs; whnf
  subst hsc hbd
  have hp9 := fm23 (hs.getD (8 : Int).toNat 0)
  have hmark := MarkS.mk 2
  k_steps
  refine Hold.out ?_
  refine LCg.CompSrc.ledger (by rfl) (by k_asm) (by k_asm) (by k_mem) (by exact Nat.le_of_ble_eq_true rfl) ?_
  intro gg2
  lcg_lit
  k_steps
  refine Hold.out ?_
  rename News _ _ _ _ => lN
  replace lN := news_rev lN
  simp only [List.reverse_cons, List.reverse_nil, List.nil_append, List.cons_append] at lN
  k_dflt (refine' c_word (X := n0) (ps := #[]) ?k1 ?k2 ?k3 ?k5 ?kK ?kd ?ku lN ?hne ?hC ?hok rfl hn0 hp9.1 hp9.2 ?_; (case k1 => k_asm); (case k2 => k_asm); (case k3 => k_asm); (case k5 => k_asm); (case kK => exact rfl); (case kd => ktr_room); (case ku => ktr_units); (case hne => k_all); (case hC => assumption); (case hok => exact Or.inl rfl))
  intro cA ocA cvA tcA tw0 hhw1 tkw1 Fw1 Nw1 edA evA ca
  obtain ⟨oc1, hcA⟩ := word_new ca (by exact List.Mem.head _) (by decide)
  clear ca
  k_steps
  refine Hold.out ?_
  k_dflt (refine' c_word_hit (X := n1) ?k1 ?k2 ?k3 ?k5 ?kK ?kd ?ku ?kN ?h30 ?hc edA evA ?hC rfl hn1 hp9.1 hp9.2 hcA ?_; (case k1 => k_asm); (case k2 => k_asm); (case k3 => k_asm); (case k5 => k_asm); (case kK => exact rfl); (case kd => ktr_room); (case ku => ktr_units); (case kN => k_asm); (case h30 => k_mem); (case hc => k_mem); (case hC => assumption))
  intro tw1 hhw2 tkw2 Fw2 Nw2
  k_steps
  refine Hold.out ?_
  k_dflt (refine' c_word_hit (X := n2) ?k1 ?k2 ?k3 ?k5 ?kK ?kd ?ku ?kN ?h30 ?hc edA evA ?hC rfl hn2 hp9.1 hp9.2 hcA ?_; (case k1 => k_asm); (case k2 => k_asm); (case k3 => k_asm); (case k5 => k_asm); (case kK => exact rfl); (case kd => ktr_room); (case ku => ktr_units); (case kN => k_asm); (case h30 => k_mem); (case hc => k_mem); (case hC => assumption))
  intro tw2 hhw3 tkw3 Fw3 Nw3
  k_steps
  refine Hold.out ?_
  k_dflt (refine' c_word_hit (X := n3) ?k1 ?k2 ?k3 ?k5 ?kK ?kd ?ku ?kN ?h30 ?hc edA evA ?hC rfl hn3 hp9.1 hp9.2 hcA ?_; (case k1 => k_asm); (case k2 => k_asm); (case k3 => k_asm); (case k5 => k_asm); (case kK => exact rfl); (case kd => ktr_room); (case ku => ktr_units); (case kN => k_asm); (case h30 => k_mem); (case hc => k_mem); (case hC => assumption))
  intro tw3 hhw4 tkw4 Fw4 Nw4
  have hmark5 := MarkS.mk 5
  k_steps
  refine Hold.out ?_
  have hmark := MarkS.mk 2
  k_steps
  refine Hold.out ?_
  refine LCg.CompSrc.range (n := 2) (by rfl) (by k_asm) (by k_asm) (by assumption) (by decide) (by rfl) (by decide) ?_
  intro gg3
  refine comp_range (fun k y => ∃ t, y = .str ⟨#[(97 + ((hs.getD (8 : Int).toNat 0).fmod 23 + 4 + k).fmod 26).toNat]⟩ t) ?_ ?_
  · intro k t I oI Ca oC D2 m2 ys h tk E' hk0 hk4 hC hx2 F2 N2 off ne
    dsimp only at F2 N2 ⊢
    have off0 := Hold.out off
    k_steps

    first
      | exact ⟨rfl, _, rfl⟩
      | exact LCg.CompEnd.intro (by k_asm) (by k_asm) _ (fun _ hp => hp) off0 trivial ⟨rfl, _, rfl⟩
  intro ys hys
  rw [show rangeKs 0 2 = [0, 1] by decide] at hys
  obtain ⟨y0, y1, rfl, ⟨s0, rfl⟩, ⟨s1, rfl⟩⟩ := hys.two
  clear hys
  generalize (hs.getD (8 : Int).toNat 0).fmod 23 = pl at *
  have hmark5 := MarkS.mk 5
  k_steps
  refine Hold.out ?_
  k_dflt (refine' law_t2 ?hsc ?hbd K' X' T' C1 C2 l0 ?hE ?F ?N ?e1 ?e2 ?e3 ?e4 ?e5 ?e6 ?e7 ?e8 ?offD0 ?offD1 ?offD2 ?offcA ?offD3 ?offD4 hn0 hn1 hn2 hn3 hw0 hw1 hw2 hw3 ?hpl ?st0 ?st1 hI hlen edA evA ?fin; (case hE => exact hE); (case hsc => exact hsc0); (case hbd => exact drop_more 2 hbd0); (case F => k_asm); (case N => (first | k_asm | (refine news_sub (by k_asm) ?_; (repeat' (first | exact List.forall_mem_nil _ | refine List.forall_mem_cons.mpr ⟨?_, ?_⟩)); all_goals (repeat first | exact List.Mem.head _ | refine List.Mem.tail _ ?_)))); (case e1 => assumption); (case e2 => assumption); (case e3 => assumption); (case e4 => assumption); (case e5 => assumption); (case e6 => assumption); (case e7 => assumption); (case e8 => assumption); (case offD0 => ((repeat' (first | exact trivial | refine And.intro ?_ ?_)); all_goals (first | k_ne | fail "k_ne"))); (case offD1 => ((repeat' (first | exact trivial | refine And.intro ?_ ?_)); all_goals (first | k_ne | fail "k_ne"))); (case offD2 => ((repeat' (first | exact trivial | refine And.intro ?_ ?_)); all_goals (first | k_ne | fail "k_ne"))); (case offcA => ((repeat' (first | exact trivial | refine And.intro ?_ ?_)); all_goals (first | k_ne | fail "k_ne"))); (case offD3 => ((repeat' (first | exact trivial | refine And.intro ?_ ?_)); all_goals (first | k_ne | fail "k_ne"))); (case offD4 => ((repeat' (first | exact trivial | refine And.intro ?_ ?_)); all_goals (first | k_ne | fail "k_ne"))))
  case hpl => exact hp9
  case st0 => rfl
  case st1 => rfl
  case fin => exact fin
end X_law_t1
theorem law_t1 {w : World} {h₀ : Heap} {L : Addr} {m : Str → Option Value} {p : Program} {loose : List Str} {mean : ExcName → Option Value} {mg : Str → Option Value} {mb : Str → Option Value} {s : Shared} {E : Value → Shared → Prop} {fa : Addr} {D0 : Addr} {D1 : Addr} {D2 : Addr} {cd : Value} {c1 : Obj} {c2 : Obj} {c3 : Obj} {c4 : Obj} {c5 : Obj} {c6 : Obj} {c7 : Obj} {c8 : Obj} {x4 : Option Value} {x5 : Option Value} {x6 : Option Value} {x7 : Option Value} {x8 : Option Value} {n0 : Nat} {n1 : Nat} {n2 : Nat} {n3 : Nat} {u0 : Tok} {u1 : Tok} {u2 : Tok} {u3 : Tok} {w0 : Int} {w1 : Int} {w2 : Int} {w3 : Int} {v0 : Tok} {v1 : Tok} {v2 : Tok} {v3 : Tok} {us : List Value} {hs : List Int} {Qf : Flow → Shared → Prop} {sc : Scope} {bd : List Stmt} (hsc : fnScope lawS = sc) (hbd : (fnBody lawS).drop 3 = bd) (K' : Below callerA h₀ [] h₀) (X' : (kk w.params).In h₀) (T' : Top p loose mean mg mb h₀) (C1 : CodeHd h₀ 41 37) (C2 : CodeHd h₀ 34 30) (l0 : @LT.lt Nat _ 37 L ∧ @LT.lt Nat _ 30 L) (hE : PassesOwn (model PySem.Challenge.rw_tc0016_01.row.prog w) (callerA.deeper (envOfC "law" sc L fa cd)) (envOfC "law" sc L fa cd) E) (F : Fr h₀ L s.heap (m)) (N : News h₀ L s.heap [(D2, LCg.lst [.int w0 v0, .int w1 v1, .int w2 v2, .int w3 v3]), (D1, LCg.lst [.int n0 u0, .int n1 u1, .int n2 u2, .int n3 u3]), (D0, LCg.lst us), (L + 1 + 1 + 1 + 1 + 1 + 1 + 1 + 1, c8), (L + 1 + 1 + 1 + 1 + 1 + 1 + 1, c7), (L + 1 + 1 + 1 + 1 + 1 + 1, c6), (L + 1 + 1 + 1 + 1 + 1, c5), (L + 1 + 1 + 1 + 1, c4), (L + 1 + 1 + 1, c3), (L + 1 + 1, c2), (L + 1, c1), (37, tabObj #[]), (30, tabObj #[])]) (e1 : c1.data = .cell (some (.ref D0))) (e2 : c2.data = .cell (some (.ref D1))) (e3 : c3.data = .cell (some (.ref D2))) (e4 : c4.data = .cell x4) (e5 : c5.data = .cell x5) (e6 : c6.data = .cell x6) (e7 : c7.data = .cell x7) (e8 : c8.data = .cell x8) (offD0 : LCg.Off1 D0 [(L + 1 + 1 + 1 + 1 + 1 + 1 + 1 + 1, c8), (L + 1 + 1 + 1 + 1 + 1 + 1 + 1, c7), (L + 1 + 1 + 1 + 1 + 1 + 1, c6), (L + 1 + 1 + 1 + 1 + 1, c5), (L + 1 + 1 + 1 + 1, c4), (L + 1 + 1 + 1, c3), (L + 1 + 1, c2), (L + 1, c1), (37, tabObj #[]), (30, tabObj #[])]) (offD1 : LCg.Off1 D1 [(D0, LCg.lst us), (L + 1 + 1 + 1 + 1 + 1 + 1 + 1 + 1, c8), (L + 1 + 1 + 1 + 1 + 1 + 1 + 1, c7), (L + 1 + 1 + 1 + 1 + 1 + 1, c6), (L + 1 + 1 + 1 + 1 + 1, c5), (L + 1 + 1 + 1 + 1, c4), (L + 1 + 1 + 1, c3), (L + 1 + 1, c2), (L + 1, c1), (37, tabObj #[]), (30, tabObj #[])]) (offD2 : LCg.Off1 D2 [(D0, LCg.lst us), (D1, LCg.lst [.int n0 u0, .int n1 u1, .int n2 u2, .int n3 u3]), (L + 1 + 1 + 1 + 1 + 1 + 1 + 1 + 1, c8), (L + 1 + 1 + 1 + 1 + 1 + 1 + 1, c7), (L + 1 + 1 + 1 + 1 + 1 + 1, c6), (L + 1 + 1 + 1 + 1 + 1, c5), (L + 1 + 1 + 1 + 1, c4), (L + 1 + 1 + 1, c3), (L + 1 + 1, c2), (L + 1, c1), (37, tabObj #[]), (30, tabObj #[])]) (hn0 : n0 < 16) (hn1 : n1 < 16) (hn2 : n2 < 16) (hn3 : n3 < 16) (hw0 : -1000000000 ≤ w0 ∧ w0 ≤ 1000000000) (hw1 : -1000000000 ≤ w1 ∧ w1 ≤ 1000000000) (hw2 : -1000000000 ≤ w2 ∧ w2 ≤ 1000000000) (hw3 : -1000000000 ≤ w3 ∧ w3 ≤ 1000000000) (hI : IntsAre us hs) (hlen : hs.length = 10) (fin : ∀ m' h' tk' cA cB rest, Fr h₀ L h' m' → News h₀ L h' ((30, hitA cA) :: (37, hitB cB) :: rest) → Qf (.ret (.bool true)) { s with heap := h', toks := tk' }) :
   wpAny (model PySem.Challenge.rw_tc0016_01.row.prog w) (callerA.deeper (envOfC "law" sc L fa cd)) (execs bd (envOfC "law" sc L fa cd)) Qf E s :=
  X_law_t1.cS X_law_t1.main (w, h₀, L, m, p, loose, mean, mg, mb, s, E, fa, D0, D1, D2, cd, c1, c2, c3, c4, c5, c6, c7, c8, x4, x5, x6, x7, x8, n0, n1, n2, n3, u0, u1, u2, u3, w0, w1, w2, w3, v0, v1, v2, v3, us, hs, Qf) sc bd hsc hbd K' X' T' C1 C2 l0 hE F N e1 e2 e3 e4 e5 e6 e7 e8 offD0 offD1 offD2 hn0 hn1 hn2 hn3 hw0 hw1 hw2 hw3 hI hlen fin

-- law
-- places held, so that the head lays no twin of these constants (a quicker form of each, with a proof of some ten thousand nodes): the kernel does without
theorem tryit.tw5417783224229769480 : True := trivial
theorem tryit.tw7801966795464268576 : True := trivial
theorem tryit.tw17024895205035759384 : True := trivial
theorem tryit.tw5367878630679968151 : True := trivial
theorem tryit.tw12014920813300345337 : True := trivial
theorem tryit.tw11038894895420181317 : True := trivial
theorem tryit.tw13023387703994170132 : True := trivial
theorem tryit.tw7935360912763897534 : True := trivial
theorem tryit.tw18030962842151695509 : True := trivial
theorem tryit.tw6047151846595573514 : True := trivial
theorem tryit.tw14650235812655105127 : True := trivial
theorem tryit.tw910449089701514820 : True := trivial
theorem tryit.tw15926424728406914038 : True := trivial
theorem tryit.tw16313338259329414888 : True := trivial
theorem tryit.tw1560599313936076287 : True := trivial
theorem tryit.tw13340075000136761935 : True := trivial
theorem tryit.tw400291766259433437 : True := trivial
theorem tryit.tw7937606648298796605 : True := trivial
theorem tryit.tw844448669805083495 : True := trivial
theorem tryit.tw15104012128354752277 : True := trivial
theorem tryit.tw6688690417506561861 : True := trivial
theorem tryit.tw6779135186213266464 : True := trivial
theorem tryit.tw17464133085261543883 : True := trivial
theorem tryit.tw4373499310992506429 : True := trivial
theorem tryit.tw11703006441253606559 : True := trivial
theorem tryit.tw2181276044443466678 : True := trivial
theorem tryit.tw5333898161128795432 : True := trivial
theorem tryit.tw10849550577524796972 : True := trivial
theorem tryit.tw10154463363249124373 : True := trivial
theorem tryit.tw7355689570899368991 : True := trivial
theorem tryit.tw10449561813808838935 : True := trivial
theorem tryit.tw4694192718036623109 : True := trivial
theorem tryit.tw6913754630171773596 : True := trivial
theorem tryit.tw5654313159084627007 : True := trivial
theorem tryit.tw13264839945266910639 : True := trivial
theorem tryit.tw2267155213306566416 : True := trivial
theorem tryit.tw13665893455198899299 : True := trivial
theorem tryit.tw12406145768478555067 : True := trivial
theorem tryit.tw17066909165208452378 : True := trivial
theorem tryit.tw3423615271199349340 : True := trivial
theorem tryit.tw10337542907684842192 : True := trivial
theorem tryit.tw8742559059521967205 : True := trivial
theorem tryit.tw11473065030165575497 : True := trivial
theorem tryit.tw16133374839487860238 : True := trivial
theorem tryit.tw11019126873028572585 : True := trivial
theorem tryit.tw14193706091969402324 : True := trivial
theorem tryit.tw12601263769089828903 : True := trivial
theorem tryit.tw8293709197149320019 : True := trivial
theorem tryit.tw1578902042200037577 : True := trivial
theorem tryit.tw10550415907392431363 : True := trivial
theorem tryit.tw11850326364091897392 : True := trivial
theorem tryit.tw14088432224309636490 : True := trivial
theorem tryit.tw1974967164992797895 : True := trivial
theorem tryit.tw15821657068813217781 : True := trivial
theorem tryit.tw8269396411615936018 : True := trivial
theorem tryit.tw3924522475312357737 : True := trivial
theorem tryit.tw6037051057223156666 : True := trivial
theorem tryit.tw2364432800427253669 : True := trivial
theorem tryit.tw12134037502855160372 : True := trivial
theorem tryit.tw11182336026999490290 : True := trivial
theorem tryit.tw4748772281918854037 : True := trivial
theorem tryit.tw5236019794824836736 : True := trivial
theorem tryit.tw947903200435577073 : True := trivial
theorem tryit.tw10754254959152795650 : True := trivial
theorem tryit.tw2642193711430124105 : True := trivial
theorem tryit.tw16891165354237883738 : True := trivial
theorem tryit.tw11605896720232442756 : True := trivial
theorem tryit.tw3598235093673713345 : True := trivial
theorem tryit.tw2761068088995021153 : True := trivial
theorem tryit.tw1096981810551151883 : True := trivial
theorem tryit.tw739929825227535330 : True := trivial
theorem tryit.tw782545902993539357 : True := trivial
theorem tryit.tw17189205115400454342 : True := trivial
theorem tryit.tw7781457798225394058 : True := trivial
theorem tryit.tw4231667676090342733 : True := trivial
theorem tryit.tw7105792070553325831 : True := trivial
theorem tryit.tw83888532478381352 : True := trivial
theorem tryit.tw12352613093711107654 : True := trivial
theorem tryit.tw15230178491431353802 : True := trivial
theorem tryit.tw8972729621159613346 : True := trivial
theorem tryit.tw12964644040935404596 : True := trivial
theorem tryit.tw12502947891531572930 : True := trivial
theorem tryit.tw15236040763740416446 : True := trivial
theorem tryit.tw3839203201879059052 : True := trivial
theorem tryit.tw9797949682758359005 : True := trivial
theorem tryit.tw4548469495024353190 : True := trivial
theorem tryit.tw14773549225084002266 : True := trivial
set_option maxRecDepth 100000 in
set_option maxHeartbeats 0 in
set_option Elab.async true in
theorem tryit : PySem.Challenge.rw_tc0016_01.Holds := by
  w_on
  o_law
  o_head (kmHook kq (3 :: 20 :: 21 :: 27 :: 28 :: 34 :: 35 :: 41 :: 42 :: 48 :: 49 :: 55 :: 56 :: 62 :: 63 :: 69 :: 70 :: 76 :: 77 :: 83 :: 84 :: 90 :: 91 :: 97 :: 98 :: 104 :: 105 :: 111 :: 112 :: 116 :: 117 :: 121 :: 122 :: 128 :: 129 :: 135 :: 136 :: 142 :: 143 :: 149 :: 150 :: 154 :: 155 :: 159 :: 160 :: []) (fun _ => by kernel_rfl) [37, 30])
  case hw => w_witness2
  k_go0
  all_goals (rename Frag.In (kq _) _ => KX0; replace KX0 := kk_in KX0)
  all_goals try k_fold
  all_goals k_steps
  refine Hold.out ?_
  rename IntsAre _ _ => hI0
  rename ¬ (_ < _) => hc0
  k_dflt (refine' c_heaps ?zk1 ?zk2 ?zk3 ?zk5 ?zkK ?zkd ?zku ?zkN ?zhl hI0 ?zhc ?_; (case zk1 => k_asm); (case zk2 => k_asm); (case zk3 => k_asm); (case zk5 => k_asm); (case zkK => exact rfl); (case zkd => ktr_room); (case zku => ktr_units); (case zkN => k_asm); (case zhl => assumption); (case zhc => omega))
  intro D us hs h1 tk1 F1 N1 off1 hI1 hlen
  have hmark := MarkS.mk 2
  k_steps
  refine Hold.out ?_
  refine LCg.CompSrc.range (n := 4) (by rfl) (by k_asm) (by k_asm) (by assumption) (by decide) (by rfl) (by decide) ?_
  intro gg
  refine comp_range (fun k y => NumV y) ?_ ?_
  · intro k t I oI Ca oC D2 m2 ys h tk E' hk0 hk4 hC hx2 F2 N2 off ne
    replace hk4 : k < 4 := hk4
    dsimp only at F2 N2 ⊢
    have off0 := Hold.out off
    k_steps
    first
      | exact ⟨rfl, num16 _ _⟩
      | exact LCg.CompEnd.intro (by k_asm) (by k_asm) _ (fun _ hp => hp) off0 trivial ⟨rfl, num16 _ _⟩
  intro ys hys
  rw [show rangeKs 0 4 = [0, 1, 2, 3] by decide] at hys
  obtain ⟨y0, y1, y2, y3, rfl, ⟨n0, u0, rfl, hn0⟩, ⟨n1, u1, rfl, hn1⟩, ⟨n2, u2, rfl, hn2⟩, ⟨n3, u3, rfl, hn3⟩⟩ := hys.four
  clear hys
  have hmark := MarkS.mk 2
  k_steps
  refine Hold.out ?_
  refine LCg.CompSrc.range (n := 4) (by rfl) (by k_asm) (by k_asm) (by assumption) (by decide) (by rfl) (by decide) ?_
  intro gg1
  refine comp_range (fun k y => WtV y) ?_ ?_
  · intro k t I oI Ca oC D2 m2 ys h tk E' hk0 hk4 hC hx2 F2 N2 off ne
    replace hk4 : k < 4 := hk4
    dsimp only at F2 N2 ⊢
    have off0 := Hold.out off
    k_steps
    first
      | exact ⟨rfl, wt9 _ _⟩
      | exact LCg.CompEnd.intro (by k_asm) (by k_asm) _ (fun _ hp => hp) off0 trivial ⟨rfl, wt9 _ _⟩
  intro ys hys
  rw [show rangeKs 0 4 = [0, 1, 2, 3] by decide] at hys
  obtain ⟨y0, y1, y2, y3, rfl, ⟨w0, v0, rfl, hw0⟩, ⟨w1, v1, rfl, hw1⟩, ⟨w2, v2, rfl, hw2⟩, ⟨w3, v3, rfl, hw3⟩⟩ := hys.four
  clear hys
  have hmark5 := MarkS.mk 5
  k_steps
  refine Hold.out ?_
  k_dflt (refine' law_t1 ?zhsc ?zhbd ?zK ?zX ?zT ?zC1 ?zC2 ?zl0 ?zhE ?zF ?zN ?ze1 ?ze2 ?ze3 ?ze4 ?ze5 ?ze6 ?ze7 ?ze8 ?zoffD0 ?zoffD1 ?zoffD2 hn0 hn1 hn2 hn3 hw0 hw1 hw2 hw3 hI1 hlen ?zfin; (case zhE => first | passes_own | with_unfolding_all passes_own); (case zhsc => exact rfl); (case zhbd => exact rfl); (case zK => assumption); (case zX => assumption); (case zT => assumption); (case zF => k_asm); (case zN => k_asm); (case zC1 => assumption); (case zC2 => assumption); (case zl0 => assumption); (case ze1 => assumption); (case ze2 => assumption); (case ze3 => assumption); (case ze4 => assumption); (case ze5 => assumption); (case ze6 => assumption); (case ze7 => assumption); (case ze8 => assumption); (case zoffD0 => ((repeat' (first | exact trivial | refine And.intro ?_ ?_)); all_goals (first | k_ne | fail "k_ne"))); (case zoffD1 => ((repeat' (first | exact trivial | refine And.intro ?_ ?_)); all_goals (first | k_ne | fail "k_ne"))); (case zoffD2 => ((repeat' (first | exact trivial | refine And.intro ?_ ?_)); all_goals (first | k_ne | fail "k_ne"))))
  case zfin =>
    intro m' h' tk' cA cB rest F9 N9
    k_steps

end
end Mine
theorem PySem.Challenge.cw_tc0016_01_holds : PySem.Challenge.rw_tc0016_01.Holds :=
  Mine.tryit

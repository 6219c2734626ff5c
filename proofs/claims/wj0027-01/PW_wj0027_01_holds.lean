import PyProof.Rows.All
import Wide.All
import OpenK.AllK
import Wide.FinOn
import Lean
import PySem.Challenge.RW_wj0027_01
open PySem PySem.W PyProof.Rows
set_option Elab.async false
set_option compiler.extract_closed false
namespace Mine
set_option maxRecDepth 100000
set_option maxHeartbeats 8000000
set_option linter.unusedVariables false
/-- the view that the head takes of the row: the kept statements -/
noncomputable def hd.view_39 : Program := by
  refine (?_ : ∀ (c0 c1 c2 c3 c4 c5 c6 c7 c8 c9 c10 c11 c12 c13 c14 c15 c16 c17 c18 c19 c20 c21 c22 c23 c24 c25 c26 c27 c28 c29 c30 c31 c32 c33 c34 c35 c36 c37 c38 c39 c40 c41 c42 c43 c44 c45 c46 c47 c48 c49 c50 c51 c52 c53 c54 c55 c56 c57 c58 c59 c60 c61 c62 c63 c64 c65 c66 c67 c68 c69 c70 c71 c72 c73 c74 c75 : Stmt), PySem.Challenge.pw_wj0027_01.main.body = [c0, c1, c2, c3, c4, c5, c6, c7, c8, c9, c10, c11, c12, c13, c14, c15, c16, c17, c18, c19, c20, c21, c22, c23, c24, c25, c26, c27, c28, c29, c30, c31, c32, c33, c34, c35, c36, c37, c38, c39, c40, c41, c42, c43, c44, c45, c46, c47, c48, c49, c50, c51, c52, c53, c54, c55, c56, c57, c58, c59, c60, c61, c62, c63, c64, c65, c66, c67, c68, c69, c70, c71, c72, c73, c74, c75] → Program) _ _ _ _ _ _ _ _ _ _ _ _ _ _ _ _ _ _ _ _ _ _ _ _ _ _ _ _ _ _ _ _ _ _ _ _ _ _ _ _ _ _ _ _ _ _ _ _ _ _ _ _ _ _ _ _ _ _ _ _ _ _ _ _ _ _ _ _ _ _ _ _ _ _ _ _ rfl
  intro c0 c1 c2 c3 c4 c5 c6 c7 c8 c9 c10 c11 c12 c13 c14 c15 c16 c17 c18 c19 c20 c21 c22 c23 c24 c25 c26 c27 c28 c29 c30 c31 c32 c33 c34 c35 c36 c37 c38 c39 c40 c41 c42 c43 c44 c45 c46 c47 c48 c49 c50 c51 c52 c53 c54 c55 c56 c57 c58 c59 c60 c61 c62 c63 c64 c65 c66 c67 c68 c69 c70 c71 c72 c73 c74 c75 _
  exact { PySem.Challenge.rw_wj0027_01.row.toRowW.prog with main := { PySem.Challenge.rw_wj0027_01.row.toRowW.prog.main with body := [c1, c2, c3, c4, c5, c6, c7, c8, c9, c10, c11, c12, c13, c14, c15, c16, c17, c18, c19, c20, c21, c22, c23, c24, c25, c26, c27, c28, c29, c30, c31, c32, c33, c34, c35, c36, c37, c38, c39, c40, c41, c42, c43, c44, c45, c46, c47, c48, c49, c50, c51, c52, c53, c55, c56, c57, c59, c60, c61, c62, c63, c64, c65, c66, c67, c69, c70, c71, c72, c73, c74, c75] } }
/-- the heap behind the top, as far as law comes to it -/
noncomputable def hd.heap_39 : Params → Frag := by
  refine (?_ : ∀ (c0 : Stmt) (c1 : Stmt) (c2 : Stmt) (c3 : Stmt) (c4 : Stmt) (c5 : Stmt) (c6 : Stmt) (c7 : Stmt) (c8 : Stmt) (c9 : Stmt) (c10 : Stmt) (c11 : Stmt) (c12 : Stmt) (c13 : Stmt) (c14 : Stmt) (c15 : Stmt) (c16 : Stmt) (c17 : Stmt) (c18 : Stmt) (c19 : Stmt) (c20 : Stmt) (c21 : Stmt) (c22 : Stmt) (c23 : Stmt) (c24 : Stmt) (c25 : Stmt) (c26 : Stmt) (c27 : Stmt) (c28 : Stmt) (c29 : Stmt) (c30 : Stmt) (c31 : Stmt) (c32 : Stmt) (c33 : Stmt) (c34 : Stmt) (c35 : Stmt) (c36 : Stmt) (c37 : Stmt) (c38 : Stmt) (c39 : Stmt) (c40 : Stmt) (c41 : Stmt) (c42 : Stmt) (c43 : Stmt) (c44 : Stmt) (c45 : Stmt) (c46 : Stmt) (c47 : Stmt) (c48 : Stmt) (c49 : Stmt) (c50 : Stmt) (c51 : Stmt) (n24 : Str) (p24 : Arguments) (b24 : List Stmt) (d24 : List PySem.Expr) (r24 : Option PySem.Expr) (t24 : List TypeParam) (s24 : Scope) (u24 : Option Scope) (k24 : Str) (q24 : Pos) (n31 : Str) (p31 : Arguments) (b31 : List Stmt) (d31 : List PySem.Expr) (r31 : Option PySem.Expr) (t31 : List TypeParam) (s31 : Scope) (u31 : Option Scope) (k31 : Str) (q31 : Pos) (c54 : Stmt) (c55 : Stmt) (n39 : Str) (p39 : Arguments) (b39 : List Stmt) (d39 : List PySem.Expr) (r39 : Option PySem.Expr) (t39 : List TypeParam) (s39 : Scope) (u39 : Option Scope) (k39 : Str) (q39 : Pos) (n46 : Str) (p46 : Arguments) (b46 : List Stmt) (d46 : List PySem.Expr) (r46 : Option PySem.Expr) (t46 : List TypeParam) (s46 : Scope) (u46 : Option Scope) (k46 : Str) (q46 : Pos) (c58 : Stmt) (n53 : Str) (p53 : Arguments) (b53 : List Stmt) (d53 : List PySem.Expr) (r53 : Option PySem.Expr) (t53 : List TypeParam) (s53 : Scope) (u53 : Option Scope) (k53 : Str) (q53 : Pos) (n60 : Str) (p60 : Arguments) (b60 : List Stmt) (d60 : List PySem.Expr) (r60 : Option PySem.Expr) (t60 : List TypeParam) (s60 : Scope) (u60 : Option Scope) (k60 : Str) (q60 : Pos) (n67 : Str) (p67 : Arguments) (b67 : List Stmt) (d67 : List PySem.Expr) (r67 : Option PySem.Expr) (t67 : List TypeParam) (s67 : Scope) (u67 : Option Scope) (k67 : Str) (q67 : Pos) (n74 : Str) (p74 : Arguments) (b74 : List Stmt) (d74 : List PySem.Expr) (r74 : Option PySem.Expr) (t74 : List TypeParam) (s74 : Scope) (u74 : Option Scope) (k74 : Str) (q74 : Pos) (n81 : Str) (p81 : Arguments) (b81 : List Stmt) (d81 : List PySem.Expr) (r81 : Option PySem.Expr) (t81 : List TypeParam) (s81 : Scope) (u81 : Option Scope) (k81 : Str) (q81 : Pos) (n88 : Str) (p88 : Arguments) (b88 : List Stmt) (d88 : List PySem.Expr) (r88 : Option PySem.Expr) (t88 : List TypeParam) (s88 : Scope) (u88 : Option Scope) (k88 : Str) (q88 : Pos) (n95 : Str) (p95 : Arguments) (b95 : List Stmt) (d95 : List PySem.Expr) (r95 : Option PySem.Expr) (t95 : List TypeParam) (s95 : Scope) (u95 : Option Scope) (k95 : Str) (q95 : Pos) (n102 : Str) (p102 : Arguments) (b102 : List Stmt) (d102 : List PySem.Expr) (r102 : Option PySem.Expr) (t102 : List TypeParam) (s102 : Scope) (u102 : Option Scope) (k102 : Str) (q102 : Pos) (n109 : Str) (p109 : Arguments) (b109 : List Stmt) (d109 : List PySem.Expr) (r109 : Option PySem.Expr) (t109 : List TypeParam) (s109 : Scope) (u109 : Option Scope) (k109 : Str) (q109 : Pos) (c68 : Stmt) (n116 : Str) (p116 : Arguments) (b116 : List Stmt) (d116 : List PySem.Expr) (r116 : Option PySem.Expr) (t116 : List TypeParam) (s116 : Scope) (u116 : Option Scope) (k116 : Str) (q116 : Pos) (n121 : Str) (p121 : Arguments) (b121 : List Stmt) (d121 : List PySem.Expr) (r121 : Option PySem.Expr) (t121 : List TypeParam) (s121 : Scope) (u121 : Option Scope) (k121 : Str) (q121 : Pos) (n128 : Str) (p128 : Arguments) (b128 : List Stmt) (d128 : List PySem.Expr) (r128 : Option PySem.Expr) (t128 : List TypeParam) (s128 : Scope) (u128 : Option Scope) (k128 : Str) (q128 : Pos) (n135 : Str) (p135 : Arguments) (b135 : List Stmt) (d135 : List PySem.Expr) (r135 : Option PySem.Expr) (t135 : List TypeParam) (s135 : Scope) (u135 : Option Scope) (k135 : Str) (q135 : Pos) (n142 : Str) (p142 : Arguments) (b142 : List Stmt) (d142 : List PySem.Expr) (r142 : Option PySem.Expr) (t142 : List TypeParam) (s142 : Scope) (u142 : Option Scope) (k142 : Str) (q142 : Pos) (n149 : Str) (p149 : Arguments) (b149 : List Stmt) (d149 : List PySem.Expr) (r149 : Option PySem.Expr) (t149 : List TypeParam) (s149 : Scope) (u149 : Option Scope) (k149 : Str) (q149 : Pos) (n154 : Str) (p154 : Arguments) (b154 : List Stmt) (d154 : List PySem.Expr) (r154 : Option PySem.Expr) (t154 : List TypeParam) (s154 : Scope) (u154 : Option Scope) (k154 : Str) (q154 : Pos), PySem.Challenge.pw_wj0027_01.main.body = [c0, c1, c2, c3, c4, c5, c6, c7, c8, c9, c10, c11, c12, c13, c14, c15, c16, c17, c18, c19, c20, c21, c22, c23, c24, c25, c26, c27, c28, c29, c30, c31, c32, c33, c34, c35, c36, c37, c38, c39, c40, c41, c42, c43, c44, c45, c46, c47, c48, c49, c50, c51, .FunctionDef n24 p24 b24 d24 r24 t24 s24 u24 k24 q24, .FunctionDef n31 p31 b31 d31 r31 t31 s31 u31 k31 q31, c54, c55, .FunctionDef n39 p39 b39 d39 r39 t39 s39 u39 k39 q39, .FunctionDef n46 p46 b46 d46 r46 t46 s46 u46 k46 q46, c58, .FunctionDef n53 p53 b53 d53 r53 t53 s53 u53 k53 q53, .FunctionDef n60 p60 b60 d60 r60 t60 s60 u60 k60 q60, .FunctionDef n67 p67 b67 d67 r67 t67 s67 u67 k67 q67, .FunctionDef n74 p74 b74 d74 r74 t74 s74 u74 k74 q74, .FunctionDef n81 p81 b81 d81 r81 t81 s81 u81 k81 q81, .FunctionDef n88 p88 b88 d88 r88 t88 s88 u88 k88 q88, .FunctionDef n95 p95 b95 d95 r95 t95 s95 u95 k95 q95, .FunctionDef n102 p102 b102 d102 r102 t102 s102 u102 k102 q102, .FunctionDef n109 p109 b109 d109 r109 t109 s109 u109 k109 q109, c68, .FunctionDef n116 p116 b116 d116 r116 t116 s116 u116 k116 q116, .FunctionDef n121 p121 b121 d121 r121 t121 s121 u121 k121 q121, .FunctionDef n128 p128 b128 d128 r128 t128 s128 u128 k128 q128, .FunctionDef n135 p135 b135 d135 r135 t135 s135 u135 k135 q135, .FunctionDef n142 p142 b142 d142 r142 t142 s142 u142 k142 q142, .FunctionDef n149 p149 b149 d149 r149 t149 s149 u149 k149 q149, .FunctionDef n154 p154 b154 d154 r154 t154 s154 u154 k154 q154] → Params → Frag) _ _ _ _ _ _ _ _ _ _ _ _ _ _ _ _ _ _ _ _ _ _ _ _ _ _ _ _ _ _ _ _ _ _ _ _ _ _ _ _ _ _ _ _ _ _ _ _ _ _ _ _ _ _ _ _ _ _ _ _ _ _ _ _ _ _ _ _ _ _ _ _ _ _ _ _ _ _ _ _ _ _ _ _ _ _ _ _ _ _ _ _ _ _ _ _ _ _ _ _ _ _ _ _ _ _ _ _ _ _ _ _ _ _ _ _ _ _ _ _ _ _ _ _ _ _ _ _ _ _ _ _ _ _ _ _ _ _ _ _ _ _ _ _ _ _ _ _ _ _ _ _ _ _ _ _ _ _ _ _ _ _ _ _ _ _ _ _ _ _ _ _ _ _ _ _ _ _ _ _ _ _ _ _ _ _ _ _ _ _ _ _ _ _ _ _ _ _ _ _ _ _ _ _ _ _ _ _ _ _ _ _ _ _ _ _ _ _ _ _ _ _ _ _ _ _ _ _ _ _ _ _ _ _ _ _ _ _ _ _ _ _ _ _ _ _ _ _ _ _ _ _ _ _ _ _ rfl
  intro c0 c1 c2 c3 c4 c5 c6 c7 c8 c9 c10 c11 c12 c13 c14 c15 c16 c17 c18 c19 c20 c21 c22 c23 c24 c25 c26 c27 c28 c29 c30 c31 c32 c33 c34 c35 c36 c37 c38 c39 c40 c41 c42 c43 c44 c45 c46 c47 c48 c49 c50 c51 n24 p24 b24 d24 r24 t24 s24 u24 k24 q24 n31 p31 b31 d31 r31 t31 s31 u31 k31 q31 c54 c55 n39 p39 b39 d39 r39 t39 s39 u39 k39 q39 n46 p46 b46 d46 r46 t46 s46 u46 k46 q46 c58 n53 p53 b53 d53 r53 t53 s53 u53 k53 q53 n60 p60 b60 d60 r60 t60 s60 u60 k60 q60 n67 p67 b67 d67 r67 t67 s67 u67 k67 q67 n74 p74 b74 d74 r74 t74 s74 u74 k74 q74 n81 p81 b81 d81 r81 t81 s81 u81 k81 q81 n88 p88 b88 d88 r88 t88 s88 u88 k88 q88 n95 p95 b95 d95 r95 t95 s95 u95 k95 q95 n102 p102 b102 d102 r102 t102 s102 u102 k102 q102 n109 p109 b109 d109 r109 t109 s109 u109 k109 q109 c68 n116 p116 b116 d116 r116 t116 s116 u116 k116 q116 n121 p121 b121 d121 r121 t121 s121 u121 k121 q121 n128 p128 b128 d128 r128 t128 s128 u128 k128 q128 n135 p135 b135 d135 r135 t135 s135 u135 k135 q135 n142 p142 b142 d142 r142 t142 s142 u142 k142 q142 n149 p149 b149 d149 r149 t149 s149 u149 k149 q149 n154 p154 b154 d154 r154 t154 s154 u154 k154 q154 _ P
  exact ((nat_lit 2, (PySem.Obj.mk PySem.Value.none (Option.none) (PySem.Data.dict (List.toArray []) 0) (List.toArray []))) ::
    (nat_lit 3, (PySem.Obj.mk (PySem.Value.type "dict") (Option.none) (PySem.Data.dict (List.toArray ((PySem.DictEntry.mk (PySem.PyData.keyHash P (PySem.Str.ofString "__name__")) (PySem.Value.str (PySem.Str.ofString "__name__") 165) (PySem.Value.str (PySem.Str.ofString "law_wj0027_01") 526)) :: ((PySem.DictEntry.mk (PySem.PyData.keyHash P (PySem.Str.ofString "__doc__")) (PySem.Value.str (PySem.Str.ofString "__doc__") 166) PySem.Value.none) :: ((PySem.DictEntry.mk (PySem.PyData.keyHash P (PySem.Str.ofString "__package__")) (PySem.Value.str (PySem.Str.ofString "__package__") 167) PySem.Value.none) :: ((PySem.DictEntry.mk (PySem.PyData.keyHash P (PySem.Str.ofString "__loader__")) (PySem.Value.str (PySem.Str.ofString "__loader__") 168) (PySem.Value.builtin "__main__.__loader__#opaque")) :: ((PySem.DictEntry.mk (PySem.PyData.keyHash P (PySem.Str.ofString "__spec__")) (PySem.Value.str (PySem.Str.ofString "__spec__") 169) PySem.Value.none) :: ((PySem.DictEntry.mk (PySem.PyData.keyHash P (PySem.Str.ofString "__annotations__")) (PySem.Value.str (PySem.Str.ofString "__annotations__") 170) (PySem.Value.ref 6)) :: ((PySem.DictEntry.mk (PySem.PyData.keyHash P (PySem.Str.ofString "__builtins__")) (PySem.Value.str (PySem.Str.ofString "__builtins__") 171) (PySem.Value.ref 4)) :: ((PySem.DictEntry.mk (PySem.PyData.keyHash P (PySem.Str.ofString "__file__")) (PySem.Value.str (PySem.Str.ofString "__file__") 173) (PySem.Value.str (PySem.Str.ofString "/claim/cut.py") 172)) :: ((PySem.DictEntry.mk (PySem.PyData.keyHash P (PySem.Str.ofString "__cached__")) (PySem.Value.str (PySem.Str.ofString "__cached__") 174) PySem.Value.none) :: ((PySem.DictEntry.mk (PySem.PyData.keyHash P (PySem.Str.ofString "ENDMARKER")) (PySem.Value.str (PySem.Str.ofString "ENDMARKER") 190) (PySem.Value.int 0 189)) :: ((PySem.DictEntry.mk (PySem.PyData.keyHash P (PySem.Str.ofString "LPAR")) (PySem.Value.str (PySem.Str.ofString "LPAR") 192) (PySem.Value.int 7 191)) :: ((PySem.DictEntry.mk (PySem.PyData.keyHash P (PySem.Str.ofString "RPAR")) (PySem.Value.str (PySem.Str.ofString "RPAR") 194) (PySem.Value.int 8 193)) :: ((PySem.DictEntry.mk (PySem.PyData.keyHash P (PySem.Str.ofString "LSQB")) (PySem.Value.str (PySem.Str.ofString "LSQB") 196) (PySem.Value.int 9 195)) :: ((PySem.DictEntry.mk (PySem.PyData.keyHash P (PySem.Str.ofString "RSQB")) (PySem.Value.str (PySem.Str.ofString "RSQB") 198) (PySem.Value.int 10 197)) :: ((PySem.DictEntry.mk (PySem.PyData.keyHash P (PySem.Str.ofString "COLON")) (PySem.Value.str (PySem.Str.ofString "COLON") 200) (PySem.Value.int 11 199)) :: ((PySem.DictEntry.mk (PySem.PyData.keyHash P (PySem.Str.ofString "COMMA")) (PySem.Value.str (PySem.Str.ofString "COMMA") 202) (PySem.Value.int 12 201)) :: ((PySem.DictEntry.mk (PySem.PyData.keyHash P (PySem.Str.ofString "SEMI")) (PySem.Value.str (PySem.Str.ofString "SEMI") 204) (PySem.Value.int 13 203)) :: ((PySem.DictEntry.mk (PySem.PyData.keyHash P (PySem.Str.ofString "PLUS")) (PySem.Value.str (PySem.Str.ofString "PLUS") 206) (PySem.Value.int 14 205)) :: ((PySem.DictEntry.mk (PySem.PyData.keyHash P (PySem.Str.ofString "MINUS")) (PySem.Value.str (PySem.Str.ofString "MINUS") 208) (PySem.Value.int 15 207)) :: ((PySem.DictEntry.mk (PySem.PyData.keyHash P (PySem.Str.ofString "STAR")) (PySem.Value.str (PySem.Str.ofString "STAR") 210) (PySem.Value.int 16 209)) :: ((PySem.DictEntry.mk (PySem.PyData.keyHash P (PySem.Str.ofString "SLASH")) (PySem.Value.str (PySem.Str.ofString "SLASH") 212) (PySem.Value.int 17 211)) :: ((PySem.DictEntry.mk (PySem.PyData.keyHash P (PySem.Str.ofString "VBAR")) (PySem.Value.str (PySem.Str.ofString "VBAR") 214) (PySem.Value.int 18 213)) :: ((PySem.DictEntry.mk (PySem.PyData.keyHash P (PySem.Str.ofString "AMPER")) (PySem.Value.str (PySem.Str.ofString "AMPER") 216) (PySem.Value.int 19 215)) :: ((PySem.DictEntry.mk (PySem.PyData.keyHash P (PySem.Str.ofString "LESS")) (PySem.Value.str (PySem.Str.ofString "LESS") 218) (PySem.Value.int 20 217)) :: ((PySem.DictEntry.mk (PySem.PyData.keyHash P (PySem.Str.ofString "GREATER")) (PySem.Value.str (PySem.Str.ofString "GREATER") 220) (PySem.Value.int 21 219)) :: ((PySem.DictEntry.mk (PySem.PyData.keyHash P (PySem.Str.ofString "EQUAL")) (PySem.Value.str (PySem.Str.ofString "EQUAL") 222) (PySem.Value.int 22 221)) :: ((PySem.DictEntry.mk (PySem.PyData.keyHash P (PySem.Str.ofString "DOT")) (PySem.Value.str (PySem.Str.ofString "DOT") 224) (PySem.Value.int 23 223)) :: ((PySem.DictEntry.mk (PySem.PyData.keyHash P (PySem.Str.ofString "PERCENT")) (PySem.Value.str (PySem.Str.ofString "PERCENT") 226) (PySem.Value.int 24 225)) :: ((PySem.DictEntry.mk (PySem.PyData.keyHash P (PySem.Str.ofString "LBRACE")) (PySem.Value.str (PySem.Str.ofString "LBRACE") 228) (PySem.Value.int 25 227)) :: ((PySem.DictEntry.mk (PySem.PyData.keyHash P (PySem.Str.ofString "RBRACE")) (PySem.Value.str (PySem.Str.ofString "RBRACE") 230) (PySem.Value.int 26 229)) :: ((PySem.DictEntry.mk (PySem.PyData.keyHash P (PySem.Str.ofString "EQEQUAL")) (PySem.Value.str (PySem.Str.ofString "EQEQUAL") 232) (PySem.Value.int 27 231)) :: ((PySem.DictEntry.mk (PySem.PyData.keyHash P (PySem.Str.ofString "NOTEQUAL")) (PySem.Value.str (PySem.Str.ofString "NOTEQUAL") 234) (PySem.Value.int 28 233)) :: ((PySem.DictEntry.mk (PySem.PyData.keyHash P (PySem.Str.ofString "LESSEQUAL")) (PySem.Value.str (PySem.Str.ofString "LESSEQUAL") 236) (PySem.Value.int 29 235)) :: ((PySem.DictEntry.mk (PySem.PyData.keyHash P (PySem.Str.ofString "GREATEREQUAL")) (PySem.Value.str (PySem.Str.ofString "GREATEREQUAL") 238) (PySem.Value.int 30 237)) :: ((PySem.DictEntry.mk (PySem.PyData.keyHash P (PySem.Str.ofString "TILDE")) (PySem.Value.str (PySem.Str.ofString "TILDE") 240) (PySem.Value.int 31 239)) :: ((PySem.DictEntry.mk (PySem.PyData.keyHash P (PySem.Str.ofString "CIRCUMFLEX")) (PySem.Value.str (PySem.Str.ofString "CIRCUMFLEX") 242) (PySem.Value.int 32 241)) :: ((PySem.DictEntry.mk (PySem.PyData.keyHash P (PySem.Str.ofString "LEFTSHIFT")) (PySem.Value.str (PySem.Str.ofString "LEFTSHIFT") 244) (PySem.Value.int 33 243)) :: ((PySem.DictEntry.mk (PySem.PyData.keyHash P (PySem.Str.ofString "RIGHTSHIFT")) (PySem.Value.str (PySem.Str.ofString "RIGHTSHIFT") 246) (PySem.Value.int 34 245)) :: ((PySem.DictEntry.mk (PySem.PyData.keyHash P (PySem.Str.ofString "DOUBLESTAR")) (PySem.Value.str (PySem.Str.ofString "DOUBLESTAR") 248) (PySem.Value.int 35 247)) :: ((PySem.DictEntry.mk (PySem.PyData.keyHash P (PySem.Str.ofString "PLUSEQUAL")) (PySem.Value.str (PySem.Str.ofString "PLUSEQUAL") 250) (PySem.Value.int 36 249)) :: ((PySem.DictEntry.mk (PySem.PyData.keyHash P (PySem.Str.ofString "MINEQUAL")) (PySem.Value.str (PySem.Str.ofString "MINEQUAL") 252) (PySem.Value.int 37 251)) :: ((PySem.DictEntry.mk (PySem.PyData.keyHash P (PySem.Str.ofString "STAREQUAL")) (PySem.Value.str (PySem.Str.ofString "STAREQUAL") 254) (PySem.Value.int 38 253)) :: ((PySem.DictEntry.mk (PySem.PyData.keyHash P (PySem.Str.ofString "SLASHEQUAL")) (PySem.Value.str (PySem.Str.ofString "SLASHEQUAL") 256) (PySem.Value.int 39 255)) :: ((PySem.DictEntry.mk (PySem.PyData.keyHash P (PySem.Str.ofString "PERCENTEQUAL")) (PySem.Value.str (PySem.Str.ofString "PERCENTEQUAL") 258) (PySem.Value.int 40 257)) :: ((PySem.DictEntry.mk (PySem.PyData.keyHash P (PySem.Str.ofString "AMPEREQUAL")) (PySem.Value.str (PySem.Str.ofString "AMPEREQUAL") 260) (PySem.Value.int 41 259)) :: ((PySem.DictEntry.mk (PySem.PyData.keyHash P (PySem.Str.ofString "VBAREQUAL")) (PySem.Value.str (PySem.Str.ofString "VBAREQUAL") 262) (PySem.Value.int 42 261)) :: ((PySem.DictEntry.mk (PySem.PyData.keyHash P (PySem.Str.ofString "CIRCUMFLEXEQUAL")) (PySem.Value.str (PySem.Str.ofString "CIRCUMFLEXEQUAL") 264) (PySem.Value.int 43 263)) :: ((PySem.DictEntry.mk (PySem.PyData.keyHash P (PySem.Str.ofString "LEFTSHIFTEQUAL")) (PySem.Value.str (PySem.Str.ofString "LEFTSHIFTEQUAL") 266) (PySem.Value.int 44 265)) :: ((PySem.DictEntry.mk (PySem.PyData.keyHash P (PySem.Str.ofString "RIGHTSHIFTEQUAL")) (PySem.Value.str (PySem.Str.ofString "RIGHTSHIFTEQUAL") 268) (PySem.Value.int 45 267)) :: ((PySem.DictEntry.mk (PySem.PyData.keyHash P (PySem.Str.ofString "DOUBLESTAREQUAL")) (PySem.Value.str (PySem.Str.ofString "DOUBLESTAREQUAL") 270) (PySem.Value.int 46 269)) :: ((PySem.DictEntry.mk (PySem.PyData.keyHash P (PySem.Str.ofString "DOUBLESLASH")) (PySem.Value.str (PySem.Str.ofString "DOUBLESLASH") 272) (PySem.Value.int 47 271)) :: ((PySem.DictEntry.mk (PySem.PyData.keyHash P (PySem.Str.ofString "DOUBLESLASHEQUAL")) (PySem.Value.str (PySem.Str.ofString "DOUBLESLASHEQUAL") 274) (PySem.Value.int 48 273)) :: ((PySem.DictEntry.mk (PySem.PyData.keyHash P (PySem.Str.ofString "AT")) (PySem.Value.str (PySem.Str.ofString "AT") 276) (PySem.Value.int 49 275)) :: ((PySem.DictEntry.mk (PySem.PyData.keyHash P (PySem.Str.ofString "ATEQUAL")) (PySem.Value.str (PySem.Str.ofString "ATEQUAL") 278) (PySem.Value.int 50 277)) :: ((PySem.DictEntry.mk (PySem.PyData.keyHash P (PySem.Str.ofString "RARROW")) (PySem.Value.str (PySem.Str.ofString "RARROW") 280) (PySem.Value.int 51 279)) :: ((PySem.DictEntry.mk (PySem.PyData.keyHash P (PySem.Str.ofString "ELLIPSIS")) (PySem.Value.str (PySem.Str.ofString "ELLIPSIS") 282) (PySem.Value.int 52 281)) :: ((PySem.DictEntry.mk (PySem.PyData.keyHash P (PySem.Str.ofString "COLONEQUAL")) (PySem.Value.str (PySem.Str.ofString "COLONEQUAL") 284) (PySem.Value.int 53 283)) :: ((PySem.DictEntry.mk (PySem.PyData.keyHash P (PySem.Str.ofString "EXCLAMATION")) (PySem.Value.str (PySem.Str.ofString "EXCLAMATION") 286) (PySem.Value.int 54 285)) :: ((PySem.DictEntry.mk (PySem.PyData.keyHash P (PySem.Str.ofString "NT_OFFSET")) (PySem.Value.str (PySem.Str.ofString "NT_OFFSET") 288) (PySem.Value.int 256 287)) :: ((PySem.DictEntry.mk (PySem.PyData.keyHash P (PySem.Str.ofString "EXACT_TOKEN_TYPES")) (PySem.Value.str (PySem.Str.ofString "EXACT_TOKEN_TYPES") 385) (PySem.Value.ref 15)) :: ((PySem.DictEntry.mk (PySem.PyData.keyHash P (PySem.Str.ofString "ISTERMINAL")) (PySem.Value.str (PySem.Str.ofString "ISTERMINAL") 392) (PySem.Value.ref 24)) :: ((PySem.DictEntry.mk (PySem.PyData.keyHash P (PySem.Str.ofString "ISEOF")) (PySem.Value.str (PySem.Str.ofString "ISEOF") 399) (PySem.Value.ref 31)) :: ((PySem.DictEntry.mk (PySem.PyData.keyHash P (PySem.Str.ofString "COMPILER_FLAG_NAMES")) (PySem.Value.str (PySem.Str.ofString "COMPILER_FLAG_NAMES") 432) (PySem.Value.ref 32)) :: ((PySem.DictEntry.mk (PySem.PyData.keyHash P (PySem.Str.ofString "pretty_flags")) (PySem.Value.str (PySem.Str.ofString "pretty_flags") 442) (PySem.Value.ref 39)) :: ((PySem.DictEntry.mk (PySem.PyData.keyHash P (PySem.Str.ofString "_parse_varint")) (PySem.Value.str (PySem.Str.ofString "_parse_varint") 451) (PySem.Value.ref 46)) :: ((PySem.DictEntry.mk (PySem.PyData.keyHash P (PySem.Str.ofString "lt")) (PySem.Value.str (PySem.Str.ofString "lt") 461) (PySem.Value.ref 53)) :: ((PySem.DictEntry.mk (PySem.PyData.keyHash P (PySem.Str.ofString "le")) (PySem.Value.str (PySem.Str.ofString "le") 469) (PySem.Value.ref 60)) :: ((PySem.DictEntry.mk (PySem.PyData.keyHash P (PySem.Str.ofString "eq")) (PySem.Value.str (PySem.Str.ofString "eq") 477) (PySem.Value.ref 67)) :: ((PySem.DictEntry.mk (PySem.PyData.keyHash P (PySem.Str.ofString "ne")) (PySem.Value.str (PySem.Str.ofString "ne") 485) (PySem.Value.ref 74)) :: ((PySem.DictEntry.mk (PySem.PyData.keyHash P (PySem.Str.ofString "ge")) (PySem.Value.str (PySem.Str.ofString "ge") 493) (PySem.Value.ref 81)) :: ((PySem.DictEntry.mk (PySem.PyData.keyHash P (PySem.Str.ofString "gt")) (PySem.Value.str (PySem.Str.ofString "gt") 501) (PySem.Value.ref 88)) :: ((PySem.DictEntry.mk (PySem.PyData.keyHash P (PySem.Str.ofString "and_")) (PySem.Value.str (PySem.Str.ofString "and_") 509) (PySem.Value.ref 95)) :: ((PySem.DictEntry.mk (PySem.PyData.keyHash P (PySem.Str.ofString "mod")) (PySem.Value.str (PySem.Str.ofString "mod") 517) (PySem.Value.ref 102)) :: ((PySem.DictEntry.mk (PySem.PyData.keyHash P (PySem.Str.ofString "or_")) (PySem.Value.str (PySem.Str.ofString "or_") 525) (PySem.Value.ref 109)) :: ((PySem.DictEntry.mk (PySem.PyData.keyHash P (PySem.Str.ofString "_law_read")) (PySem.Value.str (PySem.Str.ofString "_law_read") 537) (PySem.Value.ref 116)) :: ((PySem.DictEntry.mk (PySem.PyData.keyHash P (PySem.Str.ofString "_law_held")) (PySem.Value.str (PySem.Str.ofString "_law_held") 543) (PySem.Value.ref 121)) :: ((PySem.DictEntry.mk (PySem.PyData.keyHash P (PySem.Str.ofString "_law_bounds")) (PySem.Value.str (PySem.Str.ofString "_law_bounds") 559) (PySem.Value.ref 128)) :: ((PySem.DictEntry.mk (PySem.PyData.keyHash P (PySem.Str.ofString "_law_sentence")) (PySem.Value.str (PySem.Str.ofString "_law_sentence") 566) (PySem.Value.ref 135)) :: ((PySem.DictEntry.mk (PySem.PyData.keyHash P (PySem.Str.ofString "_law_meant")) (PySem.Value.str (PySem.Str.ofString "_law_meant") 574) (PySem.Value.ref 142)) :: ((PySem.DictEntry.mk (PySem.PyData.keyHash P (PySem.Str.ofString "_law_true")) (PySem.Value.str (PySem.Str.ofString "_law_true") 589) (PySem.Value.ref 149)) :: ((PySem.DictEntry.mk (PySem.PyData.keyHash P (PySem.Str.ofString "law")) (PySem.Value.str (PySem.Str.ofString "law") 595) (PySem.Value.ref 154)) :: [])))))))))))))))))))))))))))))))))))))))))))))))))))))))))))))))))))))))))))))))))) 81) (List.toArray []))) ::
    (nat_lit 15, (PySem.Obj.mk (PySem.Value.type "dict") (Option.none) (PySem.Data.dict (List.toArray ((PySem.DictEntry.mk (PySem.PyData.keyHash P (PySem.Str.ofString "!")) (PySem.Value.str (PySem.Str.ofString "!") 289) (PySem.Value.int 54 285)) :: ((PySem.DictEntry.mk (PySem.PyData.keyHash P (PySem.Str.ofString "!=")) (PySem.Value.str (PySem.Str.ofString "!=") 291) (PySem.Value.int 28 233)) :: ((PySem.DictEntry.mk (PySem.PyData.keyHash P (PySem.Str.ofString "%")) (PySem.Value.str (PySem.Str.ofString "%") 293) (PySem.Value.int 24 225)) :: ((PySem.DictEntry.mk (PySem.PyData.keyHash P (PySem.Str.ofString "%=")) (PySem.Value.str (PySem.Str.ofString "%=") 295) (PySem.Value.int 40 257)) :: ((PySem.DictEntry.mk (PySem.PyData.keyHash P (PySem.Str.ofString "&")) (PySem.Value.str (PySem.Str.ofString "&") 297) (PySem.Value.int 19 215)) :: ((PySem.DictEntry.mk (PySem.PyData.keyHash P (PySem.Str.ofString "&=")) (PySem.Value.str (PySem.Str.ofString "&=") 299) (PySem.Value.int 41 259)) :: ((PySem.DictEntry.mk (PySem.PyData.keyHash P (PySem.Str.ofString "(")) (PySem.Value.str (PySem.Str.ofString "(") 301) (PySem.Value.int 7 191)) :: ((PySem.DictEntry.mk (PySem.PyData.keyHash P (PySem.Str.ofString ")")) (PySem.Value.str (PySem.Str.ofString ")") 303) (PySem.Value.int 8 193)) :: ((PySem.DictEntry.mk (PySem.PyData.keyHash P (PySem.Str.ofString "*")) (PySem.Value.str (PySem.Str.ofString "*") 305) (PySem.Value.int 16 209)) :: ((PySem.DictEntry.mk (PySem.PyData.keyHash P (PySem.Str.ofString "**")) (PySem.Value.str (PySem.Str.ofString "**") 307) (PySem.Value.int 35 247)) :: ((PySem.DictEntry.mk (PySem.PyData.keyHash P (PySem.Str.ofString "**=")) (PySem.Value.str (PySem.Str.ofString "**=") 309) (PySem.Value.int 46 269)) :: ((PySem.DictEntry.mk (PySem.PyData.keyHash P (PySem.Str.ofString "*=")) (PySem.Value.str (PySem.Str.ofString "*=") 311) (PySem.Value.int 38 253)) :: ((PySem.DictEntry.mk (PySem.PyData.keyHash P (PySem.Str.ofString "+")) (PySem.Value.str (PySem.Str.ofString "+") 313) (PySem.Value.int 14 205)) :: ((PySem.DictEntry.mk (PySem.PyData.keyHash P (PySem.Str.ofString "+=")) (PySem.Value.str (PySem.Str.ofString "+=") 315) (PySem.Value.int 36 249)) :: ((PySem.DictEntry.mk (PySem.PyData.keyHash P (PySem.Str.ofString ",")) (PySem.Value.str (PySem.Str.ofString ",") 317) (PySem.Value.int 12 201)) :: ((PySem.DictEntry.mk (PySem.PyData.keyHash P (PySem.Str.ofString "-")) (PySem.Value.str (PySem.Str.ofString "-") 319) (PySem.Value.int 15 207)) :: ((PySem.DictEntry.mk (PySem.PyData.keyHash P (PySem.Str.ofString "-=")) (PySem.Value.str (PySem.Str.ofString "-=") 321) (PySem.Value.int 37 251)) :: ((PySem.DictEntry.mk (PySem.PyData.keyHash P (PySem.Str.ofString "->")) (PySem.Value.str (PySem.Str.ofString "->") 323) (PySem.Value.int 51 279)) :: ((PySem.DictEntry.mk (PySem.PyData.keyHash P (PySem.Str.ofString ".")) (PySem.Value.str (PySem.Str.ofString ".") 325) (PySem.Value.int 23 223)) :: ((PySem.DictEntry.mk (PySem.PyData.keyHash P (PySem.Str.ofString "...")) (PySem.Value.str (PySem.Str.ofString "...") 327) (PySem.Value.int 52 281)) :: ((PySem.DictEntry.mk (PySem.PyData.keyHash P (PySem.Str.ofString "/")) (PySem.Value.str (PySem.Str.ofString "/") 329) (PySem.Value.int 17 211)) :: ((PySem.DictEntry.mk (PySem.PyData.keyHash P (PySem.Str.ofString "//")) (PySem.Value.str (PySem.Str.ofString "//") 331) (PySem.Value.int 47 271)) :: ((PySem.DictEntry.mk (PySem.PyData.keyHash P (PySem.Str.ofString "//=")) (PySem.Value.str (PySem.Str.ofString "//=") 333) (PySem.Value.int 48 273)) :: ((PySem.DictEntry.mk (PySem.PyData.keyHash P (PySem.Str.ofString "/=")) (PySem.Value.str (PySem.Str.ofString "/=") 335) (PySem.Value.int 39 255)) :: ((PySem.DictEntry.mk (PySem.PyData.keyHash P (PySem.Str.ofString ":")) (PySem.Value.str (PySem.Str.ofString ":") 337) (PySem.Value.int 11 199)) :: ((PySem.DictEntry.mk (PySem.PyData.keyHash P (PySem.Str.ofString ":=")) (PySem.Value.str (PySem.Str.ofString ":=") 339) (PySem.Value.int 53 283)) :: ((PySem.DictEntry.mk (PySem.PyData.keyHash P (PySem.Str.ofString ";")) (PySem.Value.str (PySem.Str.ofString ";") 341) (PySem.Value.int 13 203)) :: ((PySem.DictEntry.mk (PySem.PyData.keyHash P (PySem.Str.ofString "<")) (PySem.Value.str (PySem.Str.ofString "<") 343) (PySem.Value.int 20 217)) :: ((PySem.DictEntry.mk (PySem.PyData.keyHash P (PySem.Str.ofString "<<")) (PySem.Value.str (PySem.Str.ofString "<<") 345) (PySem.Value.int 33 243)) :: ((PySem.DictEntry.mk (PySem.PyData.keyHash P (PySem.Str.ofString "<<=")) (PySem.Value.str (PySem.Str.ofString "<<=") 347) (PySem.Value.int 44 265)) :: ((PySem.DictEntry.mk (PySem.PyData.keyHash P (PySem.Str.ofString "<=")) (PySem.Value.str (PySem.Str.ofString "<=") 349) (PySem.Value.int 29 235)) :: ((PySem.DictEntry.mk (PySem.PyData.keyHash P (PySem.Str.ofString "=")) (PySem.Value.str (PySem.Str.ofString "=") 351) (PySem.Value.int 22 221)) :: ((PySem.DictEntry.mk (PySem.PyData.keyHash P (PySem.Str.ofString "==")) (PySem.Value.str (PySem.Str.ofString "==") 353) (PySem.Value.int 27 231)) :: ((PySem.DictEntry.mk (PySem.PyData.keyHash P (PySem.Str.ofString ">")) (PySem.Value.str (PySem.Str.ofString ">") 355) (PySem.Value.int 21 219)) :: ((PySem.DictEntry.mk (PySem.PyData.keyHash P (PySem.Str.ofString ">=")) (PySem.Value.str (PySem.Str.ofString ">=") 357) (PySem.Value.int 30 237)) :: ((PySem.DictEntry.mk (PySem.PyData.keyHash P (PySem.Str.ofString ">>")) (PySem.Value.str (PySem.Str.ofString ">>") 358) (PySem.Value.int 34 245)) :: ((PySem.DictEntry.mk (PySem.PyData.keyHash P (PySem.Str.ofString ">>=")) (PySem.Value.str (PySem.Str.ofString ">>=") 359) (PySem.Value.int 45 267)) :: ((PySem.DictEntry.mk (PySem.PyData.keyHash P (PySem.Str.ofString "@")) (PySem.Value.str (PySem.Str.ofString "@") 360) (PySem.Value.int 49 275)) :: ((PySem.DictEntry.mk (PySem.PyData.keyHash P (PySem.Str.ofString "@=")) (PySem.Value.str (PySem.Str.ofString "@=") 361) (PySem.Value.int 50 277)) :: ((PySem.DictEntry.mk (PySem.PyData.keyHash P (PySem.Str.ofString "[")) (PySem.Value.str (PySem.Str.ofString "[") 362) (PySem.Value.int 9 195)) :: ((PySem.DictEntry.mk (PySem.PyData.keyHash P (PySem.Str.ofString "]")) (PySem.Value.str (PySem.Str.ofString "]") 363) (PySem.Value.int 10 197)) :: ((PySem.DictEntry.mk (PySem.PyData.keyHash P (PySem.Str.ofString "^")) (PySem.Value.str (PySem.Str.ofString "^") 364) (PySem.Value.int 32 241)) :: ((PySem.DictEntry.mk (PySem.PyData.keyHash P (PySem.Str.ofString "^=")) (PySem.Value.str (PySem.Str.ofString "^=") 365) (PySem.Value.int 43 263)) :: ((PySem.DictEntry.mk (PySem.PyData.keyHash P (PySem.Str.ofString "{")) (PySem.Value.str (PySem.Str.ofString "{") 366) (PySem.Value.int 25 227)) :: ((PySem.DictEntry.mk (PySem.PyData.keyHash P (PySem.Str.ofString "|")) (PySem.Value.str (PySem.Str.ofString "|") 367) (PySem.Value.int 18 213)) :: ((PySem.DictEntry.mk (PySem.PyData.keyHash P (PySem.Str.ofString "|=")) (PySem.Value.str (PySem.Str.ofString "|=") 368) (PySem.Value.int 42 261)) :: ((PySem.DictEntry.mk (PySem.PyData.keyHash P (PySem.Str.ofString "}")) (PySem.Value.str (PySem.Str.ofString "}") 369) (PySem.Value.int 26 229)) :: ((PySem.DictEntry.mk (PySem.PyData.keyHash P (PySem.Str.ofString "~")) (PySem.Value.str (PySem.Str.ofString "~") 370) (PySem.Value.int 31 239)) :: []))))))))))))))))))))))))))))))))))))))))))))))))) 48) (List.toArray []))) ::
    (nat_lit 18, (PySem.Obj.mk (PySem.Value.type "tuple") (Option.none) (PySem.Data.seq (List.toArray []) 0) (List.toArray []))) ::
    (nat_lit 20, (PySem.Obj.mk (PySem.Value.type "tuple") (Option.none) (PySem.Data.seq (List.toArray ((PySem.Value.str (PySem.Str.ofString "x") 389) :: [])) 0) (List.toArray []))) ::
    (nat_lit 21, (PySem.Obj.mk (PySem.Value.type "tuple") (Option.none) (PySem.Data.seq (List.toArray []) 0) (List.toArray []))) ::
    (nat_lit 23, (PySem.Obj.mk (PySem.Value.type "code") (Option.none) (PySem.Data.fields (List.toArray ((PySem.Value.str (PySem.Str.ofString "ISTERMINAL") 386) :: ((PySem.Value.str (PySem.Str.ofString "ISTERMINAL") 387) :: ((PySem.Value.str (PySem.Str.ofString "/claim/cut.py") 388) :: ((PySem.Value.int 53 0) :: ((PySem.Value.int 1 0) :: ((PySem.Value.int 0 0) :: ((PySem.Value.int 0 0) :: ((PySem.Value.int 3 0) :: ((PySem.Value.ref 18) :: ((PySem.Value.bool Bool.true) :: ((PySem.Value.int 181 0) :: ((PySem.Value.ref 19) :: (PySem.Value.none :: ((PySem.Value.ref 20) :: ((PySem.Value.ref 21) :: ((PySem.Value.ref 22) :: ((PySem.Value.int 390 0) :: ((PySem.Value.int 53 0) :: ((PySem.Value.str (PySem.Str.ofString "/claim/cut.py") 391) :: []))))))))))))))))))))) (List.toArray []))) ::
    (nat_lit 24, (PySem.Obj.mk (PySem.Value.type "function") (Option.none) (PySem.Data.func (PySem.FuncData.mk (PySem.Str.ofString "ISTERMINAL") (PySem.Str.ofString "ISTERMINAL") p24 (PySem.FuncBody.stmts b24) s24 3 [] PySem.Value.none PySem.Value.none PySem.Value.none (PySem.Value.str (PySem.Str.ofString "cpy313.token") 187) (Option.none) (PySem.Value.ref 23) PySem.Value.none 0)) (List.toArray []))) ::
    (nat_lit 25, (PySem.Obj.mk (PySem.Value.type "tuple") (Option.none) (PySem.Data.seq (List.toArray []) 0) (List.toArray []))) ::
    (nat_lit 27, (PySem.Obj.mk (PySem.Value.type "tuple") (Option.none) (PySem.Data.seq (List.toArray ((PySem.Value.str (PySem.Str.ofString "x") 396) :: [])) 0) (List.toArray []))) ::
    (nat_lit 28, (PySem.Obj.mk (PySem.Value.type "tuple") (Option.none) (PySem.Data.seq (List.toArray []) 0) (List.toArray []))) ::
    (nat_lit 30, (PySem.Obj.mk (PySem.Value.type "code") (Option.none) (PySem.Data.fields (List.toArray ((PySem.Value.str (PySem.Str.ofString "ISEOF") 393) :: ((PySem.Value.str (PySem.Str.ofString "ISEOF") 394) :: ((PySem.Value.str (PySem.Str.ofString "/claim/cut.py") 395) :: ((PySem.Value.int 55 0) :: ((PySem.Value.int 1 0) :: ((PySem.Value.int 0 0) :: ((PySem.Value.int 0 0) :: ((PySem.Value.int 3 0) :: ((PySem.Value.ref 25) :: ((PySem.Value.bool Bool.true) :: ((PySem.Value.int 181 0) :: ((PySem.Value.ref 26) :: (PySem.Value.none :: ((PySem.Value.ref 27) :: ((PySem.Value.ref 28) :: ((PySem.Value.ref 29) :: ((PySem.Value.int 397 0) :: ((PySem.Value.int 55 0) :: ((PySem.Value.str (PySem.Str.ofString "/claim/cut.py") 398) :: []))))))))))))))))))))) (List.toArray []))) ::
    (nat_lit 31, (PySem.Obj.mk (PySem.Value.type "function") (Option.none) (PySem.Data.func (PySem.FuncData.mk (PySem.Str.ofString "ISEOF") (PySem.Str.ofString "ISEOF") p31 (PySem.FuncBody.stmts b31) s31 3 [] PySem.Value.none PySem.Value.none PySem.Value.none (PySem.Value.str (PySem.Str.ofString "cpy313.token") 187) (Option.none) (PySem.Value.ref 30) PySem.Value.none 0)) (List.toArray []))) ::
    (nat_lit 32, (PySem.Obj.mk (PySem.Value.type "dict") (Option.none) (PySem.Data.dict (List.toArray ((PySem.DictEntry.mk 1 (PySem.Value.int 1 402) (PySem.Value.str (PySem.Str.ofString "OPTIMIZED") 403)) :: ((PySem.DictEntry.mk 2 (PySem.Value.int 2 404) (PySem.Value.str (PySem.Str.ofString "NEWLOCALS") 405)) :: ((PySem.DictEntry.mk 4 (PySem.Value.int 4 406) (PySem.Value.str (PySem.Str.ofString "VARARGS") 407)) :: ((PySem.DictEntry.mk 8 (PySem.Value.int 8 408) (PySem.Value.str (PySem.Str.ofString "VARKEYWORDS") 409)) :: ((PySem.DictEntry.mk 16 (PySem.Value.int 16 410) (PySem.Value.str (PySem.Str.ofString "NESTED") 411)) :: ((PySem.DictEntry.mk 32 (PySem.Value.int 32 412) (PySem.Value.str (PySem.Str.ofString "GENERATOR") 413)) :: ((PySem.DictEntry.mk 64 (PySem.Value.int 64 414) (PySem.Value.str (PySem.Str.ofString "NOFREE") 415)) :: ((PySem.DictEntry.mk 128 (PySem.Value.int 128 416) (PySem.Value.str (PySem.Str.ofString "COROUTINE") 417)) :: ((PySem.DictEntry.mk 256 (PySem.Value.int 256 418) (PySem.Value.str (PySem.Str.ofString "ITERABLE_COROUTINE") 419)) :: ((PySem.DictEntry.mk 512 (PySem.Value.int 512 420) (PySem.Value.str (PySem.Str.ofString "ASYNC_GENERATOR") 421)) :: []))))))))))) 10) (List.toArray []))) ::
    (nat_lit 33, (PySem.Obj.mk (PySem.Value.type "tuple") (Option.none) (PySem.Data.seq (List.toArray []) 0) (List.toArray []))) ::
    (nat_lit 35, (PySem.Obj.mk (PySem.Value.type "tuple") (Option.none) (PySem.Data.seq (List.toArray ((PySem.Value.str (PySem.Str.ofString "flags") 436) :: ((PySem.Value.str (PySem.Str.ofString "names") 437) :: ((PySem.Value.str (PySem.Str.ofString "i") 438) :: ((PySem.Value.str (PySem.Str.ofString "flag") 439) :: []))))) 0) (List.toArray []))) ::
    (nat_lit 36, (PySem.Obj.mk (PySem.Value.type "tuple") (Option.none) (PySem.Data.seq (List.toArray []) 0) (List.toArray []))) ::
    (nat_lit 38, (PySem.Obj.mk (PySem.Value.type "code") (Option.none) (PySem.Data.fields (List.toArray ((PySem.Value.str (PySem.Str.ofString "pretty_flags") 433) :: ((PySem.Value.str (PySem.Str.ofString "pretty_flags") 434) :: ((PySem.Value.str (PySem.Str.ofString "/claim/cut.py") 435) :: ((PySem.Value.int 59 0) :: ((PySem.Value.int 1 0) :: ((PySem.Value.int 0 0) :: ((PySem.Value.int 0 0) :: ((PySem.Value.int 3 0) :: ((PySem.Value.ref 33) :: ((PySem.Value.bool Bool.true) :: ((PySem.Value.int 181 0) :: ((PySem.Value.ref 34) :: (PySem.Value.none :: ((PySem.Value.ref 35) :: ((PySem.Value.ref 36) :: ((PySem.Value.ref 37) :: ((PySem.Value.int 440 0) :: ((PySem.Value.int 59 0) :: ((PySem.Value.str (PySem.Str.ofString "/claim/cut.py") 441) :: []))))))))))))))))))))) (List.toArray []))) ::
    (nat_lit 39, (PySem.Obj.mk (PySem.Value.type "function") (Option.none) (PySem.Data.func (PySem.FuncData.mk (PySem.Str.ofString "pretty_flags") (PySem.Str.ofString "pretty_flags") p39 (PySem.FuncBody.stmts b39) s39 3 [] PySem.Value.none PySem.Value.none PySem.Value.none (PySem.Value.str (PySem.Str.ofString "cpy313.dis") 400) (Option.none) (PySem.Value.ref 38) PySem.Value.none 0)) (List.toArray []))) ::
    (nat_lit 40, (PySem.Obj.mk (PySem.Value.type "tuple") (Option.none) (PySem.Data.seq (List.toArray []) 0) (List.toArray []))) ::
    (nat_lit 42, (PySem.Obj.mk (PySem.Value.type "tuple") (Option.none) (PySem.Data.seq (List.toArray ((PySem.Value.str (PySem.Str.ofString "iterator") 446) :: ((PySem.Value.str (PySem.Str.ofString "b") 447) :: ((PySem.Value.str (PySem.Str.ofString "val") 448) :: [])))) 0) (List.toArray []))) ::
    (nat_lit 43, (PySem.Obj.mk (PySem.Value.type "tuple") (Option.none) (PySem.Data.seq (List.toArray []) 0) (List.toArray []))) ::
    (nat_lit 45, (PySem.Obj.mk (PySem.Value.type "code") (Option.none) (PySem.Data.fields (List.toArray ((PySem.Value.str (PySem.Str.ofString "_parse_varint") 443) :: ((PySem.Value.str (PySem.Str.ofString "_parse_varint") 444) :: ((PySem.Value.str (PySem.Str.ofString "/claim/cut.py") 445) :: ((PySem.Value.int 71 0) :: ((PySem.Value.int 1 0) :: ((PySem.Value.int 0 0) :: ((PySem.Value.int 0 0) :: ((PySem.Value.int 3 0) :: ((PySem.Value.ref 40) :: ((PySem.Value.bool Bool.true) :: ((PySem.Value.int 181 0) :: ((PySem.Value.ref 41) :: (PySem.Value.none :: ((PySem.Value.ref 42) :: ((PySem.Value.ref 43) :: ((PySem.Value.ref 44) :: ((PySem.Value.int 449 0) :: ((PySem.Value.int 71 0) :: ((PySem.Value.str (PySem.Str.ofString "/claim/cut.py") 450) :: []))))))))))))))))))))) (List.toArray []))) ::
    (nat_lit 46, (PySem.Obj.mk (PySem.Value.type "function") (Option.none) (PySem.Data.func (PySem.FuncData.mk (PySem.Str.ofString "_parse_varint") (PySem.Str.ofString "_parse_varint") p46 (PySem.FuncBody.stmts b46) s46 3 [] PySem.Value.none PySem.Value.none PySem.Value.none (PySem.Value.str (PySem.Str.ofString "cpy313.dis") 400) (Option.none) (PySem.Value.ref 45) PySem.Value.none 0)) (List.toArray []))) ::
    (nat_lit 47, (PySem.Obj.mk (PySem.Value.type "tuple") (Option.none) (PySem.Data.seq (List.toArray []) 0) (List.toArray []))) ::
    (nat_lit 49, (PySem.Obj.mk (PySem.Value.type "tuple") (Option.none) (PySem.Data.seq (List.toArray ((PySem.Value.str (PySem.Str.ofString "a") 457) :: ((PySem.Value.str (PySem.Str.ofString "b") 458) :: []))) 0) (List.toArray []))) ::
    (nat_lit 50, (PySem.Obj.mk (PySem.Value.type "tuple") (Option.none) (PySem.Data.seq (List.toArray []) 0) (List.toArray []))) ::
    (nat_lit 52, (PySem.Obj.mk (PySem.Value.type "code") (Option.none) (PySem.Data.fields (List.toArray ((PySem.Value.str (PySem.Str.ofString "lt") 454) :: ((PySem.Value.str (PySem.Str.ofString "lt") 455) :: ((PySem.Value.str (PySem.Str.ofString "/claim/cut.py") 456) :: ((PySem.Value.int 80 0) :: ((PySem.Value.int 2 0) :: ((PySem.Value.int 0 0) :: ((PySem.Value.int 0 0) :: ((PySem.Value.int 3 0) :: ((PySem.Value.ref 47) :: ((PySem.Value.bool Bool.true) :: ((PySem.Value.int 181 0) :: ((PySem.Value.ref 48) :: (PySem.Value.none :: ((PySem.Value.ref 49) :: ((PySem.Value.ref 50) :: ((PySem.Value.ref 51) :: ((PySem.Value.int 459 0) :: ((PySem.Value.int 80 0) :: ((PySem.Value.str (PySem.Str.ofString "/claim/cut.py") 460) :: []))))))))))))))))))))) (List.toArray []))) ::
    (nat_lit 53, (PySem.Obj.mk (PySem.Value.type "function") (Option.none) (PySem.Data.func (PySem.FuncData.mk (PySem.Str.ofString "lt") (PySem.Str.ofString "lt") p53 (PySem.FuncBody.stmts b53) s53 3 [] PySem.Value.none PySem.Value.none PySem.Value.none (PySem.Value.str (PySem.Str.ofString "cpy313.operator") 452) (Option.none) (PySem.Value.ref 52) PySem.Value.none 0)) (List.toArray []))) ::
    (nat_lit 54, (PySem.Obj.mk (PySem.Value.type "tuple") (Option.none) (PySem.Data.seq (List.toArray []) 0) (List.toArray []))) ::
    (nat_lit 56, (PySem.Obj.mk (PySem.Value.type "tuple") (Option.none) (PySem.Data.seq (List.toArray ((PySem.Value.str (PySem.Str.ofString "a") 465) :: ((PySem.Value.str (PySem.Str.ofString "b") 466) :: []))) 0) (List.toArray []))) ::
    (nat_lit 57, (PySem.Obj.mk (PySem.Value.type "tuple") (Option.none) (PySem.Data.seq (List.toArray []) 0) (List.toArray []))) ::
    (nat_lit 59, (PySem.Obj.mk (PySem.Value.type "code") (Option.none) (PySem.Data.fields (List.toArray ((PySem.Value.str (PySem.Str.ofString "le") 462) :: ((PySem.Value.str (PySem.Str.ofString "le") 463) :: ((PySem.Value.str (PySem.Str.ofString "/claim/cut.py") 464) :: ((PySem.Value.int 82 0) :: ((PySem.Value.int 2 0) :: ((PySem.Value.int 0 0) :: ((PySem.Value.int 0 0) :: ((PySem.Value.int 3 0) :: ((PySem.Value.ref 54) :: ((PySem.Value.bool Bool.true) :: ((PySem.Value.int 181 0) :: ((PySem.Value.ref 55) :: (PySem.Value.none :: ((PySem.Value.ref 56) :: ((PySem.Value.ref 57) :: ((PySem.Value.ref 58) :: ((PySem.Value.int 467 0) :: ((PySem.Value.int 82 0) :: ((PySem.Value.str (PySem.Str.ofString "/claim/cut.py") 468) :: []))))))))))))))))))))) (List.toArray []))) ::
    (nat_lit 60, (PySem.Obj.mk (PySem.Value.type "function") (Option.none) (PySem.Data.func (PySem.FuncData.mk (PySem.Str.ofString "le") (PySem.Str.ofString "le") p60 (PySem.FuncBody.stmts b60) s60 3 [] PySem.Value.none PySem.Value.none PySem.Value.none (PySem.Value.str (PySem.Str.ofString "cpy313.operator") 452) (Option.none) (PySem.Value.ref 59) PySem.Value.none 0)) (List.toArray []))) ::
    (nat_lit 61, (PySem.Obj.mk (PySem.Value.type "tuple") (Option.none) (PySem.Data.seq (List.toArray []) 0) (List.toArray []))) ::
    (nat_lit 63, (PySem.Obj.mk (PySem.Value.type "tuple") (Option.none) (PySem.Data.seq (List.toArray ((PySem.Value.str (PySem.Str.ofString "a") 473) :: ((PySem.Value.str (PySem.Str.ofString "b") 474) :: []))) 0) (List.toArray []))) ::
    (nat_lit 64, (PySem.Obj.mk (PySem.Value.type "tuple") (Option.none) (PySem.Data.seq (List.toArray []) 0) (List.toArray []))) ::
    (nat_lit 66, (PySem.Obj.mk (PySem.Value.type "code") (Option.none) (PySem.Data.fields (List.toArray ((PySem.Value.str (PySem.Str.ofString "eq") 470) :: ((PySem.Value.str (PySem.Str.ofString "eq") 471) :: ((PySem.Value.str (PySem.Str.ofString "/claim/cut.py") 472) :: ((PySem.Value.int 84 0) :: ((PySem.Value.int 2 0) :: ((PySem.Value.int 0 0) :: ((PySem.Value.int 0 0) :: ((PySem.Value.int 3 0) :: ((PySem.Value.ref 61) :: ((PySem.Value.bool Bool.true) :: ((PySem.Value.int 181 0) :: ((PySem.Value.ref 62) :: (PySem.Value.none :: ((PySem.Value.ref 63) :: ((PySem.Value.ref 64) :: ((PySem.Value.ref 65) :: ((PySem.Value.int 475 0) :: ((PySem.Value.int 84 0) :: ((PySem.Value.str (PySem.Str.ofString "/claim/cut.py") 476) :: []))))))))))))))))))))) (List.toArray []))) ::
    (nat_lit 67, (PySem.Obj.mk (PySem.Value.type "function") (Option.none) (PySem.Data.func (PySem.FuncData.mk (PySem.Str.ofString "eq") (PySem.Str.ofString "eq") p67 (PySem.FuncBody.stmts b67) s67 3 [] PySem.Value.none PySem.Value.none PySem.Value.none (PySem.Value.str (PySem.Str.ofString "cpy313.operator") 452) (Option.none) (PySem.Value.ref 66) PySem.Value.none 0)) (List.toArray []))) ::
    (nat_lit 68, (PySem.Obj.mk (PySem.Value.type "tuple") (Option.none) (PySem.Data.seq (List.toArray []) 0) (List.toArray []))) ::
    (nat_lit 70, (PySem.Obj.mk (PySem.Value.type "tuple") (Option.none) (PySem.Data.seq (List.toArray ((PySem.Value.str (PySem.Str.ofString "a") 481) :: ((PySem.Value.str (PySem.Str.ofString "b") 482) :: []))) 0) (List.toArray []))) ::
    (nat_lit 71, (PySem.Obj.mk (PySem.Value.type "tuple") (Option.none) (PySem.Data.seq (List.toArray []) 0) (List.toArray []))) ::
    (nat_lit 73, (PySem.Obj.mk (PySem.Value.type "code") (Option.none) (PySem.Data.fields (List.toArray ((PySem.Value.str (PySem.Str.ofString "ne") 478) :: ((PySem.Value.str (PySem.Str.ofString "ne") 479) :: ((PySem.Value.str (PySem.Str.ofString "/claim/cut.py") 480) :: ((PySem.Value.int 86 0) :: ((PySem.Value.int 2 0) :: ((PySem.Value.int 0 0) :: ((PySem.Value.int 0 0) :: ((PySem.Value.int 3 0) :: ((PySem.Value.ref 68) :: ((PySem.Value.bool Bool.true) :: ((PySem.Value.int 181 0) :: ((PySem.Value.ref 69) :: (PySem.Value.none :: ((PySem.Value.ref 70) :: ((PySem.Value.ref 71) :: ((PySem.Value.ref 72) :: ((PySem.Value.int 483 0) :: ((PySem.Value.int 86 0) :: ((PySem.Value.str (PySem.Str.ofString "/claim/cut.py") 484) :: []))))))))))))))))))))) (List.toArray []))) ::
    (nat_lit 74, (PySem.Obj.mk (PySem.Value.type "function") (Option.none) (PySem.Data.func (PySem.FuncData.mk (PySem.Str.ofString "ne") (PySem.Str.ofString "ne") p74 (PySem.FuncBody.stmts b74) s74 3 [] PySem.Value.none PySem.Value.none PySem.Value.none (PySem.Value.str (PySem.Str.ofString "cpy313.operator") 452) (Option.none) (PySem.Value.ref 73) PySem.Value.none 0)) (List.toArray []))) ::
    (nat_lit 75, (PySem.Obj.mk (PySem.Value.type "tuple") (Option.none) (PySem.Data.seq (List.toArray []) 0) (List.toArray []))) ::
    (nat_lit 77, (PySem.Obj.mk (PySem.Value.type "tuple") (Option.none) (PySem.Data.seq (List.toArray ((PySem.Value.str (PySem.Str.ofString "a") 489) :: ((PySem.Value.str (PySem.Str.ofString "b") 490) :: []))) 0) (List.toArray []))) ::
    (nat_lit 78, (PySem.Obj.mk (PySem.Value.type "tuple") (Option.none) (PySem.Data.seq (List.toArray []) 0) (List.toArray []))) ::
    (nat_lit 80, (PySem.Obj.mk (PySem.Value.type "code") (Option.none) (PySem.Data.fields (List.toArray ((PySem.Value.str (PySem.Str.ofString "ge") 486) :: ((PySem.Value.str (PySem.Str.ofString "ge") 487) :: ((PySem.Value.str (PySem.Str.ofString "/claim/cut.py") 488) :: ((PySem.Value.int 88 0) :: ((PySem.Value.int 2 0) :: ((PySem.Value.int 0 0) :: ((PySem.Value.int 0 0) :: ((PySem.Value.int 3 0) :: ((PySem.Value.ref 75) :: ((PySem.Value.bool Bool.true) :: ((PySem.Value.int 181 0) :: ((PySem.Value.ref 76) :: (PySem.Value.none :: ((PySem.Value.ref 77) :: ((PySem.Value.ref 78) :: ((PySem.Value.ref 79) :: ((PySem.Value.int 491 0) :: ((PySem.Value.int 88 0) :: ((PySem.Value.str (PySem.Str.ofString "/claim/cut.py") 492) :: []))))))))))))))))))))) (List.toArray []))) ::
    (nat_lit 81, (PySem.Obj.mk (PySem.Value.type "function") (Option.none) (PySem.Data.func (PySem.FuncData.mk (PySem.Str.ofString "ge") (PySem.Str.ofString "ge") p81 (PySem.FuncBody.stmts b81) s81 3 [] PySem.Value.none PySem.Value.none PySem.Value.none (PySem.Value.str (PySem.Str.ofString "cpy313.operator") 452) (Option.none) (PySem.Value.ref 80) PySem.Value.none 0)) (List.toArray []))) ::
    (nat_lit 82, (PySem.Obj.mk (PySem.Value.type "tuple") (Option.none) (PySem.Data.seq (List.toArray []) 0) (List.toArray []))) ::
    (nat_lit 84, (PySem.Obj.mk (PySem.Value.type "tuple") (Option.none) (PySem.Data.seq (List.toArray ((PySem.Value.str (PySem.Str.ofString "a") 497) :: ((PySem.Value.str (PySem.Str.ofString "b") 498) :: []))) 0) (List.toArray []))) ::
    (nat_lit 85, (PySem.Obj.mk (PySem.Value.type "tuple") (Option.none) (PySem.Data.seq (List.toArray []) 0) (List.toArray []))) ::
    (nat_lit 87, (PySem.Obj.mk (PySem.Value.type "code") (Option.none) (PySem.Data.fields (List.toArray ((PySem.Value.str (PySem.Str.ofString "gt") 494) :: ((PySem.Value.str (PySem.Str.ofString "gt") 495) :: ((PySem.Value.str (PySem.Str.ofString "/claim/cut.py") 496) :: ((PySem.Value.int 90 0) :: ((PySem.Value.int 2 0) :: ((PySem.Value.int 0 0) :: ((PySem.Value.int 0 0) :: ((PySem.Value.int 3 0) :: ((PySem.Value.ref 82) :: ((PySem.Value.bool Bool.true) :: ((PySem.Value.int 181 0) :: ((PySem.Value.ref 83) :: (PySem.Value.none :: ((PySem.Value.ref 84) :: ((PySem.Value.ref 85) :: ((PySem.Value.ref 86) :: ((PySem.Value.int 499 0) :: ((PySem.Value.int 90 0) :: ((PySem.Value.str (PySem.Str.ofString "/claim/cut.py") 500) :: []))))))))))))))))))))) (List.toArray []))) ::
    (nat_lit 88, (PySem.Obj.mk (PySem.Value.type "function") (Option.none) (PySem.Data.func (PySem.FuncData.mk (PySem.Str.ofString "gt") (PySem.Str.ofString "gt") p88 (PySem.FuncBody.stmts b88) s88 3 [] PySem.Value.none PySem.Value.none PySem.Value.none (PySem.Value.str (PySem.Str.ofString "cpy313.operator") 452) (Option.none) (PySem.Value.ref 87) PySem.Value.none 0)) (List.toArray []))) ::
    (nat_lit 89, (PySem.Obj.mk (PySem.Value.type "tuple") (Option.none) (PySem.Data.seq (List.toArray []) 0) (List.toArray []))) ::
    (nat_lit 91, (PySem.Obj.mk (PySem.Value.type "tuple") (Option.none) (PySem.Data.seq (List.toArray ((PySem.Value.str (PySem.Str.ofString "a") 505) :: ((PySem.Value.str (PySem.Str.ofString "b") 506) :: []))) 0) (List.toArray []))) ::
    (nat_lit 92, (PySem.Obj.mk (PySem.Value.type "tuple") (Option.none) (PySem.Data.seq (List.toArray []) 0) (List.toArray []))) ::
    (nat_lit 94, (PySem.Obj.mk (PySem.Value.type "code") (Option.none) (PySem.Data.fields (List.toArray ((PySem.Value.str (PySem.Str.ofString "and_") 502) :: ((PySem.Value.str (PySem.Str.ofString "and_") 503) :: ((PySem.Value.str (PySem.Str.ofString "/claim/cut.py") 504) :: ((PySem.Value.int 92 0) :: ((PySem.Value.int 2 0) :: ((PySem.Value.int 0 0) :: ((PySem.Value.int 0 0) :: ((PySem.Value.int 3 0) :: ((PySem.Value.ref 89) :: ((PySem.Value.bool Bool.true) :: ((PySem.Value.int 181 0) :: ((PySem.Value.ref 90) :: (PySem.Value.none :: ((PySem.Value.ref 91) :: ((PySem.Value.ref 92) :: ((PySem.Value.ref 93) :: ((PySem.Value.int 507 0) :: ((PySem.Value.int 92 0) :: ((PySem.Value.str (PySem.Str.ofString "/claim/cut.py") 508) :: []))))))))))))))))))))) (List.toArray []))) ::
    (nat_lit 95, (PySem.Obj.mk (PySem.Value.type "function") (Option.none) (PySem.Data.func (PySem.FuncData.mk (PySem.Str.ofString "and_") (PySem.Str.ofString "and_") p95 (PySem.FuncBody.stmts b95) s95 3 [] PySem.Value.none PySem.Value.none PySem.Value.none (PySem.Value.str (PySem.Str.ofString "cpy313.operator") 452) (Option.none) (PySem.Value.ref 94) PySem.Value.none 0)) (List.toArray []))) ::
    (nat_lit 96, (PySem.Obj.mk (PySem.Value.type "tuple") (Option.none) (PySem.Data.seq (List.toArray []) 0) (List.toArray []))) ::
    (nat_lit 98, (PySem.Obj.mk (PySem.Value.type "tuple") (Option.none) (PySem.Data.seq (List.toArray ((PySem.Value.str (PySem.Str.ofString "a") 513) :: ((PySem.Value.str (PySem.Str.ofString "b") 514) :: []))) 0) (List.toArray []))) ::
    (nat_lit 99, (PySem.Obj.mk (PySem.Value.type "tuple") (Option.none) (PySem.Data.seq (List.toArray []) 0) (List.toArray []))) ::
    (nat_lit 101, (PySem.Obj.mk (PySem.Value.type "code") (Option.none) (PySem.Data.fields (List.toArray ((PySem.Value.str (PySem.Str.ofString "mod") 510) :: ((PySem.Value.str (PySem.Str.ofString "mod") 511) :: ((PySem.Value.str (PySem.Str.ofString "/claim/cut.py") 512) :: ((PySem.Value.int 94 0) :: ((PySem.Value.int 2 0) :: ((PySem.Value.int 0 0) :: ((PySem.Value.int 0 0) :: ((PySem.Value.int 3 0) :: ((PySem.Value.ref 96) :: ((PySem.Value.bool Bool.true) :: ((PySem.Value.int 181 0) :: ((PySem.Value.ref 97) :: (PySem.Value.none :: ((PySem.Value.ref 98) :: ((PySem.Value.ref 99) :: ((PySem.Value.ref 100) :: ((PySem.Value.int 515 0) :: ((PySem.Value.int 94 0) :: ((PySem.Value.str (PySem.Str.ofString "/claim/cut.py") 516) :: []))))))))))))))))))))) (List.toArray []))) ::
    (nat_lit 102, (PySem.Obj.mk (PySem.Value.type "function") (Option.none) (PySem.Data.func (PySem.FuncData.mk (PySem.Str.ofString "mod") (PySem.Str.ofString "mod") p102 (PySem.FuncBody.stmts b102) s102 3 [] PySem.Value.none PySem.Value.none PySem.Value.none (PySem.Value.str (PySem.Str.ofString "cpy313.operator") 452) (Option.none) (PySem.Value.ref 101) PySem.Value.none 0)) (List.toArray []))) ::
    (nat_lit 103, (PySem.Obj.mk (PySem.Value.type "tuple") (Option.none) (PySem.Data.seq (List.toArray []) 0) (List.toArray []))) ::
    (nat_lit 105, (PySem.Obj.mk (PySem.Value.type "tuple") (Option.none) (PySem.Data.seq (List.toArray ((PySem.Value.str (PySem.Str.ofString "a") 521) :: ((PySem.Value.str (PySem.Str.ofString "b") 522) :: []))) 0) (List.toArray []))) ::
    (nat_lit 106, (PySem.Obj.mk (PySem.Value.type "tuple") (Option.none) (PySem.Data.seq (List.toArray []) 0) (List.toArray []))) ::
    (nat_lit 108, (PySem.Obj.mk (PySem.Value.type "code") (Option.none) (PySem.Data.fields (List.toArray ((PySem.Value.str (PySem.Str.ofString "or_") 518) :: ((PySem.Value.str (PySem.Str.ofString "or_") 519) :: ((PySem.Value.str (PySem.Str.ofString "/claim/cut.py") 520) :: ((PySem.Value.int 96 0) :: ((PySem.Value.int 2 0) :: ((PySem.Value.int 0 0) :: ((PySem.Value.int 0 0) :: ((PySem.Value.int 3 0) :: ((PySem.Value.ref 103) :: ((PySem.Value.bool Bool.true) :: ((PySem.Value.int 181 0) :: ((PySem.Value.ref 104) :: (PySem.Value.none :: ((PySem.Value.ref 105) :: ((PySem.Value.ref 106) :: ((PySem.Value.ref 107) :: ((PySem.Value.int 523 0) :: ((PySem.Value.int 96 0) :: ((PySem.Value.str (PySem.Str.ofString "/claim/cut.py") 524) :: []))))))))))))))))))))) (List.toArray []))) ::
    (nat_lit 109, (PySem.Obj.mk (PySem.Value.type "function") (Option.none) (PySem.Data.func (PySem.FuncData.mk (PySem.Str.ofString "or_") (PySem.Str.ofString "or_") p109 (PySem.FuncBody.stmts b109) s109 3 [] PySem.Value.none PySem.Value.none PySem.Value.none (PySem.Value.str (PySem.Str.ofString "cpy313.operator") 452) (Option.none) (PySem.Value.ref 108) PySem.Value.none 0)) (List.toArray []))) ::
    (nat_lit 110, (PySem.Obj.mk (PySem.Value.type "tuple") (Option.none) (PySem.Data.seq (List.toArray []) 0) (List.toArray []))) ::
    (nat_lit 112, (PySem.Obj.mk (PySem.Value.type "tuple") (Option.none) (PySem.Data.seq (List.toArray ((PySem.Value.str (PySem.Str.ofString "octets") 531) :: ((PySem.Value.str (PySem.Str.ofString "tape") 532) :: ((PySem.Value.str (PySem.Str.ofString "row") 533) :: ((PySem.Value.str (PySem.Str.ofString "number") 534) :: []))))) 0) (List.toArray []))) ::
    (nat_lit 113, (PySem.Obj.mk (PySem.Value.type "tuple") (Option.none) (PySem.Data.seq (List.toArray []) 0) (List.toArray []))) ::
    (nat_lit 115, (PySem.Obj.mk (PySem.Value.type "code") (Option.none) (PySem.Data.fields (List.toArray ((PySem.Value.str (PySem.Str.ofString "_law_read") 528) :: ((PySem.Value.str (PySem.Str.ofString "_law_read") 529) :: ((PySem.Value.str (PySem.Str.ofString "/claim/cut.py") 530) :: ((PySem.Value.int 99 0) :: ((PySem.Value.int 1 0) :: ((PySem.Value.int 0 0) :: ((PySem.Value.int 0 0) :: ((PySem.Value.int 3 0) :: ((PySem.Value.ref 110) :: ((PySem.Value.bool Bool.true) :: ((PySem.Value.int 181 0) :: ((PySem.Value.ref 111) :: (PySem.Value.none :: ((PySem.Value.ref 112) :: ((PySem.Value.ref 113) :: ((PySem.Value.ref 114) :: ((PySem.Value.int 535 0) :: ((PySem.Value.int 99 0) :: ((PySem.Value.str (PySem.Str.ofString "/claim/cut.py") 536) :: []))))))))))))))))))))) (List.toArray []))) ::
    (nat_lit 116, (PySem.Obj.mk (PySem.Value.type "function") (Option.none) (PySem.Data.func (PySem.FuncData.mk (PySem.Str.ofString "_law_read") (PySem.Str.ofString "_law_read") p116 (PySem.FuncBody.stmts b116) s116 3 [] PySem.Value.none PySem.Value.none PySem.Value.none (PySem.Value.str (PySem.Str.ofString "law_wj0027_01") 526) (Option.none) (PySem.Value.ref 115) PySem.Value.none 0)) (List.toArray []))) ::
    (nat_lit 117, (PySem.Obj.mk (PySem.Value.type "tuple") (Option.none) (PySem.Data.seq (List.toArray []) 0) (List.toArray []))) ::
    (nat_lit 120, (PySem.Obj.mk (PySem.Value.type "code") (Option.none) (PySem.Data.fields (List.toArray ((PySem.Value.str (PySem.Str.ofString "_law_held") 538) :: ((PySem.Value.str (PySem.Str.ofString "_law_held") 539) :: ((PySem.Value.str (PySem.Str.ofString "/claim/cut.py") 540) :: ((PySem.Value.int 107 0) :: ((PySem.Value.int 2 0) :: ((PySem.Value.int 0 0) :: ((PySem.Value.int 0 0) :: ((PySem.Value.int 3 0) :: ((PySem.Value.ref 117) :: ((PySem.Value.bool Bool.true) :: ((PySem.Value.int 181 0) :: ((PySem.Value.ref 118) :: (PySem.Value.none :: (PySem.Value.none :: (PySem.Value.none :: ((PySem.Value.ref 119) :: ((PySem.Value.int 541 0) :: ((PySem.Value.int 107 0) :: ((PySem.Value.str (PySem.Str.ofString "/claim/cut.py") 542) :: []))))))))))))))))))))) (List.toArray []))) ::
    (nat_lit 121, (PySem.Obj.mk (PySem.Value.type "function") (Option.none) (PySem.Data.func (PySem.FuncData.mk (PySem.Str.ofString "_law_held") (PySem.Str.ofString "_law_held") p121 (PySem.FuncBody.stmts b121) s121 3 [] PySem.Value.none PySem.Value.none PySem.Value.none (PySem.Value.str (PySem.Str.ofString "law_wj0027_01") 526) (Option.none) (PySem.Value.ref 120) PySem.Value.none 0)) (List.toArray []))) ::
    (nat_lit 122, (PySem.Obj.mk (PySem.Value.type "tuple") (Option.none) (PySem.Data.seq (List.toArray []) 0) (List.toArray []))) ::
    (nat_lit 124, (PySem.Obj.mk (PySem.Value.type "tuple") (Option.none) (PySem.Data.seq (List.toArray ((PySem.Value.str (PySem.Str.ofString "row") 547) :: ((PySem.Value.str (PySem.Str.ofString "side") 548) :: ((PySem.Value.str (PySem.Str.ofString "strict") 549) :: ((PySem.Value.str (PySem.Str.ofString "loose") 550) :: ((PySem.Value.str (PySem.Str.ofString "bounds") 551) :: ((PySem.Value.str (PySem.Str.ofString "many") 552) :: ((PySem.Value.str (PySem.Str.ofString "k") 553) :: ((PySem.Value.str (PySem.Str.ofString "number") 554) :: ((PySem.Value.str (PySem.Str.ofString "told") 555) :: ((PySem.Value.str (PySem.Str.ofString "sign") 556) :: []))))))))))) 0) (List.toArray []))) ::
    (nat_lit 125, (PySem.Obj.mk (PySem.Value.type "tuple") (Option.none) (PySem.Data.seq (List.toArray []) 0) (List.toArray []))) ::
    (nat_lit 127, (PySem.Obj.mk (PySem.Value.type "code") (Option.none) (PySem.Data.fields (List.toArray ((PySem.Value.str (PySem.Str.ofString "_law_bounds") 544) :: ((PySem.Value.str (PySem.Str.ofString "_law_bounds") 545) :: ((PySem.Value.str (PySem.Str.ofString "/claim/cut.py") 546) :: ((PySem.Value.int 122 0) :: ((PySem.Value.int 2 0) :: ((PySem.Value.int 0 0) :: ((PySem.Value.int 0 0) :: ((PySem.Value.int 3 0) :: ((PySem.Value.ref 122) :: ((PySem.Value.bool Bool.true) :: ((PySem.Value.int 181 0) :: ((PySem.Value.ref 123) :: (PySem.Value.none :: ((PySem.Value.ref 124) :: ((PySem.Value.ref 125) :: ((PySem.Value.ref 126) :: ((PySem.Value.int 557 0) :: ((PySem.Value.int 122 0) :: ((PySem.Value.str (PySem.Str.ofString "/claim/cut.py") 558) :: []))))))))))))))))))))) (List.toArray []))) ::
    (nat_lit 128, (PySem.Obj.mk (PySem.Value.type "function") (Option.none) (PySem.Data.func (PySem.FuncData.mk (PySem.Str.ofString "_law_bounds") (PySem.Str.ofString "_law_bounds") p128 (PySem.FuncBody.stmts b128) s128 3 [] PySem.Value.none PySem.Value.none PySem.Value.none (PySem.Value.str (PySem.Str.ofString "law_wj0027_01") 526) (Option.none) (PySem.Value.ref 127) PySem.Value.none 0)) (List.toArray []))) ::
    (nat_lit 129, (PySem.Obj.mk (PySem.Value.type "tuple") (Option.none) (PySem.Data.seq (List.toArray []) 0) (List.toArray []))) ::
    (nat_lit 131, (PySem.Obj.mk (PySem.Value.type "tuple") (Option.none) (PySem.Data.seq (List.toArray ((PySem.Value.str (PySem.Str.ofString "v") 563) :: [])) 0) (List.toArray []))) ::
    (nat_lit 132, (PySem.Obj.mk (PySem.Value.type "tuple") (Option.none) (PySem.Data.seq (List.toArray []) 0) (List.toArray []))) ::
    (nat_lit 134, (PySem.Obj.mk (PySem.Value.type "code") (Option.none) (PySem.Data.fields (List.toArray ((PySem.Value.str (PySem.Str.ofString "_law_sentence") 560) :: ((PySem.Value.str (PySem.Str.ofString "_law_sentence") 561) :: ((PySem.Value.str (PySem.Str.ofString "/claim/cut.py") 562) :: ((PySem.Value.int 137 0) :: ((PySem.Value.int 1 0) :: ((PySem.Value.int 0 0) :: ((PySem.Value.int 0 0) :: ((PySem.Value.int 3 0) :: ((PySem.Value.ref 129) :: ((PySem.Value.bool Bool.true) :: ((PySem.Value.int 181 0) :: ((PySem.Value.ref 130) :: (PySem.Value.none :: ((PySem.Value.ref 131) :: ((PySem.Value.ref 132) :: ((PySem.Value.ref 133) :: ((PySem.Value.int 564 0) :: ((PySem.Value.int 137 0) :: ((PySem.Value.str (PySem.Str.ofString "/claim/cut.py") 565) :: []))))))))))))))))))))) (List.toArray []))) ::
    (nat_lit 135, (PySem.Obj.mk (PySem.Value.type "function") (Option.none) (PySem.Data.func (PySem.FuncData.mk (PySem.Str.ofString "_law_sentence") (PySem.Str.ofString "_law_sentence") p135 (PySem.FuncBody.stmts b135) s135 3 [] PySem.Value.none PySem.Value.none PySem.Value.none (PySem.Value.str (PySem.Str.ofString "law_wj0027_01") 526) (Option.none) (PySem.Value.ref 134) PySem.Value.none 0)) (List.toArray []))) ::
    (nat_lit 136, (PySem.Obj.mk (PySem.Value.type "tuple") (Option.none) (PySem.Data.seq (List.toArray []) 0) (List.toArray []))) ::
    (nat_lit 138, (PySem.Obj.mk (PySem.Value.type "tuple") (Option.none) (PySem.Data.seq (List.toArray ((PySem.Value.str (PySem.Str.ofString "v") 570) :: ((PySem.Value.str (PySem.Str.ofString "takes") 571) :: []))) 0) (List.toArray []))) ::
    (nat_lit 139, (PySem.Obj.mk (PySem.Value.type "tuple") (Option.none) (PySem.Data.seq (List.toArray []) 0) (List.toArray []))) ::
    (nat_lit 141, (PySem.Obj.mk (PySem.Value.type "code") (Option.none) (PySem.Data.fields (List.toArray ((PySem.Value.str (PySem.Str.ofString "_law_meant") 567) :: ((PySem.Value.str (PySem.Str.ofString "_law_meant") 568) :: ((PySem.Value.str (PySem.Str.ofString "/claim/cut.py") 569) :: ((PySem.Value.int 141 0) :: ((PySem.Value.int 1 0) :: ((PySem.Value.int 0 0) :: ((PySem.Value.int 0 0) :: ((PySem.Value.int 3 0) :: ((PySem.Value.ref 136) :: ((PySem.Value.bool Bool.true) :: ((PySem.Value.int 181 0) :: ((PySem.Value.ref 137) :: (PySem.Value.none :: ((PySem.Value.ref 138) :: ((PySem.Value.ref 139) :: ((PySem.Value.ref 140) :: ((PySem.Value.int 572 0) :: ((PySem.Value.int 141 0) :: ((PySem.Value.str (PySem.Str.ofString "/claim/cut.py") 573) :: []))))))))))))))))))))) (List.toArray []))) ::
    (nat_lit 142, (PySem.Obj.mk (PySem.Value.type "function") (Option.none) (PySem.Data.func (PySem.FuncData.mk (PySem.Str.ofString "_law_meant") (PySem.Str.ofString "_law_meant") p142 (PySem.FuncBody.stmts b142) s142 3 [] PySem.Value.none PySem.Value.none PySem.Value.none (PySem.Value.str (PySem.Str.ofString "law_wj0027_01") 526) (Option.none) (PySem.Value.ref 141) PySem.Value.none 0)) (List.toArray []))) ::
    (nat_lit 143, (PySem.Obj.mk (PySem.Value.type "tuple") (Option.none) (PySem.Data.seq (List.toArray []) 0) (List.toArray []))) ::
    (nat_lit 145, (PySem.Obj.mk (PySem.Value.type "tuple") (Option.none) (PySem.Data.seq (List.toArray ((PySem.Value.str (PySem.Str.ofString "meant") 578) :: ((PySem.Value.str (PySem.Str.ofString "joins") 579) :: ((PySem.Value.str (PySem.Str.ofString "x") 580) :: ((PySem.Value.str (PySem.Str.ofString "told") 581) :: ((PySem.Value.str (PySem.Str.ofString "divisor") 582) :: ((PySem.Value.str (PySem.Str.ofString "number") 583) :: ((PySem.Value.str (PySem.Str.ofString "takes") 584) :: ((PySem.Value.str (PySem.Str.ofString "over") 585) :: ((PySem.Value.str (PySem.Str.ofString "first") 586) :: [])))))))))) 0) (List.toArray []))) ::
    (nat_lit 146, (PySem.Obj.mk (PySem.Value.type "tuple") (Option.none) (PySem.Data.seq (List.toArray []) 0) (List.toArray []))) ::
    (nat_lit 148, (PySem.Obj.mk (PySem.Value.type "code") (Option.none) (PySem.Data.fields (List.toArray ((PySem.Value.str (PySem.Str.ofString "_law_true") 575) :: ((PySem.Value.str (PySem.Str.ofString "_law_true") 576) :: ((PySem.Value.str (PySem.Str.ofString "/claim/cut.py") 577) :: ((PySem.Value.int 144 0) :: ((PySem.Value.int 3 0) :: ((PySem.Value.int 0 0) :: ((PySem.Value.int 0 0) :: ((PySem.Value.int 3 0) :: ((PySem.Value.ref 143) :: ((PySem.Value.bool Bool.true) :: ((PySem.Value.int 181 0) :: ((PySem.Value.ref 144) :: (PySem.Value.none :: ((PySem.Value.ref 145) :: ((PySem.Value.ref 146) :: ((PySem.Value.ref 147) :: ((PySem.Value.int 587 0) :: ((PySem.Value.int 144 0) :: ((PySem.Value.str (PySem.Str.ofString "/claim/cut.py") 588) :: []))))))))))))))))))))) (List.toArray []))) ::
    (nat_lit 149, (PySem.Obj.mk (PySem.Value.type "function") (Option.none) (PySem.Data.func (PySem.FuncData.mk (PySem.Str.ofString "_law_true") (PySem.Str.ofString "_law_true") p149 (PySem.FuncBody.stmts b149) s149 3 [] PySem.Value.none PySem.Value.none PySem.Value.none (PySem.Value.str (PySem.Str.ofString "law_wj0027_01") 526) (Option.none) (PySem.Value.ref 148) PySem.Value.none 0)) (List.toArray []))) ::
    (nat_lit 150, (PySem.Obj.mk (PySem.Value.type "tuple") (Option.none) (PySem.Data.seq (List.toArray []) 0) (List.toArray []))) ::
    (nat_lit 153, (PySem.Obj.mk (PySem.Value.type "code") (Option.none) (PySem.Data.fields (List.toArray ((PySem.Value.str (PySem.Str.ofString "law") 590) :: ((PySem.Value.str (PySem.Str.ofString "law") 591) :: ((PySem.Value.str (PySem.Str.ofString "/claim/cut.py") 592) :: ((PySem.Value.int 151 0) :: ((PySem.Value.int 1 0) :: ((PySem.Value.int 0 0) :: ((PySem.Value.int 0 0) :: ((PySem.Value.int 3 0) :: ((PySem.Value.ref 150) :: ((PySem.Value.bool Bool.true) :: ((PySem.Value.int 181 0) :: ((PySem.Value.ref 151) :: (PySem.Value.none :: (PySem.Value.none :: (PySem.Value.none :: ((PySem.Value.ref 152) :: ((PySem.Value.int 593 0) :: ((PySem.Value.int 151 0) :: ((PySem.Value.str (PySem.Str.ofString "/claim/cut.py") 594) :: []))))))))))))))))))))) (List.toArray []))) ::
    (nat_lit 154, (PySem.Obj.mk (PySem.Value.type "function") (Option.none) (PySem.Data.func (PySem.FuncData.mk (PySem.Str.ofString "law") (PySem.Str.ofString "law") p154 (PySem.FuncBody.stmts b154) s154 3 [] PySem.Value.none PySem.Value.none PySem.Value.none (PySem.Value.str (PySem.Str.ofString "law_wj0027_01") 526) (Option.none) (PySem.Value.ref 153) PySem.Value.none 0)) (List.toArray []))) :: [])
theorem hd.keys : ∀ P, (2 :: 3 :: 15 :: 18 :: 20 :: 21 :: 23 :: 24 :: 25 :: 27 :: 28 :: 30 :: 31 :: 32 :: 33 :: 35 :: 36 :: 38 :: 39 :: 40 :: 42 :: 43 :: 45 :: 46 :: 47 :: 49 :: 50 :: 52 :: 53 :: 54 :: 56 :: 57 :: 59 :: 60 :: 61 :: 63 :: 64 :: 66 :: 67 :: 68 :: 70 :: 71 :: 73 :: 74 :: 75 :: 77 :: 78 :: 80 :: 81 :: 82 :: 84 :: 85 :: 87 :: 88 :: 89 :: 91 :: 92 :: 94 :: 95 :: 96 :: 98 :: 99 :: 101 :: 102 :: 103 :: 105 :: 106 :: 108 :: 109 :: 110 :: 112 :: 113 :: 115 :: 116 :: 117 :: 120 :: 121 :: 122 :: 124 :: 125 :: 127 :: 128 :: 129 :: 131 :: 132 :: 134 :: 135 :: 136 :: 138 :: 139 :: 141 :: 142 :: 143 :: 145 :: 146 :: 148 :: 149 :: 150 :: 153 :: 154 :: []) = (hd.heap_39 P).map (·.1) := fun _ => by kernel_rfl
theorem hd.said : OpenLaw.wellSaid PySem.Challenge.rw_wj0027_01 = true := by decide +kernel
abbrev hd.Ran (w : World) : Prop := (openEnds treeTable PySem.Challenge.rw_wj0027_01.row.prog w 4552).map (fun s => (openSeen hd.view_39 [Str.ofString "EXACT_TOKEN_TYPES", Str.ofString "COMPILER_FLAG_NAMES"] (importedModules PySem.Challenge.rw_wj0027_01.row.prog.main.body) (fun s => xlAt hd.view_39 [] s && recOk (RowW.records PySem.Challenge.rw_wj0027_01.row.toRowW) s) true s, (kHook hd.heap_39 (2 :: 3 :: 15 :: 18 :: 20 :: 21 :: 23 :: 24 :: 25 :: 27 :: 28 :: 30 :: 31 :: 32 :: 33 :: 35 :: 36 :: 38 :: 39 :: 40 :: 42 :: 43 :: 45 :: 46 :: 47 :: 49 :: 50 :: 52 :: 53 :: 54 :: 56 :: 57 :: 59 :: 60 :: 61 :: 63 :: 64 :: 66 :: 67 :: 68 :: 70 :: 71 :: 73 :: 74 :: 75 :: 77 :: 78 :: 80 :: 81 :: 82 :: 84 :: 85 :: 87 :: 88 :: 89 :: 91 :: 92 :: 94 :: 95 :: 96 :: 98 :: 99 :: 101 :: 102 :: 103 :: 105 :: 106 :: 108 :: 109 :: 110 :: 112 :: 113 :: 115 :: 116 :: 117 :: 120 :: 121 :: 122 :: 124 :: 125 :: 127 :: 128 :: 129 :: 131 :: 132 :: 134 :: 135 :: 136 :: 138 :: 139 :: 141 :: 142 :: 143 :: 145 :: 146 :: 148 :: 149 :: 150 :: 153 :: 154 :: []) hd.keys).obs s)) = some (openGood hd.view_39 [Str.ofString "EXACT_TOKEN_TYPES", Str.ofString "COMPILER_FLAG_NAMES"], (kHook hd.heap_39 (2 :: 3 :: 15 :: 18 :: 20 :: 21 :: 23 :: 24 :: 25 :: 27 :: 28 :: 30 :: 31 :: 32 :: 33 :: 35 :: 36 :: 38 :: 39 :: 40 :: 42 :: 43 :: 45 :: 46 :: 47 :: 49 :: 50 :: 52 :: 53 :: 54 :: 56 :: 57 :: 59 :: 60 :: 61 :: 63 :: 64 :: 66 :: 67 :: 68 :: 70 :: 71 :: 73 :: 74 :: 75 :: 77 :: 78 :: 80 :: 81 :: 82 :: 84 :: 85 :: 87 :: 88 :: 89 :: 91 :: 92 :: 94 :: 95 :: 96 :: 98 :: 99 :: 101 :: 102 :: 103 :: 105 :: 106 :: 108 :: 109 :: 110 :: 112 :: 113 :: 115 :: 116 :: 117 :: 120 :: 121 :: 122 :: 124 :: 125 :: 127 :: 128 :: 129 :: 131 :: 132 :: 134 :: 135 :: 136 :: 138 :: 139 :: 141 :: 142 :: 143 :: 145 :: 146 :: 148 :: 149 :: 150 :: 153 :: 154 :: []) hd.keys).val w)
theorem hd.ranF (w : World) : hd.Ran (w.withFollow "special-get-raises" false) := by
  unfold hd.Ran openEnds fencedOpening topFrom
  rewrite [PySem.W.Fast.te4187177175401517315, PySem.W.Fast.te10274390034422433532, PySem.W.Fast.te14364793385576792824, PySem.W.Fast.te14289696077712309145, PySem.W.Fast.te14082659384304107361]
  kernel_rfl
theorem hd.ranT (w : World) : hd.Ran (w.withFollow "special-get-raises" true) := by
  unfold hd.Ran openEnds fencedOpening topFrom
  rewrite [PySem.W.Fast.te4187177175401517315, PySem.W.Fast.te10274390034422433532, PySem.W.Fast.te14364793385576792824, PySem.W.Fast.te14289696077712309145, PySem.W.Fast.te14082659384304107361]
  kernel_rfl
theorem hd {d : DefRec} {kwd : List (Str × PySem.Expr)} (hdef : defOf hd.view_39 PySem.Challenge.rw_wj0027_01.row.name = some (d, kwd)) (hp : PySem.Challenge.rw_wj0027_01.row.prog.theDef PySem.Challenge.rw_wj0027_01.row.name = some (d.params, d.body, d.scope)) (hk : kwWritten? d.params.kwonlyargs d.params.kw_defaults = some kwd)
    (call : WalkO hd.view_39 [Str.ofString "EXACT_TOKEN_TYPES", Str.ofString "COMPILER_FLAG_NAMES"] (XL hd.view_39 []) (kHook hd.heap_39 (2 :: 3 :: 15 :: 18 :: 20 :: 21 :: 23 :: 24 :: 25 :: 27 :: 28 :: 30 :: 31 :: 32 :: 33 :: 35 :: 36 :: 38 :: 39 :: 40 :: 42 :: 43 :: 45 :: 46 :: 47 :: 49 :: 50 :: 52 :: 53 :: 54 :: 56 :: 57 :: 59 :: 60 :: 61 :: 63 :: 64 :: 66 :: 67 :: 68 :: 70 :: 71 :: 73 :: 74 :: 75 :: 77 :: 78 :: 80 :: 81 :: 82 :: 84 :: 85 :: 87 :: 88 :: 89 :: 91 :: 92 :: 94 :: 95 :: 96 :: 98 :: 99 :: 101 :: 102 :: 103 :: 105 :: 106 :: 108 :: 109 :: 110 :: 112 :: 113 :: 115 :: 116 :: 117 :: 120 :: 121 :: 122 :: 124 :: 125 :: 127 :: 128 :: 129 :: 131 :: 132 :: 134 :: 135 :: 136 :: 138 :: 139 :: 141 :: 142 :: 143 :: 145 :: 146 :: 148 :: 149 :: 150 :: 153 :: 154 :: []) hd.keys).says PySem.Challenge.rw_wj0027_01.row.toRowW d kwd fun f vs => PySem.call f vs) : PySem.Challenge.rw_wj0027_01.Holds := by
  w_on
  refine holds_law hd.said fun said => ?_
  refine holds_open (q := hd.view_39) (loose := [Str.ofString "EXACT_TOKEN_TYPES", Str.ofString "COMPILER_FLAG_NAMES"]) (Xt := fun s => xlAt hd.view_39 [] s && recOk (RowW.records PySem.Challenge.rw_wj0027_01.row.toRowW) s) (XP := XL hd.view_39 []) (Yf := (kHook hd.heap_39 (2 :: 3 :: 15 :: 18 :: 20 :: 21 :: 23 :: 24 :: 25 :: 27 :: 28 :: 30 :: 31 :: 32 :: 33 :: 35 :: 36 :: 38 :: 39 :: 40 :: 42 :: 43 :: 45 :: 46 :: 47 :: 49 :: 50 :: 52 :: 53 :: 54 :: 56 :: 57 :: 59 :: 60 :: 61 :: 63 :: 64 :: 66 :: 67 :: 68 :: 70 :: 71 :: 73 :: 74 :: 75 :: 77 :: 78 :: 80 :: 81 :: 82 :: 84 :: 85 :: 87 :: 88 :: 89 :: 91 :: 92 :: 94 :: 95 :: 96 :: 98 :: 99 :: 101 :: 102 :: 103 :: 105 :: 106 :: 108 :: 109 :: 110 :: 112 :: 113 :: 115 :: 116 :: 117 :: 120 :: 121 :: 122 :: 124 :: 125 :: 127 :: 128 :: 129 :: 131 :: 132 :: 134 :: 135 :: 136 :: 138 :: 139 :: 141 :: 142 :: 143 :: 145 :: 146 :: 148 :: 149 :: 150 :: 153 :: 154 :: []) hd.keys).obs) (Ya := (kHook hd.heap_39 (2 :: 3 :: 15 :: 18 :: 20 :: 21 :: 23 :: 24 :: 25 :: 27 :: 28 :: 30 :: 31 :: 32 :: 33 :: 35 :: 36 :: 38 :: 39 :: 40 :: 42 :: 43 :: 45 :: 46 :: 47 :: 49 :: 50 :: 52 :: 53 :: 54 :: 56 :: 57 :: 59 :: 60 :: 61 :: 63 :: 64 :: 66 :: 67 :: 68 :: 70 :: 71 :: 73 :: 74 :: 75 :: 77 :: 78 :: 80 :: 81 :: 82 :: 84 :: 85 :: 87 :: 88 :: 89 :: 91 :: 92 :: 94 :: 95 :: 96 :: 98 :: 99 :: 101 :: 102 :: 103 :: 105 :: 106 :: 108 :: 109 :: 110 :: 112 :: 113 :: 115 :: 116 :: 117 :: 120 :: 121 :: 122 :: 124 :: 125 :: 127 :: 128 :: 129 :: 131 :: 132 :: 134 :: 135 :: 136 :: 138 :: 139 :: 141 :: 142 :: 143 :: 145 :: 146 :: 148 :: 149 :: 150 :: 153 :: 154 :: []) hd.keys).val) (YP := (kHook hd.heap_39 (2 :: 3 :: 15 :: 18 :: 20 :: 21 :: 23 :: 24 :: 25 :: 27 :: 28 :: 30 :: 31 :: 32 :: 33 :: 35 :: 36 :: 38 :: 39 :: 40 :: 42 :: 43 :: 45 :: 46 :: 47 :: 49 :: 50 :: 52 :: 53 :: 54 :: 56 :: 57 :: 59 :: 60 :: 61 :: 63 :: 64 :: 66 :: 67 :: 68 :: 70 :: 71 :: 73 :: 74 :: 75 :: 77 :: 78 :: 80 :: 81 :: 82 :: 84 :: 85 :: 87 :: 88 :: 89 :: 91 :: 92 :: 94 :: 95 :: 96 :: 98 :: 99 :: 101 :: 102 :: 103 :: 105 :: 106 :: 108 :: 109 :: 110 :: 112 :: 113 :: 115 :: 116 :: 117 :: 120 :: 121 :: 122 :: 124 :: 125 :: 127 :: 128 :: 129 :: 131 :: 132 :: 134 :: 135 :: 136 :: 138 :: 139 :: 141 :: 142 :: 143 :: 145 :: 146 :: 148 :: 149 :: 150 :: 153 :: 154 :: []) hd.keys).says) (N := 4552) (byRow2 "special-get-raises" hd.ranF hd.ranT) (kHook hd.heap_39 (2 :: 3 :: 15 :: 18 :: 20 :: 21 :: 23 :: 24 :: 25 :: 27 :: 28 :: 30 :: 31 :: 32 :: 33 :: 35 :: 36 :: 38 :: 39 :: 40 :: 42 :: 43 :: 45 :: 46 :: 47 :: 49 :: 50 :: 52 :: 53 :: 54 :: 56 :: 57 :: 59 :: 60 :: 61 :: 63 :: 64 :: 66 :: 67 :: 68 :: 70 :: 71 :: 73 :: 74 :: 75 :: 77 :: 78 :: 80 :: 81 :: 82 :: 84 :: 85 :: 87 :: 88 :: 89 :: 91 :: 92 :: 94 :: 95 :: 96 :: 98 :: 99 :: 101 :: 102 :: 103 :: 105 :: 106 :: 108 :: 109 :: 110 :: 112 :: 113 :: 115 :: 116 :: 117 :: 120 :: 121 :: 122 :: 124 :: 125 :: 127 :: 128 :: 129 :: 131 :: 132 :: 134 :: 135 :: 136 :: 138 :: 139 :: 141 :: 142 :: 143 :: 145 :: 146 :: 148 :: 149 :: 150 :: 153 :: 154 :: []) hd.keys).of (kHook hd.heap_39 (2 :: 3 :: 15 :: 18 :: 20 :: 21 :: 23 :: 24 :: 25 :: 27 :: 28 :: 30 :: 31 :: 32 :: 33 :: 35 :: 36 :: 38 :: 39 :: 40 :: 42 :: 43 :: 45 :: 46 :: 47 :: 49 :: 50 :: 52 :: 53 :: 54 :: 56 :: 57 :: 59 :: 60 :: 61 :: 63 :: 64 :: 66 :: 67 :: 68 :: 70 :: 71 :: 73 :: 74 :: 75 :: 77 :: 78 :: 80 :: 81 :: 82 :: 84 :: 85 :: 87 :: 88 :: 89 :: 91 :: 92 :: 94 :: 95 :: 96 :: 98 :: 99 :: 101 :: 102 :: 103 :: 105 :: 106 :: 108 :: 109 :: 110 :: 112 :: 113 :: 115 :: 116 :: 117 :: 120 :: 121 :: 122 :: 124 :: 125 :: 127 :: 128 :: 129 :: 131 :: 132 :: 134 :: 135 :: 136 :: 138 :: 139 :: 141 :: 142 :: 143 :: 145 :: 146 :: 148 :: 149 :: 150 :: 153 :: 154 :: []) hd.keys).keeps (fun s e => xl_of s (Bool.and_eq_true_iff.mp e).1) XL.keeps hdef hp hk (fun s e => recFacts_of (Bool.and_eq_true_iff.mp e).2) (by rfl) said (by decide +kernel) ⟨rfl, rfl, rfl, rfl, rfl, by decide +kernel⟩ ?hw call
  case hw => w_witness2
end Mine
namespace Mine
set_option maxRecDepth 100000
set_option maxHeartbeats 8000000
abbrev Tell {D : Type} (w : World) (p : Program) (loose : List Str) (mean : ExcName → Option Value) (mg mb : Str → Option Value) (f : Addr) (c : ToldN D) (d : D) : Prop :=
  TellsN PySem.Challenge.rw_wj0027_01.row.prog w (hd.heap_39 w.params) p loose mean mg mb f c d
end Mine
namespace Mine
set_option linter.unusedVariables false
noncomputable def sentCode (v : Int) : List Int :=
  if Int.fmod v 8 < 6 then [256, 4096 + Int.fmod (Int.fdiv v 8) 9, [245, 246, 254, 255, 252, 253].getD (Int.fmod v 8).toNat 0]
  else [256, 4102 + Int.fmod (Int.fdiv v 8) 2, 249, 4100 + Int.fmod (Int.fdiv v 16) 3, 252 + Int.fmod v 2]
abbrev MT := Int × Int × List Int
noncomputable def takesOf (k : Int) : List Int := [[-1], [1], [-1, 0], [0, 1], [0], [-1, 1], [0], [-1, 1]].getD k.toNat []
noncomputable def meantOf (v : Int) : MT :=
  if Int.fmod v 8 < 6 then (0, Int.fmod (Int.fdiv v 8) 9 - 4, takesOf (Int.fmod v 8))
  else (2 + Int.fmod (Int.fdiv v 8) 2, Int.fmod (Int.fdiv v 16) 3, takesOf (Int.fmod v 8))
noncomputable def MeantIs (news : List (Addr × Obj)) (l : Addr) (d : MT) : Prop :=
  ∃ t1 t2 lt vs c c', (l, W.listOf #[.int d.1 t1, .int d.2.1 t2, .ref lt] c) ∈ news ∧ (lt, W.listOf vs.toArray c') ∈ news ∧ IntsAre vs d.2.2
noncomputable def sgn (n : Int) : Int := (if 0 < n then 1 else 0) - (if n < 0 then 1 else 0)
noncomputable def overOf (d : MT) (x : Int) : Int := if d.1 ≠ 0 then Int.fmod x d.1 - d.2.1 else x - d.2.1
noncomputable def toldOf (d : MT) (x : Int) : Bool := decide (sgn (overOf d x) ∈ d.2.2)
noncomputable def joinB (k a b : Bool) : Bool := if k then a || b else a && b
noncomputable def trueOf (d0 d1 d2 : MT) (j x : Int) : Bool :=
  joinB (decide (2 ≤ j)) (joinB (decide (Int.fmod j 2 = 1)) (toldOf d0 x) (toldOf d1 x)) (toldOf d2 x)
inductive PV where
  | i (n : Int)
  | b (v : Bool)
deriving DecidableEq
noncomputable def deedOf (k : Int) : PV → PV → Option PV
  | .i a, .i b =>
    if k = 245 then some (.b (decide (a < b))) else if k = 246 then some (.b (decide (b < a))) else if k = 254 then some (.b (decide (a ≤ b)))
    else if k = 255 then some (.b (decide (b ≤ a))) else if k = 252 then some (.b (decide (a = b))) else if k = 253 then some (.b (!decide (a = b)))
    else if k = 249 ∧ 0 < b then some (.i (Int.fmod a b)) else none
  | .b a, .b b => if k = 244 then some (.b (a && b)) else if k = 243 then some (.b (a || b)) else none
  | _, _ => none
noncomputable def stepM (x : Int) (pile : List PV) (n : Int) : Option (List PV) :=
  if n < 256 then match pile with
    | u :: l :: rest => (deedOf n l u).map (· :: rest)
    | _ => none
  else some ((if n = 256 then .i x else .i (n - 4100)) :: pile)
noncomputable def runM (x : Int) (row : List Int) : Option (List PV) := row.foldlM (stepM x) []
noncomputable def heldB (row : List Int) (x : Int) : Bool := decide (runM x row = some [.b true])
/-- one place of _law_bounds: what stands at and behind it -/
noncomputable def boundAt (side : Int) (n : Int) (rest : List Int) (bm : List Int × Int) : List Int × Int :=
  if n = 256 then
    let told := rest.getD 0 0 - 4100
    let sign := rest.getD 1 0 - 225
    if sign = (if 0 < side then 21 else 20) ∨ sign = 28 then (bm.1 ++ [told], bm.2)
    else if sign = (if 0 < side then 30 else 29) ∨ sign = 27 then (bm.1 ++ [told - side], bm.2)
    else if sign = 24 ∧ Int.fmod bm.2 told ≠ 0 then (bm.1, bm.2 * told) else bm
  else bm
noncomputable def boundsF (side : Int) : List Int → List Int → Int → List Int × Int
  | [], bs, many => (bs, many)
  | n :: rest, bs, many => boundsF side rest (boundAt side n rest (bs, many)).1 (boundAt side n rest (bs, many)).2
/-- every 256 has two behind it, and a divisor behind it that is 2 or 3 where the sign is % -/
noncomputable def boundsOk : List Int → Prop
  | [] => True
  | n :: rest => (n = 256 → 2 ≤ rest.length ∧ (rest.getD 1 0 = 249 → rest.getD 0 0 = 4102 ∨ rest.getD 0 0 = 4103)) ∧ boundsOk rest
noncomputable def encN (n : Int) : List Int :=
  (if 4096 ≤ n then [64 + Int.fmod (Int.fdiv n 4096) 64] else []) ++ (if 64 ≤ n then [64 + Int.fmod (Int.fdiv n 64) 64] else []) ++ [Int.fmod n 64]
noncomputable def flagsGo : Nat → List Bool → Int
  | _, [] => 0
  | k, b :: r => (if b then 2 ^ k else 0) + flagsGo (k + 1) r
noncomputable def flagsOf (bs : List Bool) : Int := flagsGo 1 bs
noncomputable def wordsL : List String := ["NEWLOCALS", "VARARGS", "VARKEYWORDS", "NESTED", "GENERATOR", "NOFREE"]
noncomputable def pick : List String → List Bool → List String
  | w :: ws, b :: bs => if b then w :: pick ws bs else pick ws bs
  | _, _ => []
noncomputable def prettyS (bs : List Bool) : String := let ws := pick wordsL bs; if ws = [] then "0x0" else String.intercalate ", " ws
noncomputable def prettyOf (bs : List Bool) : Str := Str.ofString (prettyS bs)
end Mine
namespace Mine
theorem sentLen {vs : List Value} (v : Int) (_h : IntsAre vs (sentCode v)) : (sentCode v).length ≤ 5 := by unfold sentCode; split <;> simp
end Mine
namespace Mine
set_option linter.unusedVariables false
section
variable {prog : Program} {w : World} {A : Around} {E : Value → Shared → Prop} {s : Shared} {h₀ : Heap} {L l b : Addr} {m : Str → Option Value} {news : List (Addr × Obj)} {vs ws : List Value} {ns ms : List Int} {c c' : Nat} {Q : Value → Shared → Prop}
theorem isL (N : News h₀ L s.heap news) (hl : (l, W.listOf vs.toArray c) ∈ news) : s.heap.IsList l vs.toArray := ⟨_, (N _ hl).1, rfl, c, rfl⟩
theorem my_add (F : Fr h₀ L s.heap m) (N : News h₀ L s.heap news) (hl : (l, W.listOf vs.toArray c) ∈ news) (hb : (b, W.listOf ws.toArray c') ∈ news)
    (hi : IntsAre vs ns) (hj : IntsAre ws ms) (hsz : ns.length + ms.length ≤ sizeLine)
    (h : ∀ D zs h', Fr h₀ L h' m → News h₀ L h' ((D, W.listOf zs.toArray 0) :: news) → (∀ q ∈ news, q.1 < D) → IntsAre zs (ns ++ ms) → Q (.ref D) { s with heap := h' }) :
    wpAny (model prog w) A (binaryOp .Add (.ref l) (.ref b)) Q E s :=
  add_lists_ints (hsz := hsz) F N (isL N hl) (isL N hb) hi hj fun h' F' N' i => h _ _ h' F' N' (fun p hp => Heap.lt_size (N p hp).1) i
theorem ints_cons {zs : List Value} {a : Int} {xs : List Int} (h : IntsAre zs (a :: xs)) : ∃ t zs', zs = .int a t :: zs' ∧ IntsAre zs' xs := by
  cases h
  exact ⟨_, _, rfl, by assumption⟩
theorem four (ns : List Int) (hz : IntsAre ws (ns.take 4 ++ [49, 30, 69, 0].drop ns.length)) : ∃ a b c d t1 t2 t3 t4, ws = [.int a t1, .int b t2, .int c t3, .int d t4] := by
  have key : ∀ (zs : List Value) (xs : List Int), IntsAre zs xs → xs.length = 4 → ∃ a b c d t1 t2 t3 t4, zs = [.int a t1, .int b t2, .int c t3, .int d t4] := by
    intro zs xs h hl
    obtain ⟨a, xs, rfl⟩ := List.exists_cons_of_length_pos (l := xs) (by omega)
    obtain ⟨t1, zs, rfl, h1⟩ := ints_cons h
    obtain ⟨b, xs, rfl⟩ := List.exists_cons_of_length_pos (l := xs) (by simp only [List.length_cons] at hl; omega)
    obtain ⟨t2, zs, rfl, h2⟩ := ints_cons h1
    obtain ⟨c, xs, rfl⟩ := List.exists_cons_of_length_pos (l := xs) (by simp only [List.length_cons] at hl; omega)
    obtain ⟨t3, zs, rfl, h3⟩ := ints_cons h2
    obtain ⟨d, xs, rfl⟩ := List.exists_cons_of_length_pos (l := xs) (by simp only [List.length_cons] at hl; omega)
    obtain ⟨t4, zs, rfl, h4⟩ := ints_cons h3
    obtain rfl : xs = [] := List.length_eq_zero_iff.mp (by simp only [List.length_cons] at hl; omega)
    cases h4
    exact ⟨a, b, c, d, t1, t2, t3, t4, rfl⟩
  refine key _ _ hz ?_
  simp only [List.length_append, List.length_take, List.length_drop, List.length_cons, List.length_nil]
  omega
theorem my_add4 {k : Int} (F : Fr h₀ L s.heap m) (N : News h₀ L s.heap news) (hl : (l, W.listOf vs.toArray c) ∈ news) (hb : (b, W.listOf ws.toArray c') ∈ news)
    (hi : IntsAre vs (ns.take 4)) (hj : IntsAre ws ([49, 30, 69, 0].drop k.toNat)) (hk : k = (ns.length : Int))
    (h : ∀ D n1 n2 n3 n4 t1 t2 t3 t4 h', Fr h₀ L h' m → News h₀ L h' ((D, W.listOf #[.int n1 t1, .int n2 t2, .int n3 t3, .int n4 t4] 0) :: news) → (∀ q ∈ news, q.1 < D) → Q (.ref D) { s with heap := h' }) :
    wpAny (model prog w) A (binaryOp .Add (.ref l) (.ref b)) Q E s := by
  refine my_add F N hl hb hi hj ?_ ?_
  · rw [sizeLine_eq, List.length_take, List.length_drop]
    simp only [List.length_cons, List.length_nil]
    omega
  · intro D zs h' F' N' l1 i
    subst hk
    rw [Int.toNat_natCast] at i
    obtain ⟨a, b, c, d, t1, t2, t3, t4, rfl⟩ := four ns i
    exact h D a b c d t1 t2 t3 t4 h' F' N' l1
variable {value slice : PySem.Expr} {x y : Int} {t : Tok}
theorem my_upto (F : Fr h₀ L s.heap m) (N : News h₀ L s.heap news) (hl : (l, W.listOf vs.toArray c) ∈ news) (hi : IntsAre vs ns) (hy : 0 ≤ y)
    (hz : ns.length ≤ sizeLine)
    (h : ∀ D zs h', Fr h₀ L h' m → News h₀ L h' ((D, W.listOf zs.toArray 0) :: news) → (∀ q ∈ news, q.1 < D) → IntsAre zs (ns.take y.toNat) → Q (.ref D) { s with heap := h' })
    (hs : subscripted slice false (.ref l) (.ref s.heap.objs.size) = operate [.ref s.heap.objs.size, .ref l] (getItem (.ref l) (.ref s.heap.objs.size))) (ht : ∀ r, letTemporaryGo value (.ref l) r = pure ()) :
    wpAny (model prog w) A (subscriptTail value slice (.ref l) (.ref s.heap.objs.size)) Q E { s with heap := s.heap.push { cls := .type "slice", data := .fields #[.none, .int y t, .none] } } := by
  refine kmk_slice F N (isL N hl) .none (.int _ _) (fun D h' F' N' l1 => ?_) hs ht (by rw [List.size_toArray, hi.length]; exact hz)
  refine h D (slicePick vs.toArray none (some y) none).toList h' F' ?_ l1 (kmk_upto hi hy)
  rw [Array.toArray_toList]
  exact N'
theorem my_from (F : Fr h₀ L s.heap m) (N : News h₀ L s.heap news) (hl : (l, W.listOf vs.toArray c) ∈ news) (hi : IntsAre vs ns) (hx : 0 ≤ x)
    (hz : ns.length ≤ sizeLine)
    (h : ∀ D zs h', Fr h₀ L h' m → News h₀ L h' ((D, W.listOf zs.toArray 0) :: news) → (∀ q ∈ news, q.1 < D) → IntsAre zs (ns.drop x.toNat) → Q (.ref D) { s with heap := h' })
    (hs : subscripted slice false (.ref l) (.ref s.heap.objs.size) = operate [.ref s.heap.objs.size, .ref l] (getItem (.ref l) (.ref s.heap.objs.size))) (ht : ∀ r, letTemporaryGo value (.ref l) r = pure ()) :
    wpAny (model prog w) A (subscriptTail value slice (.ref l) (.ref s.heap.objs.size)) Q E { s with heap := s.heap.push { cls := .type "slice", data := .fields #[.int x t, .none, .none] } } := by
  refine kmk_slice F N (isL N hl) (.int _ _) .none (fun D h' F' N' l1 => ?_) hs ht (by rw [List.size_toArray, hi.length]; exact hz)
  refine h D (slicePick vs.toArray (some x) none none).toList h' F' ?_ l1 (kmk_from hi hx)
  rw [Array.toArray_toList]
  exact N'
theorem my_item {k : Int} {u : Tok} (N : News h₀ L s.heap news) (hl : (l, W.listOf vs.toArray c) ∈ news) (hi : IntsAre vs ns) (h0 : 0 ≤ k) (hk : k < (ns.length : Int)) (hb : k < 2 ^ 63)
    (h : ∀ t, Q (.int (ns.getD k.toNat 0) t) s)
    (hs : subscripted slice false (.ref l) (.int k u) = operate [.ref l, .int k u] (getItem (.ref l) (.int k u))) :
    wpAny (model prog w) A (subscriptTail value slice (.ref l) (.int k u)) Q E s := by
  have hL := isL N hl
  obtain ⟨t, ht⟩ := hi.get k.toNat (ns.getD k.toNat 0) (by
    have h2 : k.toNat < ns.length := by omega
    simp [List.getD, h2])
  exact tail_any hL.typeIs slot_list_getitem.lookup (wpAny_getItem_list hL h0 hb (by simpa using ht) (h t)) hs
theorem my_itemV {k : Int} {u : Tok} {v : Value} (N : News h₀ L s.heap news) (hl : (l, W.listOf vs.toArray c) ∈ news) (h0 : 0 ≤ k) (hb : k < 2 ^ 63) (hv : vs[k.toNat]? = some v)
    (h : Q v s)
    (hs : subscripted slice false (.ref l) (.int k u) = operate [.ref l, .int k u] (getItem (.ref l) (.int k u))) :
    wpAny (model prog w) A (subscriptTail value slice (.ref l) (.int k u)) Q E s := by
  have hL := isL N hl
  exact tail_any hL.typeIs slot_list_getitem.lookup (wpAny_getItem_list hL h0 hb (by simpa using hv) h) hs
theorem my_itemD {k : Int} {u : Tok} (N : News h₀ L s.heap news) (hl : (l, W.listOf vs.toArray c) ∈ news) (h0 : 0 ≤ k) (hk : k < (vs.length : Int)) (hb : k < 2 ^ 63)
    (h : Q (vs.getD k.toNat .none) s)
    (hs : subscripted slice false (.ref l) (.int k u) = operate [.ref l, .int k u] (getItem (.ref l) (.int k u))) :
    wpAny (model prog w) A (subscriptTail value slice (.ref l) (.int k u)) Q E s := by
  refine my_itemV N hl h0 hb (v := vs.getD k.toNat .none) ?_ h hs
  have h2 : k.toNat < vs.length := by omega
  simp [List.getD, h2]
theorem fmod8 (v : Int) : 0 ≤ v.fmod 8 ∧ v.fmod 8 < 8 := by
  rw [Int.fmod_eq_emod_of_nonneg _ (by decide)]
  omega
end
end Mine
namespace Mine
set_option linter.unusedVariables false
theorem allObj_mono : ∀ {ws : List (Addr × String)} {k k' : List (Addr × Obj) → Prop}, (∀ its, k its → k' its) → AllObj ws k → AllObj ws k'
  | [], _, _, h, x => h _ x
  | w :: r, _, _, h, x => fun o ho => allObj_mono (fun its q => h _ q) (x o ho)
section
variable {prog : Program} {w : World} {A : Around} {E : Value → Shared → Prop} {s : Shared} {env : Env} {h₀ : Heap} {target : PySem.Expr} {body : List Stmt} {Q : Flow → Shared → Prop}
theorem unr_mono {L : Addr} {s₁ : Shared} {its : List (Addr × Obj)} {r r' : (Str → Option Value) → List (Addr × Obj) → Prop} (h : ∀ m n, r m n → r' m n) (f : Flow) (s₂ : Shared)
    (x : UnrPostW h₀ L s₁ its r Q f s₂) : UnrPostW h₀ L s₁ its r' Q f s₂ := by
  cases f with
  | ret v => exact x
  | brk => exact x
  | next => obtain ⟨h', tk, m', n', a, b, c, d, e⟩ := x; exact ⟨h', tk, m', n', a, b, c, d, h _ _ e⟩
  | cont => obtain ⟨h', tk, m', n', a, b, c, d, e⟩ := x; exact ⟨h', tk, m', n', a, b, c, d, h _ _ e⟩
theorem items_ind {ws : List (Addr × String)} {keep : List (Addr × Obj)} (J : List Itm → (Str → Option Value) → List (Addr × Obj) → Prop)
    (done : ∀ m n, J [] m n → ∀ h tk, Fr h₀ env.locals h m → News h₀ env.locals h n → Q .next { s with heap := h, toks := tk })
    (turn : ∀ a r m n, J (a :: r) m n → ∀ v h tk, a.Is v h → Fr h₀ env.locals h m → AllObj ws (fun its => News h₀ env.locals h (its ++ n) →
      wpAny (model prog w) A (assign target env v) (fun _ s₂ => wpAny (model prog w) A (execs body env) (UnrPostW h₀ env.locals { s with heap := h, toks := tk } its (fun m' n' => SubL keep n' ∧ J r m' n') Q) E s₂) E { s with heap := h, toks := tk })) :
    ∀ xs m n, J xs m n → ItemsRest prog w A E h₀ env target body Q s ws keep xs m n
  | [], m, n, hJ => done m n hJ
  | a :: r, m, n, hJ => fun v h tk ha F => allObj_mono (fun its k N => wpAny_mono (k N) (fun _ s₂ x => wpAny_mono x (fun f s₃ y => unr_mono (fun m' n' z => ⟨z.1, items_ind J done turn r m' n' z.2⟩) f s₃ y) fun _ _ e => e) fun _ _ e => e) (turn a r m n hJ v h tk ha F)

/-- a turn's end: the frame and the ledger as J wants them, the iterator's objects as they stood -/
noncomputable def MPost (h₀ : Heap) (L : Addr) (its : List (Addr × Obj)) (J : (Str → Option Value) → List (Addr × Obj) → Prop) (s₁ : Shared) (Q : Flow → Shared → Prop) (f : Flow) (s₂ : Shared) : Prop :=
  match f with
  | .ret v => Q (.ret v) s₂
  | .brk => Q .next s₂
  | _ => ∃ h' tk m' n', s₂ = { s₁ with heap := h', toks := tk } ∧ Fr h₀ L h' m' ∧ News h₀ L h' (its ++ n') ∧ J m' n'
theorem MPost.next {L : Addr} {its : List (Addr × Obj)} {J : (Str → Option Value) → List (Addr × Obj) → Prop} {s₁ : Shared} {h' : Heap} {tk : Nat} {m' : Str → Option Value} {all : List (Addr × Obj)} (n' : List (Addr × Obj))
    (F : Fr h₀ L h' m') (N : News h₀ L h' all) (hI : ∀ p ∈ its, p ∈ all) (hn : ∀ p ∈ n', p ∈ all) (hJ : J m' n') : MPost h₀ L its J s₁ Q .next { s₁ with heap := h', toks := tk } :=
  ⟨h', tk, m', n', rfl, F, fun p hp => N p ((List.mem_append.mp hp).elim (hI p) (hn p)), hJ⟩
theorem mpost_unr {L : Addr} {its news : List (Addr × Obj)} {J : (Str → Option Value) → List (Addr × Obj) → Prop} {keep : List (Addr × Obj)} {s₁ : Shared} (hlt : ∀ p ∈ news, ∀ q ∈ its, p.1 < q.1)
    (hadr : ∀ m n, J m n → n.map (·.1) = news.map (·.1) ∧ SubL keep n) (f : Flow) (s₂ : Shared) (x : MPost h₀ L its J s₁ Q f s₂) : UnrPostW h₀ L s₁ its (fun m' n' => SubL keep n' ∧ J m' n') Q f s₂ := by
  have key : (∃ h' tk m' n', s₂ = { s₁ with heap := h', toks := tk } ∧ Fr h₀ L h' m' ∧ News h₀ L h' (its ++ n') ∧ J m' n') → UnrEndW h₀ L s₁ its (fun m' n' => SubL keep n' ∧ J m' n') s₂ := by
    rintro ⟨h', tk, m', n', a, b, c, d⟩
    refine ⟨h', tk, m', n', a, b, c, fun p hp q hq => ?_, (hadr _ _ d).2, d⟩
    have h1 : p.1 ∈ n'.map (·.1) := List.mem_map.mpr ⟨p, hp, rfl⟩
    rw [(hadr _ _ d).1] at h1
    obtain ⟨r, hr, e⟩ := List.mem_map.mp h1
    rw [← e]
    exact Nat.ne_of_lt (hlt r hr q hq)
  cases f with
  | ret v => exact x
  | brk => exact x
  | next => exact key x
  | cont => exact key x

theorem my_turns {ax : Addr} {vs : List Value} {c : Nat} {m₀ : Str → Option Value} {news : List (Addr × Obj)} (J : List Value → (Str → Option Value) → List (Addr × Obj) → Prop)
    (hh : A.handled = none) (F : Fr h₀ env.locals s.heap m₀) (N : News h₀ env.locals s.heap news) (hm : (ax, W.listOf vs.toArray c) ∈ news)
    (hadr : ∀ r m n, J r m n → n.map (·.1) = news.map (·.1) ∧ (ax, W.listOf vs.toArray c) ∈ n) (h0 : J vs m₀ news)
    (turn : ∀ v r m n h tk I o, J (v :: r) m n → (∀ p ∈ n, p.1 < I) → Fr h₀ env.locals h m → News h₀ env.locals h ((I, o) :: n) →
      wpAny (model prog w) A (assign target env v) (fun _ s₂ => wpAny (model prog w) A (execs body env) (MPost h₀ env.locals [(I, o)] (J r) { s with heap := h, toks := tk } Q) E s₂) E { s with heap := h, toks := tk })
    (done : ∀ m n h tk, J [] m n → Fr h₀ env.locals h m → News h₀ env.locals h n → Q .next { s with heap := h, toks := tk }) :
    wpAny (model prog w) A (pyIter (.ref ax)) (fun it s₂ => TurnsAt prog w A h₀ env target body Q E it s₂) E s := by
  refine iter_listTurns hh F N hm rfl rfl fun I hI => ?_
  refine items_ind (fun its m n => ∃ r, its = r.map .val ∧ J r m n) ?_ ?_ _ _ _ ⟨vs, rfl, h0⟩
  · rintro m n ⟨r, e, hJ⟩ h tk F' N'
    cases r with
    | nil => exact done m n h tk hJ F' N'
    | cons v r => cases e
  · rintro a r m n ⟨r', e, hJ⟩ v h tk ha F'
    cases r' with
    | nil => cases e
    | cons v' r' =>
      have e1 := (List.cons.inj e).1
      have e2 := (List.cons.inj e).2
      subst e1 e2
      have ev : v = v' := ha
      subst ev
      refine AllObj.cons fun o ho => AllObj.nil fun N' => ?_
      refine wpAny_mono (turn v r' m n h tk I o hJ (fun p hp => ?_) F' N') (fun _ s₂ x => wpAny_mono x (fun f s₃ y => ?_) fun _ _ e => e) fun _ _ e => e
      · have h1 : p.1 ∈ n.map (·.1) := List.mem_map.mpr ⟨p, hp, rfl⟩
        rw [(hadr _ _ _ hJ).1] at h1
        obtain ⟨q, hq, e⟩ := List.mem_map.mp h1
        rw [← e]; exact hI q hq
      · refine unr_mono (fun m' n' z => ⟨z.1, r', rfl, z.2⟩) f s₃ (mpost_unr (news := news) (keep := [(ax, W.listOf vs.toArray c)]) ?_ (fun m' n' z => ⟨(hadr _ _ _ z).1, (hadr _ _ _ z).2, trivial⟩) f s₃ y)
        intro p hp q hq
        rw [List.mem_singleton.mp hq]
        exact hI p hp

theorem enumItems_cons (a : Nat) (v : Value) (r : List Value) : enumItems a (v :: r) = .pair (fun t => .int (a : Int) t) v :: enumItems (a + 1) r := rfl
theorem my_enum {elts : List PySem.Expr} {k : Nat} {pos : Pos} {ax : Addr} {vs : List Value} {c : Nat} {m₀ : Str → Option Value} {news : List (Addr × Obj)} (J : Nat → List Value → (Str → Option Value) → List (Addr × Obj) → Prop)
    (hh : A.handled = none) (F : Fr h₀ env.locals s.heap m₀) (N : News h₀ env.locals s.heap news) (hm : (ax, W.listOf vs.toArray c) ∈ news)
    (hadr : ∀ i r m n, J i r m n → n.map (·.1) = news.map (·.1) ∧ (ax, W.listOf vs.toArray c) ∈ n) (h0 : J 0 vs m₀ news)
    (turn : ∀ i v r m n T t h tk I o o2, J i (v :: r) m n → (∀ p ∈ n, p.1 < I) → Fr h₀ env.locals h m → News h₀ env.locals h ((I + 1, o) :: (I, o2) :: n) → IsTup h T #[.int (i : Nat) t, v] →
      wpAny (model prog w) A (assign (.Tuple elts k pos) env (.ref T)) (fun _ s₂ => wpAny (model prog w) A (execs body env) (MPost h₀ env.locals [(I + 1, o), (I, o2)] (J (i + 1) r) { s with heap := h, toks := tk } Q) E s₂) E { s with heap := h, toks := tk })
    (done : ∀ i m n h tk, J i [] m n → Fr h₀ env.locals h m → News h₀ env.locals h n → Q .next { s with heap := h, toks := tk }) :
    wpAny (model prog w) A (call (.type "enumerate") [.ref ax]) (fun xv s₁ => wpAny (model prog w) A (pyIter xv) (fun it s₂ => TurnsAt prog w A h₀ env (.Tuple elts k pos) body Q E it s₂) E s₁) E s := by
  refine ktu_enum hh F N hm rfl rfl rfl fun I hI => ?_
  refine items_ind (fun its m n => ∃ i r, its = enumItems i r ∧ J i r m n) ?_ ?_ _ _ _ ⟨0, vs, rfl, h0⟩
  · rintro m n ⟨i, r, e, hJ⟩ h tk F' N'
    cases r with
    | nil => exact done i m n h tk hJ F' N'
    | cons v r => cases e
  · rintro a r m n ⟨i, r', e, hJ⟩ v h tk ha F'
    cases r' with
    | nil => cases e
    | cons v' r' =>
      rw [enumItems_cons] at e
      have e1 := (List.cons.inj e).1
      have e2 := (List.cons.inj e).2
      subst e1 e2
      obtain ⟨T, t, ev, hT⟩ := ha
      subst ev
      refine AllObj.cons fun o ho => AllObj.cons fun o2 ho2 => AllObj.nil fun N' => ?_
      refine wpAny_mono (turn i v' r' m n T t h tk I o o2 hJ (fun p hp => ?_) F' N' hT) (fun _ s₂ x => wpAny_mono x (fun f s₃ y => ?_) fun _ _ e => e) fun _ _ e => e
      · have h1 : p.1 ∈ n.map (·.1) := List.mem_map.mpr ⟨p, hp, rfl⟩
        rw [(hadr _ _ _ _ hJ).1] at h1
        obtain ⟨q, hq, e⟩ := List.mem_map.mp h1
        rw [← e]; exact hI q hq
      · refine unr_mono (fun m' n' z => ⟨z.1, i + 1, r', rfl, z.2⟩) f s₃ (mpost_unr (news := news) (keep := [(ax, W.listOf vs.toArray c)]) ?_ (fun m' n' z => ⟨(hadr _ _ _ _ z).1, (hadr _ _ _ _ z).2, trivial⟩) f s₃ y)
        intro p hp q hq
        have hb : q = (I + 1, o) ∨ q = (I, o2) := by simpa using hq
        rcases hb with rfl | rfl
        · exact Nat.lt_succ_of_lt (hI p hp)
        · exact hI p hp
end
end Mine
namespace Mine
/-- a map: the given names at the given values, the stored ones anyhow, the rest as in m₀ -/
noncomputable def Shp (stored : List Str) (ps : List (Str × Value)) (m₀ m : Str → Option Value) : Prop :=
  (∀ p ∈ ps, m p.1 = some p.2) ∧ ∀ z, (∀ p ∈ ps, z ≠ p.1) → stored.contains z = false → m z = m₀ z
theorem Shp.ex {stored : List Str} {ps : List (Str × Value)} {m₀ m : Str → Option Value} (h : Shp stored ps m₀ m) :
    ∃ u : Str → Option Value, m = kstB (fun z => if stored.contains z then u z else m₀ z) ps := by
  refine ⟨m, ?_⟩
  funext z
  refine (kstB_eq h.1 fun hn => ?_).symm
  show (if stored.contains z = true then m z else m₀ z) = m z
  cases h3 : stored.contains z with
  | true => simp
  | false => simp only [Bool.false_eq_true, if_false]; exact (h.2 z hn h3).symm
theorem intsAre_snoc {vs : List Value} {ns : List Int} {n : Int} {t : Tok} (h : IntsAre vs ns) : IntsAre (vs ++ [.int n t]) (ns ++ [n]) := h.append (.cons n t .nil)
theorem intsAre_cons {v : Value} {vs : List Value} {ns : List Int} (h : IntsAre (v :: vs) ns) : ∃ n t r, v = .int n t ∧ ns = n :: r ∧ IntsAre vs r := by
  cases h with
  | cons n t h => exact ⟨n, t, _, rfl, rfl, h⟩
theorem intsAre_split : ∀ {vp vr : List Value} {ns : List Int}, IntsAre (vp ++ vr) ns → ∃ a b, ns = a ++ b ∧ IntsAre vp a ∧ IntsAre vr b
  | [], _, ns, h => ⟨[], ns, rfl, .nil, h⟩
  | v :: vp, vr, _, h => by
    cases h with
    | cons n t h =>
      obtain ⟨a, b, e, h1, h2⟩ := intsAre_split h
      exact ⟨n :: a, b, by rw [e]; rfl, .cons n t h1, h2⟩
end Mine
namespace Mine
theorem ne_of_allLt {d : Addr} {l : List (Addr × Obj)} (h : AllLt d l) : ∀ p ∈ l, p.1 ≠ d := fun p hp => Nat.ne_of_lt (ktn_ltOf h p hp)
end Mine
namespace Mine
set_option maxRecDepth 100000
/-- the entries of the table of signs, read off the written part -/
noncomputable def tokArr (P : Params) : Array DictEntry := match (hd.heap_39 P).lookup 15 with | some ⟨_, _, .dict es _, _⟩ => es | _ => #[]
theorem tokKeys (P : Params) : KeysLit P (tokArr P).toList := by
  k_dflt k_keys
theorem tokAt {w : World} {prog : Program} {A : Around} {h₀ : Heap} {L : Addr} {s : Shared} {m : Str → Option Value} {E : Value → Shared → Prop} {x : Str} {t : Tok} {v : Value} {value slice : PySem.Expr} {Q : Value → Shared → Prop}
    (F : Fr h₀ L s.heap m) (X : (hd.heap_39 w.params).In h₀) (e : nsIn (hd.heap_39 w.params) 15 x = some (some v)) (h : Q v { s with toks := s.toks + 1 })
    (hs : subscripted slice false (.ref 15) (.str x t) = operate [.ref 15, .str x t] (getItem (.ref 15) (.str x t))) :
    wpAny (model prog w) A (subscriptTail value slice (.ref 15) (.str x t)) Q E s :=
  topItem_K F X (es := tokArr w.params) rfl (tokKeys _) e h hs
end Mine
namespace Mine
set_option linter.unusedVariables false
noncomputable def okMany (k : Int) : Prop := k = 1 ∨ k = 2 ∨ k = 3 ∨ k = 6
abbrev stB : List Str := [Str.ofString "k", Str.ofString "number", Str.ofString "told", Str.ofString "sign"]
theorem boundAt_len (side n : Int) (rest : List Int) (bm : List Int × Int) : (boundAt side n rest bm).1.length ≤ bm.1.length + 1 := by
  unfold boundAt
  dsimp only
  repeat' split
  all_goals simp
section
variable {prog : Program} {w : World} {A : Around} {E : Value → Shared → Prop} {s : Shared} {env : Env} {h₀ : Heap} {body : List Stmt} {Q : Flow → Shared → Prop}
noncomputable def JB (side : Int) (row : List Int) (lb : Addr) (tl : List (Addr × Obj)) (m₀ : Str → Option Value) (i : Nat) (r : List Value) (m : Str → Option Value) (n : List (Addr × Obj)) : Prop :=
  ∃ pre rest bs vs c many tm, row = pre ++ rest ∧ pre.length = i ∧ IntsAre r rest ∧ IntsAre vs bs ∧ bs.length ≤ i ∧ boundsOk rest ∧ okMany many ∧ boundsF side row [] 1 = boundsF side rest bs many ∧
    Shp stB [(Str.ofString "many", .int many tm)] m₀ m ∧ n = (lb, W.listOf vs.toArray c) :: tl
theorem JB.step {side : Int} {row : List Int} {lb : Addr} {tl : List (Addr × Obj)} {m₀ m' : Str → Option Value} {pre rest : List Int} {n : Int} {r : List Value} {bs : List Int} {many : Int} {vs' : List Value} {c' tm' : Nat} {bm : List Int × Int}
    (h1 : row = pre ++ n :: rest) (h3 : IntsAre r rest) (h5 : bs.length ≤ pre.length) (h6 : boundsOk (n :: rest)) (h8 : boundsF side row [] 1 = boundsF side (n :: rest) bs many)
    (e : boundAt side n rest (bs, many) = bm) (h4 : IntsAre vs' bm.1) (h7 : okMany bm.2) (hS : Shp stB [(Str.ofString "many", .int bm.2 tm')] m₀ m') :
    JB side row lb tl m₀ (pre.length + 1) r m' ((lb, W.listOf vs'.toArray c') :: tl) := by
  refine ⟨pre ++ [n], rest, bm.1, vs', c', bm.2, tm', by simp [h1], by simp, h3, h4, ?_, h6.2, h7, ?_, hS, rfl⟩
  · have := boundAt_len side n rest (bs, many)
    rw [e] at this
    dsimp only at this
    omega
  · rw [h8, boundsF, e]
theorem JB.fin {L : Addr} {its all : List (Addr × Obj)} {s₁ : Shared} {h' : Heap} {tk : Nat} {side : Int} {row : List Int} {lb : Addr} {tl : List (Addr × Obj)} {m₀ m' : Str → Option Value} {pre rest : List Int} {n : Int} {r : List Value} {bs bs' : List Int} {many many' : Int} {vs' : List Value} {c' tm' : Nat}
    (F : Fr h₀ L h' m') (N : News h₀ L h' all) (hI : ∀ p ∈ its, p ∈ all) (hn : ∀ p ∈ (lb, W.listOf vs'.toArray c') :: tl, p ∈ all)
    (h1 : row = pre ++ n :: rest) (h3 : IntsAre r rest) (h5 : bs.length ≤ pre.length) (h6 : boundsOk (n :: rest)) (h8 : boundsF side row [] 1 = boundsF side (n :: rest) bs many)
    (h4 : IntsAre vs' bs') (e : boundAt side n rest (bs, many) = (bs', many')) (h7 : okMany many') (hS : Shp stB [(Str.ofString "many", .int many' tm')] m₀ m') :
    MPost h₀ L its (JB side row lb tl m₀ (pre.length + 1) r) s₁ Q .next { s₁ with heap := h', toks := tk } :=
  MPost.next _ F N hI hn (JB.step h1 h3 h5 h6 h8 e h4 h7 hS)
theorem loop_bounds {elts : List PySem.Expr} {k : Nat} {pos : Pos} {lr lb : Addr} {vr : List Value} {cr t1 : Nat} {row : List Int} {side : Int} {m₀ : Str → Option Value} {tl : List (Addr × Obj)}
    (hh : A.handled = none) (F : Fr h₀ env.locals s.heap m₀) (N : News h₀ env.locals s.heap ((lb, W.listOf #[] 0) :: tl)) (hm : (lr, W.listOf vr.toArray cr) ∈ tl) (hi : IntsAre vr row) (hok : boundsOk row) (hlb : ∀ p ∈ tl, p.1 ≠ lb)
    (hmany : m₀ (Str.ofString "many") = some (.int 1 t1))
    (turn : ∀ pre n rest nt r bs vs c many tm (u : Str → Option Value) T t h tk I o o2, row = pre ++ n :: rest → IntsAre r rest → IntsAre vs bs → bs.length ≤ pre.length → boundsOk (n :: rest) → okMany many →
      boundsF side row [] 1 = boundsF side (n :: rest) bs many → (∀ p ∈ (lb, W.listOf vs.toArray c) :: tl, p.1 < I) →
      Fr h₀ env.locals h (kstB (fun z => if stB.contains z then u z else m₀ z) [(Str.ofString "many", .int many tm)]) → News h₀ env.locals h ((I + 1, o) :: (I, o2) :: (lb, W.listOf vs.toArray c) :: tl) → IsTup h T #[.int (pre.length : Nat) t, .int n nt] →
      wpAny (model prog w) A (assign (.Tuple elts k pos) env (.ref T)) (fun _ s₂ => wpAny (model prog w) A (execs body env) (MPost h₀ env.locals [(I + 1, o), (I, o2)] (JB side row lb tl m₀ (pre.length + 1) r) { s with heap := h, toks := tk } Q) E s₂) E { s with heap := h, toks := tk })
    (done : ∀ vs c many tm (u : Str → Option Value) h tk, IntsAre vs (boundsF side row [] 1).1 → many = (boundsF side row [] 1).2 → Fr h₀ env.locals h (kstB (fun z => if stB.contains z then u z else m₀ z) [(Str.ofString "many", .int many tm)]) → News h₀ env.locals h ((lb, W.listOf vs.toArray c) :: tl) → Q .next { s with heap := h, toks := tk }) :
    wpAny (model prog w) A (call (.type "enumerate") [.ref lr]) (fun xv s₁ => wpAny (model prog w) A (pyIter xv) (fun it s₂ => TurnsAt prog w A h₀ env (.Tuple elts k pos) body Q E it s₂) E s₁) E s := by
  refine my_enum (JB side row lb tl m₀) hh F N (.tail _ hm) ?_ ?_ ?_ ?_
  · rintro i r m n ⟨pre, rest, bs, vs, c, many, tm, h1, h2, h3, h4, h5, h6, h7, h8, h9, rfl⟩
    exact ⟨rfl, .tail _ hm⟩
  · exact ⟨[], row, [], [], 0, 1, t1, rfl, rfl, hi, .nil, Nat.le_refl _, hok, .inl rfl, rfl, ⟨fun p hp => by rw [List.mem_singleton.mp hp]; exact hmany, fun _ _ _ => rfl⟩, rfl⟩
  · rintro i v r m n T t h tk I o o2 ⟨pre, rest, bs, vs, c, many, tm, h1, h2, h3, h4, h5, h6, h7, h8, h9, rfl⟩ hI F' N' hT
    obtain ⟨n, nt, rest', rfl, rfl, h3'⟩ := intsAre_cons h3
    obtain ⟨u, rfl⟩ := h9.ex
    subst h2
    exact turn pre n rest' nt r bs vs c many tm u T t h tk I o o2 h1 h3' h4 h5 h6 h7 h8 hI F' N' hT
  · rintro i m n h tk ⟨pre, rest, bs, vs, c, many, tm, h1, h2, h3, h4, h5, h6, h7, h8, h9, rfl⟩ F' N'
    cases h3
    obtain ⟨u, rfl⟩ := h9.ex
    exact done vs c many tm u h tk (by rw [h8]; exact h4) (by rw [h8]; rfl) F' N'
end
end Mine
namespace Mine
theorem okMany_mul {m d : Int} (h : okMany m) (hd : d = 2 ∨ d = 3) (hn : ¬ Int.fmod m d = 0) : okMany (m * d) := by
  rcases h with rfl | rfl | rfl | rfl <;> rcases hd with rfl | rfl <;> first | (exfalso; exact hn (by decide)) | (simp [okMany])
theorem getD_pre {pre rest : List Int} {n : Int} {row : List Int} (h : row = pre ++ n :: rest) (j : Nat) (k : Int) (hk : k = (pre.length : Int) + (j : Int) + 1) : row.getD k.toNat 0 = rest.getD j 0 := by
  subst h hk
  have e : ((pre.length : Int) + (j : Int) + 1).toNat = pre.length + (j + 1) := by omega
  rw [e]
  simp [List.getD, List.getElem?_append_right]
end Mine
namespace Mine
section
variable {side n many s1 s2 : Int} {rest bs row : List Int} {i j : Nat}
theorem bd0 (h : n ≠ 256) : boundAt side n rest (bs, many) = (bs, many) := by unfold boundAt; rw [if_neg h]
theorem any2 {a b x : Int} {v : Bool} (h : ([a, b].any fun y => y == x) = v) : (if x = a ∨ x = b then true else false) = v := by
  rw [← h]
  simp only [List.any_cons, List.any_nil, Bool.or_false]
  by_cases h1 : a = x
  · subst h1; simp
  · by_cases h2 : b = x
    · subst h2; simp
    · rw [if_neg (by omega), beq_false_of_ne h1, beq_false_of_ne h2]; rfl
theorem any2t {a b x : Int} (h : ([a, b].any fun y => y == x) = true) : x = a ∨ x = b := by
  have := any2 h
  by_cases q : x = a ∨ x = b
  · exact q
  · rw [if_neg q] at this; exact absurd this (by decide)
theorem any2f {a b x : Int} (h : ([a, b].any fun y => y == x) = false) : ¬ (x = a ∨ x = b) := by
  intro q
  have := any2 h
  rw [if_pos q] at this
  exact absurd this (by decide)
variable (g1 : row.getD i 0 = rest.getD 0 0) (g2 : row.getD j 0 = rest.getD 1 0) (h1 : (if 0 < side then (21 : Int) else 20) = s1) (h2 : (if 0 < side then (30 : Int) else 29) = s2) (h : n = 256)
include g1 g2 h1 h2 h
theorem bd1 (a : ([s1, 28].any fun x => x == row.getD j 0 - 225) = true) : boundAt side n rest (bs, many) = (bs ++ [row.getD i 0 - 4100], many) := by
  rw [g2] at a
  unfold boundAt
  dsimp only
  rw [if_pos h, h1, if_pos (any2t a), g1]
theorem bd2 (a : ([s1, 28].any fun x => x == row.getD j 0 - 225) = false) (b : ([s2, 27].any fun x => x == row.getD j 0 - 225) = true) : boundAt side n rest (bs, many) = (bs ++ [row.getD i 0 - 4100 - side], many) := by
  rw [g2] at a b
  unfold boundAt
  dsimp only
  rw [if_pos h, h1, h2, if_neg (any2f a), if_pos (any2t b), g1]
theorem bd3 (a : ([s1, 28].any fun x => x == row.getD j 0 - 225) = false) (b : ([s2, 27].any fun x => x == row.getD j 0 - 225) = false) (c : row.getD j 0 - 225 = 24) (d : Int.fmod many (row.getD i 0 - 4100) ≠ 0) : boundAt side n rest (bs, many) = (bs, many * (row.getD i 0 - 4100)) := by
  rw [g2] at a b c
  rw [g1] at d
  unfold boundAt
  dsimp only
  rw [if_pos h, h1, h2, if_neg (any2f a), if_neg (any2f b), if_pos ⟨c, d⟩, g1]
theorem bd4 (a : ([s1, 28].any fun x => x == row.getD j 0 - 225) = false) (b : ([s2, 27].any fun x => x == row.getD j 0 - 225) = false) (d : row.getD j 0 - 225 ≠ 24 ∨ Int.fmod many (row.getD i 0 - 4100) = 0) : boundAt side n rest (bs, many) = (bs, many) := by
  rw [g2] at a b d
  rw [g1] at d
  unfold boundAt
  dsimp only
  rw [if_pos h, h1, h2, if_neg (any2f a), if_neg (any2f b), if_neg (fun q => d.elim (fun e => e q.1) (fun e => q.2 e))]
end
end Mine
namespace Mine
set_option maxRecDepth 100000
set_option linter.unusedVariables false
section
variable {prog : Program} {w : World} {A : Around} {E : Value → Shared → Prop} {s : Shared}
abbrev IsZipT (h : Heap) (z TI TO T : Addr) (f : Bool) : Prop :=
  h.get? z = some { cls := .type "zip", dict := none, data := .fields #[rawInt T, .bool f, .bool false, .ref TI, .ref TO], slots := #[] }
theorem aliveK {M : Model} {a : Addr} {o : Obj} {Q : Option Obj → Shared → Prop} (ho : s.heap.get? a = some o) (h : Q (some o) s) : wpAny M A (loadIfAlive a) Q E s := by
  intro Γ p _
  show Sem.wp M Γ (.loadIfAlive a .pure) _ _ p s
  rw [Sem.wp_loadIfAlive, ho]
  exact h
theorem ownedT {z TI TO T : Addr} {f : Bool} {oT : Obj} {Q : Bool → Shared → Prop} (hz : IsZipT s.heap z TI TO T f) (hT : s.heap.get? T = some oT)
    (hQ : ∀ h', IsZipT h' z TI TO T true → Heap.SameBut z s.heap h' → Q false { s with heap := h' }) :
    wpAny (model prog w) A (Builtin.SmallTypes.ownedTupleIsFree (.ref z)) Q E s := by
  unfold Builtin.SmallTypes.ownedTupleIsFree
  refine wpAny_bind (wpAny_field hz rfl (x := rawInt T) rfl ?_)
  show wpAny _ _ (loadIfAlive ((T : Nat) : Int).toNat >>= _) _ _ _
  rw [Int.toNat_natCast]
  refine wpAny_bind (aliveK hT ?_)
  simp only [Option.isNone_some, Bool.false_eq_true, if_false]
  refine wpAny_bind (wpAny_field hz rfl (x := .bool f) rfl ?_)
  cases f with
  | true => exact wpAny_pure (hQ s.heap hz ⟨rfl, fun _ _ => rfl⟩)
  | false =>
    show wpAny _ _ (setField (Value.ref z) 1 (Value.bool true) >>= _) _ _ _
    exact wpAny_bind (wpAny_setField_rec hz (by simp) fun h₁ hz₁ hs₁ => wpAny_pure (hQ h₁ hz₁ hs₁))
theorem zip2_item {z TI TO i1 i2 l1 l2 T : Addr} {f : Bool} {oT : Obj} {k1 k2 : Nat} {xs ys : Array Value} {x y : Value} {Q : Value → Shared → Prop} (D : ZipApart z TI TO i1 i2 l1 l2) (hTz : T ≠ z) (hTi1 : T ≠ i1) (hTi2 : T ≠ i2)
    (hz : IsZipT s.heap z TI TO T f) (hT : s.heap.get? T = some oT) (hTI : IsPair s.heap TI (.ref i1) (.ref i2))
    (h1 : s.heap.IsListIter i1 l1 k1) (h2 : s.heap.IsListIter i2 l2 k2) (hl1 : s.heap.IsList l1 xs) (hl2 : s.heap.IsList l2 ys) (hx : xs[k1]? = some x) (hy : ys[k2]? = some y)
    (hQ : ∀ h', IsZipT h' z TI TO T true → h'.get? T = some oT → h'.IsListIter i1 l1 (k1 + 1) → h'.IsListIter i2 l2 (k2 + 1) → IsPair h' s.heap.objs.size x y →
      (∀ c o, c ≠ z → c ≠ i1 → c ≠ i2 → s.heap.get? c = some o → h'.get? c = some o) → Q (.ref s.heap.objs.size) { s with heap := h' }) :
    wpAny (model prog w) A (Builtin.«zip.__next__» ⟨[.ref z], []⟩) (fun fin s' => ∃ v, fin = .done (.ret v) ∧ Q v s') E s := by
  show wpAny _ _ (field (.ref z) 2 >>= _) _ _ _
  refine wpAny_bind (wpAny_field hz rfl (x := .bool false) rfl ?_)
  show wpAny _ _ (field (.ref z) 3 >>= _) _ _ _
  refine wpAny_bind (wpAny_field hz rfl (x := .ref TI) rfl ?_)
  refine wpAny_bind (wpAny_seqItems hTI rfl ?_)
  show wpAny _ _ (Builtin.SmallTypes.ownedTupleIsFree (.ref z) >>= _) _ _ _
  refine wpAny_bind (ownedT hz hT fun h₁ hz₁ hs₁ => ?_)
  simp only [Bool.false_eq_true, if_false]
  rw [← Array.forIn_toList]
  simp only [List.forIn_cons, List.forIn_nil]
  refine wpAny_bind (wpAny_bind (wpAny_bind (wpAny_holding ?_)))
  show wpAny _ _ (Builtin.SmallTypes.nextOf (.ref i1) >>= _) _ _ _
  refine wpAny_bind (wpAny_nextOf_list_item (h1.extBut hs₁.extBut D.i1z) (hl1.extBut hs₁.extBut D.l1z) hx fun h₂ h1₂ hs₂ => wpAny_pure (wpAny_pure ?_))
  refine wpAny_bind (wpAny_bind (wpAny_holding ?_))
  show wpAny _ _ (Builtin.SmallTypes.nextOf (.ref i2) >>= _) _ _ _
  refine wpAny_bind (wpAny_nextOf_list_item ((h2.extBut hs₁.extBut D.i2z).extBut hs₂.extBut D.i12.symm) ((hl2.extBut hs₁.extBut D.l2z).extBut hs₂.extBut D.l2i1) hy fun h₃ h2₃ hs₃ => wpAny_pure (wpAny_pure (wpAny_pure ?_)))
  have hsz : h₃.objs.size = s.heap.objs.size := by rw [hs₃.1, hs₂.1, hs₁.1]
  have up : ∀ c o, c ≠ z → c ≠ i1 → c ≠ i2 → s.heap.get? c = some o → h₃.get? c = some o := fun c o c1 c2 c3 e => hs₃.extBut _ _ c3 (hs₂.extBut _ _ c2 (hs₁.extBut _ _ c1 e))
  have hz₃ : IsZipT h₃ z TI TO T true := hs₃.extBut _ _ D.i2z.symm (hs₂.extBut _ _ D.i1z.symm hz₁)
  show wpAny _ _ (newTuple [x, y] >>= _) _ _ _
  refine wpAny_bind (wpAny_newTuple (wpAny_pure ⟨_, rfl, ?_⟩))
  show Q (.ref h₃.objs.size) _
  rw [hsz]
  refine hQ _ (Heap.get?_push_of_some _ hz₃) (Heap.get?_push_of_some _ (up _ _ hTz hTi1 hTi2 hT)) ?_ ?_ ?_ (fun c o c1 c2 c3 e => Heap.get?_push_of_some _ (up c o c1 c2 c3 e))
  · exact (h1₂.extBut hs₃.extBut D.i12).at fun o e => Heap.get?_push_of_some _ e
  · exact h2₃.at fun o e => Heap.get?_push_of_some _ e
  · show (h₃.push _).get? s.heap.objs.size = _
    rw [← hsz]
    exact Heap.get?_push_size _ rfl
theorem zip2_end {z TI TO i1 i2 l1 l2 T : Addr} {f : Bool} {oT : Obj} {k1 k2 : Nat} {xs ys : Array Value} {Q : Fin → Shared → Prop} (hh : A.handled = none) (D : ZipApart z TI TO i1 i2 l1 l2)
    (hz : IsZipT s.heap z TI TO T f) (hT : s.heap.get? T = some oT) (hTI : IsPair s.heap TI (.ref i1) (.ref i2))
    (h1 : s.heap.IsListIter i1 l1 k1) (hl1 : s.heap.IsList l1 xs) (hx : xs[k1]? = none)
    (hE : ∀ h' e, (∀ c o, c ≠ z → c ≠ i1 → s.heap.get? c = some o → h'.get? c = some o) → (∃ o, h'.get? e = some o ∧ o.cls = .type "StopIteration") → E (.ref e) { s with heap := h' }) :
    wpAny (model prog w) A (Builtin.«zip.__next__» ⟨[.ref z], []⟩) Q E s := by
  show wpAny _ _ (field (.ref z) 2 >>= _) _ _ _
  refine wpAny_bind (wpAny_field hz rfl (x := .bool false) rfl ?_)
  show wpAny _ _ (field (.ref z) 3 >>= _) _ _ _
  refine wpAny_bind (wpAny_field hz rfl (x := .ref TI) rfl ?_)
  refine wpAny_bind (wpAny_seqItems hTI rfl ?_)
  show wpAny _ _ (Builtin.SmallTypes.ownedTupleIsFree (.ref z) >>= _) _ _ _
  refine wpAny_bind (ownedT hz hT fun h₁ hz₁ hs₁ => ?_)
  simp only [Bool.false_eq_true, if_false]
  rw [← Array.forIn_toList]
  simp only [List.forIn_cons, List.forIn_nil]
  refine wpAny_bind (wpAny_bind (wpAny_bind (wpAny_holding ?_)))
  show wpAny _ _ (Builtin.SmallTypes.nextOf (.ref i1) >>= _) _ _ _
  exact wpAny_bind (wpAny_nextOf_list_end hh (h1.extBut hs₁.extBut D.i1z) (hl1.extBut hs₁.extBut D.l1z) hx fun h₂ e hs₂ he => hE h₂ e (fun c o c1 c2 x => hs₂ _ _ c2 (hs₁.extBut _ _ c1 x)) he)
theorem next_zip2_item {z TI TO i1 i2 l1 l2 T : Addr} {f : Bool} {oT : Obj} {k1 k2 : Nat} {xs ys : Array Value} {x y : Value} {Q : Option Value → Shared → Prop} (D : ZipApart z TI TO i1 i2 l1 l2) (hTz : T ≠ z) (hTi1 : T ≠ i1) (hTi2 : T ≠ i2)
    (hz : IsZipT s.heap z TI TO T f) (hT : s.heap.get? T = some oT) (hTI : IsPair s.heap TI (.ref i1) (.ref i2))
    (h1 : s.heap.IsListIter i1 l1 k1) (h2 : s.heap.IsListIter i2 l2 k2) (hl1 : s.heap.IsList l1 xs) (hl2 : s.heap.IsList l2 ys) (hx : xs[k1]? = some x) (hy : ys[k2]? = some y)
    (hQ : ∀ h', IsZipT h' z TI TO T true → h'.get? T = some oT → h'.IsListIter i1 l1 (k1 + 1) → h'.IsListIter i2 l2 (k2 + 1) → IsPair h' s.heap.objs.size x y →
      (∀ c o, c ≠ z → c ≠ i1 → c ≠ i2 → s.heap.get? c = some o → h'.get? c = some o) → Q (some (.ref s.heap.objs.size)) { s with heap := h' }) :
    wpAny (model prog w) A (pyNext (.ref z)) Q E s := by
  have hT' : s.TypeIs (.ref z) "zip" := ⟨_, hz, rfl⟩
  unfold pyNext
  exact wpAny_bind (wpAny_attempt (wpAny_callSpecial?_slot (name := Str.ofString "__next__") hT' F.slot_zip_next
    (wpAny_call_entry F.slot_zip_next hT' F.entry_zip_next
      (zip2_item D hTz hTi1 hTi2 hz hT hTI h1 h2 hl1 hl2 hx hy fun h' a1 a2 a3 a4 a5 a6 => wpAny_pure (hQ h' a1 a2 a3 a4 a5 a6)) (F.args_zip_next_1 _))))
theorem next_zip2_end {z TI TO i1 i2 l1 l2 T : Addr} {f : Bool} {oT : Obj} {k1 k2 : Nat} {xs ys : Array Value} {Q : Option Value → Shared → Prop} (hh : A.handled = none) (D : ZipApart z TI TO i1 i2 l1 l2)
    (hz : IsZipT s.heap z TI TO T f) (hT : s.heap.get? T = some oT) (hTI : IsPair s.heap TI (.ref i1) (.ref i2))
    (h1 : s.heap.IsListIter i1 l1 k1) (hl1 : s.heap.IsList l1 xs) (hx : xs[k1]? = none)
    (hQ : ∀ h', (∀ c o, c ≠ z → c ≠ i1 → s.heap.get? c = some o → h'.get? c = some o) → Q none { s with heap := h' }) : wpAny (model prog w) A (pyNext (.ref z)) Q E s := by
  have hT' : s.TypeIs (.ref z) "zip" := ⟨_, hz, rfl⟩
  unfold pyNext
  refine wpAny_bind (wpAny_attempt (wpAny_callSpecial?_slot (name := Str.ofString "__next__") hT' F.slot_zip_next
    (wpAny_call_entry F.slot_zip_next hT' F.entry_zip_next (zip2_end (k2 := 0) (l2 := l2) (ys := #[]) hh D hz hT hTI h1 hl1 hx fun h' e hk he => ?_) (F.args_zip_next_1 _))))
  obtain ⟨o, ho, hc⟩ := he
  refine wpAny_bind (wpAny_isInstance (T := "StopIteration") (b := true) ⟨o, ho, hc⟩ isSubtype_stop ?_)
  exact wpAny_pure (hQ _ hk)
end
end Mine
namespace Mine
set_option maxRecDepth 100000
set_option linter.unusedVariables false
open PySem
theorem zip_keys_none : typeLookup (.type "zip") "keys" = pure none := by rw [typeLookup_type, builtinLookup_eq_fast]; kernel_rfl
theorem zip_getattr_none : typeLookup (.type "zip") "__getattr__" = pure none := by rw [typeLookup_type, builtinLookup_eq_fast]; kernel_rfl
theorem zip_entry_ga : entryFor table "zip.__getattribute__" = some Builtin.«object.__getattribute__» :=
  entryFor_alias (id' := "object.__getattribute__") (by kernel_rfl) (by decide +kernel) (by decide +kernel) (by kernel_rfl)
theorem zip_ga_meets (a : Addr) (fs : Array Value) (u : Tok) :
    Meets (Builtin.«object.__getattribute__» ⟨[.ref a, .str "keys" u], []⟩) (fun A R s => s.heap.get? a = some { cls := .type "zip", dict := none, data := .fields fs, slots := #[] } ∧ raisesAttr (.ref a) "keys" A R s) :=
  Meets.of_wp fun prog w A R s hs => by
    obtain ⟨hp, g, d, tk, os⟩ := s
    obtain ⟨hx, hs⟩ := hs
    have hT : (⟨hp, g, d, tk, os⟩ : Shared).TypeIs (.ref a) "zip" := ⟨_, hx, rfl⟩
    have hmiss := zip_keys_none
    unfold Builtin.«object.__getattribute__»
    repeat (any_goals (first | assumption | wp_step))
    exact wpAny_raiseAttrError hs.1 hs.2 (attrMsg_fits (by decide +kernel) (by decide))
theorem zip_no_keys {prog : Program} {w : World} {A : Around} {E : Value → Shared → Prop} {s : Shared} {a : Addr} {fs : Array Value} {Q : Option Value → Shared → Prop}
    (hx : s.heap.get? a = some { cls := .type "zip", dict := none, data := .fields fs, slots := #[] }) (hA : A.handled = none)
    (h : ∀ h' tk, (∀ b o, s.heap.get? b = some o → h'.get? b = some o) → Q none { s with heap := h', toks := tk }) :
    wpAny (model prog w) A (getAttr? (.ref a) "keys") Q E s := by
  obtain ⟨hp, g, d, tk, os⟩ := s
  have hT : ∀ tk', (⟨hp, g, d, tk', os⟩ : Shared).TypeIs (.ref a) "zip" := fun _ => ⟨_, hx, rfl⟩
  have f1 := sub_AttributeError
  have f3 := F.slot_zip_getattribute.lookup
  have f4 := F.slot_zip_getattribute.bind (.ref a)
  have f5 := zip_getattr_none
  unfold getAttr? getAttrBy? getAttrBy
  repeat (any_goals (first | assumption | exact hT _ | ((with_reducible show wpAny _ _ (call (Value.builtin "zip.__getattribute__") _ _) _ _ _); refine call_meets F.slot_zip_getattribute (hT _) zip_entry_ga (F.args_zip_getattribute_2 _ _) (zip_ga_meets a fs _) ⟨hx, hA, fun h' tk' e hx' => ?_⟩) | wp_step))
  obtain ⟨t', u', he⟩ := hx'.there
  show wpAny _ _ (getattributeRaised _ _ _ _ _ _ _) _ _ _
  unfold getattributeRaised
  repeat (any_goals (first | assumption | wp_step))
  exact h _ _ hx'.keeps
theorem entry_dul : entryFor table "dict.update.loop" = some Builtin.«dict.update.loop» := entryFor_of_tree (by kernel_rfl)
theorem plain_dul : plainId "dict.update.loop" = true := by decide +kernel
section
variable {prog : Program} {w : World} {A : Around} {E : Value → Shared → Prop} {s : Shared}
theorem pairItems_tup {T : Addr} {k v : Value} {Q : List Value → Shared → Prop} (hT : s.heap.IsTuple T #[k, v]) (h : Q [k, v] s) :
    wpAny (model prog w) A (Builtin.Dict.pairItems (.ref T)) Q E s := by
  obtain ⟨o, ho, hc, n, hd⟩ := hT
  unfold Builtin.Dict.pairItems
  refine wpAny_bind (wpAny_typeOf (T := "tuple") ⟨o, ho, hc⟩ ?_)
  rw [if_pos (by decide)]
  exact wpAny_bind (wpAny_seqItems ho hd (wpAny_pure h))
noncomputable def putAll (kvs : List (Int × Value)) (ps : List (Int × Value)) : List (Int × Value) := ps.foldl (fun a p => stored a p.1 p.2) kvs
theorem stored_len (kvs : List (Int × Value)) (k : Int) (v : Value) : (stored kvs k v).length ≤ kvs.length + 1 := by
  unfold stored
  split <;> simp
structure ZAt (h : Heap) (z TI TO i1 i2 l1 l2 : Addr) (xs ys : Array Value) (i : Nat) : Prop where
  ti : IsPair h TI (.ref i1) (.ref i2)
  it1 : h.IsListIter i1 l1 i
  it2 : h.IsListIter i2 l2 i
  s1 : h.IsList l1 xs
  s2 : h.IsList l2 ys
theorem ZAt.keep {h h' : Heap} {z TI TO i1 i2 l1 l2 d : Addr} {xs ys : Array Value} {i : Nat} (x : ZAt h z TI TO i1 i2 l1 l2 xs ys i) (hk : ∀ b o, b ≠ d → h.get? b = some o → h'.get? b = some o)
    (d1 : TI ≠ d) (d2 : i1 ≠ d) (d3 : i2 ≠ d) (d4 : l1 ≠ d) (d5 : l2 ≠ d) : ZAt h' z TI TO i1 i2 l1 l2 xs ys i :=
  ⟨hk _ _ d1 x.ti, x.it1.at fun o e => hk _ o d2 e, x.it2.at fun o e => hk _ o d3 e, x.s1.at fun o e => hk _ o d4 e, x.s2.at fun o e => hk _ o d5 e⟩
theorem dict_turn {d T : Addr} {it : Value} {k : Int} {t tok : Tok} {v : Value} {j : Int} {kvs : List (Int × Value)} {R : Result → Shared → Prop} (hl : kvs.length ≤ 1000)
    (h : wpAny (model prog w) A.in1 (pyNext it) (fun r s₁ => ∃ T, r = some (.ref T) ∧ s₁.heap.IsTuple T #[.int k t, v] ∧ s₁.heap.DictOf (intKind prog w) d kvs ∧
      (∀ h', h'.DictOf (intKind prog w) d (stored kvs k v) → Heap.SameBut d s₁.heap h' → codeAny (model prog w) A (.builtin "dict.update.loop" ⟨[.ref d, it, .int (j + 1) 0, .none], []⟩) R { s₁ with heap := h', toks := s₁.toks + 1 })) (fun e s' => R (.error e) s') s) :
    codeAny (model prog w) A (.builtin "dict.update.loop" ⟨[.ref d, it, .int j tok, .none], []⟩) R s := by
  refine codeAny_builtin entry_dul ?_
  rw [Around.under_plainId plain_dul _]
  show wpAny _ A.in1 (pyNext it >>= _) _ _ s
  refine wpAny_bind (wpAny_mono h (fun r s₁ h₁ => ?_) fun _ _ e => e)
  obtain ⟨T, rfl, hT, hd, hgo⟩ := h₁
  show wpAny _ A.in1 (holding [Value.ref T] _ >>= _) _ _ s₁
  refine wpAny_bind (wpAny_holding (wpAny_bind (wpAny_tryCatch (pairItems_tup hT ?_))))
  show wpAny _ A.in1 (holding [Value.int k t, v] (dictSet d (Value.int k t) v)) _ _ s₁
  refine wpAny_holding (wpAny_dictSet_pairs (knd := intKind prog w) (intKind_is _ _ _ _) hd (fun h' hd' hs' => ?_) (by rw [sizeLine_eq]; omega))
  exact wpAny_pure ⟨plainId_quiet plain_dul _, hgo h' hd' hs'⟩
theorem dict_stop {d : Addr} {it : Value} {tok : Tok} {j : Int} {R : Result → Shared → Prop}
    (h : wpAny (model prog w) A.in1 (pyNext it) (fun r s₁ => r = none ∧ R (.ok (.ret .none)) s₁) (fun e s' => R (.error e) s') s) :
    codeAny (model prog w) A (.builtin "dict.update.loop" ⟨[.ref d, it, .int j tok, .none], []⟩) R s := by
  refine codeAny_builtin entry_dul ?_
  rw [Around.under_plainId plain_dul _]
  show wpAny _ A.in1 (pyNext it >>= _) _ _ s
  refine wpAny_bind (wpAny_mono h (fun r s₁ h₁ => ?_) fun _ _ e => e)
  obtain ⟨rfl, hR⟩ := h₁
  show wpAny _ A.in1 (Builtin.Dict.addKeywords d [] >>= _) _ _ _
  exact wpAny_bind (wpAny_pure (wpAny_pure hR))
theorem dict_loopT {d z TI TO i1 i2 l1 l2 : Addr} {xs ys : Array Value} {ps : List (Int × Value)} {n : Nat} (hh : A.handled = none) (D : ZipApart z TI TO i1 i2 l1 l2) (hn : ps.length = n) (h50 : n ≤ 50)
    (hps : ∀ i, i < n → ∃ k t v, xs[i]? = some (.int k t) ∧ ys[i]? = some v ∧ ps[i]? = some (k, v)) (hend : xs[n]? = none)
    (dz : z ≠ d) (d1 : TI ≠ d) (d2 : i1 ≠ d) (d3 : i2 ≠ d) (d4 : l1 ≠ d) (d5 : l2 ≠ d) :
    ∀ (k i : Nat) (s : Shared) (kvs : List (Int × Value)) (tok : Tok) (j : Int) (f : Bool) (T : Addr) (oT : Obj) (R : Result → Shared → Prop), k + i = n → IsZipT s.heap z TI TO T f → s.heap.get? T = some oT → T ≠ z → T ≠ i1 → T ≠ i2 → T ≠ d → ZAt s.heap z TI TO i1 i2 l1 l2 xs ys i →
      s.heap.DictOf (intKind prog w) d kvs → kvs.length ≤ i →
      (∀ h' tk, h'.DictOf (intKind prog w) d (putAll kvs (ps.drop i)) → (∀ b o, b ≠ z → b ≠ TO → b ≠ i1 → b ≠ i2 → b ≠ d → s.heap.get? b = some o → h'.get? b = some o) → R (.ok (.ret .none)) { s with heap := h', toks := tk }) →
      codeAny (model prog w) A (.builtin "dict.update.loop" ⟨[.ref d, .ref z, .int j tok, .none], []⟩) R s := by
  intro k
  induction k with
  | zero =>
    intro i s kvs tok j f T oT R hk hz hT t1 t2 t3 t4 Z hd hl hR
    have hin : i = n := by omega
    subst hin
    refine dict_stop (next_zip2_end (k2 := 0) (ys := #[]) hh D hz hT Z.ti Z.it1 Z.s1 hend fun h' hk' => ⟨rfl, ?_⟩)
    refine hR h' s.toks ?_ fun b o b1 _ b3 _ _ e => hk' b o b1 b3 e
    rw [List.drop_of_length_le (by omega)]
    exact hd.at fun o e => hk' d o dz.symm d2.symm e
  | succ k ih =>
    intro i s kvs tok j f T oT R hk hz hT t1 t2 t3 t4 Z hd hl hR
    have hlt : i < n := by omega
    obtain ⟨key, t, v, hx, hy, hp⟩ := hps i hlt
    refine dict_turn (k := key) (t := t) (v := v) (kvs := kvs) (T := 0) (by omega) (next_zip2_item D t1 t2 t3 hz hT Z.ti Z.it1 Z.it2 Z.s1 Z.s2 hx hy fun h' a1 a2 a3 a4 a5 a6 => ⟨_, rfl, ⟨_, a5, rfl, _, rfl⟩, hd.at fun o e => a6 d o dz.symm d2.symm d3.symm e, fun h2 hd2 hs2 => ?_⟩)
    have k2 : ∀ b o, b ≠ d → h'.get? b = some o → h2.get? b = some o := fun b o hb e => (hs2.2 b hb).trans e
    have hTI' : IsPair h' TI (.ref i1) (.ref i2) := a6 _ _ D.TIz D.TIi1 D.TIi2 Z.ti
    have Z' : ZAt h' z TI TO i1 i2 l1 l2 xs ys (i + 1) := ⟨hTI', a3, a4, Z.s1.at fun o e => a6 _ o D.l1z D.l1i1 D.l1i2 e, Z.s2.at fun o e => a6 _ o D.l2z D.l2i1 D.l2i2 e⟩
    refine ih (i + 1) _ (stored kvs key v) 0 (j + 1) true T oT R (by omega) (k2 _ _ dz a1) (k2 _ _ t4 a2) t1 t2 t3 t4 (Z'.keep k2 d1 d2 d3 d4 d5) hd2 (Nat.le_trans (stored_len ..) (by omega)) fun h3 tk hd3 hk3 => ?_
    refine hR h3 tk ?_ fun b o b1 b2 b3 b4 b5 e => hk3 b o b1 b2 b3 b4 b5 (k2 b o b5 (a6 b o b1 b3 b4 e))
    have e : ps.drop i = (key, v) :: ps.drop (i + 1) := by
      have h1 : i < ps.length := by omega
      rw [List.drop_eq_getElem_cons h1]
      rw [List.getElem?_eq_getElem h1] at hp
      rw [Option.some.inj hp]
    rw [e]
    exact hd3
/-- dict(z) of a fresh zip of two made lists, the first of ints -/
theorem call_dict_zip {z TI TO i1 i2 l1 l2 : Addr} {xs ys : Array Value} {ps : List (Int × Value)} {n : Nat} {Q : Value → Shared → Prop} (hh : A.handled = none) (D : ZipApart z TI TO i1 i2 l1 l2) (hn : ps.length = n + 1) (h50 : n + 1 ≤ 50)
    (hps : ∀ i, i < n + 1 → ∃ k t v, xs[i]? = some (.int k t) ∧ ys[i]? = some v ∧ ps[i]? = some (k, v)) (hend : xs[n + 1]? = none)
    (hz : IsZip s.heap z TI TO .none) (hTO : IsPair s.heap TO .none .none) (Z : ZAt s.heap z TI TO i1 i2 l1 l2 xs ys 0)
    (h : ∀ d h' tk, s.heap.get? d = none → h'.DictOf (intKind prog w) d (putAll [] ps) → (∀ b o, b ≠ z → b ≠ TO → b ≠ i1 → b ≠ i2 → s.heap.get? b = some o → h'.get? b = some o) → (∀ b o, s.heap.get? b = some o → b < d) → Q (.ref d) { s with heap := h', toks := tk }) :
    wpAny (model prog w) A (call (.type "dict") [.ref z]) Q E s := by
  have fresh : ∀ {b o}, s.heap.get? b = some o → b ≠ s.heap.objs.size := fun e => Nat.ne_of_lt (Heap.lt_size e)
  refine callType_codes (Q₁ := fun obj s₁ => obj = .ref s.heap.objs.size ∧ s₁ = { s with heap := s.heap.push { cls := .type "dict", data := .dict #[] } }) F.kt_called_dict (F.kt_typeCall_dict_1 _) F.entry_dict_init (kt_code_dict_new _ ⟨rfl, rfl⟩) ?_
  rintro obj s₁ ⟨rfl, rfl⟩
  have hnew : (s.heap.push { cls := .type "dict", data := .dict #[] }).DictOf (intKind prog w) s.heap.objs.size [] := Heap.DictOf.new s.heap
  have up : ∀ b o, s.heap.get? b = some o → (s.heap.push { cls := .type "dict", data := .dict #[] }).get? b = some o := fun b o e => Heap.get?_push_of_some _ e
  refine ⟨hnew.typeIs, F.args_dict_init_2 _ _, ?_⟩
  unfold Builtin.«dict.__init__»
  refine wpAny_bind ?_
  unfold Builtin.Dict.selfAndRest
  refine wpAny_bind (wpAny_notOrdered_dict hnew.typeIs ?_)
  show wpAny _ _ (pure (s.heap.objs.size, [Value.ref z])) _ _ _
  refine wpAny_pure ?_
  show wpAny _ _ (Builtin.Dict.updateFrom "dict.__init__" s.heap.objs.size (.ref z) [] .none) _ _ _
  unfold Builtin.Dict.updateFrom
  refine wpAny_bind (wpAny_typeOf (T := "zip") ⟨_, up _ _ hz, rfl⟩ ?_)
  rw [if_pos (by decide)]
  refine wpAny_bind (zip_no_keys (up _ _ hz) hh fun h₁ tk₁ hk₁ => ?_)
  simp only [Option.isNone_none, if_true]
  refine wpAny_bind (wpAny_rule (wpAny_bind ?_))
  have hz₁ : IsZip h₁ z TI TO .none := hk₁ _ _ (up _ _ hz)
  have hTO₁ : IsPair h₁ TO .none .none := hk₁ _ _ (up _ _ hTO)
  have Z₁ : ZAt h₁ z TI TO i1 i2 l1 l2 xs ys 0 := ⟨hk₁ _ _ (up _ _ Z.ti), Z.it1.at fun o e => hk₁ _ o (up _ o e), Z.it2.at fun o e => hk₁ _ o (up _ o e), Z.s1.at fun o e => hk₁ _ o (up _ o e), Z.s2.at fun o e => hk₁ _ o (up _ o e)⟩
  have hd₁ : h₁.DictOf (intKind prog w) s.heap.objs.size [] := hnew.at fun o e => hk₁ _ o e
  refine wpAny_pyIter_zip hz₁ (wpAny_pure ⟨plainId_quiet plain_dul _, ?_⟩)
  obtain ⟨oz, hoz⟩ : ∃ o, s.heap.get? z = some o := ⟨_, hz⟩
  have dz : z ≠ s.heap.objs.size := fresh hz
  have dTO : TO ≠ s.heap.objs.size := fresh hTO
  have d1 : TI ≠ s.heap.objs.size := fresh Z.ti
  have d2 : i1 ≠ s.heap.objs.size := by obtain ⟨_, e, _⟩ := Z.it1; exact fresh e
  have d3 : i2 ≠ s.heap.objs.size := by obtain ⟨_, e, _⟩ := Z.it2; exact fresh e
  have d4 : l1 ≠ s.heap.objs.size := by obtain ⟨_, e, _⟩ := Z.s1; exact fresh e
  have d5 : l2 ≠ s.heap.objs.size := by obtain ⟨_, e, _⟩ := Z.s2; exact fresh e
  obtain ⟨key, t, v, hx, hy, hp⟩ := hps 0 (by omega)
  show codeAny _ _ (.builtin "dict.update.loop" ⟨[.ref s.heap.objs.size, .ref z, .int 0 0, .none], []⟩) _ _
  refine dict_turn (k := key) (t := t) (v := v) (kvs := []) (T := 0) (by simp) (wpAny_pyNext_zip_item D hz₁ Z₁.ti hTO₁ Z₁.it1 Z₁.it2 Z₁.s1 Z₁.s2 hx hy fun h' a1 a2 a3 a4 a5 a6 a7 => ⟨_, rfl, ⟨_, a5, rfl, _, rfl⟩, hd₁.at fun o e => a7 _ o dz.symm dTO.symm d2.symm d3.symm e, fun h2 hd2 hs2 => ?_⟩)
  have lt₁ : ∀ {b o}, h₁.get? b = some o → h₁.objs.size ≠ b := fun e => Nat.ne_of_gt (Heap.lt_size e)
  have hdS : h₁.objs.size ≠ s.heap.objs.size := by obtain ⟨o, _, _, e, _⟩ := hd₁; exact lt₁ e
  have k2 : ∀ b o, b ≠ s.heap.objs.size → h'.get? b = some o → h2.get? b = some o := fun b o hb e => (hs2.2 b hb).trans e
  have Z' : ZAt h' z TI TO i1 i2 l1 l2 xs ys 1 := ⟨a7 _ _ D.TIz D.TITO D.TIi1 D.TIi2 Z₁.ti, a3, a4, Z₁.s1.at fun o e => a7 _ o D.l1z D.l1TO D.l1i1 D.l1i2 e, Z₁.s2.at fun o e => a7 _ o D.l2z D.l2TO D.l2i1 D.l2i2 e⟩
  refine dict_loopT (prog := prog) (w := w) (A := A.in1) hh D hn h50 hps hend dz d1 d2 d3 d4 d5 n 1 { s with heap := h2, toks := tk₁ + 1 } (stored [] key v) 0 1 false h₁.objs.size _ _ (by omega) (k2 _ _ dz a1) (k2 _ _ hdS a5) (lt₁ hz₁) (by obtain ⟨_, e, _⟩ := Z₁.it1; exact lt₁ e) (by obtain ⟨_, e, _⟩ := Z₁.it2; exact lt₁ e) hdS (Z'.keep k2 d1 d2 d3 d4 d5) hd2 (by simp [stored]) fun h3 tk hd3 hk3 => ?_
  refine ⟨rfl, h s.heap.objs.size h3 tk ?_ ?_ (fun b o b1 b2 b3 b4 e => hk3 b o b1 b2 b3 b4 (fresh e) (k2 b o (fresh e) (a7 b o b1 b2 b3 b4 (hk₁ b o (up b o e))))) fun b o e => Heap.lt_size e⟩
  · cases e : s.heap.get? s.heap.objs.size with
    | none => rfl
    | some o => exact absurd rfl (fresh e)
  · have e : ps = (key, v) :: ps.drop 1 := by
      cases ps with
      | nil => cases hn
      | cons a r => simp only [List.getElem?_cons_zero, Option.some.injEq] at hp; rw [hp]; rfl
    rw [e]
    exact hd3
end
end Mine
namespace Mine
set_option linter.unusedVariables false
inductive KV : List Value → List Value → List (Int × Value) → Prop
  | nil : KV [] [] []
  | cons (k : Int) (t : Tok) (v : Value) {xs ys ps} : KV xs ys ps → KV (.int k t :: xs) (v :: ys) ((k, v) :: ps)
theorem KV.len : ∀ {xs ys ps}, KV xs ys ps → xs.length = ps.length ∧ ys.length = ps.length
  | _, _, _, .nil => ⟨rfl, rfl⟩
  | _, _, _, .cons _ _ _ h => ⟨by simp [h.len.1], by simp [h.len.2]⟩
theorem KV.get : ∀ {xs ys ps}, KV xs ys ps → ∀ i, i < ps.length → ∃ k t v, xs[i]? = some (.int k t) ∧ ys[i]? = some v ∧ ps[i]? = some (k, v)
  | _, _, _, .cons k t v _, 0, _ => ⟨k, t, v, rfl, rfl, rfl⟩
  | _, _, _, .cons _ _ _ h, i + 1, hi => by
    obtain ⟨k, t, v, h1, h2, h3⟩ := h.get i (by simpa using hi)
    exact ⟨k, t, v, by simpa using h1, by simpa using h2, by simpa using h3⟩
section
variable {prog : Program} {w : World} {A : Around} {E : Value → Shared → Prop} {s : Shared} {h₀ : Heap} {L : Addr} {m : Str → Option Value} {news : List (Addr × Obj)} {Q : Value → Shared → Prop}
structure ZipHere (h₀ : Heap) (L : Addr) (news : List (Addr × Obj)) (h : Heap) (z l1 l2 : Addr) (xs ys : List Value) : Prop where
  all : ∃ TI TO i1 i2, ZipApart z TI TO i1 i2 l1 l2 ∧ IsZip h z TI TO .none ∧ IsPair h TO .none .none ∧ ZAt h z TI TO i1 i2 l1 l2 xs.toArray ys.toArray 0 ∧
    ∀ b, b = z ∨ b = TO ∨ b = i1 ∨ b = i2 → h₀.get? b = none ∧ L ≠ b ∧ ∀ p ∈ news, p.1 ≠ b
theorem kzip {l1 l2 : Addr} {xs ys : List Value} {c1 c2 : Nat} (F : Fr h₀ L s.heap m) (N : News h₀ L s.heap news) (h1 : (l1, W.listOf xs.toArray c1) ∈ news) (h2 : (l2, W.listOf ys.toArray c2) ∈ news)
    (h : ∀ z h', Fr h₀ L h' m → News h₀ L h' news → ZipHere h₀ L news h' z l1 l2 xs ys → Q (.ref z) { s with heap := h' }) :
    wpAny (model prog w) A (call (.type "zip") [.ref l1, .ref l2]) Q E s := by
  have hl1 := isL N h1
  have hl2 := isL N h2
  have hlt1 : l1 < s.heap.objs.size := Heap.lt_size (N _ h1).1
  have hlt2 : l2 < s.heap.objs.size := Heap.lt_size (N _ h2).1
  refine call_zip_2 hl1 hl2 fun h' hz hTI hTO hi1 hi2 hsz hk => ?_
  refine h _ h' (F.keeps hk) (N.grown hk) ⟨⟨_, _, _, _, ktu_apart _ _ _ hlt1 hlt2, hz, hTO, ⟨hTI, hi1, hi2, hl1.at fun o e => hk _ o e, hl2.at fun o e => hk _ o e⟩, fun b hb => ?_⟩⟩
  have hge : s.heap.objs.size ≤ b := by
    rcases hb with rfl | rfl | rfl | rfl
    · exact Nat.le_add_right _ _
    · exact Nat.le_add_right _ _
    · exact Nat.le_refl _
    · exact Nat.le_add_right _ _
  refine ⟨ktu_new F hge, Nat.ne_of_lt (Nat.lt_of_lt_of_le F.ns.lt hge), fun p hp => Nat.ne_of_lt (Nat.lt_of_lt_of_le (Heap.lt_size (N p hp).1) hge)⟩
theorem kdict {z l1 l2 : Addr} {xs ys : List Value} {ps kvs : List (Int × Value)} (hh : A.handled = none) (F : Fr h₀ L s.heap m) (N : News h₀ L s.heap news) (Z : ZipHere h₀ L news s.heap z l1 l2 xs ys) (hkv : KV xs ys ps) (hn : 0 < ps.length) (h50 : ps.length ≤ 50)
    (hps : putAll [] ps = kvs)
    (h : ∀ d o h' tk, Fr h₀ L h' m → News h₀ L h' ((d, o) :: news) → (∀ q ∈ news, q.1 < d) → o.IsDictOf (intKind prog w) kvs → Q (.ref d) { s with heap := h', toks := tk }) :
    wpAny (model prog w) A (call (.type "dict") [.ref z]) Q E s := by
  obtain ⟨TI, TO, i1, i2, D, hz, hTO, Z1, off⟩ := Z.all
  obtain ⟨n, hn'⟩ : ∃ n, ps.length = n + 1 := ⟨ps.length - 1, by omega⟩
  refine call_dict_zip hh D hn' (by omega) (fun i hi => ?_) ?_ hz hTO Z1 fun d h' tk hd0 hd hk hlt => ?_
  · simpa using hkv.get i (by omega)
  · have := hkv.len.1
    simp only [List.getElem?_toArray]
    exact List.getElem?_eq_none (by omega)
  · obtain ⟨o, ho, hdo⟩ := Heap.dictOf_iff.mp hd
    have oz := off z (.inl rfl)
    have oTO := off TO (.inr (.inl rfl))
    have oi1 := off i1 (.inr (.inr (.inl rfl)))
    have oi2 := off i2 (.inr (.inr (.inr rfl)))
    have ne : ∀ {b o x}, h₀.get? b = some o → h₀.get? x = none → b ≠ x := fun e n q => by rw [q, n] at e; cases e
    have F' : Fr h₀ L h' m := ⟨F.ns.at' fun o e => hk L o oz.2.1 oTO.2.1 oi1.2.1 oi2.2.1 e, fun b o e => hk b o (ne e oz.1) (ne e oTO.1) (ne e oi1.1) (ne e oi2.1) (F.keep b o e), F.above⟩
    rw [hps] at hdo
    refine h d o h' tk F' (fun p hp => ?_) (fun q hq => hlt _ _ (N q hq).1) hdo
    rcases List.mem_cons.mp hp with rfl | hp
    · refine ⟨ho, fun e => ?_, ?_⟩
      · obtain ⟨oL, _, _, e1, _⟩ := F.ns
        dsimp only at e
        rw [e] at hd0
        rw [hd0] at e1
        cases e1
      · cases e : h₀.get? d with
        | none => rfl
        | some o' =>
          have := F.keep _ _ e
          rw [hd0] at this
          cases this
    · have hp' := N p hp
      exact ⟨hk _ _ (oz.2.2 p hp) (oTO.2.2 p hp) (oi1.2.2 p hp) (oi2.2.2 p hp) hp'.1, hp'.2⟩
end
end Mine
namespace Mine
section
variable {prog : Program} {w : World} {A : Around} {E : Value → Shared → Prop} {s : Shared} {h₀ : Heap} {L : Addr} {m : Str → Option Value} {news : List (Addr × Obj)} {Q : Value → Shared → Prop} {env : Env}
theorem comp_list {ax : Addr} {vs : List Value} {c : Nat} {scope : Scope} {x : Str} {elt : PySem.Expr} (R : Value → Value → Prop) (hh : A.handled = none) (F : Fr h₀ L s.heap m) (N : News h₀ L s.heap news) (hm : (ax, W.listOf vs.toArray c) ∈ news) (hlen : vs.length ≤ 1000)
    (hq : ∀ (C : Addr) (i : Nat) (v : Value) (s₃ : Shared) (m₃ : Str → Option Value) (E' : Value → Shared → Prop), vs[i]? = some v → s₃.heap.Ns C m₃ → m₃ x = some v → (∀ b o, s.heap.get? b = some o → s₃.heap.get? b = some o) → wpAny (model prog w) A (eval elt (compEnv scope C env)) (fun y s₄ => R v y ∧ Keeps s₃ s₄) E' s₃)
    (done : ∀ D ys c h' tk, Fr h₀ L h' m → News h₀ L h' ((D, W.listOf (List.toArray ys) c) :: news) → Paired R vs ys → Q (.ref D) { s with heap := h', toks := tk }) :
    wpAny (model prog w) A (pyIter (.ref ax)) (CompPost prog w A env scope x [] elt Q) E s := by
  have hl := isL N hm
  have hlt : ax < s.heap.objs.size := Heap.lt_size (N _ hm).1
  have up : ∀ (h3 : Heap), (∀ b o, b ∉ [s.heap.objs.size] → (s.heap.push { cls := .type "list_iterator", data := .fields #[.ref ax, .int 0 0] }).get? b = some o → h3.get? b = some o) → ∀ b o, s.heap.get? b = some o → h3.get? b = some o :=
    fun h3 hk b o e => hk b o (fun hx => Nat.lt_irrefl _ (by have := Heap.lt_size e; rwa [List.mem_singleton.mp hx] at this)) (Heap.get?_push_of_some _ e)
  refine wpAny_pyIter_list hl ⟨fun _ => true, R, s.heap.objs.size, [s.heap.objs.size, ax], [s.heap.objs.size], vs.toArray.size, _, _, rfl, Walks.list hh _ _ (Nat.ne_of_lt hlt) vs.toArray, ?_, ⟨⟨_, Heap.get?_push_size _ rfl, rfl, rfl⟩, hl.push _⟩, ?_, ⟨?_, ?_⟩, ?_⟩
  · rw [sizeLine_eq, List.size_toArray]; omega
  · intro b hb
    show b < (s.heap.push _).objs.size
    rw [Heap.size_push]
    have hb' : b = s.heap.objs.size ∨ b = ax := by simpa using hb
    rcases hb' with rfl | rfl
    · exact Nat.lt_succ_self _
    · exact Nat.lt_succ_of_lt hlt
  · intro C i v s₃ m₃ E' hP hn hx hk _
    simp only [List.forIn_nil]
    exact wpAny_pure ⟨rfl, s₃.heap, s₃.toks, rfl, fun _ _ e => e⟩
  · intro C i v s₃ m₃ E' hP _ hn hx hk _
    exact hq C i v s₃ m₃ E' (by simpa using hP) hn hx (up _ hk)
  · intro D h' tk ys vs' hnew hl' hpl hlen' hP hF hk
    have e : vs' = vs := by simpa using list_of_places hlen' hP
    subst e
    have keep : ∀ b o, s.heap.get? b = some o → h'.get? b = some o := up h' hk
    have hD0 : s.heap.get? D = none := by
      cases e : s.heap.get? D with
      | none => rfl
      | some o => rw [Heap.get?_push_of_some _ e] at hnew; cases hnew
    obtain ⟨n, hpl'⟩ := hpl
    have hF' : Paired R vs' ys.toList := by
      have e2 : vs'.filter (fun _ => true) = vs' := by simp
      rw [e2] at hF
      exact hF
    refine done D ys.toList n h' tk (F.keeps keep) (fun p hp => ?_) hF'
    rcases List.mem_cons.mp hp with rfl | hp
    · refine ⟨by rw [Array.toArray_toList]; exact hpl', fun e => ?_, ?_⟩
      · obtain ⟨oL, _, _, e1, _⟩ := F.ns
        dsimp only at e
        rw [e] at hD0
        rw [hD0] at e1
        cases e1
      · cases e : h₀.get? D with
        | none => rfl
        | some o' =>
          have := F.keep _ _ e
          rw [hD0] at this
          cases this
    · exact N.grown keep p hp
end
end Mine
namespace Mine
noncomputable def codL : List (Str × Int) := [(Str.ofString "<", 245), (Str.ofString ">", 246), (Str.ofString "<=", 254), (Str.ofString ">=", 255), (Str.ofString "==", 252), (Str.ofString "!=", 253), (Str.ofString "%", 249), (Str.ofString "&", 244), (Str.ofString "|", 243)]
noncomputable def RS (v y : Value) : Prop := ∃ sg t t' n, v = .str sg t ∧ y = .int n t' ∧ codL.lookup sg = some n
theorem RS.mk' {sg : Str} {t t' : Tok} {n : Int} (h : codL.lookup sg = some n) : RS (.str sg t) (.int n t') := ⟨sg, t, t', n, rfl, rfl, h⟩
theorem pr_cons {sg : Str} {t : Tok} {vs ys : List Value} {n : Int} (hn : codL.lookup sg = some n) (h : Paired RS (.str sg t :: vs) ys) : ∃ t' ys', ys = .int n t' :: ys' ∧ Paired RS vs ys' := by
  cases h with
  | cons h1 h2 =>
    obtain ⟨sg', t', t'', n', e1, e2, e3⟩ := h1
    cases e1
    subst e2
    rw [hn] at e3
    cases e3
    exact ⟨_, _, rfl, h2⟩
theorem pr_nil {ys : List Value} (h : Paired RS [] ys) : ys = [] := by cases h; rfl
theorem pr_nine {t0 t1 t2 t3 t4 t5 t6 t7 t8 : Tok} {ys : List Value}
    (h : Paired RS [.str (Str.ofString "<") t0, .str (Str.ofString ">") t1, .str (Str.ofString "<=") t2, .str (Str.ofString ">=") t3, .str (Str.ofString "==") t4, .str (Str.ofString "!=") t5, .str (Str.ofString "%") t6, .str (Str.ofString "&") t7, .str (Str.ofString "|") t8] ys) :
    ∃ u0 u1 u2 u3 u4 u5 u6 u7 u8, ys = [.int 245 u0, .int 246 u1, .int 254 u2, .int 255 u3, .int 252 u4, .int 253 u5, .int 249 u6, .int 244 u7, .int 243 u8] := by
  obtain ⟨u0, y0, e0, h0⟩ := pr_cons (n := 245) (by decide +kernel) h
  obtain ⟨u1, y1, e1, h1⟩ := pr_cons (n := 246) (by decide +kernel) h0
  obtain ⟨u2, y2, e2, h2⟩ := pr_cons (n := 254) (by decide +kernel) h1
  obtain ⟨u3, y3, e3, h3⟩ := pr_cons (n := 255) (by decide +kernel) h2
  obtain ⟨u4, y4, e4, h4⟩ := pr_cons (n := 252) (by decide +kernel) h3
  obtain ⟨u5, y5, e5, h5⟩ := pr_cons (n := 253) (by decide +kernel) h4
  obtain ⟨u6, y6, e6, h6⟩ := pr_cons (n := 249) (by decide +kernel) h5
  obtain ⟨u7, y7, e7, h7⟩ := pr_cons (n := 244) (by decide +kernel) h6
  obtain ⟨u8, y8, e8, h8⟩ := pr_cons (n := 243) (by decide +kernel) h7
  have e9 := pr_nil h8
  subst e9
  subst e8
  subst e7
  subst e6
  subst e5
  subst e4
  subst e3
  subst e2
  subst e1
  subst e0
  exact ⟨u0, u1, u2, u3, u4, u5, u6, u7, u8, rfl⟩
theorem nine_at {v : Value} {i : Nat} {t0 t1 t2 t3 t4 t5 t6 t7 t8 : Tok} (h : [Value.str (Str.ofString "<") t0, .str (Str.ofString ">") t1, .str (Str.ofString "<=") t2, .str (Str.ofString ">=") t3, .str (Str.ofString "==") t4, .str (Str.ofString "!=") t5, .str (Str.ofString "%") t6, .str (Str.ofString "&") t7, .str (Str.ofString "|") t8][i]? = some v) :
    v = .str (Str.ofString "<") t0 ∨ v = .str (Str.ofString ">") t1 ∨ v = .str (Str.ofString "<=") t2 ∨ v = .str (Str.ofString ">=") t3 ∨ v = .str (Str.ofString "==") t4 ∨ v = .str (Str.ofString "!=") t5 ∨ v = .str (Str.ofString "%") t6 ∨ v = .str (Str.ofString "&") t7 ∨ v = .str (Str.ofString "|") t8 := by
  have := List.mem_of_getElem? h
  simpa using this
noncomputable def kvsL : List (Int × Value) := [(245, .ref 53), (246, .ref 88), (254, .ref 60), (255, .ref 81), (252, .ref 67), (253, .ref 74), (249, .ref 102), (244, .ref 95), (243, .ref 109)]
theorem kvs_put : putAll [] kvsL = kvsL := by simp [putAll, kvsL, stored]
end Mine
namespace Mine
set_option linter.unusedVariables false
inductive PilIs : List Value → List PV → Prop
  | nil : PilIs [] []
  | i (n : Int) (t : Tok) {vs pl} : PilIs vs pl → PilIs (vs ++ [.int n t]) (.i n :: pl)
  | b (v : Bool) {vs pl} : PilIs vs pl → PilIs (vs ++ [.bool v]) (.b v :: pl)
theorem PilIs.len : ∀ {vs pl}, PilIs vs pl → vs.length = pl.length
  | _, _, .nil => rfl
  | _, _, .i _ _ h => by simp [h.len]
  | _, _, .b _ h => by simp [h.len]
theorem stepM_len {x : Int} {pl pl' : List PV} {n : Int} (h : stepM x pl n = some pl') : pl'.length ≤ pl.length + 1 := by
  unfold stepM at h
  split at h
  · split at h
    · obtain ⟨r, _, rfl⟩ := Option.map_eq_some_iff.mp h
      simp
    · cases h
  · cases h; simp
theorem PilIs.one {vs : List Value} {b : Bool} (h : PilIs vs [.b b]) : vs = [.bool b] := by
  generalize e : [PV.b b] = pl at h
  cases h with
  | nil => cases e
  | i => cases e
  | b v h =>
    cases e
    cases h
    rfl
abbrev stP : List Str := [Str.ofString "number", Str.ofString "upper"]
abbrev stX : List Str := [Str.ofString "x", Str.ofString "pile", Str.ofString "number", Str.ofString "upper"]
section
variable {prog : Program} {w : World} {A : Around} {E : Value → Shared → Prop} {s : Shared} {h₀ : Heap} {env : Env} {target : PySem.Expr} {body : List Stmt} {Q : Flow → Shared → Prop}
noncomputable def JPt (m₀ : Str → Option Value) (lp : Addr) (tl : List (Addr × Obj)) (pl : List PV) (m' : Str → Option Value) (n' : List (Addr × Obj)) : Prop :=
  ∃ vs' c', Shp stP [] m₀ m' ∧ n' = (lp, W.listOf (List.toArray vs') c') :: tl ∧ PilIs vs' pl
theorem loop_pile {lr lp : Addr} {vr : List Value} {cr : Nat} {row : List Int} {xv : Int} {bv : Bool} {m₀ : Str → Option Value} {tl : List (Addr × Obj)}
    (hh : A.handled = none) (F : Fr h₀ env.locals s.heap m₀) (N : News h₀ env.locals s.heap ((lp, W.listOf #[] 0) :: tl)) (hm : (lr, W.listOf vr.toArray cr) ∈ tl) (hi : IntsAre vr row)
    (h100 : row.length ≤ 100) (hok : runM xv row = some [.b bv])
    (turn : ∀ pl pl' n nt vs c (u : Str → Option Value) h tk I o, PilIs vs pl → pl.length ≤ 100 → stepM xv pl n = some pl' → lp < I →
      Fr h₀ env.locals h (fun z => if stP.contains z then u z else m₀ z) → News h₀ env.locals h ((I, o) :: (lp, W.listOf vs.toArray c) :: tl) →
      wpAny (model prog w) A (assign target env (.int n nt)) (fun _ s₂ => wpAny (model prog w) A (execs body env) (MPost h₀ env.locals [(I, o)] (JPt m₀ lp tl pl') { s with heap := h, toks := tk } Q) E s₂) E { s with heap := h, toks := tk })
    (done : ∀ c (u : Str → Option Value) h tk, Fr h₀ env.locals h (fun z => if stP.contains z then u z else m₀ z) → News h₀ env.locals h ((lp, W.listOf #[.bool bv] c) :: tl) → Q .next { s with heap := h, toks := tk }) :
    wpAny (model prog w) A (pyIter (.ref lr)) (fun it s₂ => TurnsAt prog w A h₀ env target body Q E it s₂) E s := by
  refine my_turns (fun r m n => ∃ pl rest, IntsAre r rest ∧ rest.foldlM (stepM xv) pl = some [.b bv] ∧ pl.length + rest.length ≤ 100 ∧ JPt m₀ lp tl pl m n) hh F N (.tail _ hm) ?_ ?_ ?_ ?_
  · rintro r m n ⟨pl, rest, h1, h2, h3, vs, c, h4, rfl, h5⟩
    exact ⟨rfl, .tail _ hm⟩
  · exact ⟨[], row, hi, hok, by simpa using h100, [], 0, ⟨List.forall_mem_nil _, fun _ _ _ => rfl⟩, rfl, .nil⟩
  · rintro v r m n h tk I o ⟨pl, rest, h1, h2, h3, vs, c, h4, rfl, h5⟩ hI F' N'
    obtain ⟨k, t, rest', rfl, rfl, h1'⟩ := intsAre_cons h1
    obtain ⟨u, rfl⟩ := h4.ex
    rw [List.foldlM_cons] at h2
    cases hs : stepM xv pl k with
    | none => rw [hs] at h2; cases h2
    | some pl' =>
      rw [hs] at h2
      have hlen := stepM_len hs
      rw [List.length_cons] at h3
      refine wpAny_mono (turn pl pl' k t vs c u h tk I o h5 (by omega) hs (hI _ (.head _)) F' N') (fun _ s₂ x => wpAny_mono x (fun f s₃ y => ?_) fun _ _ e => e) fun _ _ e => e
      cases f with
      | ret v => exact y
      | brk => exact y
      | next => obtain ⟨h', tk', m', n', a, b, c, d⟩ := y; exact ⟨h', tk', m', n', a, b, c, pl', rest', h1', h2, by omega, d⟩
      | cont => obtain ⟨h', tk', m', n', a, b, c, d⟩ := y; exact ⟨h', tk', m', n', a, b, c, pl', rest', h1', h2, by omega, d⟩
  · rintro m n h tk ⟨pl, rest, h1, h2, h3, vs, c, h4, rfl, h5⟩ F' N'
    cases h1
    obtain ⟨u, rfl⟩ := h4.ex
    have h2' : pl = [.b bv] := Option.some.inj h2
    subst h2'
    rw [h5.one] at N'
    exact done c u h tk F' N'
noncomputable def JXt (row : List Int) (m₀ : Str → Option Value) (lh : Addr) (tl : List (Addr × Obj)) (hs : List Int) (m' : Str → Option Value) (n' : List (Addr × Obj)) : Prop :=
  ∃ vs' c', Shp stX [] m₀ m' ∧ n' = (lh, W.listOf (List.toArray vs') c') :: tl ∧ IntsAre vs' hs
theorem loop_points {lp lh : Addr} {vp : List Value} {cp : Nat} {row pts : List Int} {m₀ : Str → Option Value} {tl : List (Addr × Obj)}
    (hh : A.handled = none) (F : Fr h₀ env.locals s.heap m₀) (N : News h₀ env.locals s.heap ((lh, W.listOf #[] 0) :: tl)) (hm : (lp, W.listOf vp.toArray cp) ∈ tl) (hi : IntsAre vp pts)
    (h1000 : pts.length ≤ 1000) (hok : ∀ x ∈ pts, ∃ b, runM x row = some [.b b])
    (turn : ∀ x xt b hs vs c (u : Str → Option Value) h tk I o, IntsAre vs hs → hs.length ≤ 1000 → runM x row = some [.b b] → lh < I →
      Fr h₀ env.locals h (fun z => if stX.contains z then u z else m₀ z) → News h₀ env.locals h ((I, o) :: (lh, W.listOf vs.toArray c) :: tl) →
      wpAny (model prog w) A (assign target env (.int x xt)) (fun _ s₂ => wpAny (model prog w) A (execs body env) (MPost h₀ env.locals [(I, o)] (JXt row m₀ lh tl (if b then hs ++ [x] else hs)) { s with heap := h, toks := tk } Q) E s₂) E { s with heap := h, toks := tk })
    (done : ∀ vs c (u : Str → Option Value) h tk, IntsAre vs (pts.filter (heldB row)) → Fr h₀ env.locals h (fun z => if stX.contains z then u z else m₀ z) → News h₀ env.locals h ((lh, W.listOf vs.toArray c) :: tl) → Q .next { s with heap := h, toks := tk }) :
    wpAny (model prog w) A (pyIter (.ref lp)) (fun it s₂ => TurnsAt prog w A h₀ env target body Q E it s₂) E s := by
  refine my_turns (fun r m n => ∃ pre rest, IntsAre r rest ∧ pts = pre ++ rest ∧ JXt row m₀ lh tl (pre.filter (heldB row)) m n) hh F N (.tail _ hm) ?_ ?_ ?_ ?_
  · rintro r m n ⟨pre, rest, h1, h2, vs, c, h4, rfl, h5⟩
    exact ⟨rfl, .tail _ hm⟩
  · exact ⟨[], pts, hi, rfl, [], 0, ⟨List.forall_mem_nil _, fun _ _ _ => rfl⟩, rfl, .nil⟩
  · rintro v r m n h tk I o ⟨pre, rest, h1, h2, vs, c, h4, rfl, h5⟩ hI F' N'
    obtain ⟨k, t, rest', rfl, rfl, h1'⟩ := intsAre_cons h1
    obtain ⟨u, rfl⟩ := h4.ex
    obtain ⟨b, hb⟩ := hok k (by rw [h2]; simp)
    have hl : (pre.filter (heldB row)).length ≤ 1000 := by
      have := List.length_filter_le (heldB row) pre
      have h3 := congrArg List.length h2
      simp at h3
      omega
    refine wpAny_mono (turn k t b _ vs c u h tk I o h5 hl hb (hI _ (.head _)) F' N') (fun _ s₂ x => wpAny_mono x (fun f s₃ y => ?_) fun _ _ e => e) fun _ _ e => e
    have hf : (if b then pre.filter (heldB row) ++ [k] else pre.filter (heldB row)) = (pre ++ [k]).filter (heldB row) := by
      rw [List.filter_append]
      have : heldB row k = b := by
        unfold heldB
        rw [hb]
        cases b <;> decide
      cases b <;> simp [this]
    rw [hf] at y
    cases f with
    | ret v => exact y
    | brk => exact y
    | next => obtain ⟨h', tk', m', n', a, b, c, d⟩ := y; exact ⟨h', tk', m', n', a, b, c, pre ++ [k], rest', h1', by simp [h2], d⟩
    | cont => obtain ⟨h', tk', m', n', a, b, c, d⟩ := y; exact ⟨h', tk', m', n', a, b, c, pre ++ [k], rest', h1', by simp [h2], d⟩
  · rintro m n h tk ⟨pre, rest, h1, h2, vs, c, h4, rfl, h5⟩ F' N'
    cases h1
    obtain ⟨u, rfl⟩ := h4.ex
    rw [List.append_nil] at h2
    subst h2
    exact done vs c u h tk h5 F' N'
end
section
variable {prog : Program} {w : World} {A : Around} {E : Value → Shared → Prop} {s : Shared} {h₀ : Heap} {L D : Addr} {m : Str → Option Value} {news news' : List (Addr × Obj)} {vs : List Value} {n : Nat} {y : Value} {Q : Value → Shared → Prop}
theorem my_pop (F : Fr h₀ L s.heap m) (N : News h₀ L s.heap news) (U : Upd D (W.listOf (vs ++ [y]).toArray n) (W.listOf vs.toArray (n + 1)) news news') (hz : vs.length + 1 ≤ sizeLine)
    (h : ∀ h', Fr h₀ L h' m → News h₀ L h' news' → Q y { s with heap := h' }) : wpAny (model prog w) A (call (.builtin "list.pop") [.ref D]) Q E s :=
  kl_pop F N (kpa_last y vs) U (by simpa using hz) h
theorem my_append (F : Fr h₀ L s.heap m) (N : News h₀ L s.heap news) (U : Upd D (W.listOf vs.toArray n) (W.listOf (vs ++ [y]).toArray (n + 1)) news news') (hz : vs.length ≤ sizeLine)
    (h : ∀ h', Fr h₀ L h' m → News h₀ L h' news' → Q .none { s with heap := h' }) : wpAny (model prog w) A (call (.builtin "list.append") [.ref D, y]) Q E s :=
  append_K (hsz := by simpa using hz) F N (by rw [List.push_toArray]; exact U) h
end
end Mine
namespace Mine
theorem step_cases {x : Int} {pl pl' : List PV} {n : Int} (h : stepM x pl n = some pl') :
    (n = 256 ∧ pl' = .i x :: pl) ∨ (256 < n ∧ pl' = .i (n - 4100) :: pl) ∨ (∃ u l rest r, n < 256 ∧ pl = u :: l :: rest ∧ deedOf n l u = some r ∧ pl' = r :: rest) := by
  unfold stepM at h
  split at h
  · rename_i hn
    split at h
    · rename_i u l rest
      obtain ⟨r, h1, rfl⟩ := Option.map_eq_some_iff.mp h
      exact .inr (.inr ⟨u, l, rest, r, hn, rfl, h1, rfl⟩)
    · cases h
  · rename_i hn
    cases h
    by_cases h2 : n = 256
    · exact .inl ⟨h2, by rw [if_pos h2]⟩
    · exact .inr (.inl ⟨by omega, by rw [if_neg h2]⟩)
theorem ite_some {c : Prop} [Decidable c] {α : Type} {x r : α} {e : Option α} (h : (if c then some x else e) = some r) : (c ∧ r = x) ∨ e = some r := by
  by_cases q : c
  · rw [if_pos q] at h
    exact .inl ⟨q, (Option.some.inj h).symm⟩
  · rw [if_neg q] at h
    exact .inr h
theorem deed_cases {n : Int} {l u r : PV} (h : deedOf n l u = some r) :
    (∃ a b, l = .i a ∧ u = .i b ∧ ((n = 245 ∧ r = .b (decide (a < b))) ∨ (n = 246 ∧ r = .b (decide (b < a))) ∨ (n = 254 ∧ r = .b (decide (a ≤ b))) ∨ (n = 255 ∧ r = .b (decide (b ≤ a))) ∨ (n = 252 ∧ r = .b (decide (a = b))) ∨
      (n = 253 ∧ r = .b (!decide (a = b))) ∨ (n = 249 ∧ 0 < b ∧ r = .i (Int.fmod a b)))) ∨ (∃ a b, l = .b a ∧ u = .b b ∧ ((n = 244 ∧ r = .b (a && b)) ∨ (n = 243 ∧ r = .b (a || b)))) := by
  cases l with
  | i a =>
    cases u with
    | i b =>
      refine .inl ⟨a, b, rfl, rfl, ?_⟩
      rcases ite_some h with ⟨e, q⟩ | h
      · exact .inl ⟨e, q⟩
      refine .inr ?_
      rcases ite_some h with ⟨e, q⟩ | h
      · exact .inl ⟨e, q⟩
      refine .inr ?_
      rcases ite_some h with ⟨e, q⟩ | h
      · exact .inl ⟨e, q⟩
      refine .inr ?_
      rcases ite_some h with ⟨e, q⟩ | h
      · exact .inl ⟨e, q⟩
      refine .inr ?_
      rcases ite_some h with ⟨e, q⟩ | h
      · exact .inl ⟨e, q⟩
      refine .inr ?_
      rcases ite_some h with ⟨e, q⟩ | h
      · exact .inl ⟨e, q⟩
      refine .inr ?_
      rcases ite_some h with ⟨e, q⟩ | h
      · exact ⟨e.1, e.2, q⟩
      · cases h
    | b b => cases h
  | b a =>
    cases u with
    | i b => cases h
    | b b =>
      refine .inr ⟨a, b, rfl, rfl, ?_⟩
      rcases ite_some h with ⟨e, q⟩ | h
      · exact .inl ⟨e, q⟩
      refine .inr ?_
      rcases ite_some h with ⟨e, q⟩ | h
      · exact ⟨e, q⟩
      · cases h
theorem PilIs.ii {vs : List Value} {a b : Int} {pl : List PV} (h : PilIs vs (.i b :: .i a :: pl)) : ∃ vs0 ta tb, vs = vs0 ++ [.int a ta] ++ [.int b tb] ∧ PilIs vs0 pl := by
  cases h with
  | i n t h =>
    cases h with
    | i n t h => exact ⟨_, _, _, rfl, h⟩
theorem PilIs.bb {vs : List Value} {a b : Bool} {pl : List PV} (h : PilIs vs (.b b :: .b a :: pl)) : ∃ vs0, vs = vs0 ++ [.bool a] ++ [.bool b] ∧ PilIs vs0 pl := by
  cases h with
  | b n h =>
    cases h with
    | b n h => exact ⟨_, rfl, h⟩
theorem pack {P : Prop} {h₀ h : Heap} {L a : Addr} {o : Obj} {tl : List (Addr × Obj)} (N : News h₀ L h ((a, o) :: tl)) (k : ∀ tl', (∀ p ∈ tl, p ∈ tl') → (∀ p ∈ tl', p ∈ tl) → News h₀ L h ((a, o) :: tl') → P) : P :=
  k tl (fun _ h => h) (fun _ h => h) N
theorem pack_lt {d : Addr} {tl tl' : List (Addr × Obj)} (h : AllLt d tl) (s : ∀ p ∈ tl', p ∈ tl) : AllLt d tl' := by
  have : ∀ p ∈ tl', p.1 < d := fun p hp => ktn_ltOf h p (s p hp)
  exact allLt_of this
end Mine
namespace Mine
theorem my_dget {prog : Program} {w : World} {A : Around} {E : Value → Shared → Prop} {s : Shared} {h₀ : Heap} {L d : Addr} {news : List (Addr × Obj)} {o : Obj} {k : Int} {u : Tok} {v : Value} {value slice : PySem.Expr} {Q : Value → Shared → Prop} (N : News h₀ L s.heap news) (hp : (d, o) ∈ news) (hd : o.IsDictOf (intKind prog w) kvsL) (hl : valueAt kvsL k = some v)
    (h : Q v { s with toks := s.toks + 1 })
    (hs : subscripted slice false (.ref d) (.int k u) = operate [.ref d, .int k u] (getItem (.ref d) (.int k u))) : wpAny (model prog w) A (subscriptTail value slice (.ref d) (.int k u)) Q E s :=
  kdt_tail N hp hd (kdt_getItem N hp hd (intKind_is _ _ _ _) hl h) hs
end Mine
namespace Mine
theorem JPt.fin {h₀ : Heap} {L : Addr} {its all : List (Addr × Obj)} {s₁ : Shared} {h' : Heap} {tk : Nat} {lp : Addr} {tl : List (Addr × Obj)} {m₀ m' : Str → Option Value} {pl : List PV} {vs' : List Value} {c' : Nat} {Q : Flow → Shared → Prop}
    (F : Fr h₀ L h' m') (N : News h₀ L h' all) (hI : ∀ p ∈ its, p ∈ all) (hn : ∀ p ∈ (lp, W.listOf (List.toArray vs') c') :: tl, p ∈ all) (hS : Shp stP [] m₀ m') (hp : PilIs vs' pl) :
    MPost h₀ L its (JPt m₀ lp tl pl) s₁ Q .next { s₁ with heap := h', toks := tk } := MPost.next _ F N hI hn ⟨_, _, hS, rfl, hp⟩
theorem JXt.fin {h₀ : Heap} {L : Addr} {its all : List (Addr × Obj)} {s₁ : Shared} {h' : Heap} {tk : Nat} {row : List Int} {lh : Addr} {tl : List (Addr × Obj)} {m₀ m' : Str → Option Value} {hs : List Int} {vs' : List Value} {c' : Nat} {Q : Flow → Shared → Prop}
    (F : Fr h₀ L h' m') (N : News h₀ L h' all) (hI : ∀ p ∈ its, p ∈ all) (hn : ∀ p ∈ (lh, W.listOf (List.toArray vs') c') :: tl, p ∈ all) (hS : Shp stX [] m₀ m') (hp : IntsAre vs' hs) :
    MPost h₀ L its (JXt row m₀ lh tl hs) s₁ Q .next { s₁ with heap := h', toks := tk } := MPost.next _ F N hI hn ⟨_, _, hS, rfl, hp⟩
end Mine
namespace Mine
set_option linter.unusedVariables false
section
variable {prog : Program} {w : World} {A : Around} {E : Value → Shared → Prop} {s : Shared} {env : Env} {h₀ : Heap} {body orelse : List Stmt} {Q : Flow → Shared → Prop} {x : Str} {px : Pos}
noncomputable def ElseAt (prog : Program) (w : World) (A : Around) (env : Env) (target : PySem.Expr) (body orelse : List Stmt) (Q : Flow → Shared → Prop) (E : Value → Shared → Prop) (it : Value) (s₂ : Shared) : Prop :=
  codeAny (model prog w) A (.forLoop target it body orelse env) (fun r s' => match r with | .ok f => Q f s' | .error e => cameBackBy (model prog w) A env E e s') s₂
theorem For_else {target iter : PySem.Expr} {pos : Pos}
    (h : wpAny (model prog w) A (eval iter env) (fun xv s₁ => wpAny (model prog w) A (pyIter xv) (fun it s₂ => ElseAt prog w A env target body orelse Q E it s₂) E s₁) E s)
    (hs : ∀ x, foldedSetIterable iter env x = pure x := by intro _; rfl) : wpAny (model prog w) A (exec (.For target iter body orelse pos) env) Q E s := wpAny_For h hs
theorem range_else {r : Addr} {a₀ b₀ : Int} {t₀ u₀ v₀ : Tok} {n : Nat} {m₀ : Str → Option Value} {news : List (Addr × Obj)} (J : Nat → (Str → Option Value) → List (Addr × Obj) → Prop)
    (hh : A.handled = none) (hr : IsRange s.heap r a₀ b₀ 1 t₀ u₀ v₀) (hsmall : Builtin.Range.small a₀ b₀ 1 = true) (hn : Builtin.Range.rangeSize a₀ b₀ 1 = (n : Int)) (F : Fr h₀ env.locals s.heap m₀) (N : News h₀ env.locals s.heap news)
    (hE : PassesOwn (model prog w) A env E) (h0 : J 0 m₀ news) (hadr : ∀ i m nx, J i m nx → nx.map (·.1) = news.map (·.1))
    (turn : ∀ (i : Nat) t m₁ nx h tk I o, i < n → J i m₁ nx → (∀ p ∈ nx, p.1 < I) → Fr h₀ env.locals h m₁ → News h₀ env.locals h ((I, o) :: nx) →
      wpAny (model prog w) A (assign (.Name x px) env (.int (a₀ + i) t)) (fun _ s₂ => wpAny (model prog w) A (execs body env) (MPost h₀ env.locals [(I, o)] (J (i + 1)) { s with heap := h, toks := tk } Q) E s₂) E { s with heap := h, toks := tk })
    (done : ∀ m₁ nx h tk, J n m₁ nx → Fr h₀ env.locals h m₁ → News h₀ env.locals h nx → wpAny (model prog w) A (execs orelse env) Q E { s with heap := h, toks := tk }) :
    wpAny (model prog w) A (pyIter (.ref r)) (fun it s₂ => ElseAt prog w A env (.Name x px) body orelse Q E it s₂) E s := by
  refine wpAny_pyIter_range hr hsmall ?_
  have W := Walks.range (prog := prog) (w := w) hh s.heap.objs.size a₀ 1 n
  have hI0 : h₀.get? s.heap.objs.size = none := next_is_new F
  have hIL : s.heap.objs.size ≠ env.locals := fun e => absurd F.ns.lt (e ▸ Nat.lt_irrefl _)
  have hlt : ∀ p ∈ news, p.1 < s.heap.objs.size := fun p hp => Heap.lt_size (N p hp).1
  have off : ∀ i m nx, J i m nx → ∀ p ∈ nx, p.1 < s.heap.objs.size := fun i m nx hj p hp => by
    have h1 : p.1 ∈ nx.map (·.1) := List.mem_map.mpr ⟨p, hp, rfl⟩
    rw [hadr _ _ _ hj] at h1
    obtain ⟨q, hq, e⟩ := List.mem_map.mp h1
    rw [← e]; exact hlt q hq
  refine codeAny_forLoop_any
    (fun k s' => ∃ h' tk m' nx i, s' = { s with heap := h', toks := tk } ∧ IsRangeIter h' s.heap.objs.size (a₀ + (i : Nat) * 1) ((n : Int) - (i : Nat)) 1 ∧ Fr h₀ env.locals h' m' ∧ News h₀ env.locals h' nx ∧ J i m' nx ∧ i ≤ n ∧ k = n + 1 - i) ?_ (n + 1)
    ⟨_, s.toks, m₀, news, 0, rfl, by rw [hn]; simpa using Heap.get?_push_size _ rfl, F.push _, fun p hp => ⟨Heap.get?_push_of_some _ (N p hp).1, (N p hp).2⟩, h0, Nat.zero_le _, rfl⟩
  rintro k s' ⟨h', tk, m', nx, i, rfl, st, F', N', hJ, hi, rfl⟩
  have next : ∀ h₁ : Heap, (∀ b o, b ∉ [s.heap.objs.size] → h'.get? b = some o → h₁.get? b = some o) → Fr h₀ env.locals h₁ m' ∧ News h₀ env.locals h₁ nx := fun h₁ hk₁ =>
    ⟨⟨F'.ns.at' fun o e => hk₁ _ o (fun hm => hIL (List.mem_singleton.mp hm).symm) e, fun b o e => hk₁ b o (fun hm => by rw [List.mem_singleton.mp hm, hI0] at e; cases e) (F'.keep b o e), F'.above⟩,
      fun p hp => ⟨hk₁ _ _ (fun hm => absurd (off _ _ _ hJ p hp) (by rw [List.mem_singleton.mp hm]; exact Nat.lt_irrefl _)) (N' p hp).1, (N' p hp).2⟩⟩
  by_cases hlt : i < n
  · refine W.item i _ _ _ hlt st fun v h₁ tk₁ hv st₁ hk₁ => ?_
    obtain ⟨t, rfl⟩ := hv
    obtain ⟨F₂, N₂⟩ := next h₁ hk₁
    refine wpAny_of_eq (a := ()) (by intros; rfl) ?_
    have hN : News h₀ env.locals h₁ ((s.heap.objs.size, _) :: nx) := fun p hp => by
      rcases List.mem_cons.mp hp with rfl | hp
      · exact ⟨st₁, hIL, hI0⟩
      · exact N₂ p hp
    have T := turn i t m' nx h₁ tk₁ s.heap.objs.size _ hlt hJ (off _ _ _ hJ) F₂ hN
    rw [show a₀ + (i : Int) * 1 = a₀ + i by rw [Int.mul_one]]
    refine wpAny_mono (wpAny_passesOwn hE T) (fun _ s₂ y => wpAny_mono (wpAny_passesOwn hE y) (fun f s₃ z => ?_) fun _ _ e => e) fun _ _ e => e
    cases f with
    | ret v => exact z
    | brk => exact z
    | next =>
      obtain ⟨h₃, tk₃, m₃, n₃, rfl, F₃, N₃, J₃⟩ := z
      exact ⟨n + 1 - (i + 1), by omega, h₃, tk₃, m₃, n₃, i + 1, rfl, (N₃ _ (List.mem_append_left _ (List.Mem.head _))).1, F₃, fun p hp => N₃ p (List.mem_append_right _ hp), J₃, hlt, rfl⟩
    | cont =>
      obtain ⟨h₃, tk₃, m₃, n₃, rfl, F₃, N₃, J₃⟩ := z
      exact ⟨n + 1 - (i + 1), by omega, h₃, tk₃, m₃, n₃, i + 1, rfl, (N₃ _ (List.mem_append_left _ (List.Mem.head _))).1, F₃, fun p hp => N₃ p (List.mem_append_right _ hp), J₃, hlt, rfl⟩
  · have hin : i = n := by omega
    subst hin
    refine W.done _ _ _ st fun h₁ tk₁ hk₁ => ?_
    obtain ⟨F₁, N₁⟩ := next h₁ hk₁
    exact wpAny_passesOwn hE (done m' nx h₁ tk₁ hJ F₁ N₁)
end
end Mine
namespace Mine
set_option linter.unusedVariables false
abbrev stT : List Str := [Str.ofString "divisor", Str.ofString "number", Str.ofString "takes", Str.ofString "over"]
noncomputable def toldV (x : Int) (ds : List (Addr × MT)) : List Value := ds.map fun p => Value.bool (toldOf p.2 x)
section
variable {prog : Program} {w : World} {A : Around} {E : Value → Shared → Prop} {s : Shared} {h₀ : Heap} {env : Env} {target : PySem.Expr} {body : List Stmt} {Q : Flow → Shared → Prop}
noncomputable def JT (x : Int) (m₀ : Str → Option Value) (lt : Addr) (tl : List (Addr × Obj)) (pre : List (Addr × MT)) (m' : Str → Option Value) (n' : List (Addr × Obj)) : Prop :=
  ∃ c', Shp stT [] m₀ m' ∧ n' = (lt, W.listOf (toldV x pre).toArray c') :: tl
theorem loop_true {lm lt : Addr} {ds : List (Addr × MT)} {cm : Nat} {x : Int} {m₀ : Str → Option Value} {tl : List (Addr × Obj)}
    (hh : A.handled = none) (F : Fr h₀ env.locals s.heap m₀) (N : News h₀ env.locals s.heap ((lt, W.listOf #[] 0) :: tl)) (hm : (lm, W.listOf (ds.map fun p => Value.ref p.1).toArray cm) ∈ tl)
    (h3 : ds.length ≤ 3) (hd : ∀ p ∈ ds, MeantIs tl p.1 p.2)
    (turn : ∀ l d1 d2 d3 t1 t2 lx vs c1 c2 pre c (u : Str → Option Value) h tk I o, (l, W.listOf #[.int d1 t1, .int d2 t2, .ref lx] c1) ∈ tl → (lx, W.listOf vs.toArray c2) ∈ tl → IntsAre vs d3 → (toldV x pre).length ≤ 3 → lt < I →
      Fr h₀ env.locals h (fun z => if stT.contains z then u z else m₀ z) → News h₀ env.locals h ((I, o) :: (lt, W.listOf (toldV x pre).toArray c) :: tl) →
      wpAny (model prog w) A (assign target env (.ref l)) (fun _ s₂ => wpAny (model prog w) A (execs body env) (MPost h₀ env.locals [(I, o)] (JT x m₀ lt tl (pre ++ [(l, (d1, d2, d3))])) { s with heap := h, toks := tk } Q) E s₂) E { s with heap := h, toks := tk })
    (done : ∀ c (u : Str → Option Value) h tk, Fr h₀ env.locals h (fun z => if stT.contains z then u z else m₀ z) → News h₀ env.locals h ((lt, W.listOf (toldV x ds).toArray c) :: tl) → Q .next { s with heap := h, toks := tk }) :
    wpAny (model prog w) A (pyIter (.ref lm)) (fun it s₂ => TurnsAt prog w A h₀ env target body Q E it s₂) E s := by
  refine my_turns (fun r m n => ∃ pre rest, r = rest.map (fun p => Value.ref p.1) ∧ ds = pre ++ rest ∧ JT x m₀ lt tl pre m n) hh F N (.tail _ hm) ?_ ?_ ?_ ?_
  · rintro r m n ⟨pre, rest, h1, h2, c, h4, rfl⟩
    exact ⟨rfl, .tail _ hm⟩
  · exact ⟨[], ds, rfl, rfl, 0, ⟨List.forall_mem_nil _, fun _ _ _ => rfl⟩, rfl⟩
  · rintro v r m n h tk I o ⟨pre, rest, h1, h2, c, h4, rfl⟩ hI F' N'
    cases rest with
    | nil => cases h1
    | cons p rest =>
      obtain ⟨l, d1, d2, d3⟩ := p
      have e1 := (List.cons.inj h1).1
      have e2 := (List.cons.inj h1).2
      subst e1 e2
      obtain ⟨u, rfl⟩ := h4.ex
      obtain ⟨t1, t2, lx, vs, c1, c2, k1, k2, k3⟩ := hd (l, (d1, d2, d3)) (by rw [h2]; simp)
      have hl : (toldV x pre).length ≤ 3 := by
        have h5 := congrArg List.length h2
        simp at h5
        unfold toldV
        rw [List.length_map]
        omega
      refine wpAny_mono (turn l d1 d2 d3 t1 t2 lx vs c1 c2 pre c u h tk I o k1 k2 k3 hl (hI _ (.head _)) F' N') (fun _ s₂ x => wpAny_mono x (fun f s₃ y => ?_) fun _ _ e => e) fun _ _ e => e
      cases f with
      | ret v => exact y
      | brk => exact y
      | next => obtain ⟨h', tk', m', n', a, b, c, d⟩ := y; exact ⟨h', tk', m', n', a, b, c, _, rest, rfl, by simp [h2], d⟩
      | cont => obtain ⟨h', tk', m', n', a, b, c, d⟩ := y; exact ⟨h', tk', m', n', a, b, c, _, rest, rfl, by simp [h2], d⟩
  · rintro m n h tk ⟨pre, rest, h1, h2, c, h4, rfl⟩ F' N'
    cases rest with
    | cons p r => cases h1
    | nil =>
      rw [List.append_nil] at h2
      subst h2
      obtain ⟨u, rfl⟩ := h4.ex
      exact done c u h tk F' N'
theorem JT.fin {L : Addr} {its all : List (Addr × Obj)} {s₁ : Shared} {h' : Heap} {tk : Nat} {x : Int} {lt : Addr} {tl : List (Addr × Obj)} {m₀ m' : Str → Option Value} {pre : List (Addr × MT)} {l : Addr} {d1 d2 : Int} {d3 : List Int} {b : Bool} {c' : Nat}
    (F : Fr h₀ L h' m') (N : News h₀ L h' all) (hI : ∀ p ∈ its, p ∈ all) (hn : ∀ p ∈ (lt, W.listOf (toldV x pre ++ [Value.bool b]).toArray c') :: tl, p ∈ all) (hS : Shp stT [] m₀ m') (hb : toldOf (d1, d2, d3) x = b) :
    MPost h₀ L its (JT x m₀ lt tl (pre ++ [(l, (d1, d2, d3))])) s₁ Q .next { s₁ with heap := h', toks := tk } := by
  refine MPost.next _ F N hI hn ⟨c', hS, ?_⟩
  unfold toldV
  rw [List.map_append, List.map_cons, List.map_nil, hb]
end
end Mine
namespace Mine
theorem q_of {Q : Value → Shared → Prop} {v v' : Value} {s : Shared} (h : Q v' s) (e : v' = v) : Q v s := e ▸ h
theorem b2i_sgn (n : Int) : b2i (decide (0 < n)) - b2i (decide (n < 0)) = sgn n := by
  unfold sgn b2i
  by_cases h1 : 0 < n <;> by_cases h2 : n < 0 <;> simp [h1, h2]
theorem told_any (d1 d2 : Int) (d3 : List Int) (x n : Int) (h : (if d1 ≠ 0 then Int.fmod x d1 - d2 else x - d2) = n) : toldOf (d1, d2, d3) x = d3.any fun y => y == b2i (decide (0 < n)) - b2i (decide (n < 0)) := by
  rw [b2i_sgn, ← h]
  unfold toldOf overOf
  rw [Bool.eq_iff_iff]
  simp
end Mine
namespace Mine
set_option linter.unusedVariables false
noncomputable def wordsS : List Str := [Str.ofString "NEWLOCALS", Str.ofString "VARARGS", Str.ofString "VARKEYWORDS", Str.ofString "NESTED", Str.ofString "GENERATOR", Str.ofString "NOFREE"]
noncomputable def pickS : List Str → List Bool → List Str
  | w :: ws, b :: bs => if b then w :: pickS ws bs else pickS ws bs
  | _, _ => []
noncomputable def flagText (bs : List Bool) : Str := if pickS wordsS bs = [] then Str.ofString "0x0" else Txt.join (Str.ofString ", ") (pickS wordsS bs)
noncomputable def flI (bs : List Bool) (i : Nat) : Int := if i = 0 then flagsOf bs else flagsGo i (bs.drop (i - 1))
noncomputable def bitI (bs : List Bool) (i : Nat) : Bool := if i = 0 then false else bs.getD (i - 1) false
theorem fl_bits : ∀ b1 b2 b3 b4 b5 b6 : Bool, ∀ i : Fin 7,
   (bitI [b1, b2, b3, b4, b5, b6] i.val = false → Builtin.bitAnd (flI [b1, b2, b3, b4, b5, b6] i.val) (2 ^ i.val) = 0 ∧ flI [b1, b2, b3, b4, b5, b6] (i.val + 1) = flI [b1, b2, b3, b4, b5, b6] i.val ∧
      pickS (wordsS.take (i.val + 1 - 1)) [b1, b2, b3, b4, b5, b6] = pickS (wordsS.take (i.val - 1)) [b1, b2, b3, b4, b5, b6]) ∧
   (bitI [b1, b2, b3, b4, b5, b6] i.val = true → i.val ≠ 0 ∧ Builtin.bitAnd (flI [b1, b2, b3, b4, b5, b6] i.val) (2 ^ i.val) = 2 ^ i.val ∧ Builtin.bitXor (flI [b1, b2, b3, b4, b5, b6] i.val) (2 ^ i.val) = flI [b1, b2, b3, b4, b5, b6] (i.val + 1) ∧
      pickS (wordsS.take (i.val + 1 - 1)) [b1, b2, b3, b4, b5, b6] = pickS (wordsS.take (i.val - 1)) [b1, b2, b3, b4, b5, b6] ++ [wordsS.getD (i.val - 1) Str.empty] ∧
   (flI [b1, b2, b3, b4, b5, b6] (i.val + 1) = 0 → pickS wordsS [b1, b2, b3, b4, b5, b6] = pickS (wordsS.take (i.val - 1)) [b1, b2, b3, b4, b5, b6] ++ [wordsS.getD (i.val - 1) Str.empty])) := by decide +kernel
theorem six {bs : List Bool} (h : bs.length = 6) : ∃ b1 b2 b3 b4 b5 b6, bs = [b1, b2, b3, b4, b5, b6] := by
  match bs, h with
  | [b1, b2, b3, b4, b5, b6], _ => exact ⟨_, _, _, _, _, _, rfl⟩
theorem fl_unset {bs : List Bool} (h6 : bs.length = 6) (i : Nat) (h : bitI bs i = false) : Builtin.bitAnd (flI bs i) (2 ^ i) = 0 ∧ flI bs (i + 1) = flI bs i ∧ pickS (wordsS.take (i + 1 - 1)) bs = pickS (wordsS.take (i - 1)) bs := by
  by_cases hi : i < 7
  · obtain ⟨b1, b2, b3, b4, b5, b6, rfl⟩ := six h6
    exact (fl_bits b1 b2 b3 b4 b5 b6 ⟨i, hi⟩).1 h
  · have h1 : ∀ j, 7 ≤ j → flI bs j = 0 := fun j hj => by
      unfold flI
      rw [if_neg (by omega), List.drop_eq_nil_of_le (by omega)]
      rfl
    have h2 : ∀ j, 6 ≤ j → wordsS.take j = wordsS := fun j hj => List.take_of_length_le hj
    refine ⟨?_, ?_, ?_⟩
    · rw [h1 i (by omega)]
      have h3 : (0 : Int) ≤ 2 ^ i := Int.pow_nonneg (by decide)
      unfold Builtin.bitAnd
      rw [decide_eq_true h3]
      simp
    · rw [h1 _ (by omega), h1 _ (by omega)]
    · rw [h2 _ (by omega), h2 _ (by omega)]
theorem fl_set {bs : List Bool} (h6 : bs.length = 6) (i : Nat) (h : bitI bs i = true) : 1 ≤ i ∧ i ≤ 6 ∧ Builtin.bitAnd (flI bs i) (2 ^ i) = 2 ^ i ∧ Builtin.bitXor (flI bs i) (2 ^ i) = flI bs (i + 1) ∧
    pickS (wordsS.take (i + 1 - 1)) bs = pickS (wordsS.take (i - 1)) bs ++ [wordsS.getD (i - 1) Str.empty] ∧ (flI bs (i + 1) = 0 → pickS wordsS bs = pickS (wordsS.take (i - 1)) bs ++ [wordsS.getD (i - 1) Str.empty]) := by
  by_cases hi : i < 7
  · obtain ⟨b1, b2, b3, b4, b5, b6, rfl⟩ := six h6
    obtain ⟨h1, h2, h3, h4, h5⟩ := (fl_bits b1 b2 b3 b4 b5 b6 ⟨i, hi⟩).2 h
    dsimp only at h1
    exact ⟨by omega, by omega, h2, h3, h4, h5⟩
  · unfold bitI at h
    rw [if_neg (by omega), List.getD, List.getElem?_eq_none (by omega)] at h
    cases h
theorem fl_zero6 : ∀ b1 b2 b3 b4 b5 b6 : Bool, flI [b1, b2, b3, b4, b5, b6] 0 = 0 → pickS wordsS [b1, b2, b3, b4, b5, b6] = [] := by decide +kernel
theorem fl_zero {bs : List Bool} (h6 : bs.length = 6) : flI bs 0 = 0 → pickS wordsS bs = [] := by
  obtain ⟨b1, b2, b3, b4, b5, b6, rfl⟩ := six h6
  exact fl_zero6 b1 b2 b3 b4 b5 b6
theorem pickS_len : ∀ (ws : List Str) (bs : List Bool), (pickS ws bs).length ≤ ws.length
  | [], _ => by simp [pickS]
  | w :: ws, [] => by simp [pickS]
  | w :: ws, b :: bs => by
    have := pickS_len ws bs
    unfold pickS
    split <;> simp <;> omega
abbrev stF : List Str := [Str.ofString "i", Str.ofString "flag"]
section
variable {prog : Program} {w : World} {A : Around} {E : Value → Shared → Prop} {s : Shared} {h₀ : Heap} {env : Env} {body orelse : List Stmt} {Q : Flow → Shared → Prop} {x : Str} {px : Pos}
noncomputable def JF1 (m₀ : Str → Option Value) (ln : Addr) (tl : List (Addr × Obj)) (V : Int) (ws : List Str) (m : Str → Option Value) (n : List (Addr × Obj)) : Prop :=
  ∃ (l : List (Str × Tok)) (c tf : Nat), l.map (·.1) = ws ∧ Shp stF [(Str.ofString "flags", .int V tf)] m₀ m ∧ n = (ln, W.listOf (strValues l).toArray c) :: tl
theorem JF1.fin {L : Addr} {its all : List (Addr × Obj)} {s₁ : Shared} {h' : Heap} {tk : Nat} {ln : Addr} {tl : List (Addr × Obj)} {m₀ m' : Str → Option Value} {V : Int} {ws : List Str} {l : List (Str × Tok)} {c tf : Nat}
    (F : Fr h₀ L h' m') (N : News h₀ L h' all) (hI : ∀ p ∈ its, p ∈ all) (hn : ∀ p ∈ (ln, W.listOf (strValues l).toArray c) :: tl, p ∈ all) (hS : Shp stF [(Str.ofString "flags", .int V tf)] m₀ m') (hl : l.map (·.1) = ws) :
    MPost h₀ L its (JF1 m₀ ln tl V ws) s₁ Q .next { s₁ with heap := h', toks := tk } := MPost.next _ F N hI hn ⟨l, c, tf, hl, hS, rfl⟩
theorem mpost_mono {L : Addr} {its : List (Addr × Obj)} {J J' : (Str → Option Value) → List (Addr × Obj) → Prop} {s₁ : Shared} (h : ∀ m n, J m n → J' m n) (f : Flow) (s₂ : Shared) (x : MPost h₀ L its J s₁ Q f s₂) : MPost h₀ L its J' s₁ Q f s₂ := by
  cases f with
  | ret v => exact x
  | brk => exact x
  | next => obtain ⟨h', tk, m', n', a, b, c, d⟩ := x; exact ⟨h', tk, m', n', a, b, c, h _ _ d⟩
  | cont => obtain ⟨h', tk, m', n', a, b, c, d⟩ := x; exact ⟨h', tk, m', n', a, b, c, h _ _ d⟩
theorem loop_flags {r : Addr} {t₀ u₀ v₀ tf₀ : Tok} {m₀ : Str → Option Value} {ln : Addr} {tl : List (Addr × Obj)} {bs : List Bool}
    (hh : A.handled = none) (hr : IsRange s.heap r 0 32 1 t₀ u₀ v₀) (F : Fr h₀ env.locals s.heap m₀) (N : News h₀ env.locals s.heap ((ln, W.listOf #[] 0) :: tl))
    (hE : PassesOwn (model prog w) A env E) (h6 : bs.length = 6) (hv : m₀ (Str.ofString "flags") = some (.int (flagsOf bs) tf₀))
    (turnU : ∀ (i : Nat) V tf t l c (u : Str → Option Value) h tk I o, i < 32 → Builtin.bitAnd V (2 ^ i) = 0 → ln < I →
      Fr h₀ env.locals h (kstB (fun z => if stF.contains z then u z else m₀ z) [(Str.ofString "flags", .int V tf)]) → News h₀ env.locals h ((I, o) :: (ln, W.listOf (strValues l).toArray c) :: tl) →
      wpAny (model prog w) A (assign (.Name x px) env (.int (i : Int) t)) (fun _ s₂ => wpAny (model prog w) A (execs body env) (MPost h₀ env.locals [(I, o)] (JF1 m₀ ln tl V (l.map (·.1))) { s with heap := h, toks := tk } Q) E s₂) E { s with heap := h, toks := tk })
    (turnS : ∀ (i : Nat) V R tf t l c (u : Str → Option Value) h tk I o, 1 ≤ i → i ≤ 6 → Builtin.bitAnd V (2 ^ i) = 2 ^ i → Builtin.bitXor V (2 ^ i) = R → (R = 0 → pickS wordsS bs = l.map (·.1) ++ [wordsS.getD (i - 1) Str.empty]) → l.length ≤ 6 → ln < I →
      Fr h₀ env.locals h (kstB (fun z => if stF.contains z then u z else m₀ z) [(Str.ofString "flags", .int V tf)]) → News h₀ env.locals h ((I, o) :: (ln, W.listOf (strValues l).toArray c) :: tl) →
      wpAny (model prog w) A (assign (.Name x px) env (.int (i : Int) t)) (fun _ s₂ => wpAny (model prog w) A (execs body env) (MPost h₀ env.locals [(I, o)] (fun m n => R ≠ 0 ∧ JF1 m₀ ln tl R (l.map (·.1) ++ [wordsS.getD (i - 1) Str.empty]) m n) { s with heap := h, toks := tk } Q) E s₂) E { s with heap := h, toks := tk })
    (done : ∀ tf c (u : Str → Option Value) h tk, pickS wordsS bs = [] → Fr h₀ env.locals h (kstB (fun z => if stF.contains z then u z else m₀ z) [(Str.ofString "flags", .int 0 tf)]) → News h₀ env.locals h ((ln, W.listOf #[] c) :: tl) →
      wpAny (model prog w) A (execs orelse env) Q E { s with heap := h, toks := tk }) :
    wpAny (model prog w) A (pyIter (.ref r)) (fun it s₂ => ElseAt prog w A env (.Name x px) body orelse Q E it s₂) E s := by
  refine range_else (n := 32) (fun i m n => (flI bs i = 0 → pickS wordsS bs = []) ∧ JF1 m₀ ln tl (flI bs i) (pickS (wordsS.take (i - 1)) bs) m n) hh hr (by decide) (by decide) F N hE ?_ ?_ ?_ ?_
  · refine ⟨?_, [], 0, tf₀, rfl, ⟨fun p hp => by rw [List.mem_singleton.mp hp]; exact hv, fun _ _ _ => rfl⟩, rfl⟩
    exact fl_zero h6
  · rintro i m n ⟨_, l, c, tf, hl, hS, rfl⟩
    rfl
  · rintro i t m₁ nx h tk I o hi ⟨h1, l, c, tf, hl, hS, rfl⟩ hlt F' N'
    obtain ⟨u, rfl⟩ := hS.ex
    rw [Int.zero_add]
    cases hb : bitI bs i with
    | false =>
      obtain ⟨e1, e2, e3⟩ := fl_unset h6 i hb
      refine wpAny_mono (turnU i _ tf t l c u h tk I o hi e1 (hlt _ (.head _)) F' N') (fun _ s₂ x => wpAny_mono x (fun f s₃ y => mpost_mono (fun m n j => ?_) f s₃ y) fun _ _ e => e) fun _ _ e => e
      rw [e2, e3, ← hl]
      exact ⟨h1, j⟩
    | true =>
      obtain ⟨k1, k2, e1, e2, e3, e4⟩ := fl_set h6 i hb
      have h5 : l.length ≤ 6 := by
        have := congrArg List.length hl
        rw [List.length_map] at this
        rw [this]
        exact Nat.le_trans (pickS_len _ _) (by rw [List.length_take]; exact Nat.min_le_right _ _)
      refine wpAny_mono (turnS i _ _ tf t l c u h tk I o k1 k2 e1 e2 (by rw [hl]; exact e4) h5 (hlt _ (.head _)) F' N') (fun _ s₂ x => wpAny_mono x (fun f s₃ y => mpost_mono (fun m n j => ?_) f s₃ y) fun _ _ e => e) fun _ _ e => e
      rw [e3, ← hl]
      exact ⟨fun e => absurd e j.1, j.2⟩
  · rintro m₁ nx h tk ⟨h1, l, c, tf, hl, hS, rfl⟩ F' N'
    obtain ⟨u, rfl⟩ := hS.ex
    have e0 : flI bs 32 = 0 := by
      unfold flI
      rw [if_neg (by decide), List.drop_eq_nil_of_le (by omega)]
      rfl
    have e1 := h1 e0
    have e2 : l.map (·.1) = [] := by rw [hl]; exact e1
    have e3 : l = [] := List.map_eq_nil_iff.mp e2
    subst e3
    rw [e0] at F'
    exact done tf c u h tk e1 F' N'
end
theorem pickS_sum : ∀ (ws : List Str) (bs : List Bool), ((pickS ws bs).map (·.length)).sum ≤ (ws.map (·.length)).sum
  | [], _ => by simp [pickS]
  | w :: ws, [] => by simp [pickS]
  | w :: ws, b :: bs => by
    have := pickS_sum ws bs
    unfold pickS
    split <;> simp <;> omega
theorem words_sum : (wordsS.map (·.length)).sum ≤ 100 := by decide +kernel
theorem pick_joinOk (bs : List Bool) : JoinOk (Str.ofString ", ") (pickS wordsS bs) = true := by
  refine joinOk_of_weight ?_ (by decide +kernel)
  have h1 := pickS_sum wordsS bs
  have h2 := words_sum
  have h3 := pickS_len wordsS bs
  have h4 : wordsS.length = 6 := rfl
  omega
end Mine
namespace Mine
section
variable {prog : Program} {w : World} {A : Around} {E : Value → Shared → Prop} {s : Shared} {h₀ : Heap} {Q : Flow → Shared → Prop}
theorem JS.fin {L : Addr} {its all : List (Addr × Obj)} {s₁ : Shared} {h' : Heap} {tk : Nat} {ln : Addr} {tl : List (Addr × Obj)} {m₀ m' : Str → Option Value} {R : Int} {wk wd : Str} {l : List (Str × Tok)} {c tf t : Nat}
    (F : Fr h₀ L h' m') (N : News h₀ L h' all) (hI : ∀ p ∈ its, p ∈ all) (hn : ∀ p ∈ (ln, W.listOf (strValues l ++ [Value.str wd t]).toArray c) :: tl, p ∈ all) (hS : Shp stF [(Str.ofString "flags", .int R tf)] m₀ m') (hR : R ≠ 0) (hw : wk = wd) :
    MPost h₀ L its (fun m n => R ≠ 0 ∧ JF1 m₀ ln tl R (l.map (·.1) ++ [wk]) m n) s₁ Q .next { s₁ with heap := h', toks := tk } :=
  MPost.next _ F N hI hn ⟨hR, l ++ [(wd, t)], c, tf, by simp [hw], hS, by simp [strValues]⟩
theorem flag_join {L ln : Addr} {all : List (Addr × Obj)} {l : List (Str × Tok)} {c t t₀ : Nat} {wd wk : Str} {bs : List Bool} {Q : Value → Shared → Prop} (N : News h₀ L s.heap all) (hn : (ln, W.listOf (strValues l ++ [Value.str wd t]).toArray c) ∈ all)
    (hw : wk = wd) (e : pickS wordsS bs = l.map (·.1) ++ [wk])
    (h : ∀ t' k, Q (.str (flagText bs) t') { s with toks := k }) : wpAny (model prog w) A (call (.builtin "str.join") [.str (Str.ofString ", ") t₀, .ref ln]) Q E s := by
  have e1 : strValues l ++ [Value.str wd t] = strValues (l ++ [(wd, t)]) := by simp [strValues]
  rw [e1] at hn
  have e2 : (l ++ [(wd, t)]).map (·.1) = pickS wordsS bs := by rw [e, hw]; simp
  refine PySem.SC.join (isL N hn) e2 (pick_joinOk bs) fun t' k => ?_
  have e3 : flagText bs = Txt.join (Str.ofString ", ") (pickS wordsS bs) := by
    unfold flagText
    rw [if_neg]
    rw [e]; simp
  rw [← e3]
  exact h t' k
end
end Mine
namespace Mine
set_option linter.unusedVariables false
noncomputable def iterObj (l : Addr) (k : Nat) : Obj := { cls := .type "list_iterator", dict := none, data := .fields #[.ref l, .int (k : Int) 0], slots := #[] }
section
variable {prog : Program} {w : World} {A : Around} {E : Value → Shared → Prop} {s : Shared} {h₀ : Heap} {L : Addr} {m : Str → Option Value} {news news' : List (Addr × Obj)}
theorem my_iter {l : Addr} {vs : List Value} {c : Nat} {Q : Value → Shared → Prop} (F : Fr h₀ L s.heap m) (N : News h₀ L s.heap news) (hp : (l, W.listOf vs.toArray c) ∈ news)
    (h : ∀ (I : Addr) h', Fr h₀ L h' m → News h₀ L h' ((I, iterObj l 0) :: news) → (∀ p ∈ news, p.1 < I) → Q (.ref I) { s with heap := h' }) :
    wpAny (model prog w) A (call (.builtin "iter") [.ref l]) Q E s := by
  refine PySem.Calls.call_function_entry (by decide +kernel) (by decide +kernel) kdk_entry_iter (kdk_args_iter _) ?_
  unfold Builtin.«iter»
  refine wpAny_bind (m := someArgs "iter" 1 2 _) (wpAny_of_eq (a := [Value.ref l]) (by first | rfl | kernel_rfl!) ?_)
  show wpAny _ _ (pyIter (.ref l) >>= _) _ _ _
  refine wpAny_bind (wpAny_pyIter_list (isL N hp) ?_)
  exact wpAny_pure ⟨_, rfl, h _ _ (F.push _) (News.push F N _ rfl) (fun q hq => Heap.lt_size (N q hq).1)⟩
theorem my_next_special {it l : Addr} {i : Nat} {items : Array Value} {x : Value} {Q : Option Value → Shared → Prop} (ho : s.heap.get? it = some (iterObj l i))
    (hl : s.heap.IsList l items) (hx : items[i]? = some x)
    (hQ : ∀ h', h'.get? it = some (iterObj l (i + 1)) → Heap.SameBut it s.heap h' → Q (some x) { s with heap := h' }) :
    wpAny (model prog w) A (callSpecial? (.ref it) (Str.ofString "__next__")) Q E s := by
  have hit : s.heap.IsListIter it l i := ⟨_, ho, rfl, rfl⟩
  have hd : (iterObj l i).data = .fields #[.ref l, .int (i : Int) 0] := rfl
  obtain ⟨ol, hol, _, nl, hdl⟩ := hl
  refine wpAny_callSpecial?_slot (name := Str.ofString "__next__") hit.typeIs slot_listiter_next
    (wpAny_call_entry slot_listiter_next hit.typeIs entry_listiter_next ?_ (args_listiter_next _))
  show wpAny _ _ (field (.ref it) 0 >>= _) _ _ s
  refine wpAny_bind (wpAny_field ho hd (x := .ref l) rfl ?_)
  show wpAny _ _ (if (Value.ref l == Value.none) = true then _ else _) _ _ s
  rw [if_neg (show ¬ ((Value.ref l == Value.none) = true) from Bool.false_ne_true)]
  show wpAny _ _ (field (.ref it) 1 >>= _) _ _ s
  refine wpAny_bind (wpAny_field ho hd (x := .int i 0) rfl ?_)
  show wpAny _ _ (seqItems? (.ref l) >>= _) _ _ s
  refine wpAny_bind (wpAny_seqItems hol hdl ?_)
  simp only [Int.toNat_natCast, hx]
  refine wpAny_bind (wpAny_setField_rec ho (by simp) fun h' ho' hs' => wpAny_pure ⟨x, rfl, hQ h' ?_ hs'⟩)
  rw [ho']
  simp [iterObj, rawInt]
theorem my_next {it l : Addr} {vs : List Value} {c i : Nat} {x : Value} {Q : Value → Shared → Prop} (F : Fr h₀ L s.heap m) (N : News h₀ L s.heap news) (U : Upd it (iterObj l i) (iterObj l (i + 1)) news news')
    (hp : (l, W.listOf vs.toArray c) ∈ news) (hx : vs[i]? = some x)
    (h : ∀ h', Fr h₀ L h' m → News h₀ L h' news' → Q x { s with heap := h' }) :
    wpAny (model prog w) A (call (.builtin "next") [.ref it]) Q E s := by
  obtain ⟨pre, post, hl, hg, a, b⟩ := U.split
  have hmem : (it, iterObj l i) ∈ news := by rw [hl]; exact List.mem_append_right _ (.head _)
  have hm := N _ hmem
  have hT : s.TypeIs (.ref it) "list_iterator" := ⟨_, hm.1, rfl⟩
  refine PySem.Calls.call_function_entry (by decide +kernel) (by decide +kernel) kdk_entry_next (kdk_args_next _) ?_
  unfold Builtin.«next»
  refine wpAny_bind (m := someArgs "next" 1 2 _) (wpAny_of_eq (a := [Value.ref it]) (by first | rfl | kernel_rfl!) ?_)
  dsimp only
  refine wpAny_bind (wpAny_specialOf (name := Str.ofString "__next__") hT slot_listiter_next.lookup ?_)
  refine wpAny_ite_split (fun hab => absurd hab (by decide)) (fun _ => ?_)
  refine wpAny_bind (my_next_special hm.1 (isL N hp) (by simpa using hx) fun h' ho' hs => ?_)
  exact wpAny_pure ⟨_, rfl, h h' (F.change hs hm.2.1 hm.2.2) (hg ▸ (show News h₀ L s.heap (pre ++ (it, iterObj l i) :: post) from hl ▸ N).setIn a b hs ho')⟩
end
section
variable {prog : Program} {w : World} {A : Around} {E : Value → Shared → Prop} {s : Shared} {env : Env} {h₀ : Heap} {test : PySem.Expr} {body orelse : List Stmt} {pos : Pos} {Q : Flow → Shared → Prop}
/-- a turn's end of a while: like MPost, with no iterator -/
abbrev WEnd (h₀ : Heap) (L : Addr) (J : (Str → Option Value) → List (Addr × Obj) → Prop) (s₁ : Shared) (Q : Flow → Shared → Prop) (f : Flow) (s₂ : Shared) : Prop := MPost h₀ L [] J s₁ Q f s₂
theorem my_while {m₀ : Str → Option Value} {news : List (Addr × Obj)} (J : Nat → (Str → Option Value) → List (Addr × Obj) → Prop) (k : Nat)
    (hE : PassesOwn (model prog w) A env E) (F : Fr h₀ env.locals s.heap m₀) (N : News h₀ env.locals s.heap news) (h0 : J k m₀ news)
    (turn : ∀ k m n h tk, J k m n → Fr h₀ env.locals h m → News h₀ env.locals h n →
      wpAny (model prog w) A (isTrue test env (eval test env)) (fun b s₂ => WhlIf b (0 < k ∧ wpAny (model prog w) A (execs body env) (WEnd h₀ env.locals (J (k - 1)) { s with heap := h, toks := tk } Q) E s₂) (wpAny (model prog w) A (execs orelse env) Q E s₂)) E { s with heap := h, toks := tk }) :
    wpAny (model prog w) A (exec (.While test body orelse pos) env) Q E s := by
  have key : ∀ k m n h tk, J k m n → Fr h₀ env.locals h m → News h₀ env.locals h n → WhlRest prog w A E env test body orelse Q (k + 1) { s with heap := h, toks := tk } := by
    intro k
    induction k with
    | zero =>
      intro m n h tk hj F N
      refine whl_turn hE (wpAny_mono (turn 0 m n h tk hj F N) (fun b s₂ x => ?_) fun _ _ e => e)
      cases b with
      | true => exact absurd x.1 (by omega)
      | false => exact x
    | succ k ih =>
      intro m n h tk hj F N
      refine whl_turn hE (wpAny_mono (turn (k + 1) m n h tk hj F N) (fun b s₂ x => ?_) fun _ _ e => e)
      cases b with
      | false => exact x
      | true =>
        refine WhlIf.yes rfl (wpAny_mono x.2 (fun f s₃ y => ?_) fun _ _ e => e)
        cases f with
        | ret v => exact y
        | brk => exact y
        | next => obtain ⟨h', tk', m', n', rfl, b, c, d⟩ := y; exact ih m' n' h' tk' d b c
        | cont => obtain ⟨h', tk', m', n', rfl, b, c, d⟩ := y; exact ih m' n' h' tk' d b c
  exact whl_start (k + 1) (key k m₀ news s.heap s.toks h0 F N)
end
theorem b63 : ∀ d : Fin 64, Builtin.bitAnd (d.val : Int) 63 = d.val ∧ Builtin.bitAnd (64 + d.val : Int) 63 = d.val ∧ Builtin.bitAnd (d.val : Int) 64 = 0 ∧ Builtin.bitAnd (64 + d.val : Int) 64 = 64 := by decide +kernel
theorem digit {d : Int} (h0 : 0 ≤ d) (h1 : d < 64) : Builtin.bitAnd d 63 = d ∧ Builtin.bitAnd (64 + d) 63 = d ∧ Builtin.bitAnd d 64 = 0 ∧ Builtin.bitAnd (64 + d) 64 = 64 := by
  have := b63 ⟨d.toNat, by omega⟩
  simp only [Int.toNat_of_nonneg h0] at this
  exact this
theorem bor {a d : Int} (ha : 0 ≤ a) (h0 : 0 ≤ d) (h1 : d < 64) : Builtin.bitOr (a * 64) d = a * 64 + d := by
  have e : Builtin.bitOr (a * 64) d = (((a * 64).toNat ||| d.toNat : Nat) : Int) := by
    unfold Builtin.bitOr Builtin.bitAnd Builtin.bitNot
    have h3 : ¬ (0 ≤ -(a * 64) - 1) := by omega
    have h4 : ¬ (0 ≤ -d - 1) := by omega
    simp only [h3, h4, decide_false]
    have e1 : (-(-(a * 64) - 1) - 1).toNat = (a * 64).toNat := by omega
    have e2 : (-(-d - 1) - 1).toNat = d.toNat := by omega
    rw [e1, e2]
    omega
  rw [e]
  have e3 : (a * 64).toNat = a.toNat <<< 6 := by rw [Nat.shiftLeft_eq]; omega
  rw [e3, ← Nat.shiftLeft_add_eq_or_of_lt (by omega : d.toNat < 2 ^ 6), Nat.shiftLeft_eq]
  omega
end Mine
namespace Mine
theorem enc_at {vo : List Value} {os xs rest : List Int} {k : Nat} (h : IntsAre vo os) (hd : os.drop k = xs ++ rest) (j : Nat) (hj : j < xs.length) : ∃ t, vo[k + j]? = some (.int (xs.getD j 0) t) := by
  refine h.get (k + j) _ ?_
  have h1 : (os.drop k)[j]? = (xs ++ rest)[j]? := by rw [hd]
  rw [List.getElem?_drop, List.getElem?_append_left hj] at h1
  rw [h1]
  simp [List.getD, hj]
theorem enc1 {n : Int} (h0 : 0 ≤ n) (h1 : n < 64) : encN n = [n] := by
  unfold encN
  rw [if_neg (by omega), if_neg (by omega), Int.fmod_eq_emod_of_nonneg _ (by decide)]
  simp
  omega
theorem enc2 {n : Int} (h0 : 64 ≤ n) (h1 : n < 4096) : ∃ d0 d1, 0 ≤ d0 ∧ d0 < 64 ∧ 0 ≤ d1 ∧ d1 < 64 ∧ n = d0 * 64 + d1 ∧ encN n = [64 + d0, d1] := by
  refine ⟨n / 64, n % 64, by omega, by omega, by omega, by omega, by omega, ?_⟩
  unfold encN
  rw [if_neg (by omega), if_pos (by omega), Int.fmod_eq_emod_of_nonneg _ (by decide), Int.fmod_eq_emod_of_nonneg _ (by decide), Int.fdiv_eq_ediv_of_nonneg _ (by decide)]
  simp
  omega
theorem enc3 {n : Int} (h0 : 4096 ≤ n) (h1 : n < 262144) : ∃ d0 d1 d2, 0 ≤ d0 ∧ d0 < 64 ∧ 0 ≤ d1 ∧ d1 < 64 ∧ 0 ≤ d2 ∧ d2 < 64 ∧ n = (d0 * 64 + d1) * 64 + d2 ∧ encN n = [64 + d0, 64 + d1, d2] := by
  refine ⟨n / 4096, n / 64 % 64, n % 64, by omega, by omega, by omega, by omega, by omega, by omega, by omega, ?_⟩
  unfold encN
  rw [if_pos (by omega), if_pos (by omega), Int.fmod_eq_emod_of_nonneg _ (by decide), Int.fmod_eq_emod_of_nonneg _ (by decide), Int.fmod_eq_emod_of_nonneg _ (by decide), Int.fdiv_eq_ediv_of_nonneg _ (by decide), Int.fdiv_eq_ediv_of_nonneg _ (by decide)]
  simp
  omega
end Mine
namespace Mine
/-- a stop of the walk: the goal stands still till it is opened -/
noncomputable def Stop (P : Prop) : Prop := P
theorem Stop.put {P : Prop} (h : Stop P) : P := h
theorem Stop.go {P : Prop} (h : P) : Stop P := h
end Mine
namespace Mine
set_option linter.unusedVariables false
section
variable {prog : Program} {w : World} {A : Around} {E : Value → Shared → Prop} {s : Shared} {env : Env} {h₀ : Heap} {test : PySem.Expr} {body orelse : List Stmt} {pos : Pos} {Q : Flow → Shared → Prop}
noncomputable def JR (lo I R : Addr) (tl : List (Addr × Obj)) (m₀ : Str → Option Value) (pre : List Int) (n : Int) (k : Nat) (m : Str → Option Value) (nx : List (Addr × Obj)) : Prop :=
  ∃ vs c tn, IntsAre vs pre ∧ Shp [] [(Str.ofString "number", .int n tn)] m₀ m ∧ nx = (R, W.listOf (List.toArray vs) c) :: (I, iterObj lo k) :: tl
theorem JR.fin {L : Addr} {all : List (Addr × Obj)} {s₁ : Shared} {h' : Heap} {tk : Nat} {lo I R : Addr} {tl : List (Addr × Obj)} {m₀ m' : Str → Option Value} {pre : List Int} {n : Int} {k : Nat} {vs : List Value} {c tn : Nat}
    (F : Fr h₀ L h' m') (N : News h₀ L h' all) (hn : ∀ p ∈ (R, W.listOf (List.toArray vs) c) :: (I, iterObj lo k) :: tl, p ∈ all) (hS : Shp [] [(Str.ofString "number", .int n tn)] m₀ m') (hi : IntsAre vs pre) :
    WEnd h₀ L (JR lo I R tl m₀ pre n k) s₁ Q .next { s₁ with heap := h', toks := tk } := MPost.next _ F N (List.forall_mem_nil _) hn ⟨vs, c, tn, hi, hS, rfl⟩
theorem mpost_monoR {L : Addr} {its : List (Addr × Obj)} {J J' : (Str → Option Value) → List (Addr × Obj) → Prop} {s₁ : Shared} (h : ∀ m n, J m n → J' m n) (f : Flow) (s₂ : Shared) (x : MPost h₀ L its J s₁ Q f s₂) : MPost h₀ L its J' s₁ Q f s₂ := by
  cases f with
  | ret v => exact x
  | brk => exact x
  | next => obtain ⟨h', tk, m', n', a, b, c, d⟩ := x; exact ⟨h', tk, m', n', a, b, c, h _ _ d⟩
  | cont => obtain ⟨h', tk, m', n', a, b, c, d⟩ := x; exact ⟨h', tk, m', n', a, b, c, h _ _ d⟩
theorem loop_read {lo I R : Addr} {tl : List (Addr × Obj)} {m₀ : Str → Option Value} {row rest os : List Int} {n₀ : Int} {r₀ : List Int} {k₀ : Nat} {t₀ : Tok}
    (hE : PassesOwn (model prog w) A env E) (F : Fr h₀ env.locals s.heap m₀) (N : News h₀ env.locals s.heap ((R, W.listOf #[] 0) :: (I, iterObj lo k₀) :: tl))
    (hnum : m₀ (Str.ofString "number") = some (.int n₀ t₀)) (hrow : ∀ n ∈ row, 64 ≤ n ∧ n < 262144) (hlen : row.length ≤ 100) (e0 : n₀ :: r₀ = row ++ [0]) (hd : os.drop k₀ = r₀.flatMap encN ++ rest)
    (turn : ∀ (pre : List Int) (n n' : Int) (r : List Int) vs c k tn (u : Str → Option Value) h tk, 64 ≤ n → IntsAre vs pre → pre.length ≤ 100 → os.drop k = encN n' ++ (r.flatMap encN ++ rest) → (0 ≤ n' ∧ n' < 262144) →
      Fr h₀ env.locals h (kstB m₀ [(Str.ofString "number", .int n tn)]) → News h₀ env.locals h ((R, W.listOf vs.toArray c) :: (I, iterObj lo k) :: tl) →
      wpAny (model prog w) A (isTrue test env (eval test env)) (fun b s₂ => WhlIf b (wpAny (model prog w) A (execs body env) (WEnd h₀ env.locals (JR lo I R tl m₀ (pre ++ [n]) n' (k + (encN n').length)) { s with heap := h, toks := tk } Q) E s₂) (wpAny (model prog w) A (execs orelse env) Q E s₂)) E { s with heap := h, toks := tk })
    (last : ∀ vs c k tn (u : Str → Option Value) h tk, IntsAre vs row →
      Fr h₀ env.locals h (kstB m₀ [(Str.ofString "number", .int 0 tn)]) → News h₀ env.locals h ((R, W.listOf vs.toArray c) :: (I, iterObj lo k) :: tl) →
      wpAny (model prog w) A (isTrue test env (eval test env)) (fun b s₂ => WhlIf b False (wpAny (model prog w) A (execs orelse env) Q E s₂)) E { s with heap := h, toks := tk }) :
    wpAny (model prog w) A (exec (.While test body orelse pos) env) Q E s := by
  refine my_while (fun j m nx => ∃ pre n r k, pre ++ n :: r = row ++ [0] ∧ r.length = j ∧ os.drop k = r.flatMap encN ++ rest ∧ JR lo I R tl m₀ pre n k m nx) r₀.length hE F N
    ⟨[], n₀, r₀, k₀, e0, rfl, hd, [], 0, t₀, .nil, ⟨fun p hp => by rw [List.mem_singleton.mp hp]; exact hnum, fun _ _ _ => rfl⟩, rfl⟩ ?_
  rintro j m nx h tk ⟨pre, n, r, k, e1, e2, e3, vs, c, tn, hi, hS, rfl⟩ F' N'
  obtain ⟨u, rfl⟩ := hS.ex
  have hkm : ∀ ps, (kstB (fun z => if ([] : List Str).contains z then u z else m₀ z) ps) = kstB m₀ ps := fun ps => by
    have : (fun z => if ([] : List Str).contains z then u z else m₀ z) = m₀ := by funext z; simp
    rw [this]
  rw [hkm] at F'
  cases r with
  | nil =>
    have e4 := List.append_inj' e1 rfl
    obtain ⟨rfl, e5⟩ := e4
    cases e5
    refine wpAny_mono (last vs c k tn u h tk hi F' N') (fun b s₂ x => ?_) fun _ _ e => e
    cases b with
    | true => exact absurd x id
    | false => exact x
  | cons n' r =>
    have hlast : ∀ (a b : List Int) (x y : Int), a ++ x :: y :: b = row ++ [0] → x ∈ row ∧ (y = 0 ∧ b = [] ∨ y ∈ row) := by
      intro a b x y e
      have e6 : a ++ x :: (y :: b).dropLast = row := by
        have := congrArg List.dropLast e
        rw [List.dropLast_concat] at this
        rw [← this, List.dropLast_append_of_ne_nil (by simp)]
        rfl
      refine ⟨by rw [← e6]; simp, ?_⟩
      cases b with
      | nil =>
        left
        have := congrArg List.getLast? e
        simp at this
        exact ⟨this, rfl⟩
      | cons z b => right; rw [← e6]; simp
    obtain ⟨hm1, hm2⟩ := hlast pre r n n' e1
    have h0 : 0 ≤ n' ∧ n' < 262144 := by
      rcases hm2 with ⟨rfl, _⟩ | hm2
      · decide
      · have := hrow _ hm2; omega
    have hl : pre.length ≤ 100 := by
      have := congrArg List.length e1
      simp at this
      omega
    refine wpAny_mono (turn pre n n' r vs c k tn u h tk (hrow n hm1).1 hi hl (by rw [e3, List.flatMap_cons, List.append_assoc]) h0 F' N') (fun b s₂ x => ?_) fun _ _ e => e
    have hnext : os.drop (k + (encN n').length) = r.flatMap encN ++ rest := by
      rw [← List.drop_drop, e3, List.flatMap_cons, List.append_assoc, List.drop_append_of_le_length (Nat.le_refl _), List.drop_length]
      rfl
    cases b with
    | false => exact x
    | true =>
      refine ⟨by simp at e2; omega, wpAny_mono x (fun f s₃ y => ?_) fun _ _ e => e⟩
      exact mpost_monoR (fun m n q => ⟨pre ++ [_], n', r, _, by simpa using e1, by simp at e2; omega, hnext, q⟩) f s₃ y
end
end Mine
namespace Mine
theorem not_zero {n : Int} (h : 64 ≤ n) : (!n == 0) = true := by
  have : n ≠ 0 := by omega
  simp [this]
end Mine
namespace Mine
set_option linter.unusedVariables false
section
variable {prog : Program} {w : World} {A : Around} {E : Value → Shared → Prop} {s : Shared} {h₀ : Heap} {env : Env} {target : PySem.Expr} {body : List Stmt} {Q : Flow → Shared → Prop}
noncomputable def JO (cN lo : Addr) (m₀ : Str → Option Value) (tl : List (Addr × Obj)) (os : List Int) (m' : Str → Option Value) (n' : List (Addr × Obj)) : Prop :=
  ∃ vs c oN vN, m' = m₀ ∧ oN.data = .cell vN ∧ n' = (cN, oN) :: (lo, W.listOf (List.toArray vs) c) :: tl ∧ IntsAre vs os
theorem JO.fin {L : Addr} {its all : List (Addr × Obj)} {s₁ : Shared} {h' : Heap} {tk : Nat} {cN lo : Addr} {tl : List (Addr × Obj)} {m₀ : Str → Option Value} {os : List Int} {vs : List Value} {c : Nat} {oN : Obj} {vN : Option Value}
    (F : Fr h₀ L h' m₀) (N : News h₀ L h' all) (hI : ∀ p ∈ its, p ∈ all) (hn : ∀ p ∈ (cN, oN) :: (lo, W.listOf (List.toArray vs) c) :: tl, p ∈ all) (hd : oN.data = .cell vN) (hi : IntsAre vs os) :
    MPost h₀ L its (JO cN lo m₀ tl os) s₁ Q .next { s₁ with heap := h', toks := tk } := MPost.next _ F N hI hn ⟨vs, c, oN, vN, rfl, hd, rfl, hi⟩
theorem enc_len (n : Int) : (encN n).length ≤ 3 := by
  unfold encN
  repeat' split
  all_goals simp
theorem encs_len : ∀ ns : List Int, (ns.flatMap encN).length ≤ 3 * ns.length
  | [] => by simp
  | n :: ns => by
    have h1 := enc_len n
    have h2 := encs_len ns
    rw [List.flatMap_cons, List.length_append, List.length_cons]
    omega
theorem loop_oct {ax cN lo : Addr} {vr : List Value} {cr : Nat} {ns : List Int} {oN : Obj} {vN : Option Value} {m₀ : Str → Option Value} {tl : List (Addr × Obj)}
    (hh : A.handled = none) (F : Fr h₀ env.locals s.heap m₀) (N : News h₀ env.locals s.heap ((cN, oN) :: (lo, W.listOf #[] 0) :: tl)) (hm : (ax, W.listOf vr.toArray cr) ∈ tl) (hi : IntsAre vr ns) (hd : oN.data = .cell vN)
    (h100 : ns.length ≤ 100) (hns : ∀ n ∈ ns, 0 ≤ n ∧ n < 262144) (hcl : (cN : Nat) < lo) (hoct : m₀ (Str.ofString "octets") = some (.ref lo))
    (turn : ∀ m₁ : Str → Option Value, m₁ (Str.ofString "octets") = some (.ref lo) → ∀ k kt os vs c oN vN h tk I o, 0 ≤ k → k < 262144 → IntsAre vs os → vs.length ≤ 300 → oN.data = .cell vN → @LT.lt Nat _ cN I → @LT.lt Nat _ lo I → @LT.lt Nat _ cN lo → (∀ p ∈ tl, p.1 < I) →
      Fr h₀ env.locals h m₁ → News h₀ env.locals h ((I, o) :: (cN, oN) :: (lo, W.listOf vs.toArray c) :: tl) →
      wpAny (model prog w) A (assign target env (.int k kt)) (fun _ s₂ => wpAny (model prog w) A (execs body env) (MPost h₀ env.locals [(I, o)] (JO cN lo m₁ tl (os ++ encN k)) { s with heap := h, toks := tk } (fun _ _ => False)) E s₂) E { s with heap := h, toks := tk })
    (done : ∀ vs c oN vN h tk, IntsAre vs (ns.flatMap encN) → oN.data = .cell vN → Fr h₀ env.locals h m₀ → News h₀ env.locals h ((cN, oN) :: (lo, W.listOf vs.toArray c) :: tl) → Q .next { s with heap := h, toks := tk }) :
    wpAny (model prog w) A (pyIter (.ref ax)) (fun it s₂ => TurnsAt prog w A h₀ env target body Q E it s₂) E s := by
  refine my_turns (fun r m n => ∃ pre rest, IntsAre r rest ∧ ns = pre ++ rest ∧ JO cN lo m₀ tl (pre.flatMap encN) m n) hh F N (.tail _ (.tail _ hm)) ?_ ?_ ?_ ?_
  · rintro r m n ⟨pre, rest, h1, h2, vs, c, oN', vN', rfl, hd', rfl, h5⟩
    exact ⟨rfl, .tail _ (.tail _ hm)⟩
  · exact ⟨[], ns, hi, rfl, [], 0, oN, vN, rfl, hd, rfl, .nil⟩
  · rintro v r m n h tk I o ⟨pre, rest, h1, h2, vs, c, oN', vN', rfl, hd', rfl, h5⟩ hI F' N'
    obtain ⟨k, t, rest', rfl, rfl, h1'⟩ := intsAre_cons h1
    have hk := hns k (by rw [h2]; simp)
    have hl : vs.length ≤ 300 := by
      rw [h5.length]
      have := encs_len pre
      have h3 := congrArg List.length h2
      simp at h3
      omega
    refine wpAny_mono (turn m hoct k t _ vs c oN' vN' h tk I o hk.1 hk.2 h5 hl hd' (hI _ (.head _)) (hI _ (.tail _ (.head _))) hcl (fun p hp => hI p (.tail _ (.tail _ hp))) F' N') (fun _ s₂ x => wpAny_mono x (fun f s₃ y => ?_) fun _ _ e => e) fun _ _ e => e
    have hf : pre.flatMap encN ++ encN k = (pre ++ [k]).flatMap encN := by simp
    rw [hf] at y
    cases f with
    | ret v => exact False.elim y
    | brk => exact False.elim y
    | next => obtain ⟨h', tk', m', n', a, b, c, d⟩ := y; exact ⟨h', tk', m', n', a, b, c, pre ++ [k], rest', h1', by simp [h2], d⟩
    | cont => obtain ⟨h', tk', m', n', a, b, c, d⟩ := y; exact ⟨h', tk', m', n', a, b, c, pre ++ [k], rest', h1', by simp [h2], d⟩
  · rintro m n h tk ⟨pre, rest, h1, h2, vs, c, oN', vN', rfl, hd', rfl, h5⟩ F' N'
    cases h1
    rw [List.append_nil] at h2
    subst h2
    exact done vs c oN' vN' h tk h5 hd' F' N'
end
end Mine
namespace Mine
theorem pack2 {P : Prop} {h₀ h : Heap} {L : Addr} {m : Str → Option Value} {b : Addr} {oa ob : Obj} {all : List (Addr × Obj)} (F : Fr h₀ L h m) (N : News h₀ L h all) (hb : m (Str.ofString "octets") = some (.ref b)) (ha : (L + 1 + 1 + 1, oa) ∈ all) (hb' : (b, ob) ∈ all)
    (k : ∀ tl : List (Addr × Obj), (∀ p ∈ all, p.1 ≠ L + 1 + 1 + 1 → p.1 ≠ b → p ∈ tl) → (∀ p ∈ tl, p.1 ≠ L + 1 + 1 + 1) → (∀ p ∈ tl, p.1 ≠ b) → News h₀ L h ((L + 1 + 1 + 1, oa) :: (b, ob) :: tl) → P) : P := by
  refine k (all.filter fun p => decide (p.1 ≠ L + 1 + 1 + 1 ∧ p.1 ≠ b)) (fun p hp h1 h2 => List.mem_filter.mpr ⟨hp, by simp only [decide_eq_true_eq]; exact ⟨h1, h2⟩⟩) (fun p hp => ?_) (fun p hp => ?_) (fun p hp => ?_)
  · have := (List.mem_filter.mp hp).2
    exact (of_decide_eq_true this).1
  · have := (List.mem_filter.mp hp).2
    exact (of_decide_eq_true this).2
  · rcases List.mem_cons.mp hp with rfl | hp
    · exact N _ ha
    · rcases List.mem_cons.mp hp with rfl | hp
      · exact N _ hb'
      · exact N _ (List.mem_filter.mp hp).1
end Mine
namespace Mine
set_option linter.unusedVariables false
theorem fm (a : Int) {n : Int} (h : 0 < n) : 0 ≤ Int.fmod a n ∧ Int.fmod a n < n := ⟨Int.fmod_nonneg_of_pos a h, Int.fmod_lt_of_pos a h⟩
theorem sent_range (v : Int) : ∀ n ∈ sentCode v, 64 ≤ n ∧ n < 262144 := by
  have h8 := fm v (n := 8) (by decide)
  have h9 := fm (Int.fdiv v 8) (n := 9) (by decide)
  have h2 := fm (Int.fdiv v 8) (n := 2) (by decide)
  have h3 := fm (Int.fdiv v 16) (n := 3) (by decide)
  have h1 := fm v (n := 2) (by decide)
  unfold sentCode
  split
  · have hc : Int.fmod v 8 = 0 ∨ Int.fmod v 8 = 1 ∨ Int.fmod v 8 = 2 ∨ Int.fmod v 8 = 3 ∨ Int.fmod v 8 = 4 ∨ Int.fmod v 8 = 5 := by omega
    have hg : 64 ≤ [245, 246, 254, 255, 252, 253].getD (Int.fmod v 8).toNat (0 : Int) ∧ [245, 246, 254, 255, 252, 253].getD (Int.fmod v 8).toNat (0 : Int) < 262144 := by
      rcases hc with h | h | h | h | h | h <;> rw [h] <;> decide
    simp only [List.forall_mem_cons, List.not_mem_nil, false_implies, implies_true, and_true]
    exact ⟨by omega, ⟨by omega, by omega⟩, hg⟩
  · simp only [List.forall_mem_cons, List.not_mem_nil, false_implies, implies_true, and_true]
    omega
noncomputable def rowOf (a b c j : Int) : List Int := sentCode a ++ sentCode b ++ [244 - Int.fmod j 2] ++ sentCode c ++ [244 - Int.fdiv j 2]
theorem row_range (a b c d : Int) : ∀ n ∈ rowOf a b c (Int.fmod d 4), 64 ≤ n ∧ n < 262144 := by
  have h4 := fm d (n := 4) (by decide)
  have h2 := fm (Int.fmod d 4) (n := 2) (by decide)
  have h5 : Int.fdiv (Int.fmod d 4) 2 = Int.fmod d 4 / 2 := Int.fdiv_eq_ediv_of_nonneg _ (by decide)
  intro n hn
  unfold rowOf at hn
  simp only [List.mem_append, List.mem_singleton] at hn
  rcases hn with (((hn | hn) | hn) | hn) | hn
  · exact sent_range _ n hn
  · exact sent_range _ n hn
  · subst hn; omega
  · exact sent_range _ n hn
  · subst hn; rw [h5]; omega
theorem sent_len (v : Int) : (sentCode v).length ≤ 5 := by unfold sentCode; split <;> simp
theorem row_len (a b c j : Int) : (rowOf a b c j).length ≤ 17 := by
  have h1 := sent_len a
  have h2 := sent_len b
  have h3 := sent_len c
  unfold rowOf
  simp only [List.length_append, List.length_cons, List.length_nil]
  omega
theorem row_len2 (a b c j : Int) : (rowOf a b c j ++ [0, 24]).length ≤ 100 := by
  have := row_len a b c j
  simp only [List.length_append, List.length_cons, List.length_nil]
  omega
theorem row_range2 (a b c d : Int) : ∀ n ∈ rowOf a b c (Int.fmod d 4) ++ [0, 24], 0 ≤ n ∧ n < 262144 := by
  intro n hn
  rcases List.mem_append.mp hn with hn | hn
  · have := row_range a b c d n hn; omega
  · simp only [List.mem_cons, List.not_mem_nil, or_false] at hn
    omega
theorem row_enc (a b c j : Int) : (rowOf a b c j ++ [0, 24]).flatMap encN = (rowOf a b c j).flatMap encN ++ 0 :: [24] := by
  rw [List.flatMap_append]
  rfl
end Mine
namespace Mine
set_option linter.unusedVariables false
section
variable {prog : Program} {w : World} {A : Around} {E : Value → Shared → Prop} {s : Shared} {h₀ : Heap} {L : Addr} {m : Str → Option Value} {env : Env}
/-- the source of a comprehension is a tuple of the ledger's -/
noncomputable def SrcTup (prog : Program) (w : World) (A : Around) (h₀ : Heap) (L : Addr) (m : Str → Option Value) (env : Env) (ct elt : PySem.Expr) (x : Str) (scope : Scope) (cl : List (Str × Addr)) (Fin : Shared → List Value → List (Addr × Obj) → Prop) (xv : Value) (s₁ : Shared) : Prop :=
  ∃ ax oT its news, xv = .ref ax ∧ A.handled = none ∧ Fr h₀ L s₁.heap m ∧ News h₀ L s₁.heap news ∧ (ax, oT) ∈ news ∧ oT.cls = .type "tuple" ∧ (∃ n, oT.data = .seq its n) ∧ its.size ≤ sizeLine ∧
    ∀ s₂ : Shared, (∃ h, s₂ = { s₁ with heap := h }) → LCt.CompRestT prog w A h₀ L m env ct elt x scope cl s₂ (fun nw => (ax, oT) ∈ nw) (fun i v => its[i]? = some v) (Fin s₂) its.size 0 [] news
theorem SrcTup.put {ct elt : PySem.Expr} {x : Str} {scope : Scope} {cl : List (Str × Addr)} {Fin : Shared → List Value → List (Addr × Obj) → Prop} {ax : Addr} {its : Array Value} {n : Nat} {news : List (Addr × Obj)} {s₁ : Shared}
    (hh : A.handled = none) (F : Fr h₀ L s₁.heap m) (N : News h₀ L s₁.heap news) (hm : (ax, ({ cls := .type "tuple", data := .seq its n } : Obj)) ∈ news) (hsz : its.size ≤ sizeLine)
    (h : ∀ g, LCt.CompRestT prog w A h₀ L m env ct elt x scope cl { s₁ with heap := g } (fun nw => (ax, ({ cls := .type "tuple", data := .seq its n } : Obj)) ∈ nw) (fun i v => its[i]? = some v) (Fin { s₁ with heap := g }) its.size 0 [] news) :
    SrcTup prog w A h₀ L m env ct elt x scope cl Fin (.ref ax) s₁ := ⟨ax, _, its, news, rfl, hh, F, N, hm, rfl, ⟨_, rfl⟩, hsz, fun _ ⟨g, e⟩ => e ▸ h g⟩
theorem comp_tup {ct elt iter : PySem.Expr} {x : Str} {px : Pos} {scope : Scope} {cl : List (Str × Addr)} {pos : Pos} {Q : Value → Shared → Prop} (F₀ : Fr h₀ L s.heap m)
    (hclos : closureFor scope env = pure cl) (hcell : ∀ y ∈ scope.names, y.2 ≠ .cell) (hkind : scope.kind = .function)
    (hnames : ∀ y ∈ scope.names, y.2 = .local → scope.names.lookup y.1 = some .local) (hx : scope.names.lookup x = some .local)
    (h : wpAny (model prog w) A (eval iter env) (SrcTup prog w A h₀ L m env ct elt x scope cl (fun s₂ => LCg.FinE h₀ L m s₂ Q)) E s)
    (hs : ∀ x, foldedSetIterable iter env x = pure x := by intro _; rfl) :
    wpAny (model prog w) A (eval (.ListComp elt [⟨.Name x px, iter, [ct], 0⟩] scope pos) env) Q E s := by
  rw [eval_ListComp]
  refine wpAny_comprehension_free (use := none) rfl hs hclos hkind hnames (wpAny_mono h (fun xv s₁ q => ?_) fun _ _ e => e)
  obtain ⟨ax, oT, its, news, rfl, hh, F, N, hm, hc, hd, hsz, R⟩ := q
  have hT : s₁.heap.IsTuple ax its := ⟨oT, (N _ hm).1, hc, hd⟩
  have hlt : ax < s₁.heap.objs.size := Heap.lt_size (N _ hm).1
  have up : ∀ (o : Obj) b ob, s₁.heap.get? b = some ob → (s₁.heap.push o).get? b = some ob := fun o b ob e => Heap.get?_push_of_some _ e
  refine wpAny_pyIter_tuple hT ?_
  refine LCt.block_T (Walks.tuple hh s₁.heap.objs.size ax (Nat.ne_of_lt hlt) its) hsz ?_ ?_ hcell hkind hx ?_ ?_ (F.keeps (up _)) (N.grown (up _)) (Nat.ne_of_lt F.ns.lt) (next_is_new F) (fun p hp => Nat.ne_of_lt (Heap.lt_size (N p hp).1)) hm (R _ ⟨_, rfl⟩) ?_
  · rintro i h ⟨⟨o, e, _⟩, _⟩
    exact ⟨o, e⟩
  · rintro i h h' o nw ⟨⟨o', e1, e2⟩, _⟩ e e' k N' S
    rw [e] at e1
    cases e1
    exact ⟨⟨o, e', e2⟩, ⟨oT, (N' _ S).1, hc, hd⟩⟩
  · exact ⟨⟨_, Heap.get?_push_size _ rfl, rfl, rfl⟩, ⟨oT, up _ _ _ (N _ hm).1, hc, hd⟩⟩
  · intro b hb
    show b < (s₁.heap.push _).objs.size
    rw [Heap.size_push]
    have hb' : b = s₁.heap.objs.size ∨ b = ax := by simpa using hb
    rcases hb' with rfl | rfl
    · exact Nat.lt_succ_self _
    · exact Nat.lt_succ_of_lt hlt
  · intro D C h tk m' ys news' F' N' o1 hn hC₀ hD₀ hCL hDL hCD offC fin
    refine ⟨m', hn, fun h2 hs2 => fin D h2 tk (F'.change hs2 hCL hC₀) (fun p hp => ⟨hs2.extBut _ _ ?_ (N' p hp).1, (N' p hp).2⟩) o1⟩
    rcases List.mem_cons.mp hp with rfl | hp
    · exact Ne.symm hCD
    · exact offC p hp
end
end Mine
namespace Mine
theorem comp_end {h₀ : Heap} {L I C D : Addr} {m : Str → Option Value} {s₁ : Shared} {oI oC oD : Obj} {S : List (Addr × Obj) → Prop} {rest : Value → List (Addr × Obj) → Prop} {y : Value} {h' : Heap} {tk : Nat} {news' : List (Addr × Obj)}
    (F : Fr h₀ L h' m) (N : News h₀ L h' ((I, oI) :: (C, oC) :: (D, oD) :: news')) (off : LCg.Off3 I C D news') (hS : S news') (r : rest y news') :
    LCg.CompEnd h₀ L m s₁ I oI C oC D oD S rest y { s₁ with heap := h', toks := tk } := ⟨h', tk, news', rfl, F, N, off, hS, r⟩
end Mine
namespace Mine
/-- a cut: a new list whose items are as P says, all else as it stood -/
noncomputable def CutL (h₀ : Heap) (L : Addr) (m : Str → Option Value) (news : List (Addr × Obj)) (P : List Value → Prop) (s : Shared) (v : Value) (s' : Shared) : Prop :=
  ∃ D zs h' tk', v = .ref D ∧ s' = { s with heap := h', toks := tk' } ∧ Fr h₀ L h' m ∧ News h₀ L h' ((D, W.listOf (List.toArray zs) zs.length) :: news) ∧ (∀ p ∈ news, p.1 ≠ D) ∧ P zs
theorem all_off1 {D : Addr} : ∀ {l : List (Addr × Obj)}, (∀ p ∈ l, p.1 ≠ D) → LCg.Off1 D l
  | [], _ => trivial
  | q :: l, h => ⟨h q (List.Mem.head _), all_off1 fun p hp => h p (List.Mem.tail _ hp)⟩
theorem off1_all {D : Addr} : ∀ {l : List (Addr × Obj)}, LCg.Off1 D l → ∀ p ∈ l, p.1 ≠ D
  | [], _ => fun _ h => nomatch h
  | q :: l, h => fun p hp => by
    rcases List.mem_cons.mp hp with rfl | hp
    · exact h.1
    · exact off1_all h.2 p hp
section
variable {M : Model} {A : Around} {E : Value → Shared → Prop} {s : Shared} {h₀ : Heap} {L : Addr} {m : Str → Option Value} {news : List (Addr × Obj)} {t : Sem Value} {Q : Value → Shared → Prop}
theorem off1_sub {D : Addr} {l1 l2 : List (Addr × Obj)} (h : LCg.Off1 D l1) (s : ∀ p ∈ l2, p ∈ l1) : LCg.Off1 D l2 := all_off1 fun p hp => off1_all h p (s p hp)
theorem cutL (P : List Value → Prop) (_F : Fr h₀ L s.heap m) (_N : News h₀ L s.heap news) (h : wpAny M A t (CutL h₀ L m news P s) E s)
    (k : ∀ D zs h' tk', Fr h₀ L h' m → News h₀ L h' ((D, W.listOf (List.toArray zs) zs.length) :: news) → LCg.Off1 D news → P zs → Q (.ref D) { s with heap := h', toks := tk' }) : wpAny M A t Q E s :=
  wpAny_mono h (fun v s' ⟨D, zs, h', tk', e1, e2, F', N', o, p⟩ => by subst e1 e2; exact k D zs h' tk' F' N' (all_off1 o) p) fun _ _ e => e
theorem CutL.fin {P : List Value → Prop} {D : Addr} {zs : List Value} {h' : Heap} {tk' : Nat} {all : List (Addr × Obj)} (F' : Fr h₀ L h' m) (N' : News h₀ L h' ((D, LCg.lst zs) :: all)) (hn : ∀ p ∈ news, p ∈ all) (o : LCg.Off1 D all) (p : P zs) :
    CutL h₀ L m news P s (.ref D) { s with heap := h', toks := tk' } :=
  ⟨D, zs, h', tk', rfl, rfl, F', fun q hq => by
    rcases List.mem_cons.mp hq with rfl | hq
    · exact N' _ (List.Mem.head _)
    · exact N' _ (List.Mem.tail _ (hn q hq)), fun q hq => off1_all o q (hn q hq), p⟩
end
noncomputable def encHead (k : Int) : List Int := (if 4096 ≤ k then [64 + Int.fmod (Int.fdiv k 4096) 64] else []) ++ (if 64 ≤ k then [64 + Int.fmod (Int.fdiv k 64) 64] else [])
theorem encN_head (k : Int) : encN k = encHead k ++ [Int.fmod k 64] := rfl
theorem cut_enc {M : Model} {A : Around} {E : Value → Shared → Prop} {s : Shared} {h₀ : Heap} {L : Addr} {m : Str → Option Value} {news : List (Addr × Obj)} {t : Sem Value} {Q : Value → Shared → Prop} {k : Int} (_hk : k < 262144) (F : Fr h₀ L s.heap m) (N : News h₀ L s.heap news)
    (h : wpAny M A t (CutL h₀ L m news (fun zs => IntsAre zs (encHead k)) s) E s)
    (c : ∀ D zs h' tk', Fr h₀ L h' m → News h₀ L h' ((D, W.listOf (List.toArray zs) zs.length) :: news) → LCg.Off1 D news → IntsAre zs (encHead k) → (encHead k).length ≤ 2 → Q (.ref D) { s with heap := h', toks := tk' }) : wpAny M A t Q E s := cutL _ F N h fun D zs h' tk' a b d e => c D zs h' tk' a b d e (by unfold encHead; repeat' split; all_goals simp)
end Mine
namespace Mine
section
variable {prog : Program} {w : World} {A : Around} {E : Value → Shared → Prop} {s : Shared} {t u : Tok} {a d : Int} {Q : Value → Shared → Prop}
theorem my_pow2 (h : Q (.int 4096 s.toks) { s with toks := s.toks + 1 }) : wpAny (model prog w) A (binaryOp .Pow (.int 64 t) (.int 2 u)) Q E s := pow_int_small (by decide) (by decide) (by decide) h
theorem my_pow1 (h : Q (.int 64 s.toks) { s with toks := s.toks + 1 }) : wpAny (model prog w) A (binaryOp .Pow (.int 64 t) (.int 1 u)) Q E s := pow_int_small (by decide) (by decide) (by decide) h
theorem my_fdiv4096 (h : Q (.int (a.fdiv 4096) s.toks) { s with toks := s.toks + 1 }) : wpAny (model prog w) A (binaryOp .FloorDiv (.int a t) (.int 4096 u)) Q E s := floordiv_int (by decide) h (Or.inl (PyProof.noPylong_of_log2 (by decide +kernel)))
theorem my_fdiv64 (h : Q (.int (a.fdiv 64) s.toks) { s with toks := s.toks + 1 }) : wpAny (model prog w) A (binaryOp .FloorDiv (.int a t) (.int 64 u)) Q E s := floordiv_int (by decide) h (Or.inl (PyProof.noPylong_of_log2 (by decide +kernel)))
theorem my_mul (hs : a = 1 ∨ a = -1) (h : Q (.int (a * d) s.toks) { s with toks := s.toks + 1 }) : wpAny (model prog w) A (binaryOp .Mult (.int a t) (.int d u)) Q E s :=
  mul_int h (IntMulOk.of_left (by rcases hs with rfl | rfl <;> decide))
end
end Mine
namespace Mine
theorem encI2 {k : Int} {t1 t2 : Tok} (h : 4096 ≤ k) : IntsAre [.int (64 + (k.fdiv 4096).fmod 64) t1, .int (64 + (k.fdiv 64).fmod 64) t2] (encHead k) := by
  unfold encHead
  rw [if_pos h, if_pos (by omega)]
  exact .cons _ _ (.cons _ _ .nil)
theorem encI1 {k : Int} {t : Tok} (h1 : ¬ 4096 ≤ k) (h : 64 ≤ k) : IntsAre [.int (64 + (k.fdiv 64).fmod 64) t] (encHead k) := by
  unfold encHead
  rw [if_neg h1, if_pos h]
  exact .cons _ _ .nil
theorem encI0 {k : Int} (h1 : ¬ 4096 ≤ k) (h : ¬ 64 ≤ k) : IntsAre [] (encHead k) := by
  unfold encHead
  rw [if_neg h1, if_neg h]
  exact .nil
end Mine
namespace Mine
theorem my_extend {prog : Program} {w : World} {A : Around} {E : Value → Shared → Prop} {s : Shared} {h₀ : Heap} {L D b : Addr} {m : Str → Option Value} {news news' : List (Addr × Obj)} {vs ws : List Value} {n n2 : Nat} {Q : Value → Shared → Prop} (F : Fr h₀ L s.heap m) (N : News h₀ L s.heap news) (hb : (b, W.listOf ws.toArray n2) ∈ news) (hne : ws.length ≠ 0)
    (U : Upd D (W.listOf vs.toArray n) (W.listOf (vs ++ ws).toArray (n + 1)) news news') (hz : vs.length + ws.length ≤ 1000)
    (h : ∀ h', Fr h₀ L h' m → News h₀ L h' news' → Q .none { s with heap := h' }) : wpAny (model prog w) A (call (.builtin "list.extend") [.ref D, .ref b]) Q E s :=
  kl_extend (l := vs ++ ws) F N hb (by simp) (by simpa using hne) U (by
    have e : Builtin.List.listTooLong (vs.toArray.size + ws.toArray.size) = false := by
      unfold Builtin.List.listTooLong
      simp only [List.size_toArray]
      simp
      rw [sizeLine_eq]
      omega
    rw [e]; simp) (by rw [sizeLine_eq]; simp; omega) (by rw [sizeLine_eq]; simp; omega) h
end Mine
namespace Mine
set_option linter.unusedVariables false
theorem stage {P : Prop} {h₀ h : Heap} {L lo lw lr ln : Addr} {m : Str → Option Value} {all tl : List (Addr × Obj)} {oN o1 o2 o4 o5 o6 : Obj} {v4 v5 v6 : Option Value} {vo vw vr vn : List Value} {co cw cr cn : Nat} {a b c d : Int} {t2 : Tok}
    (F : Fr h₀ L h m) (N : News h₀ L h ((L + 1 + 1 + 1, oN) :: (lo, W.listOf vo.toArray co) :: tl)) (hk : ∀ p ∈ all, p.1 ≠ L + 1 + 1 + 1 → p.1 ≠ lo → p ∈ tl)
    (hmo : m (Str.ofString "octets") = some (.ref lo)) (hmr : m (Str.ofString "row") = some (.ref lr)) (hmn : m (Str.ofString "numbers") = some (.ref ln))
    (h1 : (L + 1, o1) ∈ all) (h2 : (L + 1 + 1, o2) ∈ all) (h4 : (L + 1 + 1 + 1 + 1, o4) ∈ all) (h5 : (L + 1 + 1 + 1 + 1 + 1, o5) ∈ all) (h6 : (L + 1 + 1 + 1 + 1 + 1 + 1, o6) ∈ all)
    (d1 : o1.data = .cell (some (.ref lw))) (d2 : o2.data = .cell (some (.int (Int.fmod d 4) t2))) (d4 : o4.data = .cell v4) (d5 : o5.data = .cell v5) (d6 : o6.data = .cell v6)
    (hw : (lw, W.listOf vw.toArray cw) ∈ all) (hr : (lr, W.listOf vr.toArray cr) ∈ all) (hn : (ln, W.listOf vn.toArray cn) ∈ all)
    (hir : IntsAre vr (rowOf a b c (Int.fmod d 4))) (hio : IntsAre vo ((rowOf a b c (Int.fmod d 4) ++ [0, 24]).flatMap encN))
    (g : @LT.lt Nat _ (L + 1 + 1 + 1 + 1 + 1 + 1) lw ∧ @LT.lt Nat _ lw ln ∧ @LT.lt Nat _ ln lr ∧ @LT.lt Nat _ lr lo)
    (k : ∀ (m₁ : Str → Option Value), m₁ (Str.ofString "octets") = some (.ref lo) → m₁ (Str.ofString "row") = some (.ref lr) → m₁ (Str.ofString "numbers") = some (.ref ln) → ∀ (w4 w5 w6 : Option Value), o4.data = .cell w4 → o5.data = .cell w5 → o6.data = .cell w6 → o1.data = .cell (some (.ref lw)) → o2.data = .cell (some (.int (Int.fmod d 4) t2)) →
      IntsAre vr (rowOf a b c (Int.fmod d 4)) → IntsAre vo ((rowOf a b c (Int.fmod d 4)).flatMap encN ++ 0 :: [24]) → @LT.lt Nat _ (L + 1 + 1 + 1 + 1 + 1 + 1) lw → @LT.lt Nat _ lw ln → @LT.lt Nat _ ln lr → @LT.lt Nat _ lr lo → Fr h₀ L h m₁ →
      News h₀ L h [(L + 1 + 1 + 1 + 1 + 1, o5), (L + 1 + 1 + 1 + 1 + 1 + 1, o6), (L + 1 + 1 + 1 + 1, o4), (lo, W.listOf vo.toArray co), (lr, W.listOf vr.toArray cr), (ln, W.listOf vn.toArray cn), (lw, W.listOf vw.toArray cw), (L + 1 + 1, o2), (L + 1, o1)] → P) : P := by
  obtain ⟨g1, g2, g3, g4⟩ := g
  have up : ∀ {x : Addr} {o : Obj}, (x, o) ∈ all → ¬ @Eq Nat x (L + 1 + 1 + 1) → ¬ @Eq Nat x lo → (x, o) ∈ (L + 1 + 1 + 1, oN) :: (lo, W.listOf vo.toArray co) :: tl := fun hm e1 e2 => List.Mem.tail _ (List.Mem.tail _ (hk _ hm e1 e2))
  refine k m hmo hmr hmn v4 v5 v6 d4 d5 d6 d1 d2 hir (by rw [row_enc] at hio; exact hio) g1 g2 g3 g4 F fun p hp => N p ?_
  have g1' : (L : Nat) + 1 + 1 + 1 + 1 + 1 + 1 < lw := g1
  have g2' : (lw : Nat) < ln := g2
  have g3' : (ln : Nat) < lr := g3
  have g4' : (lr : Nat) < lo := g4
  simp only [List.mem_cons, List.not_mem_nil, or_false] at hp
  rcases hp with rfl | rfl | rfl | rfl | rfl | rfl | rfl | rfl | rfl
  · exact up h5 (by omega) (by omega)
  · exact up h6 (by omega) (by omega)
  · exact up h4 (by omega) (by omega)
  · exact List.Mem.tail _ (List.Mem.head _)
  · exact up hr (by omega) (by omega)
  · exact up hn (by omega) (by omega)
  · exact up hw (by omega) (by omega)
  · exact up h2 (by omega) (by omega)
  · exact up h1 (by omega) (by omega)
end Mine
namespace Mine
theorem my_upto3 {prog : Program} {w : World} {A : Around} {E : Value → Shared → Prop} {s : Shared} {h₀ : Heap} {L l : Addr} {m : Str → Option Value} {news : List (Addr × Obj)} {c : Nat} {Q : Value → Shared → Prop} {x1 x2 x3 x4 : Value} {value slice : PySem.Expr} {t : Tok}
    (F : Fr h₀ L s.heap m) (N : News h₀ L s.heap news) (hl : (l, W.listOf #[x1, x2, x3, x4] c) ∈ news)
    (h : ∀ D h', Fr h₀ L h' m → News h₀ L h' ((D, W.listOf #[x1, x2, x3] 0) :: news) → (∀ q ∈ news, q.1 < D) → Q (.ref D) { s with heap := h' })
    (hs : subscripted slice false (.ref l) (.ref s.heap.objs.size) = operate [.ref s.heap.objs.size, .ref l] (getItem (.ref l) (.ref s.heap.objs.size))) (ht : ∀ r, letTemporaryGo value (.ref l) r = pure ()) :
    wpAny (model prog w) A (subscriptTail value slice (.ref l) (.ref s.heap.objs.size)) Q E { s with heap := s.heap.push { cls := .type "slice", data := .fields #[.none, .int 3 t, .none] } } := by
  refine kmk_slice F N (isL (vs := [x1, x2, x3, x4]) N hl) .none (.int _ _) (fun D h' F' N' l1 => ?_) hs ht (by rw [sizeLine_eq]; simp)
  have e : slicePick [x1, x2, x3, x4].toArray none (some 3) none = #[x1, x2, x3] := by rfl
  rw [e] at N'
  exact h D h' F' N' l1
end Mine
namespace Mine
noncomputable def meantObj (d : MT) (lt : Addr) (t1 t2 : Tok) (c : Nat) : Obj := W.listOf #[.int d.1 t1, .int d.2.1 t2, .ref lt] c
noncomputable def CutM (h₀ : Heap) (L : Addr) (m : Str → Option Value) (news : List (Addr × Obj)) (a b c : Int) (s : Shared) (v : Value) (s' : Shared) : Prop :=
  ∃ D h' tk' l0 k0 l1 k1 l2 k2 c0 c1 c2 cc e0 e1 e2 p0 p1 p2 q0 q1 q2 vs0 vs1 vs2, v = .ref D ∧ s' = { s with heap := h', toks := tk' } ∧ Fr h₀ L h' m ∧
    News h₀ L h' ((D, W.listOf #[.ref l0, .ref l1, .ref l2] cc) :: (l2, meantObj (meantOf c) k2 p2 q2 c2) :: (k2, W.listOf (List.toArray vs2) e2) :: (l1, meantObj (meantOf b) k1 p1 q1 c1) :: (k1, W.listOf (List.toArray vs1) e1) ::
      (l0, meantObj (meantOf a) k0 p0 q0 c0) :: (k0, W.listOf (List.toArray vs0) e0) :: news) ∧ IntsAre vs0 (meantOf a).2.2 ∧ IntsAre vs1 (meantOf b).2.2 ∧ IntsAre vs2 (meantOf c).2.2 ∧
    LCg.Off1 D ((l2, meantObj (meantOf c) k2 p2 q2 c2) :: (k2, W.listOf (List.toArray vs2) e2) :: (l1, meantObj (meantOf b) k1 p1 q1 c1) :: (k1, W.listOf (List.toArray vs1) e1) :: (l0, meantObj (meantOf a) k0 p0 q0 c0) :: (k0, W.listOf (List.toArray vs0) e0) :: news) ∧
    (∀ p ∈ news, p.1 < k0) ∧ @LT.lt Nat _ k0 l0 ∧ @LT.lt Nat _ l0 k1 ∧ @LT.lt Nat _ k1 l1 ∧ @LT.lt Nat _ l1 k2 ∧ @LT.lt Nat _ k2 l2
theorem cut_meant {M : Model} {A : Around} {E : Value → Shared → Prop} {s : Shared} {h₀ : Heap} {L l : Addr} {m : Str → Option Value} {news : List (Addr × Obj)} {t : Sem Value} {Q : Value → Shared → Prop} {a b c : Int} {d : Int} {ta tb tc td : Tok} {cl : Nat}
    (F : Fr h₀ L s.heap m) (N : News h₀ L s.heap news) (_hl : (l, W.listOf #[.int a ta, .int b tb, .int c tc, .int d td] cl) ∈ news)
    (h : wpAny M A t (CutM h₀ L m news a b c s) E s)
    (k : ∀ D h' tk' l0 k0 l1 k1 l2 k2 c0 c1 c2 cc e0 e1 e2 p0 p1 p2 q0 q1 q2 vs0 vs1 vs2, Fr h₀ L h' m →
      News h₀ L h' ((D, W.listOf #[.ref l0, .ref l1, .ref l2] cc) :: (l2, meantObj (meantOf c) k2 p2 q2 c2) :: (k2, W.listOf (List.toArray vs2) e2) :: (l1, meantObj (meantOf b) k1 p1 q1 c1) :: (k1, W.listOf (List.toArray vs1) e1) ::
      (l0, meantObj (meantOf a) k0 p0 q0 c0) :: (k0, W.listOf (List.toArray vs0) e0) :: news) → IntsAre vs0 (meantOf a).2.2 → IntsAre vs1 (meantOf b).2.2 → IntsAre vs2 (meantOf c).2.2 →
      LCg.Off1 D ((l2, meantObj (meantOf c) k2 p2 q2 c2) :: (k2, W.listOf (List.toArray vs2) e2) :: (l1, meantObj (meantOf b) k1 p1 q1 c1) :: (k1, W.listOf (List.toArray vs1) e1) :: (l0, meantObj (meantOf a) k0 p0 q0 c0) :: (k0, W.listOf (List.toArray vs0) e0) :: news) →
      (∀ p ∈ news, p.1 < k0) → @LT.lt Nat _ k0 l0 → @LT.lt Nat _ l0 k1 → @LT.lt Nat _ k1 l1 → @LT.lt Nat _ l1 k2 → @LT.lt Nat _ k2 l2 → Q (.ref D) { s with heap := h', toks := tk' }) : wpAny M A t Q E s :=
  wpAny_mono h (fun v s' hx => by
    obtain ⟨D, h', tk', l0, k0, l1, k1, l2, k2, c0, c1, c2, cc, e0, e1, e2, p0, p1, p2, q0, q1, q2, vs0, vs1, vs2, x1, x2, x3, x4, x5, x6, x7, x8, x9, y1, y2, y3, y4, y5⟩ := hx
    subst x1 x2; exact k D h' tk' l0 k0 l1 k1 l2 k2 c0 c1 c2 cc e0 e1 e2 p0 p1 p2 q0 q1 q2 vs0 vs1 vs2 x3 x4 x5 x6 x7 x8 x9 y1 y2 y3 y4 y5) fun _ _ e => e
theorem meantObj_is {news : List (Addr × Obj)} {l lt : Addr} {d : MT} {t1 t2 : Tok} {c e : Nat} {vs : List Value} (h1 : (l, meantObj d lt t1 t2 c) ∈ news) (h2 : (lt, W.listOf (List.toArray vs) e) ∈ news) (hi : IntsAre vs d.2.2) : MeantIs news l d :=
  ⟨t1, t2, lt, vs, c, e, h1, h2, hi⟩
end Mine
namespace Mine
section
variable {prog : Program} {w : World} {A : Around} {E : Value → Shared → Prop} {s : Shared} {h₀ : Heap} {L : Addr} {m : Str → Option Value} {env : Env}
/-- the library's source of a comprehension, under a name that no line of the library serves -/
noncomputable def SrcM (prog : Program) (w : World) (A : Around) (h₀ : Heap) (L : Addr) (m : Str → Option Value) (env : Env) (elt : PySem.Expr) (x : Str) (scope : Scope) (cl : List (Str × Addr)) (Fin : Shared → List Value → List (Addr × Obj) → Prop) (xv : Value) (s₁ : Shared) : Prop :=
  LCg.CompSrc prog w A h₀ L m env elt x scope cl Fin xv s₁
theorem comp_own {elt iter : PySem.Expr} {x : Str} {px : Pos} {scope : Scope} {cl : List (Str × Addr)} {pos : Pos} {Q : Value → Shared → Prop} (F₀ : Fr h₀ L s.heap m)
    (hclos : closureFor scope env = pure cl) (hcell : ∀ y ∈ scope.names, y.2 ≠ .cell) (hkind : scope.kind = .function)
    (hnames : ∀ y ∈ scope.names, y.2 = .local → scope.names.lookup y.1 = some .local) (hx : scope.names.lookup x = some .local)
    (h : wpAny (model prog w) A (eval iter env) (SrcM prog w A h₀ L m env elt x scope cl (fun s₂ => LCg.FinE h₀ L m s₂ Q)) E s)
    (hs : ∀ x, foldedSetIterable iter env x = pure x := by intro _; rfl) :
    wpAny (model prog w) A (eval (.ListComp elt [⟨.Name x px, iter, [], 0⟩] scope pos) env) Q E s := LCg.ListComp_U F₀ hclos hcell hkind hnames hx h hs
theorem SrcM.put {elt : PySem.Expr} {x : Str} {scope : Scope} {cl : List (Str × Addr)} {Fin : Shared → List Value → List (Addr × Obj) → Prop} {ax : Addr} {its : Array Value} {k : Nat} {news : List (Addr × Obj)} {s₁ : Shared}
    (hh : A.handled = none) (F : Fr h₀ L s₁.heap m) (N : News h₀ L s₁.heap news) (hm : (ax, W.listOf its k) ∈ news) (hsz : its.size ≤ sizeLine)
    (h : ∀ g, LCg.CompRest prog w A h₀ L m env elt x scope cl { s₁ with heap := g } (LCg.SrcAt h₀ ax its) (fun i v => its[i]? = some v) (Fin { s₁ with heap := g }) its.size 0 [] news) :
    SrcM prog w A h₀ L m env elt x scope cl Fin (.ref ax) s₁ := LCg.CompSrc.ledger hh F N hm hsz h
end
end Mine
namespace Mine
theorem comp_end2 {h₀ : Heap} {L I C D l lt : Addr} {ol ot : Obj} {m : Str → Option Value} {s₁ : Shared} {oI oC oD : Obj} {S : List (Addr × Obj) → Prop} {rest : Value → List (Addr × Obj) → Prop} {y : Value} {h' : Heap} {tk : Nat} {news' : List (Addr × Obj)}
    (F : Fr h₀ L h' m) (N : News h₀ L h' ((l, ol) :: (lt, ot) :: (I, oI) :: (C, oC) :: (D, oD) :: news')) (off : LCg.Off3 I C D news') (g : @LT.lt Nat _ I lt ∧ @LT.lt Nat _ C lt ∧ @LT.lt Nat _ D lt) (g2 : @LT.lt Nat _ lt l)
    (hS : S ((l, ol) :: (lt, ot) :: news')) (r : rest y ((l, ol) :: (lt, ot) :: news')) : LCg.CompEnd h₀ L m s₁ I oI C oC D oD S rest y { s₁ with heap := h', toks := tk } := by
  refine ⟨h', tk, _, rfl, F, fun p hp => N p ?_, ?_, hS, r⟩
  · simp only [List.mem_cons] at hp ⊢
    rcases hp with h | h | h | h | h | h
    · exact .inr (.inr (.inl h))
    · exact .inr (.inr (.inr (.inl h)))
    · exact .inr (.inr (.inr (.inr (.inl h))))
    · exact .inl h
    · exact .inr (.inl h)
    · exact .inr (.inr (.inr (.inr (.inr h))))
  · obtain ⟨a, b, c⟩ := g
    have e1 : (I : Nat) < l := Nat.lt_trans a g2
    have e2 : (C : Nat) < l := Nat.lt_trans b g2
    have e3 : (D : Nat) < l := Nat.lt_trans c g2
    exact ⟨⟨Nat.ne_of_gt e1, Nat.ne_of_gt e2, Nat.ne_of_gt e3⟩, ⟨Nat.ne_of_gt a, Nat.ne_of_gt b, Nat.ne_of_gt c⟩, off⟩
end Mine
namespace Mine
set_option linter.unusedVariables false
abbrev stS : List Str := [Str.ofString "bounds", Str.ofString "far", Str.ofString "told", Str.ofString "near", Str.ofString "held"]
section
variable {prog : Program} {w : World} {A : Around} {E : Value → Shared → Prop} {s : Shared} {h₀ : Heap} {env : Env} {target : PySem.Expr} {body : List Stmt} {Q : Flow → Shared → Prop}
theorem For_stop {iter : PySem.Expr} {pos : Pos} {m : Str → Option Value} (F : Fr h₀ env.locals s.heap m)
    (h : wpAny (model prog w) A (eval iter env) (fun xv s₁ => Stop (wpAny (model prog w) A (pyIter xv) (fun it s₂ => TurnsAt prog w A h₀ env target body Q E it s₂) E s₁)) E s)
    (hs : ∀ x, foldedSetIterable iter env x = pure x := by intro _; rfl) (hE : PassesOwn (model prog w) A env E := by passes_own) :
    wpAny (model prog w) A (exec (.For target iter body [] pos) env) Q E s := For_turns F h hs hE
theorem pack2g {P : Prop} {h : Heap} {L a b : Addr} {oa ob : Obj} {all : List (Addr × Obj)} (N : News h₀ L h all) (ha : (a, oa) ∈ all) (hb' : (b, ob) ∈ all)
    (k : ∀ tl : List (Addr × Obj), (∀ p ∈ all, p.1 ≠ a → p.1 ≠ b → p ∈ tl) → (∀ p ∈ tl, p.1 ≠ a) → (∀ p ∈ tl, p.1 ≠ b) → News h₀ L h ((a, oa) :: (b, ob) :: tl) → P) : P := by
  refine k (all.filter fun p => decide (p.1 ≠ a ∧ p.1 ≠ b)) (fun p hp h1 h2 => List.mem_filter.mpr ⟨hp, by simp only [decide_eq_true_eq]; exact ⟨h1, h2⟩⟩) (fun p hp => ?_) (fun p hp => ?_) (fun p hp => ?_)
  · exact (of_decide_eq_true (List.mem_filter.mp hp).2).1
  · exact (of_decide_eq_true (List.mem_filter.mp hp).2).2
  · rcases List.mem_cons.mp hp with rfl | hp
    · exact N _ ha
    · rcases List.mem_cons.mp hp with rfl | hp
      · exact N _ hb'
      · exact N _ (List.mem_filter.mp hp).1
noncomputable def JS (cS cM : Addr) (m₀ : Str → Option Value) (tl : List (Addr × Obj)) (m' : Str → Option Value) (n' : List (Addr × Obj)) : Prop :=
  ∃ oS oM vS vM, oS.data = .cell vS ∧ oM.data = .cell vM ∧ Shp stS [] m₀ m' ∧ n' = (cS, oS) :: (cM, oM) :: tl
theorem JS.fin' {L : Addr} {its all : List (Addr × Obj)} {s₁ : Shared} {h' : Heap} {tk : Nat} {cS cM : Addr} {tl : List (Addr × Obj)} {m₀ m' : Str → Option Value} {oS oM : Obj} {vS vM : Option Value}
    (F : Fr h₀ L h' m') (N : News h₀ L h' all) (hI : ∀ p ∈ its, p ∈ all) (hn : ∀ p ∈ (cS, oS) :: (cM, oM) :: tl, p ∈ all) (hd : oS.data = .cell vS) (hd' : oM.data = .cell vM) (hS : Shp stS [] m₀ m') :
    MPost h₀ L its (JS cS cM m₀ tl) s₁ Q .next { s₁ with heap := h', toks := tk } := MPost.next _ F N hI hn ⟨oS, oM, vS, vM, hd, hd', hS, rfl⟩
theorem loop_side {ax cS cM lread : Addr} {t1 t2 c : Nat} {oS oM : Obj} {vS vM : Option Value} {m₀ : Str → Option Value} {tl : List (Addr × Obj)}
    (hh : A.handled = none) (F : Fr h₀ env.locals s.heap m₀) (N : News h₀ env.locals s.heap ((cS, oS) :: (cM, oM) :: tl)) (hm : (ax, W.listOf #[.int 1 t1, .int (-1) t2] c) ∈ tl) (dS : oS.data = .cell vS) (dM : oM.data = .cell vM)
    (hread : m₀ (Str.ofString "read") = some (.ref lread)) (hcc : @LT.lt Nat _ cS cM)
    (turn : ∀ m₁ : Str → Option Value, m₁ (Str.ofString "read") = some (.ref lread) → ∀ (side : Int) st (u : Str → Option Value) oS oM vS vM h tk I o, (side = 1 ∨ side = -1) → oS.data = .cell vS → oM.data = .cell vM → @LT.lt Nat _ cS cM → @LT.lt Nat _ cS I → @LT.lt Nat _ cM I → (∀ p ∈ tl, p.1 < I) →
      Fr h₀ env.locals h (fun z => if stS.contains z then u z else m₁ z) → News h₀ env.locals h ((I, o) :: (cS, oS) :: (cM, oM) :: tl) →
      wpAny (model prog w) A (assign target env (.int side st)) (fun _ s₂ => wpAny (model prog w) A (execs body env) (MPost h₀ env.locals [(I, o)] (JS cS cM m₁ tl) { s with heap := h, toks := tk } (fun _ _ => False)) E s₂) E { s with heap := h, toks := tk })
    (done : ∀ (u : Str → Option Value) oS oM h tk, Fr h₀ env.locals h (fun z => if stS.contains z then u z else m₀ z) → News h₀ env.locals h ((cS, oS) :: (cM, oM) :: tl) → Q .next { s with heap := h, toks := tk }) :
    wpAny (model prog w) A (pyIter (.ref ax)) (fun it s₂ => TurnsAt prog w A h₀ env target body Q E it s₂) E s := by
  refine my_turns (vs := [.int 1 t1, .int (-1) t2]) (fun r m n => (∀ v ∈ r, ∃ side st, v = .int side st ∧ (side = 1 ∨ side = -1)) ∧ JS cS cM m₀ tl m n) hh F N (.tail _ (.tail _ hm)) ?_ ?_ ?_ ?_
  · rintro r m n ⟨_, oS', oM', vS', vM', h1, h2, h3, rfl⟩
    exact ⟨rfl, .tail _ (.tail _ hm)⟩
  · refine ⟨?_, oS, oM, vS, vM, dS, dM, ⟨List.forall_mem_nil _, fun _ _ _ => rfl⟩, rfl⟩
    intro v hv
    simp only [List.mem_cons, List.not_mem_nil, or_false] at hv
    rcases hv with rfl | rfl
    · exact ⟨1, _, rfl, .inl rfl⟩
    · exact ⟨-1, _, rfl, .inr rfl⟩
  · rintro v r m n h tk I o ⟨hr, oS', oM', vS', vM', h1, h2, h3, rfl⟩ hI F' N'
    obtain ⟨side, st, rfl, hside⟩ := hr v (List.Mem.head _)
    obtain ⟨u, rfl⟩ := h3.ex
    refine wpAny_mono (turn m₀ hread side st u oS' oM' vS' vM' h tk I o hside h1 h2 hcc (hI _ (.head _)) (hI _ (.tail _ (.head _))) (fun p hp => hI p (.tail _ (.tail _ hp))) F' N') (fun _ s₂ x => wpAny_mono x (fun f s₃ y => ?_) fun _ _ e => e) fun _ _ e => e
    cases f with
    | ret v => exact False.elim y
    | brk => exact False.elim y
    | next => obtain ⟨h', tk', m', n', a, b, c, d⟩ := y; exact ⟨h', tk', m', n', a, b, c, fun v hv => hr v (List.Mem.tail _ hv), d⟩
    | cont => obtain ⟨h', tk', m', n', a, b, c, d⟩ := y; exact ⟨h', tk', m', n', a, b, c, fun v hv => hr v (List.Mem.tail _ hv), d⟩
  · rintro m n h tk ⟨_, oS', oM', vS', vM', h1, h2, h3, rfl⟩ F' N'
    obtain ⟨u, rfl⟩ := h3.ex
    exact done u oS' oM' h tk F' N'
end
end Mine
namespace Mine
theorem ne_cell {h₀ h : Heap} {L a x : Addr} {all : List (Addr × Obj)} {o o5 : Obj} {v5 : Option Value} (N : News h₀ L h all) (h5 : (a, o5) ∈ all) (d5 : o5.data = .cell v5) (hp : (x, o) ∈ all) (hd : ∀ v, o.data ≠ .cell v) : x ≠ a := by
  rintro rfl
  have e1 := (N _ h5).1
  have e2 := (N _ hp).1
  dsimp only at e1 e2
  rw [e1] at e2
  cases e2
  exact hd _ d5
theorem stage2 {P : Prop} {h₀ h : Heap} {L ax lw lread D l0 l1 l2 k0 k1 k2 : Addr} {m : Str → Option Value} {all : List (Addr × Obj)} {o1 o2 o4 o5 o6 : Obj} {v5 v6 : Option Value} {vw vr vs0 vs1 vs2 : List Value} {cw cr cx cc c0 c1 c2 e0 e1 e2 : Nat} {p0 p1 p2 q0 q1 q2 x1 x2 t2 : Tok} {a b c d : Int}
    (F : Fr h₀ L h m) (N : News h₀ L h all) (hm : m (Str.ofString "read") = some (.ref lread))
    (h1 : (L + 1, o1) ∈ all) (h2 : (L + 1 + 1, o2) ∈ all) (h4 : (L + 1 + 1 + 1 + 1, o4) ∈ all) (h5 : (L + 1 + 1 + 1 + 1 + 1, o5) ∈ all) (h6 : (L + 1 + 1 + 1 + 1 + 1 + 1, o6) ∈ all)
    (d1 : o1.data = .cell (some (.ref lw))) (d2 : o2.data = .cell (some (.int (Int.fmod d 4) t2))) (d4 : o4.data = .cell (some (.ref D))) (d5 : o5.data = .cell v5) (d6 : o6.data = .cell v6)
    (hw : (lw, W.listOf vw.toArray cw) ∈ all) (hr : (lread, W.listOf vr.toArray cr) ∈ all) (hir : IntsAre vr (rowOf a b c (Int.fmod d 4))) (hx : (ax, W.listOf #[.int 1 x1, .int (-1) x2] cx) ∈ all)
    (hD : (D, W.listOf #[.ref l0, .ref l1, .ref l2] cc) ∈ all) (a0 : (l0, meantObj (meantOf a) k0 p0 q0 c0) ∈ all) (b0 : (k0, W.listOf vs0.toArray e0) ∈ all) (i0 : IntsAre vs0 (meantOf a).2.2)
    (a1 : (l1, meantObj (meantOf b) k1 p1 q1 c1) ∈ all) (b1 : (k1, W.listOf vs1.toArray e1) ∈ all) (i1 : IntsAre vs1 (meantOf b).2.2) (a2 : (l2, meantObj (meantOf c) k2 p2 q2 c2) ∈ all) (b2 : (k2, W.listOf vs2.toArray e2) ∈ all) (i2 : IntsAre vs2 (meantOf c).2.2)
    (k : ∀ tl : List (Addr × Obj), (∀ p ∈ tl, p.1 ≠ L + 1 + 1 + 1 + 1 + 1) → (∀ p ∈ tl, p.1 ≠ L + 1 + 1 + 1 + 1 + 1 + 1) → (L + 1, o1) ∈ tl → (L + 1 + 1, o2) ∈ tl → (L + 1 + 1 + 1 + 1, o4) ∈ tl → (lw, W.listOf vw.toArray cw) ∈ tl → (lread, W.listOf vr.toArray cr) ∈ tl → (ax, W.listOf #[.int 1 x1, .int (-1) x2] cx) ∈ tl →
      (D, W.listOf #[.ref l0, .ref l1, .ref l2] cc) ∈ tl → MeantIs tl l0 (meantOf a) → MeantIs tl l1 (meantOf b) → MeantIs tl l2 (meantOf c) → o1.data = .cell (some (.ref lw)) → o2.data = .cell (some (.int (Int.fmod d 4) t2)) → o4.data = .cell (some (.ref D)) → o5.data = .cell v5 → o6.data = .cell v6 →
      IntsAre vr (rowOf a b c (Int.fmod d 4)) → Fr h₀ L h m → News h₀ L h ((L + 1 + 1 + 1 + 1 + 1, o5) :: (L + 1 + 1 + 1 + 1 + 1 + 1, o6) :: tl) → P) : P := by
  refine pack2g N h5 h6 fun tl hk f1 f2 N2 => ?_
  have up : ∀ {x : Addr} {o : Obj}, (x, o) ∈ all → (∀ v, o.data ≠ .cell v) → (x, o) ∈ tl := fun hp hd => hk _ hp (ne_cell N h5 d5 hp hd) (ne_cell N h6 d6 hp hd)
  have nl : ∀ {arr : Array Value} {n : Nat}, ∀ v, (W.listOf arr n).data ≠ .cell v := fun v e => by cases e
  have z1 : @Ne Nat (L + 1) (L + 1 + 1 + 1 + 1 + 1) ∧ @Ne Nat (L + 1) (L + 1 + 1 + 1 + 1 + 1 + 1) ∧ @Ne Nat (L + 1 + 1) (L + 1 + 1 + 1 + 1 + 1) ∧ @Ne Nat (L + 1 + 1) (L + 1 + 1 + 1 + 1 + 1 + 1) ∧ @Ne Nat (L + 1 + 1 + 1 + 1) (L + 1 + 1 + 1 + 1 + 1) ∧ @Ne Nat (L + 1 + 1 + 1 + 1) (L + 1 + 1 + 1 + 1 + 1 + 1) := by
    have key : ∀ n : Nat, (n + 1 ≠ n + 1 + 1 + 1 + 1 + 1) ∧ (n + 1 ≠ n + 1 + 1 + 1 + 1 + 1 + 1) ∧ (n + 1 + 1 ≠ n + 1 + 1 + 1 + 1 + 1) ∧ (n + 1 + 1 ≠ n + 1 + 1 + 1 + 1 + 1 + 1) ∧ (n + 1 + 1 + 1 + 1 ≠ n + 1 + 1 + 1 + 1 + 1) ∧ (n + 1 + 1 + 1 + 1 ≠ n + 1 + 1 + 1 + 1 + 1 + 1) := fun n => by omega
    exact key L
  exact k tl f1 f2 (hk _ h1 z1.1 z1.2.1) (hk _ h2 z1.2.2.1 z1.2.2.2.1) (hk _ h4 z1.2.2.2.2.1 z1.2.2.2.2.2)
    (up hw nl) (up hr nl) (up hx nl) (up hD nl) (meantObj_is (up a0 nl) (up b0 nl) i0) (meantObj_is (up a1 nl) (up b1 nl) i1) (meantObj_is (up a2 nl) (up b2 nl) i2) d1 d2 d4 d5 d6 hir F N2
end Mine
namespace Mine
set_option linter.unusedVariables false
theorem six_of {n : Int} (h : 0 ≤ n ∧ n < 8) (h6 : n < 6) : n = 0 ∨ n = 1 ∨ n = 2 ∨ n = 3 ∨ n = 4 ∨ n = 5 := by omega
/-- the bounds that one sentence adds -/
noncomputable def bOf (side v : Int) : List Int :=
  let t := Int.fmod (Int.fdiv v 8) 9 - 4
  let k := Int.fmod v 8
  if k = 0 then (if 0 < side then [] else [t]) else if k = 1 then (if 0 < side then [t] else []) else if k = 2 then (if 0 < side then [] else [t - side])
  else if k = 3 then (if 0 < side then [t - side] else []) else if k = 4 then [t - side] else if k = 5 then [t] else []
noncomputable def mOf (v m : Int) : Int := if Int.fmod v 8 < 6 then m else if Int.fmod m (2 + Int.fmod (Int.fdiv v 8) 2) ≠ 0 then m * (2 + Int.fmod (Int.fdiv v 8) 2) else m
theorem bnd_skip (side n : Int) (r bs : List Int) (m : Int) (h : n ≠ 256) : boundsF side (n :: r) bs m = boundsF side r bs m := by
  rw [boundsF, boundAt, if_neg h]
theorem bnd_sent (side v : Int) (hs : side = 1 ∨ side = -1) (r bs : List Int) (m : Int) : boundsF side (sentCode v ++ r) bs m = boundsF side r (bs ++ bOf side v) (mOf v m) := by
  have h8 := fm v (n := 8) (by decide)
  have h9 := fm (Int.fdiv v 8) (n := 9) (by decide)
  have h2 := fm (Int.fdiv v 8) (n := 2) (by decide)
  have h3 := fm (Int.fdiv v 16) (n := 3) (by decide)
  have h1 := fm v (n := 2) (by decide)
  by_cases hk : Int.fmod v 8 < 6
  · have e : sentCode v = [256, 4096 + Int.fmod (Int.fdiv v 8) 9, [245, 246, 254, 255, 252, 253].getD (Int.fmod v 8).toNat 0] := by unfold sentCode; rw [if_pos hk]
    have em : mOf v m = m := by unfold mOf; rw [if_pos hk]
    rw [e, em]
    simp only [List.cons_append, List.nil_append]
    rw [boundsF]
    rw [bnd_skip _ _ _ _ _ (by omega)]
    have e3 : 4096 + Int.fmod (Int.fdiv v 8) 9 - 4100 = Int.fmod (Int.fdiv v 8) 9 - 4 := by omega
    rcases six_of h8 hk with h | h | h | h | h | h <;> rcases hs with rfl | rfl <;> rw [h] <;> rw [bnd_skip _ _ _ _ _ (by decide)] <;> simp [boundAt, bOf, h, e3]
  · have e : sentCode v = [256, 4102 + Int.fmod (Int.fdiv v 8) 2, 249, 4100 + Int.fmod (Int.fdiv v 16) 3, 252 + Int.fmod v 2] := by unfold sentCode; rw [if_neg hk]
    have eb : bOf side v = [] := by
      unfold bOf
      simp only
      rw [if_neg (by omega), if_neg (by omega), if_neg (by omega), if_neg (by omega), if_neg (by omega), if_neg (by omega)]
    rw [e, eb, List.append_nil]
    simp only [List.cons_append, List.nil_append]
    rw [boundsF, bnd_skip _ _ _ _ _ (by omega), bnd_skip _ _ _ _ _ (by omega), bnd_skip _ _ _ _ _ (by omega), bnd_skip _ _ _ _ _ (by omega)]
    unfold mOf
    rw [if_neg hk]
    have e2 : 4102 + Int.fmod (Int.fdiv v 8) 2 - 4100 = 2 + Int.fmod (Int.fdiv v 8) 2 := by omega
    simp only [boundAt, List.getD_cons_zero, List.getD_cons_succ, e2]
    rcases hs with rfl | rfl <;> simp <;> split <;> simp_all
theorem bnd_row (side a b c j : Int) (hs : side = 1 ∨ side = -1) (hj : 0 ≤ j ∧ j < 4) :
    boundsF side (rowOf a b c j) [] 1 = (bOf side a ++ bOf side b ++ bOf side c, mOf c (mOf b (mOf a 1))) := by
  have h2 := fm j (n := 2) (by decide)
  have h5 : Int.fdiv j 2 = j / 2 := Int.fdiv_eq_ediv_of_nonneg _ (by decide)
  unfold rowOf
  rw [List.append_assoc, List.append_assoc, List.append_assoc, bnd_sent _ _ hs, bnd_sent _ _ hs]
  simp only [List.cons_append, List.nil_append]
  rw [bnd_skip _ _ _ _ _ (by omega), bnd_sent _ _ hs, bnd_skip _ _ _ _ _ (by rw [h5]; omega)]
  rfl
theorem bOf_len (side v : Int) : (bOf side v).length ≤ 1 := by
  unfold bOf
  simp only
  repeat' split
  all_goals simp
theorem bounds_3' (a b c d side : Int) (hs : side = 1 ∨ side = -1) : (boundsF side (rowOf a b c (Int.fmod d 4)) [] 1).1.length ≤ 3 := by
  rw [bnd_row _ _ _ _ _ hs (fm d (by decide))]
  have h1 := bOf_len side a
  have h2 := bOf_len side b
  have h3 := bOf_len side c
  simp only [List.length_append]
  omega
end Mine
namespace Mine
set_option linter.unusedVariables false
theorem mOf_sent (v m : Int) (hm : m = 1 ∨ m = 2 ∨ m = 3 ∨ m = 6) : mOf v m = 1 ∨ mOf v m = 2 ∨ mOf v m = 3 ∨ mOf v m = 6 := by
  have h2 := fm (Int.fdiv v 8) (n := 2) (by decide)
  unfold mOf
  split
  · exact hm
  · have : Int.fmod (Int.fdiv v 8) 2 = 0 ∨ Int.fmod (Int.fdiv v 8) 2 = 1 := by omega
    rcases this with h | h <;> rw [h] <;> rcases hm with rfl | rfl | rfl | rfl <;> decide
theorem many_ok' (a b c d side : Int) (hs : side = 1 ∨ side = -1) : 1 ≤ (boundsF side (rowOf a b c (Int.fmod d 4)) [] 1).2 ∧ (boundsF side (rowOf a b c (Int.fmod d 4)) [] 1).2 ≤ 6 := by
  rw [bnd_row _ _ _ _ _ hs (fm d (by decide))]
  have := mOf_sent c _ (mOf_sent b _ (mOf_sent a 1 (.inl rfl)))
  dsimp only
  omega
theorem bok_skip {n : Int} {r : List Int} (h : n ≠ 256) (hr : boundsOk r) : boundsOk (n :: r) := ⟨fun e => absurd e h, hr⟩
theorem bok_sent (v : Int) {r : List Int} (hr : boundsOk r) : boundsOk (sentCode v ++ r) := by
  have h8 := fm v (n := 8) (by decide)
  have h9 := fm (Int.fdiv v 8) (n := 9) (by decide)
  have h2 := fm (Int.fdiv v 8) (n := 2) (by decide)
  have h3 := fm (Int.fdiv v 16) (n := 3) (by decide)
  have h1 := fm v (n := 2) (by decide)
  unfold sentCode
  split
  · rename_i hk
    have hg : [245, 246, 254, 255, 252, 253].getD (Int.fmod v 8).toNat (0 : Int) ≠ 256 ∧ [245, 246, 254, 255, 252, 253].getD (Int.fmod v 8).toNat (0 : Int) ≠ 249 := by
      rcases six_of h8 hk with h | h | h | h | h | h <;> rw [h] <;> decide
    refine ⟨fun _ => ⟨by simp, fun e => absurd e hg.2⟩, ?_⟩
    exact bok_skip (by omega) (bok_skip hg.1 hr)
  · refine ⟨fun _ => ⟨by simp, fun _ => ?_⟩, ?_⟩
    · show 4102 + Int.fmod (Int.fdiv v 8) 2 = 4102 ∨ 4102 + Int.fmod (Int.fdiv v 8) 2 = 4103
      omega
    · exact bok_skip (by omega) (bok_skip (by omega) (bok_skip (by omega) (bok_skip (by omega) hr)))
theorem boundsOk_row' (a b c d : Int) : boundsOk (rowOf a b c (Int.fmod d 4)) := by
  have hj := fm d (n := 4) (by decide)
  have h2 := fm (Int.fmod d 4) (n := 2) (by decide)
  have h5 : Int.fdiv (Int.fmod d 4) 2 = Int.fmod d 4 / 2 := Int.fdiv_eq_ediv_of_nonneg _ (by decide)
  unfold rowOf
  rw [List.append_assoc, List.append_assoc, List.append_assoc]
  refine bok_sent _ (bok_sent _ (bok_skip (by omega) (bok_sent _ (bok_skip (by rw [h5]; omega) trivial))))
theorem deed_told (x u k : Int) (hk : 0 ≤ k ∧ k < 8) : deedOf ([245, 246, 254, 255, 252, 253, 252, 253].getD k.toNat 0) (.i x) (.i u) = some (.b (decide (sgn (x - u) ∈ takesOf k))) := by
  have hc : k = 0 ∨ k = 1 ∨ k = 2 ∨ k = 3 ∨ k = 4 ∨ k = 5 ∨ k = 6 ∨ k = 7 := by omega
  rcases Int.lt_trichotomy x u with h | h | h
  · have q : sgn (x - u) = -1 := by unfold sgn; rw [if_neg (by omega), if_pos (by omega)]; rfl
    have a1 : ¬ u < x := by omega
    have a2 : x ≤ u := by omega
    have a3 : ¬ u ≤ x := by omega
    have a4 : ¬ x = u := by omega
    rw [q]
    rcases hc with rfl | rfl | rfl | rfl | rfl | rfl | rfl | rfl <;> simp [deedOf, takesOf, h, a1, a2, a3, a4]
  · subst h
    have q : sgn (x - x) = 0 := by rw [Int.sub_self]; rfl
    rw [q]
    rcases hc with rfl | rfl | rfl | rfl | rfl | rfl | rfl | rfl <;> simp [deedOf, takesOf]
  · have q : sgn (x - u) = 1 := by unfold sgn; rw [if_pos (by omega), if_neg (by omega)]; rfl
    have a1 : ¬ x < u := by omega
    have a2 : u ≤ x := by omega
    have a3 : ¬ x ≤ u := by omega
    have a4 : ¬ x = u := by omega
    rw [q]
    rcases hc with rfl | rfl | rfl | rfl | rfl | rfl | rfl | rfl <;> simp [deedOf, takesOf, h, a1, a2, a3, a4]
theorem run_sent (v x : Int) (pile : List PV) : (sentCode v).foldlM (stepM x) pile = some (.b (toldOf (meantOf v) x) :: pile) := by
  have h8 := fm v (n := 8) (by decide)
  have h9 := fm (Int.fdiv v 8) (n := 9) (by decide)
  have h2 := fm (Int.fdiv v 8) (n := 2) (by decide)
  have h3 := fm (Int.fdiv v 16) (n := 3) (by decide)
  have h1 := fm v (n := 2) (by decide)
  by_cases hk : Int.fmod v 8 < 6
  · have e : sentCode v = [256, 4096 + Int.fmod (Int.fdiv v 8) 9, [245, 246, 254, 255, 252, 253].getD (Int.fmod v 8).toNat 0] := by unfold sentCode; rw [if_pos hk]
    have em : meantOf v = (0, Int.fmod (Int.fdiv v 8) 9 - 4, takesOf (Int.fmod v 8)) := by unfold meantOf; rw [if_pos hk]
    have e3 : 4096 + Int.fmod (Int.fdiv v 8) 9 - 4100 = Int.fmod (Int.fdiv v 8) 9 - 4 := by omega
    rw [e, em]
    generalize Int.fmod (Int.fdiv v 8) 9 = t at *
    have s1 : stepM x pile 256 = some (.i x :: pile) := rfl
    have s2 : ∀ p, stepM x p (4096 + t) = some (.i (t - 4) :: p) := fun p => by
      unfold stepM
      rw [if_neg (by omega), if_neg (by omega), e3]
    rw [List.foldlM_cons, s1]
    show (List.foldlM (stepM x) (.i x :: pile) _ : Option _) = _
    rw [List.foldlM_cons, s2]
    show (List.foldlM (stepM x) (.i (t - 4) :: .i x :: pile) _ : Option _) = _
    have key : ∀ k, k = 0 ∨ k = 1 ∨ k = 2 ∨ k = 3 ∨ k = 4 ∨ k = 5 → deedOf ([245, 246, 254, 255, 252, 253].getD k.toNat 0) (.i x) (.i (t - 4)) = some (.b (toldOf (0, t - 4, takesOf k) x)) := by
      intro k hk
      have eo : ∀ tk, overOf (0, t - 4, tk) x = x - (t - 4) := fun tk => by simp [overOf]
      simp only [toldOf, eo]
      have e : [245, 246, 254, 255, 252, 253].getD k.toNat (0 : Int) = [245, 246, 254, 255, 252, 253, 252, 253].getD k.toNat 0 := by rcases hk with rfl | rfl | rfl | rfl | rfl | rfl <;> decide
      rw [e]
      exact deed_told x (t - 4) k (by omega)
    have hn : [245, 246, 254, 255, 252, 253].getD (Int.fmod v 8).toNat (0 : Int) < 256 := by
      rcases six_of h8 hk with h | h | h | h | h | h <;> rw [h] <;> decide
    rw [List.foldlM_cons]
    have s3 : stepM x (.i (t - 4) :: .i x :: pile) ([245, 246, 254, 255, 252, 253].getD (Int.fmod v 8).toNat 0) = some (.b (toldOf (0, t - 4, takesOf (Int.fmod v 8)) x) :: pile) := by
      unfold stepM
      rw [if_pos hn]
      dsimp only
      rw [key _ (six_of h8 hk)]
      rfl
    rw [s3]
    rfl
  · have e : sentCode v = [256, 4102 + Int.fmod (Int.fdiv v 8) 2, 249, 4100 + Int.fmod (Int.fdiv v 16) 3, 252 + Int.fmod v 2] := by unfold sentCode; rw [if_neg hk]
    have em : meantOf v = (2 + Int.fmod (Int.fdiv v 8) 2, Int.fmod (Int.fdiv v 16) 3, takesOf (Int.fmod v 8)) := by unfold meantOf; rw [if_neg hk]
    rw [e, em]
    have hp : Int.fmod v 8 = 6 + Int.fmod v 2 := by
      have a1 := Int.fmod_eq_emod_of_nonneg v (b := 8) (by decide)
      have a2 := Int.fmod_eq_emod_of_nonneg v (b := 2) (by decide)
      omega
    rw [hp]
    have hb : Int.fmod v 2 = 0 ∨ Int.fmod v 2 = 1 := by omega
    generalize Int.fmod v 2 = bb at *
    generalize Int.fmod (Int.fdiv v 8) 2 = m at *
    generalize Int.fmod (Int.fdiv v 16) 3 = r at *
    have s1 : stepM x pile 256 = some (.i x :: pile) := rfl
    have s2 : ∀ p, stepM x p (4102 + m) = some (.i (2 + m) :: p) := fun p => by
      unfold stepM
      rw [if_neg (by omega), if_neg (by omega)]
      have : 4102 + m - 4100 = 2 + m := by omega
      rw [this]
    have s3 : stepM x (.i (2 + m) :: .i x :: pile) 249 = some (.i (Int.fmod x (2 + m)) :: pile) := by
      unfold stepM
      rw [if_pos (by decide)]
      dsimp only
      have : 0 < 2 + m := by omega
      simp [deedOf, this]
    have s4 : ∀ p, stepM x p (4100 + r) = some (.i r :: p) := fun p => by
      unfold stepM
      rw [if_neg (by omega), if_neg (by omega)]
      have : 4100 + r - 4100 = r := by omega
      rw [this]
    have s5 : stepM x (.i r :: .i (Int.fmod x (2 + m)) :: pile) (252 + bb) = some (.b (toldOf (2 + m, r, takesOf (6 + bb)) x) :: pile) := by
      unfold stepM
      rw [if_pos (by omega)]
      dsimp only
      have eo : ∀ tk, overOf (2 + m, r, tk) x = Int.fmod x (2 + m) - r := fun tk => by simp only [overOf]; rw [if_pos (by omega)]
      simp only [toldOf, eo]
      generalize Int.fmod x (2 + m) = y
      have e : (252 + bb : Int) = [245, 246, 254, 255, 252, 253, 252, 253].getD (6 + bb).toNat 0 := by rcases hb with rfl | rfl <;> decide
      rw [e, deed_told y r (6 + bb) (by omega)]
      rfl
    rw [List.foldlM_cons, s1]
    show (List.foldlM (stepM x) (.i x :: pile) _ : Option _) = _
    rw [List.foldlM_cons, s2]
    show (List.foldlM (stepM x) (.i (2 + m) :: .i x :: pile) _ : Option _) = _
    rw [List.foldlM_cons, s3]
    show (List.foldlM (stepM x) (.i (Int.fmod x (2 + m)) :: pile) _ : Option _) = _
    rw [List.foldlM_cons, s4]
    show (List.foldlM (stepM x) (.i r :: .i (Int.fmod x (2 + m)) :: pile) _ : Option _) = _
    rw [List.foldlM_cons, s5]
    rfl
end Mine
namespace Mine
set_option linter.unusedVariables false
theorem run_row' (a b c d x : Int) : runM x (rowOf a b c (Int.fmod d 4)) = some [.b (trueOf (meantOf a) (meantOf b) (meantOf c) (Int.fmod d 4) x)] := by
  have hj := fm d (n := 4) (by decide)
  generalize Int.fmod d 4 = j at *
  have hc : j = 0 ∨ j = 1 ∨ j = 2 ∨ j = 3 := by omega
  unfold runM rowOf
  simp only [List.foldlM_append, run_sent, Option.bind_eq_bind, Option.bind_some, List.foldlM_cons, List.foldlM_nil]
  unfold trueOf
  generalize toldOf (meantOf a) x = A
  generalize toldOf (meantOf b) x = B
  generalize toldOf (meantOf c) x = C
  rcases hc with rfl | rfl | rfl | rfl <;> cases A <;> cases B <;> cases C <;> rfl
theorem sum_filt (g : Int → Int) (T : Int → Bool) : ∀ l : List Int, ((l.filter T).map g).sum = (l.map fun x => if T x = true then g x else 0).sum
  | [] => rfl
  | x :: l => by
    have ih := sum_filt g T l
    by_cases h : T x = true
    · rw [List.filter_cons_of_pos h, List.map_cons, List.map_cons, List.sum_cons, List.sum_cons, ih, if_pos h]
    · rw [List.filter_cons_of_neg h, List.map_cons, List.sum_cons, ih, if_neg h, Int.zero_add]
theorem flags_law' (side M : Int) (hs : side = 1 ∨ side = -1) (hM : 1 ≤ M ∧ M ≤ 6) (T : Int → Bool) :
    (List.map (fun x => 1 * 2 ^ (600 + side * x).toNat) ((List.map (fun k' => side * (k' - 600)) (rangeKs 1 (M + 1 - 1).toNat)).filter T)).sum = flagsOf ((List.range 6).map fun k : Nat => decide ((k : Int) < M) && T (side * ((k : Int) - 599))) := by
  have hM' : M = 1 ∨ M = 2 ∨ M = 3 ∨ M = 4 ∨ M = 5 ∨ M = 6 := by omega
  rw [sum_filt]
  rcases hM' with rfl | rfl | rfl | rfl | rfl | rfl <;> rcases hs with rfl | rfl <;> simp [rangeKs, List.range_succ, flagsOf, flagsGo] <;> omega
end Mine
namespace Mine
set_option linter.unusedVariables false
theorem boundsOk_row (a b c d : Int) : boundsOk (rowOf a b c (Int.fmod d 4)) := boundsOk_row' a b c d
theorem run_row (a b c d x : Int) : runM x (rowOf a b c (Int.fmod d 4)) = some [.b (trueOf (meantOf a) (meantOf b) (meantOf c) (Int.fmod d 4) x)] := run_row' a b c d x
theorem many_ok (a b c d side : Int) (h : side = 1 ∨ side = -1) : 1 ≤ (boundsF side (rowOf a b c (Int.fmod d 4)) [] 1).2 ∧ (boundsF side (rowOf a b c (Int.fmod d 4)) [] 1).2 ≤ 6 := many_ok' a b c d side h
theorem many_of {a b c d side : Int} {vs : List Value} (h : side = 1 ∨ side = -1) (_ : IntsAre vs (boundsF side (rowOf a b c (Int.fmod d 4)) [] 1).1) : 1 ≤ (boundsF side (rowOf a b c (Int.fmod d 4)) [] 1).2 ∧ (boundsF side (rowOf a b c (Int.fmod d 4)) [] 1).2 ≤ 6 := many_ok a b c d side h
theorem meantIs_mono {news news' : List (Addr × Obj)} {l : Addr} {d : MT} (h : MeantIs news l d) (s : ∀ p ∈ news, p ∈ news') : MeantIs news' l d := by
  obtain ⟨t1, t2, lt, vs, c, c', h1, h2, h3⟩ := h
  exact ⟨t1, t2, lt, vs, c, c', s _ h1, s _ h2, h3⟩
end Mine
namespace Mine
noncomputable def T4 (a b c d : Int) (x : Int) : Bool := trueOf (meantOf a) (meantOf b) (meantOf c) (Int.fmod d 4) x
theorem held_row (a b c d : Int) (pts : List Int) : pts.filter (heldB (rowOf a b c (Int.fmod d 4))) = pts.filter (T4 a b c d) := by
  congr 1
  funext x
  unfold heldB T4
  rw [run_row]
  cases trueOf (meantOf a) (meantOf b) (meantOf c) (Int.fmod d 4) x <;> decide
end Mine
namespace Mine
set_option linter.unusedVariables false
section
variable {prog : Program} {w : World} {A : Around} {E : Value → Shared → Prop} {s : Shared} {h₀ : Heap} {L : Addr} {m : Str → Option Value} {env : Env} {ct elt : PySem.Expr} {x : Str} {scope : Scope} {cl : List (Str × Addr)} {S : List (Addr × Obj) → Prop} {P : Nat → Value → Prop} {Fin : List Value → List (Addr × Obj) → Prop} {news : List (Addr × Obj)}
theorem restT {n : Nat} (J : Nat → List Value → Prop) (h0 : J 0 [])
    (turn : ∀ i v ys I oI C oC D m₂ h tk (E' : Value → Shared → Prop), i < n → P i v → J i ys → LCg.NsObj oC m₂ → m₂ x = some v → Fr h₀ L h m → News h₀ L h ((I, oI) :: (C, oC) :: (D, LCg.lst ys) :: news) → LCg.Off3 I C D news → ((@Ne Nat I C) ∧ (@Ne Nat I D) ∧ (@Ne Nat C D)) →
      wpAny (model prog w) A (isTrue ct (compEnvC scope cl C env) (eval ct (compEnvC scope cl C env))) (fun ok s' => if ok = true then
        wpAny (model prog w) A (eval elt (compEnvC scope cl C env)) (LCg.CompEnd h₀ L m { s with heap := h, toks := tk } I oI C oC D (LCg.lst ys) S (fun y news' => news' = news ∧ J (i + 1) (ys ++ [y]))) E' s'
        else LCg.CompEnd h₀ L m { s with heap := h, toks := tk } I oI C oC D (LCg.lst ys) S (fun _ news' => news' = news ∧ J (i + 1) ys) Value.none s') E' { s with heap := h, toks := tk })
    (fin : ∀ ys, J n ys → Fin ys news) : LCt.CompRestT prog w A h₀ L m env ct elt x scope cl s S P Fin n 0 [] news := by
  have key : ∀ (j i : Nat) (ys : List Value), i + j = n → J i ys → LCt.CompRestT prog w A h₀ L m env ct elt x scope cl s S P Fin j i ys news := by
    intro j
    induction j with
    | zero =>
      intro i ys hi hy
      obtain rfl : i = n := by omega
      exact LCt.CompRestT.zero (fin ys hy)
    | succ j ih =>
      intro i ys hi hy
      refine LCt.CompRestT.succ ?_
      intro v I oI C oC D m₂ h tk E' hv hC hx F N off ne
      refine wpAny_mono (turn i v ys I oI C oC D m₂ h tk E' (by omega) hv hy hC hx F N off ne) (fun ok s₂ q => ?_) fun _ _ e => e
      cases ok with
      | true =>
        simp only [if_true] at q ⊢
        refine wpAny_mono q (fun y s₃ r => ?_) fun _ _ e => e
        obtain ⟨h', tk', nw, e, F', N', off', hS, rfl, hJ⟩ := r
        exact ⟨h', tk', nw, e, F', N', off', hS, ih (i + 1) _ (by omega) hJ⟩
      | false =>
        simp only [Bool.false_eq_true, if_false] at q ⊢
        obtain ⟨h', tk', nw, e, F', N', off', hS, rfl, hJ⟩ := q
        exact ⟨h', tk', nw, e, F', N', off', hS, ih (i + 1) _ (by omega) hJ⟩
  exact key n 0 [] (by omega) h0
/-- the library's source of a comprehension with a test, under a name that no line of the library serves -/
noncomputable def SrcMT (prog : Program) (w : World) (A : Around) (h₀ : Heap) (L : Addr) (m : Str → Option Value) (env : Env) (ct elt : PySem.Expr) (x : Str) (scope : Scope) (cl : List (Str × Addr)) (Fin : Shared → List Value → List (Addr × Obj) → Prop) (xv : Value) (s₁ : Shared) : Prop :=
  LCt.CompSrcT prog w A h₀ L m env ct elt x scope cl Fin xv s₁
theorem comp_ownA {iter : PySem.Expr} {y : Str} {px py : Pos} {pos spos : Pos} {Q : Flow → Shared → Prop} (F₀ : Fr h₀ L s.heap m) (hLe : env.locals = L)
    (hsw : swapsWith (.ListComp elt [⟨.Name x px, iter, [ct], 0⟩] scope pos) (some (.Name y py)) spos.line env = pure true)
    (hclos : closureFor scope env = pure cl) (hcell : ∀ z ∈ scope.names, z.2 ≠ .cell) (hkind : scope.kind = .function)
    (hnames : ∀ z ∈ scope.names, z.2 = .local → scope.names.lookup z.1 = some .local) (hx : scope.names.lookup x = some .local)
    (hy : env.kindOf y = some .local) (hp : (env.scope.kind == .class || (env.scope.kind == .module && env.locals != env.globals)) = false)
    (h : wpAny (model prog w) A (eval iter env) (SrcMT prog w A h₀ L m env ct elt x scope cl (fun s₂ => LCg.FinA h₀ L m s₂ y Q)) E s)
    (hs : ∀ x, foldedSetIterable iter env x = pure x := by intro _; rfl) :
    wpAny (model prog w) A (exec (.Assign [.Name y py] (.ListComp elt [⟨.Name x px, iter, [ct], 0⟩] scope pos) spos) env) Q E s := LCt.Assign_ListComp_T F₀ hLe hsw hclos hcell hkind hnames hx hy hp h hs
theorem comp_ownT {iter : PySem.Expr} {px : Pos} {pos : Pos} {Q : Value → Shared → Prop} (F₀ : Fr h₀ L s.heap m)
    (hclos : closureFor scope env = pure cl) (hcell : ∀ z ∈ scope.names, z.2 ≠ .cell) (hkind : scope.kind = .function)
    (hnames : ∀ z ∈ scope.names, z.2 = .local → scope.names.lookup z.1 = some .local) (hx : scope.names.lookup x = some .local)
    (h : wpAny (model prog w) A (eval iter env) (SrcMT prog w A h₀ L m env ct elt x scope cl (fun s₂ => LCg.FinE h₀ L m s₂ Q)) E s)
    (hs : ∀ x, foldedSetIterable iter env x = pure x := by intro _; rfl) :
    wpAny (model prog w) A (eval (.ListComp elt [⟨.Name x px, iter, [ct], 0⟩] scope pos) env) Q E s := LCt.ListComp_T F₀ hclos hcell hkind hnames hx h hs
theorem pickS_snoc : ∀ (ws : List Str) (bs : List Bool) (w : Str) (b : Bool), ws.length = bs.length → pickS (ws ++ [w]) (bs ++ [b]) = pickS ws bs ++ (if b then [w] else [])
  | [], [], w, b, _ => by cases b <;> simp [pickS]
  | v :: ws, c :: bs, w, b, h => by
    have := pickS_snoc ws bs w b (by simpa using h)
    simp only [List.cons_append, pickS, this]
    cases c <;> simp
theorem told_src {FinS : Shared → List Value → List (Addr × Obj) → Prop} {r : Addr} {M : Int} {t u v : Tok} (hh : A.handled = none) (F : Fr h₀ L s.heap m) (N : News h₀ L s.heap news) (hr : IsRange s.heap r 0 M 1 t u v) (hM : 1 ≤ M ∧ M ≤ 6) (T : Int → Bool)
    (turn : ∀ g (k : Int) t ys I oI C oC D m₂ h tk (E' : Value → Shared → Prop), 0 ≤ k → k < M → LCg.NsObj oC m₂ → m₂ x = some (.int k t) → Fr h₀ L h m → News h₀ L h ((I, oI) :: (C, oC) :: (D, LCg.lst ys) :: news) → LCg.Off3 I C D news → ((@Ne Nat I C) ∧ (@Ne Nat I D) ∧ (@Ne Nat C D)) →
      wpAny (model prog w) A (isTrue ct (compEnvC scope cl C env) (eval ct (compEnvC scope cl C env))) (fun ok s' => if ok = true then
        wpAny (model prog w) A (eval elt (compEnvC scope cl C env)) (LCg.CompEnd h₀ L m { s with heap := h, gens := ({ s with heap := g } : Shared).gens, toks := tk } I oI C oC D (LCg.lst ys) (fun _ => True) (fun y news' => news' = news ∧ T k = true ∧ ∃ t, y = .str (wordsS.getD k.toNat Str.empty) t)) E' s'
        else LCg.CompEnd h₀ L m { s with heap := h, gens := ({ s with heap := g } : Shared).gens, toks := tk } I oI C oC D (LCg.lst ys) (fun _ => True) (fun _ news' => news' = news ∧ T k = false) Value.none s') E' { s with heap := h, toks := tk })
    (fin : ∀ g (l : List (Str × Tok)), l.map (·.1) = pickS (wordsS.take M.toNat) ((List.range M.toNat).map fun k : Nat => T (k : Int)) → FinS { s with heap := g } (strValues l) news) :
    SrcMT prog w A h₀ L m env ct elt x scope cl FinS (.ref r) s := by
  have hn : Builtin.Range.rangeSize 0 M 1 = ((M.toNat : Nat) : Int) := by
    have : M = 1 ∨ M = 2 ∨ M = 3 ∨ M = 4 ∨ M = 5 ∨ M = 6 := by omega
    rcases this with rfl | rfl | rfl | rfl | rfl | rfl <;> decide
  have hsm : Builtin.Range.small 0 M 1 = true := by
    have : M = 1 ∨ M = 2 ∨ M = 3 ∨ M = 4 ∨ M = 5 ∨ M = 6 := by omega
    rcases this with rfl | rfl | rfl | rfl | rfl | rfl <;> decide
  refine LCt.CompSrcT.range hh F N hr hsm hn (by rw [sizeLine_eq]; omega) fun g => ?_
  refine restT (fun i ys => ∃ l : List (Str × Tok), ys = strValues l ∧ l.map (·.1) = pickS (wordsS.take i) ((List.range i).map fun k : Nat => T (k : Int))) ⟨[], rfl, by simp [pickS]⟩ ?_ ?_
  · rintro i v ys I oI C oC D m₂ h tk E' hi ⟨t', rfl⟩ ⟨l, rfl, hl⟩ hC hx F' N' off ne
    rw [Int.zero_add] at hx
    have hp : ∀ b : Bool, pickS (wordsS.take (i + 1)) ((List.range (i + 1)).map fun k : Nat => T (k : Int)) = pickS (wordsS.take i) ((List.range i).map fun k : Nat => T (k : Int)) ++ (if T (i : Int) then [wordsS.getD i Str.empty] else []) := by
      intro _
      have h6 : wordsS.length = 6 := rfl
      have hi6 : i < wordsS.length := by omega
      rw [List.range_succ, List.map_append, List.take_add_one]
      have e : wordsS[i]?.toList = [wordsS.getD i Str.empty] := by
        rw [List.getElem?_eq_getElem hi6]
        simp [List.getD, hi6]
      rw [e]
      exact pickS_snoc _ _ _ _ (by rw [List.length_take, List.length_map, List.length_range]; omega)
    refine wpAny_mono (turn g i t' _ I oI C oC D m₂ h tk E' (by omega) (by omega) hC hx F' N' off ne) (fun ok s₂ q => ?_) fun _ _ e => e
    cases ok with
    | true =>
      simp only [if_true] at q ⊢
      refine wpAny_mono q (fun y s₃ r => ?_) fun _ _ e => e
      obtain ⟨h', tk', nw, e, F2, N2, off2, hS, e1, e2, t2, e3⟩ := r
      refine ⟨h', tk', nw, e, F2, N2, off2, hS, e1, l ++ [(wordsS.getD i Str.empty, t2)], ?_, ?_⟩
      · rw [e3]; simp [strValues]
      · rw [List.map_append, hl, hp true, e2]; simp
    | false =>
      simp only [Bool.false_eq_true, if_false] at q ⊢
      obtain ⟨h', tk', nw, e, F2, N2, off2, hS, e1, e2⟩ := q
      refine ⟨h', tk', nw, e, F2, N2, off2, hS, e1, l, rfl, ?_⟩
      rw [hl, hp true, e2]; simp
  · rintro ys ⟨l, rfl, hl⟩
    exact fin g l hl
end
end Mine
namespace Mine
section
variable {prog : Program} {w : World} {A : Around} {E : Value → Shared → Prop} {s : Shared} {h₀ : Heap} {L : Addr} {m : Str → Option Value} {env : Env} {ct elt : PySem.Expr} {x : Str} {scope : Scope} {cl : List (Str × Addr)} {news : List (Addr × Obj)}
theorem my_word {l : Addr} {t0 t1 t2 t3 t4 t5 : Tok} {c : Nat} {k : Int} {u : Tok} {value slice : PySem.Expr} {Q : Value → Shared → Prop} (N : News h₀ L s.heap news)
    (hl : (l, W.listOf #[.str (Str.ofString "NEWLOCALS") t0, .str (Str.ofString "VARARGS") t1, .str (Str.ofString "VARKEYWORDS") t2, .str (Str.ofString "NESTED") t3, .str (Str.ofString "GENERATOR") t4, .str (Str.ofString "NOFREE") t5] c) ∈ news)
    (h0 : 0 ≤ k) (h6 : k < 6) (h : ∀ t, Q (.str (wordsS.getD k.toNat Str.empty) t) s)
    (hs : subscripted slice false (.ref l) (.int k u) = operate [.ref l, .int k u] (getItem (.ref l) (.int k u))) : wpAny (model prog w) A (subscriptTail value slice (.ref l) (.int k u)) Q E s := by
  have hk : k = 0 ∨ k = 1 ∨ k = 2 ∨ k = 3 ∨ k = 4 ∨ k = 5 := by omega
  rcases hk with rfl | rfl | rfl | rfl | rfl | rfl
  · exact my_itemV (vs := [_, _, _, _, _, _]) N hl (by decide) (by decide) (v := .str (Str.ofString "NEWLOCALS") t0) rfl (h t0) hs
  · exact my_itemV (vs := [_, _, _, _, _, _]) N hl (by decide) (by decide) (v := .str (Str.ofString "VARARGS") t1) rfl (h t1) hs
  · exact my_itemV (vs := [_, _, _, _, _, _]) N hl (by decide) (by decide) (v := .str (Str.ofString "VARKEYWORDS") t2) rfl (h t2) hs
  · exact my_itemV (vs := [_, _, _, _, _, _]) N hl (by decide) (by decide) (v := .str (Str.ofString "NESTED") t3) rfl (h t3) hs
  · exact my_itemV (vs := [_, _, _, _, _, _]) N hl (by decide) (by decide) (v := .str (Str.ofString "GENERATOR") t4) rfl (h t4) hs
  · exact my_itemV (vs := [_, _, _, _, _, _]) N hl (by decide) (by decide) (v := .str (Str.ofString "NOFREE") t5) rfl (h t5) hs
theorem told_law {FinS : Shared → List Value → List (Addr × Obj) → Prop} {r : Addr} {M : Int} {t u v : Tok} {a b c d side : Int} {vr : List Value} (_hw : IntsAre vr (rowOf a b c (Int.fmod d 4))) (_hs : side = 1 ∨ side = -1)
    (hh : A.handled = none) (F : Fr h₀ L s.heap m) (N : News h₀ L s.heap news) (hr : IsRange s.heap r 0 M 1 t u v) (hM : 1 ≤ M ∧ M ≤ 6)
    (turn : ∀ g (k : Int) t ys I oI C oC D m₂ h tk (E' : Value → Shared → Prop), 0 ≤ k → k < M → LCg.NsObj oC m₂ → m₂ x = some (.int k t) → Fr h₀ L h m → News h₀ L h ((I, oI) :: (C, oC) :: (D, LCg.lst ys) :: news) → LCg.Off3 I C D news → ((@Ne Nat I C) ∧ (@Ne Nat I D) ∧ (@Ne Nat C D)) →
      wpAny (model prog w) A (isTrue ct (compEnvC scope cl C env) (eval ct (compEnvC scope cl C env))) (fun ok s' => if ok = true then
        wpAny (model prog w) A (eval elt (compEnvC scope cl C env)) (LCg.CompEnd h₀ L m { s with heap := h, gens := ({ s with heap := g } : Shared).gens, toks := tk } I oI C oC D (LCg.lst ys) (fun _ => True) (fun y news' => news' = news ∧ T4 a b c d (side * (k - 599)) = true ∧ ∃ t, y = .str (wordsS.getD k.toNat Str.empty) t)) E' s'
        else LCg.CompEnd h₀ L m { s with heap := h, gens := ({ s with heap := g } : Shared).gens, toks := tk } I oI C oC D (LCg.lst ys) (fun _ => True) (fun _ news' => news' = news ∧ T4 a b c d (side * (k - 599)) = false) Value.none s') E' { s with heap := h, toks := tk })
    (fin : ∀ g (l : List (Str × Tok)), l.map (·.1) = pickS (wordsS.take M.toNat) ((List.range M.toNat).map fun k : Nat => T4 a b c d (side * ((k : Int) - 599))) → FinS { s with heap := g } (strValues l) news) :
    SrcMT prog w A h₀ L m env ct elt x scope cl FinS (.ref r) s := told_src hh F N hr hM (fun k => T4 a b c d (side * (k - 599))) turn fin
end
end Mine
namespace Mine
set_option linter.unusedVariables false
noncomputable def farPts (side : Int) (n : Nat) : List Int := List.map (fun k' => side * (k' - 600)) (rangeKs 1 n)
noncomputable def bitsL (a b c d side : Int) (M : Int) : List Bool := (List.range 6).map fun k : Nat => decide ((k : Int) < M) && T4 a b c d (side * ((k : Int) - 599))
theorem bitsL_len (a b c d side M : Int) : (bitsL a b c d side M).length = 6 := by simp [bitsL]
theorem far_bound {side : Int} {n : Nat} (hs : side = 1 ∨ side = -1) (hn : n ≤ 6) {T : Int → Bool} : ∀ x ∈ (List.map (fun k' => side * (k' - 600)) (rangeKs 1 n)).filter T, 0 ≤ 600 + side * x ∧ 600 + side * x ≤ 6 := by
  intro x hx
  obtain ⟨k, hk, rfl⟩ := List.mem_map.mp (List.mem_filter.mp hx).1
  have h2 := mem_rangeKs hk
  rcases hs with rfl | rfl <;> omega
theorem flags_law (a b c d side M : Int) (hs : side = 1 ∨ side = -1) (hM : 1 ≤ M ∧ M ≤ 6) :
    (List.map (fun x => 1 * 2 ^ (600 + side * x).toNat) ((List.map (fun k' => side * (k' - 600)) (rangeKs 1 (M + 1 - 1).toNat)).filter (T4 a b c d))).sum = flagsOf (bitsL a b c d side M) := flags_law' side M hs hM (T4 a b c d)
theorem pick_law (a b c d side M : Int) (hM : 1 ≤ M ∧ M ≤ 6) :
    pickS (wordsS.take M.toNat) ((List.range M.toNat).map fun k : Nat => T4 a b c d (side * ((k : Int) - 599))) = pickS wordsS (bitsL a b c d side M) := by
  have : M = 1 ∨ M = 2 ∨ M = 3 ∨ M = 4 ∨ M = 5 ∨ M = 6 := by omega
  rcases this with rfl | rfl | rfl | rfl | rfl | rfl <;> simp [bitsL, wordsS, pickS, List.range_succ]
section
variable {prog : Program} {w : World} {A : Around} {E : Value → Shared → Prop} {s : Shared} {h₀ : Heap} {L : Addr} {m : Str → Option Value} {env : Env} {elt : PySem.Expr} {x : Str} {scope : Scope} {cl : List (Str × Addr)} {news : List (Addr × Obj)}
theorem my_shl {n : Int} {t u : Tok} {Q : Value → Shared → Prop} (h0 : 0 ≤ n) (h1 : n ≤ 6) (h : Q (.int (1 * 2 ^ n.toNat) s.toks) { s with toks := s.toks + 1 }) : wpAny (model prog w) A (binaryOp .LShift (.int 1 t) (.int n u)) Q E s :=
  lshift_int_small h0 (by omega) (by decide) h
theorem shift_law {FinS : Shared → List Value → List (Addr × Obj) → Prop} {ax : Addr} {cx n : Nat} {vs : List Value} {T : Int → Bool} {side : Int} (hs : side = 1 ∨ side = -1) (hh : A.handled = none) (F : Fr h₀ L s.heap m) (N : News h₀ L s.heap news)
    (hm : (ax, W.listOf vs.toArray cx) ∈ news) (hi : IntsAre vs ((List.map (fun k' => side * (k' - 600)) (rangeKs 1 n)).filter T)) (hn : n ≤ 6)
    (turn : ∀ g (k : Int) t ys I oI C oC D m₂ h tk (E' : Value → Shared → Prop), 0 ≤ 600 + side * k → 600 + side * k ≤ 6 → LCg.NsObj oC m₂ → m₂ x = some (.int k t) → Fr h₀ L h m → News h₀ L h ((I, oI) :: (C, oC) :: (D, LCg.lst ys) :: news) → LCg.Off3 I C D news → ((@Ne Nat I C) ∧ (@Ne Nat I D) ∧ (@Ne Nat C D)) →
      wpAny (model prog w) A (eval elt (compEnvC scope cl C env)) (LCg.CompEnd h₀ L m { s with heap := h, gens := ({ s with heap := g } : Shared).gens, toks := tk } I oI C oC D (LCg.lst ys) (LCg.SrcAt h₀ ax vs.toArray) (fun y news' => news' = news ∧ ∃ t, y = .int (1 * 2 ^ (600 + side * k).toNat) t)) E' { s with heap := h, toks := tk })
    (fin : ∀ g ys, IntsAre ys (List.map (fun x => 1 * 2 ^ (600 + side * x).toNat) ((List.map (fun k' => side * (k' - 600)) (rangeKs 1 n)).filter T)) → FinS { s with heap := g } ys news) :
    SrcM prog w A h₀ L m env elt x scope cl FinS (.ref ax) s := by
  have hl : vs.length ≤ 6 := by
    rw [hi.length]
    refine Nat.le_trans (List.length_filter_le _ _) ?_
    rw [List.length_map, rangeKs_length]
    exact hn
  refine SrcM.put hh F N hm (by rw [sizeLine_eq, List.size_toArray]; omega) fun g => ?_
  refine kcf_list (fun x => 1 * 2 ^ (600 + side * x).toNat) hi ?_ ?_
  · intro k t I oI C oC D m₂ ys h tk E' hk hC hx F' N' off ne mk
    have hb := far_bound hs hn k hk
    refine wpAny_mono (turn g k t ys I oI C oC D m₂ h tk E' hb.1 hb.2 hC hx F' N' off ne) (fun y s₂ q => ?_) fun _ _ e => e
    obtain ⟨h', tk', nw, e, F2, N2, off2, hS, e1, t2, e2⟩ := q
    exact ⟨h', tk', nw, e, F2, N2, off2, hS, e1, t2, e2⟩
  · intro ys hy
    exact fin g ys hy
theorem join_told {D : Addr} {l : List (Str × Tok)} {cx : Nat} {t₀ : Tok} {a b c d side M : Int} {Q : Value → Shared → Prop} (N : News h₀ L s.heap news) (hm : (D, W.listOf (strValues l).toArray cx) ∈ news)
    (hl : l.map (·.1) = pickS (wordsS.take M.toNat) ((List.range M.toNat).map fun k : Nat => T4 a b c d (side * ((k : Int) - 599)))) (hM : 1 ≤ M ∧ M ≤ 6)
    (h1 : ∀ t' k, l = [] → flagText (bitsL a b c d side M) = Str.ofString "0x0" → pickS wordsS (bitsL a b c d side M) = [] → Q (.str Str.empty t') { s with toks := k })
    (h2 : ∀ t' k, l ≠ [] → flagText (bitsL a b c d side M) ≠ Str.empty → pickS wordsS (bitsL a b c d side M) ≠ [] → Q (.str (flagText (bitsL a b c d side M)) t') { s with toks := k }) :
    wpAny (model prog w) A (call (.builtin "str.join") [.str (Str.ofString ", ") t₀, .ref D]) Q E s := by
  rw [pick_law _ _ _ _ _ _ hM] at hl
  refine PySem.SC.join (isL N hm) hl (pick_joinOk _) fun t' k => ?_
  by_cases he : pickS wordsS (bitsL a b c d side M) = []
  · have e1 : flagText (bitsL a b c d side M) = Str.ofString "0x0" := by unfold flagText; rw [if_pos he]
    have e2 : Txt.join (Str.ofString ", ") (pickS wordsS (bitsL a b c d side M)) = Str.empty := by rw [he]; decide +kernel
    rw [e2]
    exact h1 t' k (List.map_eq_nil_iff.mp (hl.trans he)) e1 he
  · have e1 : flagText (bitsL a b c d side M) = Txt.join (Str.ofString ", ") (pickS wordsS (bitsL a b c d side M)) := by unfold flagText; rw [if_neg he]
    rw [← e1]
    refine h2 t' k (fun e => he (by rw [← hl, e]; rfl)) ?_ he
    have key : ∀ b1 b2 b3 b4 b5 b6 : Bool, flagText [b1, b2, b3, b4, b5, b6] ≠ Str.empty := by decide +kernel
    obtain ⟨b1, b2, b3, b4, b5, b6, e⟩ := six (bitsL_len a b c d side M)
    rw [e]
    exact key _ _ _ _ _ _
end
end Mine
namespace Mine
theorem flag_len6 : ∀ b1 b2 b3 b4 b5 b6 : Bool, 1 ≤ (flagText [b1, b2, b3, b4, b5, b6]).length ∧ (flagText [b1, b2, b3, b4, b5, b6]).length ≤ 100 := by decide +kernel
theorem truthy_flag {prog : Program} {w : World} {A : Around} {E : Value → Shared → Prop} {s : Shared} {Q : Bool → Shared → Prop} {bs : List Bool} {t : Tok} (h6 : bs.length = 6) (k : Q true { s with toks := s.toks + 1 + 1 }) : wpAny (model prog w) A (truthy (.str (flagText bs) t)) Q E s := by
  obtain ⟨b1, b2, b3, b4, b5, b6, rfl⟩ := six h6
  have h := flag_len6 b1 b2 b3 b4 b5 b6
  refine PySem.P.truthy_str (by omega) ?_
  have e : (((flagText [b1, b2, b3, b4, b5, b6]).length : Int) != 0) = true := by
    rw [bne_iff_ne]
    omega
  rw [e]
  exact k
end Mine
namespace Mine
theorem ne_same {prog : Program} {w : World} {A : Around} {E : Value → Shared → Prop} {s : Shared} {Q : Value → Shared → Prop} {x y : Str} {t u : Tok} (e : x = y) (h : Q (.bool false) s) : wpAny (model prog w) A (compareOp .NotEq (.str x t) (.str y u)) Q E s := by
  subst e
  refine ne_str ?_
  rw [bne_self_eq_false]
  exact h
end Mine
namespace Mine
/-- a cut of a statement that leaves all as it stood -/
noncomputable def CutN (h₀ : Heap) (L : Addr) (m : Str → Option Value) (news : List (Addr × Obj)) (s : Shared) (f : Flow) (s' : Shared) : Prop :=
  f = .next ∧ ∃ h' tk', s' = { s with heap := h', toks := tk' } ∧ Fr h₀ L h' m ∧ News h₀ L h' news
theorem CutN.fin {h₀ : Heap} {L : Addr} {m : Str → Option Value} {news all : List (Addr × Obj)} {s : Shared} {h' : Heap} {tk' : Nat} (F : Fr h₀ L h' m) (N : News h₀ L h' all) (hn : ∀ p ∈ news, p ∈ all) : CutN h₀ L m news s .next { s with heap := h', toks := tk' } :=
  ⟨rfl, h', tk', rfl, F, fun p hp => N p (hn p hp)⟩
theorem cutN {M : Model} {A : Around} {E : Value → Shared → Prop} {s : Shared} {h₀ : Heap} {L : Addr} {m : Str → Option Value} {news : List (Addr × Obj)} {t : Sem Flow} {Q : Flow → Shared → Prop} (_F : Fr h₀ L s.heap m) (_N : News h₀ L s.heap news)
    (h : wpAny M A t (CutN h₀ L m news s) E s) (k : ∀ h' tk', Fr h₀ L h' m → News h₀ L h' news → Q .next { s with heap := h', toks := tk' }) : wpAny M A t Q E s :=
  wpAny_mono h (fun f s' ⟨e, h', tk', e2, F', N'⟩ => by subst e e2; exact k h' tk' F' N') fun _ _ e => e
end Mine
namespace Mine
set_option linter.unusedVariables false
section
variable {prog : Program} {w : World} {A : Around} {E : Value → Shared → Prop} {s : Shared} {h₀ : Heap} {L : Addr} {m : Str → Option Value} {env : Env}
abbrev LC2 (elt t1 i1 t2 i2 : PySem.Expr) (scope : Scope) (pos : Pos) : PySem.Expr := .ListComp elt [⟨t1, i1, [], 0⟩, ⟨t2, i2, [], 0⟩] scope pos
theorem turn_0 (elt t1 i1 t2 i2 : PySem.Expr) (scope : Scope) (pos : Pos) (it acc : Value) (env : Env) :
    compTurn (LC2 elt t1 i1 t2 i2 scope pos) 0 it acc env = (standAt i1.pos >>= fun _ => pyNext it >>= fun r => match r with
      | none => pure (.done .next)
      | some v => letOwnedTupleGo t1 it v >>= fun _ => assign t1 env v >>= fun _ => eval i2 env >>= fun x => standAt i2.pos >>= fun _ => foldedSetIterable i2 env x >>= fun x => holding [x] (pyIter x) >>= fun it2 =>
          runOwn (.compStart (LC2 elt t1 i1 t2 i2 scope pos) 1 it2 acc env) env >>= fun _ => again (.compLoop (LC2 elt t1 i1 t2 i2 scope pos) 0 it acc env)) := by rfl
theorem turn_1 (elt t1 i1 t2 i2 : PySem.Expr) (scope : Scope) (pos : Pos) (it acc : Value) (env : Env) :
    compTurn (LC2 elt t1 i1 t2 i2 scope pos) 1 it acc env = (standAt i2.pos >>= fun _ => pyNext it >>= fun r => match r with
      | none => pure (.done .next)
      | some v => letOwnedTupleGo t2 it v >>= fun _ => assign t2 env v >>= fun _ =>
        (eval elt env >>= fun x => call (.builtin "list.append") [acc, x] >>= fun _ => pure ()) >>= fun _ => again (.compLoop (LC2 elt t1 i1 t2 i2 scope pos) 1 it acc env)) := by rfl
theorem loop_1 {elt t1 i1 t2 i2 : PySem.Expr} {scope : Scope} {pos : Pos} {it acc : Value} {R : Result → Shared → Prop} (I : Nat → Shared → Prop)
    (turn : ∀ n s, I n s → wpAny (model prog w) A (pyNext it) (fun r s₁ => match r with
      | none => R (.ok .next) s₁
      | some v => wpAny (model prog w) A (assign t2 env v) (fun _ s₂ => wpAny (model prog w) A (eval elt env) (fun x s₃ =>
          wpAny (model prog w) A (call (.builtin "list.append") [acc, x]) (fun _ s₄ => ∃ m, m < n ∧ I m s₄) (fun _ _ => False) s₃) (fun _ _ => False) s₂) (fun _ _ => False) s₁) (fun _ _ => False) s)
    (n : Nat) (h : I n s) (ht : ∀ v, letOwnedTupleGo t2 it v = pure () := by intro _; rfl) : codeAny (model prog w) A (.compLoop (LC2 elt t1 i1 t2 i2 scope pos) 1 it acc env) R s := by
  refine codeAny_loop rfl I (fun n s hI => ?_) n h
  show wpAny _ A ((compTurn (LC2 elt t1 i1 t2 i2 scope pos) 1 it acc env).onRaise (fun x => do noteFrame x env; theTreesLotGoes x)) _ _ s
  refine wpAny_noted ?_
  rw [turn_1]
  refine wpAny_bind (wpAny_standAt (wpAny_bind (wpAny_mono (turn n s hI) (fun r s₁ h₁ => ?_) fun _ _ h' => False.elim h')))
  cases r with
  | none => exact wpAny_pure h₁
  | some v =>
    refine wpAny_bind (wpAny_of_eq (ht v) ?_)
    exact wpAny_bind (wpAny_mono h₁ (fun _ s₂ h₂ => wpAny_bind (wpAny_bind (wpAny_mono h₂ (fun x s₃ h₃ => wpAny_bind (wpAny_mono h₃
      (fun _ s₄ h₄ => wpAny_pure (wpAny_pure ⟨rfl, h₄⟩)) fun _ _ h' => False.elim h')) fun _ _ h' => False.elim h'))) fun _ _ h' => False.elim h')
theorem start_1 {elt t1 i1 t2 i2 : PySem.Expr} {scope : Scope} {pos : Pos} {it acc : Value} {R : Result → Shared → Prop}
    (h0 : codeAny (model prog w) A (.compLoop (LC2 elt t1 i1 t2 i2 scope pos) 1 it acc env) R s)
    (h : wpAny (model prog w) A (pyIter it) (fun it' s' => codeAny (model prog w) A (.compLoop (LC2 elt t1 i1 t2 i2 scope pos) 1 it' acc env) R s') (fun _ _ => False) s) :
    codeAny (model prog w) A (.compStart (LC2 elt t1 i1 t2 i2 scope pos) 1 it acc env) R s := by
  refine codeAny_of_tree ?_
  show wpAny _ _ ((compStart (LC2 elt t1 i1 t2 i2 scope pos) 1 it acc env).onRaise (fun x => do noteFrame x env; standAt theWindowsPlace)) _ _ s
  refine wpAny_notedAt ?_
  unfold compStart
  show wpAny _ _ (ask >>= _) _ _ s
  refine wpAny_bind (wpAny_askSetting (wpAny_ite ?_))
  split
  · first
      | exact wpAny_bind (wpAny_pure (wpAny_pure (And.intro rfl h0)))
      | exact wpAny_pure (And.intro rfl h0)
  · first
      | exact wpAny_bind (wpAny_rule (wpAny_bind (wpAny_standAt (wpAny_bind (wpAny_mono h (fun it' s' h' => wpAny_pure (And.intro rfl h')) fun _ _ x => False.elim x)))))
      | (refine wpAny_bind (wpAny_rule ?_); show wpAny _ _ (standAt i2.pos >>= _) _ _ s; exact wpAny_bind (wpAny_standAt (wpAny_bind (wpAny_mono h (fun it' s' h' => wpAny_pure (And.intro rfl h')) fun _ _ x => False.elim x))))
theorem loop_0 {elt t1 i1 t2 i2 : PySem.Expr} {scope : Scope} {pos : Pos} {it acc : Value} {R : Result → Shared → Prop} (I : Nat → Shared → Prop)
    (turn : ∀ n s, I n s → wpAny (model prog w) A (pyNext it) (fun r s₁ => match r with
      | none => R (.ok .next) s₁
      | some v => wpAny (model prog w) A (assign t1 env v) (fun _ s₂ => wpAny (model prog w) A (eval i2 env) (fun x s₃ => wpAny (model prog w) A (pyIter x) (fun it2 s₄ =>
          codeAny (model prog w) A (.compStart (LC2 elt t1 i1 t2 i2 scope pos) 1 it2 acc env) (fun r s₅ => r = .ok .next ∧ ∃ m, m < n ∧ I m s₅) s₄) (fun _ _ => False) s₃) (fun _ _ => False) s₂) (fun _ _ => False) s₁) (fun _ _ => False) s)
    (n : Nat) (h : I n s) (ht : ∀ v, letOwnedTupleGo t1 it v = pure () := by intro _; rfl) (hs2 : ∀ x, foldedSetIterable i2 env x = pure x := by intro _; rfl) :
    codeAny (model prog w) A (.compLoop (LC2 elt t1 i1 t2 i2 scope pos) 0 it acc env) R s := by
  refine codeAny_loop rfl I (fun n s hI => ?_) n h
  show wpAny _ A ((compTurn (LC2 elt t1 i1 t2 i2 scope pos) 0 it acc env).onRaise (fun x => do noteFrame x env; theTreesLotGoes x)) _ _ s
  refine wpAny_noted ?_
  rw [turn_0]
  refine wpAny_bind (wpAny_standAt (wpAny_bind (wpAny_mono (turn n s hI) (fun r s₁ h₁ => ?_) fun _ _ h' => False.elim h')))
  cases r with
  | none => exact wpAny_pure h₁
  | some v =>
    refine wpAny_bind (wpAny_of_eq (ht v) ?_)
    refine wpAny_bind (wpAny_mono h₁ (fun _ s₂ h₂ => wpAny_bind (wpAny_mono h₂ (fun x s₃ h₃ => wpAny_bind (wpAny_standAt (wpAny_bind (wpAny_of_eq (hs2 x) (wpAny_bind (wpAny_holding (wpAny_mono h₃ (fun it2 s₄ h₄ => ?_) fun _ _ h' => False.elim h'))))))) fun _ _ h' => False.elim h')) fun _ _ h' => False.elim h')
    refine wpAny_bind (wpAny_runOwn (codeAny_mono h₄ fun r s₅ q => ?_))
    obtain ⟨rfl, q⟩ := q
    exact wpAny_pure ⟨rfl, q⟩
end
end Mine
namespace Mine
set_option linter.unusedVariables false
theorem sb_but {a : Addr} {h h' : Heap} (hs : Heap.SameBut a h h') : ∀ b o, b ∉ [a] → h.get? b = some o → h'.get? b = some o := fun b o hb e => hs.extBut b o (fun q => hb (List.mem_singleton.mpr q)) e
section
variable {prog : Program} {w : World} {A : Around} {E : Value → Shared → Prop} {s : Shared} {h₀ : Heap} {L : Addr} {m : Str → Option Value} {env : Env}
structure In2 (prog : Program) (w : World) (A : Around) (h₀ : Heap) (L : Addr) (m : Str → Option Value) (env : Env) (elt i2 : PySem.Expr) (x y : Str) (scope : Scope) (cl : List (Str × Addr)) (s₁ : Shared) (bs : List Int) (M : Nat) (g : Int → Int → Int) (news : List (Addr × Obj)) : Prop where
  iter : ∀ b tb h tk I oI C oC D oD m₂, b ∈ bs → LCg.NsObj oC m₂ → m₂ x = some (.int b tb) → Fr h₀ L h m → News h₀ L h ((I, oI) :: (C, oC) :: (D, oD) :: news) →
    wpAny (model prog w) A (eval i2 (compEnvC scope cl C env)) (fun xv s' => ∃ r t u v h' tk', xv = .ref r ∧ s' = { s₁ with heap := h', toks := tk' } ∧ IsRange h' r 1 ((M : Int) + 1) 1 t u v ∧ Fr h₀ L h' m ∧ News h₀ L h' ((I, oI) :: (C, oC) :: (D, oD) :: news)) (fun _ _ => False) { s₁ with heap := h, toks := tk }
  elem : ∀ b tb j tj h tk I2 oI2 I oI C oC D oD m₂, b ∈ bs → LCg.NsObj oC m₂ → m₂ x = some (.int b tb) → m₂ y = some (.int j tj) → Fr h₀ L h m → News h₀ L h ((I2, oI2) :: (I, oI) :: (C, oC) :: (D, oD) :: news) →
    wpAny (model prog w) A (eval elt (compEnvC scope cl C env)) (fun yv s' => ∃ t h' tk', yv = .int (g b j) t ∧ s' = { s₁ with heap := h', toks := tk' } ∧ Fr h₀ L h' m ∧ News h₀ L h' ((I2, oI2) :: (I, oI) :: (C, oC) :: (D, oD) :: news)) (fun _ _ => False) { s₁ with heap := h, toks := tk }
theorem inner2 {elt i1 i2 : PySem.Expr} {x y : Str} {px py : Pos} {scope : Scope} {cl : List (Str × Addr)} {pos : Pos} {s₁ : Shared} {bs : List Int} {M : Nat} {g : Int → Int → Int} {news : List (Addr × Obj)} {R : Result → Shared → Prop}
    (W2 : In2 prog w A h₀ L m env elt i2 x y scope cl s₁ bs M g news) (hh : A.handled = none) (hkind : scope.kind = .function) (hy : scope.names.lookup y = some .local) (hxy : x ≠ y)
    {I I2 C D : Addr} (nIC : I ≠ C) (nID : I ≠ D) (nCD : C ≠ D) (n2I : I2 ≠ I) (n2C : I2 ≠ C) (n2D : I2 ≠ D) (lI : L ≠ I) (lC : L ≠ C) (lD : L ≠ D) (l2 : L ≠ I2)
    (zI : h₀.get? I = none) (zC : h₀.get? C = none) (zD : h₀.get? D = none) (z2 : h₀.get? I2 = none) (off : LCg.Off3 I C D news) (off2 : ∀ p ∈ news, p.1 ≠ I2)
    {b : Int} {tb : Tok} (hb : b ∈ bs) (hM : M ≤ 6) (prev : List Int) (hp : prev.length ≤ 1000) (oI : Obj) (h₁ : Heap) (tk₁ : Nat) (ys₁ : List Value) (mC₁ : Str → Option Value)
    (k0 : IsRangeIter h₁ I2 (1 + ((0 : Nat) : Int) * 1) ((M : Int) - ((0 : Nat) : Int)) 1) (F₁ : Fr h₀ L h₁ m) (C₁ : h₁.Ns C mC₁) (x₁ : mC₁ x = some (.int b tb)) (N₁ : News h₀ L h₁ ((I, oI) :: (D, LCg.lst ys₁) :: news)) (Y₁ : IntsAre ys₁ prev)
    (done : ∀ h tk ys mC, Fr h₀ L h m → h.Ns C mC → News h₀ L h ((I, oI) :: (D, LCg.lst ys) :: news) → IntsAre ys (prev ++ (rangeKs 1 M).map (g b)) → R (.ok .next) { s₁ with heap := h, toks := tk }) :
    codeAny (model prog w) A (.compLoop (LC2 elt (.Name x px) i1 (.Name y py) i2 scope pos) 1 (.ref I2) (.ref D) (compEnvC scope cl C env)) R { s₁ with heap := h₁, toks := tk₁ } := by
  have off3 := off.mem
  have W := Walks.range (prog := prog) (w := w) hh I2 1 1 M
  refine loop_1 (fun k s' => ∃ h tk j ys mC, s' = { s₁ with heap := h, toks := tk } ∧ j ≤ M ∧ k = M + 1 - j ∧ IsRangeIter h I2 (1 + (j : Nat) * 1) ((M : Int) - (j : Nat)) 1 ∧ Fr h₀ L h m ∧ h.Ns C mC ∧ mC x = some (.int b tb) ∧
    News h₀ L h ((I, oI) :: (D, LCg.lst ys) :: news) ∧ IntsAre ys (prev ++ ((rangeKs 1 M).take j).map (g b))) ?_ (M + 1) ⟨h₁, tk₁, 0, ys₁, mC₁, rfl, Nat.zero_le _, rfl, k0, F₁, C₁, x₁, N₁, by simpa using Y₁⟩
  rintro k s' ⟨h, tk, j, ys, mC, rfl, hj, rfl, st, F, hC, hx, N, Y⟩
  have hlen : ys.length ≤ 1006 := by
    rw [Y.length, List.length_append, List.length_map, List.length_take, rangeKs_length]
    omega
  have offN : ∀ p ∈ (I, oI) :: (D, LCg.lst ys) :: news, p.1 ≠ I2 := by
    intro p hp
    rcases List.mem_cons.mp hp with rfl | hp
    · exact Ne.symm n2I
    · rcases List.mem_cons.mp hp with rfl | hp
      · exact Ne.symm n2D
      · exact off2 p hp
  by_cases hlt : j < M
  · refine W.item j _ _ _ hlt st fun v h2 tk2 hv st2 hk2 => ?_
    obtain ⟨tj, rfl⟩ := hv
    have F2 := LCg.fr_but F hk2 l2 z2
    have N2 := LCg.news_but N hk2 offN
    have C2 : h2.Ns C mC := hC.at' fun o e => hk2 _ o (by simpa using Ne.symm n2C) e
    refine wpAny_assign_Name (wpAny_storeName_local (lookup_relabel_local hy) C2 (fun h3 hn3 hs3 => ?_) (by simp [compEnvC, relabel, hkind]))
    have hk3 := sb_but hs3
    have F3 := F2.change hs3 (Ne.symm lC) zC
    have N3 : News h₀ L h3 ((I, oI) :: (D, LCg.lst ys) :: news) := LCg.news_but N2 hk3 (fun p hp => by
      rcases List.mem_cons.mp hp with rfl | hp
      · exact nIC
      · rcases List.mem_cons.mp hp with rfl | hp
        · exact Ne.symm nCD
        · exact (off3 p hp).2.1)
    have st3 : IsRangeIter h3 I2 (1 + ((j + 1 : Nat) : Int) * 1) ((M : Int) - ((j + 1 : Nat) : Int)) 1 := hk3 _ _ (fun hm => n2C (List.mem_singleton.mp hm)) st2
    obtain ⟨oC, eC, hoC⟩ := LCg.ns_obj hn3
    have N4 : News h₀ L h3 ((I2, _) :: (I, oI) :: (C, oC) :: (D, LCg.lst ys) :: news) := fun p hp => by
      rcases List.mem_cons.mp hp with rfl | hp
      · exact ⟨st3, Ne.symm l2, z2⟩
      · rcases List.mem_cons.mp hp with rfl | hp
        · exact N3 _ (List.Mem.head _)
        · rcases List.mem_cons.mp hp with rfl | hp
          · exact ⟨eC, Ne.symm lC, zC⟩
          · exact N3 _ (List.Mem.tail _ hp)
    refine wpAny_mono (W2.elem b tb _ tj h3 _ I2 _ I oI C oC D _ _ hb hoC (by rw [if_neg hxy]; exact hx) (by rw [if_pos rfl]) F3 N4) (fun yv s4 q => ?_) fun _ _ e => e
    obtain ⟨t5, h5, tk5, rfl, rfl, F5, N5⟩ := q
    have zD5 := (N5 (D, LCg.lst ys) (List.Mem.tail _ (List.Mem.tail _ (List.Mem.tail _ (List.Mem.head _))))).1
    refine append_at (hsz := by rw [sizeLine_eq, List.size_toArray]; omega) zD5 fun h6 hs6 hD6 => ?_
    have hk6 := sb_but hs6
    refine ⟨M + 1 - (j + 1), by omega, h6, tk5, j + 1, ys ++ [.int (g b (1 + (j : Int) * 1)) t5], _, rfl, hlt, rfl, ?_, F5.change hs6 (Ne.symm lD) zD, (hoC.ns (N5 (C, oC) (List.Mem.tail _ (List.Mem.tail _ (List.Mem.head _)))).1).sameBut hs6 nCD, ?_, ?_, ?_⟩
    · exact hk6 _ _ (by simpa using n2D) (N5 _ (List.Mem.head _)).1
    · show (if x = y then _ else mC x) = _
      rw [if_neg hxy]; exact hx
    · intro p hp
      rcases List.mem_cons.mp hp with rfl | hp
      · have q := N5 (I, oI) (List.Mem.tail _ (List.Mem.head _))
        exact ⟨hk6 _ _ (by simpa using nID) q.1, q.2⟩
      · rcases List.mem_cons.mp hp with rfl | hp
        · exact ⟨hD6.trans (congrArg some (LCg.lst_snoc ys _)), Ne.symm lD, zD⟩
        · have q := N5 p (List.Mem.tail _ (List.Mem.tail _ (List.Mem.tail _ (List.Mem.tail _ hp))))
          exact ⟨hk6 _ _ (by simpa using (off3 p hp).2.2) q.1, q.2⟩
    · have hk : (rangeKs 1 M)[j]? = some (1 + (j : Int) * 1) := by simp [rangeKs, hlt]
      rw [List.take_add_one, hk]
      simp only [Option.toList_some, List.map_append, List.map_cons, List.map_nil, ← List.append_assoc]
      exact Y.append (.cons _ _ .nil)
  · obtain rfl : j = M := by omega
    refine W.done _ _ _ st fun h2 tk2 hk2 => ?_
    refine done h2 tk2 ys mC (LCg.fr_but F hk2 l2 z2) (hC.at' fun o e => hk2 _ o (by simpa using Ne.symm n2C) e) (LCg.news_but N hk2 offN) ?_
    have e : (rangeKs 1 j).take j = rangeKs 1 j := List.take_of_length_le (by rw [rangeKs_length]; exact Nat.le_refl _)
    rw [e] at Y
    exact Y
end
end Mine
namespace Mine
set_option linter.unusedVariables false
noncomputable def prod2 (bs : List Int) (M : Nat) (g : Int → Int → Int) : List Int := bs.flatMap fun b => (rangeKs 1 M).map (g b)
theorem prod2_len (bs : List Int) (M : Nat) (g : Int → Int → Int) : (prod2 bs M g).length = bs.length * M := by
  induction bs with
  | nil => simp [prod2]
  | cons b bs ih =>
    unfold prod2 at ih ⊢
    rw [List.flatMap_cons, List.length_append, List.length_map, rangeKs_length, ih, List.length_cons, Nat.succ_mul, Nat.add_comm]
section
variable {prog : Program} {w : World} {A : Around} {E : Value → Shared → Prop} {s : Shared} {h₀ : Heap} {L : Addr} {m : Str → Option Value} {env : Env}
theorem outer2 {elt i1 i2 : PySem.Expr} {x y : Str} {px py : Pos} {scope : Scope} {cl : List (Str × Addr)} {pos : Pos} {s₁ : Shared} {bs : List Int} {M : Nat} {g : Int → Int → Int} {news : List (Addr × Obj)} {R : Result → Shared → Prop} {ax : Addr} {vs : List Value} {c : Nat}
    (W2 : In2 prog w A h₀ L m env elt i2 x y scope cl s₁ bs M g news) (hh : A.handled = none) (hkind : scope.kind = .function) (hx : scope.names.lookup x = some .local) (hy : scope.names.lookup y = some .local) (hxy : x ≠ y)
    (hs2 : ∀ C v, foldedSetIterable i2 (compEnvC scope cl C env) v = pure v)
    (hm : (ax, W.listOf vs.toArray c) ∈ news) (hi : IntsAre vs bs) (hbs : bs.length ≤ 20) (hM : M ≤ 6)
    {I C D : Addr} (nIC : I ≠ C) (nID : I ≠ D) (nCD : C ≠ D) (lI : L ≠ I) (lC : L ≠ C) (lD : L ≠ D)
    (zI : h₀.get? I = none) (zC : h₀.get? C = none) (zD : h₀.get? D = none) (off : LCg.Off3 I C D news) (h₁ : Heap) (tk₁ : Nat) (mC₁ : Str → Option Value)
    (k0 : h₁.IsListIter I ax 0) (F₁ : Fr h₀ L h₁ m) (C₁ : h₁.Ns C mC₁) (N₁ : News h₀ L h₁ ((D, LCg.lst []) :: news))
    (done : ∀ h tk ys mC, Fr h₀ L h m → h.Ns C mC → News h₀ L h ((D, LCg.lst ys) :: news) → IntsAre ys (prod2 bs M g) → R (.ok .next) { s₁ with heap := h, toks := tk }) :
    codeAny (model prog w) A (.compLoop (LC2 elt (.Name x px) i1 (.Name y py) i2 scope pos) 0 (.ref I) (.ref D) (compEnvC scope cl C env)) R { s₁ with heap := h₁, toks := tk₁ } := by
  have off3 := off.mem
  have hax : ax ≠ I := (off3 _ hm).1
  have W := Walks.list (prog := prog) (w := w) hh I ax hax vs.toArray
  have hvl : vs.length = bs.length := hi.length
  refine loop_0 (hs2 := hs2 C) (fun k s' => ∃ h tk i ys mC, s' = { s₁ with heap := h, toks := tk } ∧ i ≤ vs.length ∧ k = vs.length + 1 - i ∧ h.IsListIter I ax i ∧ Fr h₀ L h m ∧ h.Ns C mC ∧ News h₀ L h ((D, LCg.lst ys) :: news) ∧
    IntsAre ys (prod2 (bs.take i) M g)) ?_ (vs.length + 1) ⟨h₁, tk₁, 0, [], mC₁, rfl, Nat.zero_le _, rfl, k0, F₁, C₁, N₁, .nil⟩
  rintro k s' ⟨h, tk, i, ys, mC, rfl, hij, rfl, st, F, hC, N, Y⟩
  have hl : h.IsList ax vs.toArray := ⟨_, (N _ (List.Mem.tail _ hm)).1, rfl, _, rfl⟩
  have offN : ∀ p ∈ (D, LCg.lst ys) :: news, p.1 ≠ I := by
    intro p hp
    rcases List.mem_cons.mp hp with rfl | hp
    · exact Ne.symm nID
    · exact (off3 p hp).1
  by_cases hlt : i < vs.length
  · refine W.item i _ _ _ (by simpa using hlt) ⟨st, hl⟩ fun v h2 tk2 hv st2 hk2 => ?_
    obtain ⟨b, tb, hbk, hvb⟩ := IntsAre.at hi i v (by simpa using hv)
    subst hbk
    have hmem : b ∈ bs := List.mem_of_getElem? hvb
    have F2 := LCg.fr_but F hk2 lI zI
    have N2 := LCg.news_but N hk2 offN
    have C2 : h2.Ns C mC := hC.at' fun o e => hk2 _ o (by simpa using Ne.symm nIC) e
    refine wpAny_assign_Name (wpAny_storeName_local (lookup_relabel_local hx) C2 (fun h3 hn3 hs3 => ?_) (by simp [compEnvC, relabel, hkind]))
    have hk3 := sb_but hs3
    have F3 := F2.change hs3 (Ne.symm lC) zC
    have N3 : News h₀ L h3 ((D, LCg.lst ys) :: news) := LCg.news_but N2 hk3 (fun p hp => by
      rcases List.mem_cons.mp hp with rfl | hp
      · exact Ne.symm nCD
      · exact (off3 p hp).2.1)
    obtain ⟨oI, eI, cI, dI⟩ := st2.1
    have eI3 : h3.get? I = some oI := hk3 _ _ (fun hm => nIC (List.mem_singleton.mp hm)) eI
    obtain ⟨oC, eC, hoC⟩ := LCg.ns_obj hn3
    have N4 : News h₀ L h3 ((I, oI) :: (C, oC) :: (D, LCg.lst ys) :: news) := fun p hp => by
      rcases List.mem_cons.mp hp with rfl | hp
      · exact ⟨eI3, Ne.symm lI, zI⟩
      · rcases List.mem_cons.mp hp with rfl | hp
        · exact ⟨eC, Ne.symm lC, zC⟩
        · exact N3 _ hp
    refine wpAny_mono (W2.iter b tb h3 _ I oI C oC D _ _ hmem hoC (by rw [if_pos rfl]) F3 N4) (fun xv s4 q => ?_) fun _ _ e => e
    obtain ⟨r, t', u', v', h5, tk5, rfl, rfl, hr, F5, N5⟩ := q
    have hsm : Builtin.Range.small 1 ((M : Int) + 1) 1 = true := by
      have : M = 0 ∨ M = 1 ∨ M = 2 ∨ M = 3 ∨ M = 4 ∨ M = 5 ∨ M = 6 := by omega
      rcases this with rfl | rfl | rfl | rfl | rfl | rfl | rfl <;> decide
    have hrs : Builtin.Range.rangeSize 1 ((M : Int) + 1) 1 = (M : Int) := by
      have : M = 0 ∨ M = 1 ∨ M = 2 ∨ M = 3 ∨ M = 4 ∨ M = 5 ∨ M = 6 := by omega
      rcases this with rfl | rfl | rfl | rfl | rfl | rfl | rfl <;> decide
    refine wpAny_pyIter_range hr hsm ?_
    have z2 : h₀.get? h5.objs.size = none := next_is_new F5
    have up : ∀ b o, h5.get? b = some o → (h5.push { cls := .type "range_iterator", data := .fields #[rawInt 1, rawInt (Builtin.Range.rangeSize 1 ((M : Int) + 1) 1), rawInt 1] }).get? b = some o := fun b o e => Heap.get?_push_of_some _ e
    have lt5 : ∀ p ∈ (I, oI) :: (C, oC) :: (D, LCg.lst ys) :: news, p.1 < h5.objs.size := fun p hp => Heap.lt_size (N5 p hp).1
    have l2 : L ≠ h5.objs.size := Nat.ne_of_lt F5.ns.lt
    have n2I : h5.objs.size ≠ I := Nat.ne_of_gt (lt5 _ (List.Mem.head _))
    have n2C : h5.objs.size ≠ C := Nat.ne_of_gt (lt5 _ (List.Mem.tail _ (List.Mem.head _)))
    have n2D : h5.objs.size ≠ D := Nat.ne_of_gt (lt5 _ (List.Mem.tail _ (List.Mem.tail _ (List.Mem.head _))))
    have F6 := F5.keeps up
    have N6 : News h₀ L _ ((I, oI) :: (D, LCg.lst ys) :: news) := fun p hp => by
      rcases List.mem_cons.mp hp with rfl | hp
      · exact (N5.grown up) _ (List.Mem.head _)
      · exact (N5.grown up) _ (List.Mem.tail _ (List.Mem.tail _ hp))
    have C6 := hoC.ns (up _ _ (N5 (C, oC) (List.Mem.tail _ (List.Mem.head _))).1)
    have k6 : IsRangeIter (h5.push { cls := .type "range_iterator", data := .fields #[rawInt 1, rawInt (Builtin.Range.rangeSize 1 ((M : Int) + 1) 1), rawInt 1] }) h5.objs.size (1 + ((0 : Nat) : Int) * 1) ((M : Int) - ((0 : Nat) : Int)) 1 := by
      show _ = _
      rw [hrs]
      simpa using Heap.get?_push_size _ rfl
    have hpl : (prod2 (bs.take i) M g).length ≤ 1000 := by
      rw [prod2_len, List.length_take]
      have h1 : min i bs.length ≤ 20 := Nat.le_trans (Nat.min_le_right _ _) hbs
      have h2 := Nat.mul_le_mul h1 hM
      omega
    have key : codeAny (model prog w) A (.compLoop (LC2 elt (.Name x px) i1 (.Name y py) i2 scope pos) 1 (.ref h5.objs.size) (.ref D) (compEnvC scope cl C env))
        (fun r s₅ => r = .ok .next ∧ ∃ m', m' < vs.length + 1 - i ∧ ∃ h tk i ys mC, s₅ = { s₁ with heap := h, toks := tk } ∧ i ≤ vs.length ∧ m' = vs.length + 1 - i ∧ h.IsListIter I ax i ∧ Fr h₀ L h m ∧ h.Ns C mC ∧ News h₀ L h ((D, LCg.lst ys) :: news) ∧ IntsAre ys (prod2 (bs.take i) M g))
        { s₁ with heap := h5.push { cls := .type "range_iterator", data := .fields #[rawInt 1, rawInt (Builtin.Range.rangeSize 1 ((M : Int) + 1) 1), rawInt 1] }, toks := tk5 } := by
      refine inner2 W2 hh hkind hy hxy nIC nID nCD n2I n2C n2D lI lC lD l2 zI zC zD z2 off (fun p hp => Nat.ne_of_lt (lt5 p (List.Mem.tail _ (List.Mem.tail _ (List.Mem.tail _ hp))))) hmem hM (prod2 (bs.take i) M g) hpl oI _ tk5 ys _ k6 F6 C6 (by rw [if_pos rfl]) N6 Y ?_
      intro h7 tk7 ys7 mC7 F7 C7 N7 Y7
      refine ⟨rfl, vs.length + 1 - (i + 1), by omega, h7, tk7, i + 1, ys7, mC7, rfl, hlt, rfl, ⟨oI, (N7 _ (List.Mem.head _)).1, cI, dI⟩, F7, C7, fun p hp => N7 p (List.Mem.tail _ hp), ?_⟩
      have e : prod2 (bs.take (i + 1)) M g = prod2 (bs.take i) M g ++ (rangeKs 1 M).map (g b) := by
        unfold prod2
        rw [List.take_add_one, hvb]
        simp
      rw [e]
      exact Y7
    exact start_1 key ((Walks.range (prog := prog) (w := w) hh h5.objs.size 1 1 M).self 0 _ _ _ k6 key)
  · obtain rfl : i = vs.length := by omega
    refine W.done _ _ _ (by simpa using And.intro st hl) fun h2 tk2 hk2 => ?_
    refine done h2 tk2 ys mC (LCg.fr_but F hk2 lI zI) (hC.at' fun o e => hk2 _ o (by simpa using Ne.symm nIC) e) (LCg.news_but N hk2 offN) ?_
    rw [hvl, List.take_length] at Y
    exact Y
end
end Mine
namespace Mine
set_option linter.unusedVariables false
section
variable {prog : Program} {w : World} {A : Around} {E : Value → Shared → Prop} {s : Shared} {h₀ : Heap} {L : Addr} {m : Str → Option Value} {env : Env}
noncomputable def Src2 (prog : Program) (w : World) (A : Around) (h₀ : Heap) (L : Addr) (m : Str → Option Value) (env : Env) (elt i2 : PySem.Expr) (x y : Str) (scope : Scope) (cl : List (Str × Addr)) (Q : Value → Shared → Prop) (xv : Value) (s₁ : Shared) : Prop :=
  ∃ ax vs c bs M g news, xv = .ref ax ∧ A.handled = none ∧ Fr h₀ L s₁.heap m ∧ News h₀ L s₁.heap news ∧ (ax, W.listOf (List.toArray vs) c) ∈ news ∧ IntsAre vs bs ∧ bs.length ≤ 20 ∧ M ≤ 6 ∧ (∀ g' : Heap, In2 prog w A h₀ L m env elt i2 x y scope cl s₁ bs M g news) ∧
    ∀ D ys h tk, IntsAre ys (prod2 bs M g) → Fr h₀ L h m → News h₀ L h ((D, LCg.lst ys) :: news) → LCg.Off1 D news → Q (.ref D) { s₁ with heap := h, toks := tk }
theorem comp2 {elt i1 i2 : PySem.Expr} {x y : Str} {px py : Pos} {scope : Scope} {cl : List (Str × Addr)} {pos : Pos} {Q : Value → Shared → Prop} (F₀ : Fr h₀ L s.heap m)
    (hclos : closureFor scope env = pure cl) (hcell : ∀ y ∈ scope.names, y.2 ≠ .cell) (hkind : scope.kind = .function)
    (hnames : ∀ y ∈ scope.names, y.2 = .local → scope.names.lookup y.1 = some .local) (hx : scope.names.lookup x = some .local) (hy : scope.names.lookup y = some .local) (hxy : x ≠ y)
    (h : wpAny (model prog w) A (eval i1 env) (Src2 prog w A h₀ L m env elt i2 x y scope cl Q) E s)
    (hs : ∀ x, foldedSetIterable i1 env x = pure x := by intro _; rfl) (hs2 : ∀ C v, foldedSetIterable i2 (compEnvC scope cl C env) v = pure v := by intro _ _; rfl) :
    wpAny (model prog w) A (eval (LC2 elt (.Name x px) i1 (.Name y py) i2 scope pos) env) Q E s := by
  rw [eval_ListComp]
  refine wpAny_comprehension_free (use := none) rfl hs hclos hkind hnames (wpAny_mono h (fun xv s₁ q => ?_) fun _ _ e => e)
  obtain ⟨ax, vs, c, bs, M, g, news, rfl, hh, F, N, hm, hi, hbs, hM, W2, fin⟩ := q
  have hl : s₁.heap.IsList ax vs.toArray := isL N hm
  refine wpAny_pyIter_list hl ?_
  refine wpAny_newObj_type (wpAny_newFunctionEnv hcell (by intro y hy; simp at hy) (fun h₁ hns₁ hsb₁ => ?_) hkind)
  dsimp only at hns₁ hsb₁ ⊢
  have e1 : (s₁.heap.push { cls := .type "list_iterator", dict := none, data := .fields #[.ref ax, .int 0 0] }).objs.size = s₁.heap.objs.size + 1 := Heap.size_push ..
  generalize hH1 : s₁.heap.push { cls := .type "list_iterator", dict := none, data := .fields #[.ref ax, .int 0 0] } = H1 at hns₁ hsb₁ e1 ⊢
  have e2 : (H1.push { cls := .type "list", dict := none, data := .seq ([] : List Value).toArray }).objs.size = H1.objs.size + 1 := Heap.size_push ..
  generalize hH2 : H1.push { cls := .type "list", dict := none, data := .seq ([] : List Value).toArray } = H2 at hns₁ hsb₁ e2 ⊢
  have old1 : ∀ b o, s₁.heap.get? b = some o → H1.get? b = some o := fun b o e => hH1 ▸ Heap.get?_push_of_some _ e
  have old2 : ∀ b o, H1.get? b = some o → H2.get? b = some o := fun b o e => hH2 ▸ Heap.get?_push_of_some _ e
  have old3 : ∀ b o, H2.get? b = some o → h₁.get? b = some o := fun b o e => hsb₁.extBut b o (Nat.ne_of_lt (Heap.lt_size e)) (Heap.get?_push_of_some _ e)
  have old : ∀ b o, s₁.heap.get? b = some o → h₁.get? b = some o := fun b o e => old3 b o (old2 b o (old1 b o e))
  have gI : h₁.get? s₁.heap.objs.size = some { cls := .type "list_iterator", dict := none, data := .fields #[.ref ax, .int 0 0] } := old3 _ _ (old2 _ _ (hH1 ▸ Heap.get?_push_size _ rfl))
  have gD : h₁.get? H1.objs.size = some (LCg.lst []) := old3 _ _ (hH2 ▸ Heap.get?_push_size _ rfl)
  have fresh : ∀ a, s₁.heap.objs.size ≤ a → h₀.get? a = none := fun a ha => by
    cases e : h₀.get? a with
    | none => rfl
    | some o' => exact absurd (Heap.lt_size (F.keep a o' e)) (Nat.not_lt.mpr ha)
  have hLlt : L < s₁.heap.objs.size := F.ns.lt
  have hlt : ∀ p ∈ news, p.1 < s₁.heap.objs.size := fun p hp => Heap.lt_size (N p hp).1
  have lID : s₁.heap.objs.size < H1.objs.size := by rw [e1]; exact Nat.lt_succ_self _
  have lDC : H1.objs.size < H2.objs.size := by rw [e2]; exact Nat.lt_succ_self _
  have lIC : s₁.heap.objs.size < H2.objs.size := Nat.lt_trans lID lDC
  have off : LCg.Off3 s₁.heap.objs.size H2.objs.size H1.objs.size news := LCg.Off3.of fun p hp => ⟨Nat.ne_of_lt (hlt p hp), Nat.ne_of_lt (Nat.lt_trans (hlt p hp) lIC), Nat.ne_of_lt (Nat.lt_trans (hlt p hp) lID)⟩
  have loop : codeAny (model prog w) A (.compLoop (LC2 elt (.Name x px) i1 (.Name y py) i2 scope pos) 0 (.ref s₁.heap.objs.size) (.ref H1.objs.size) (compEnvC scope cl H2.objs.size env))
      (compPost (model prog w) A E none Q (.ref H1.objs.size) H2.objs.size) { s₁ with heap := h₁, toks := s₁.toks + ([] : List (Str × Value)).length } := by
    refine outer2 (W2 h₁) hh hkind hx hy hxy hs2 hm hi hbs hM (Nat.ne_of_lt lIC) (Nat.ne_of_lt lID) (Nat.ne_of_gt lDC) (Nat.ne_of_lt hLlt) (Nat.ne_of_lt (Nat.lt_trans hLlt lIC)) (Nat.ne_of_lt (Nat.lt_trans hLlt lID))
      (fresh _ (Nat.le_refl _)) (fresh _ (Nat.le_of_lt lIC)) (fresh _ (Nat.le_of_lt lID)) off h₁ _ _ ⟨_, gI, rfl, rfl⟩ (F.keeps old) hns₁ (fun p hp => ?_) ?_
    · rcases List.mem_cons.mp hp with rfl | hp
      · exact ⟨gD, Nat.ne_of_gt (Nat.lt_trans hLlt lID), fresh _ (Nat.le_of_lt lID)⟩
      · exact ⟨old _ _ (N p hp).1, (N p hp).2⟩
    · intro h tk ys mC F' C' N' Y
      refine ⟨mC, C', fun h2 hs2 => fin _ ys h2 tk Y (F'.change hs2 (Nat.ne_of_gt (Nat.lt_trans hLlt lIC)) (fresh _ (Nat.le_of_lt lIC))) (fun p hp => ⟨hs2.extBut _ _ ?_ (N' p hp).1, (N' p hp).2⟩) ?_⟩
      · rcases List.mem_cons.mp hp with rfl | hp
        · exact Nat.ne_of_lt lDC
        · exact (off.mem p hp).2.1
      · exact all_off1 fun p hp => (off.mem p hp).2.2
  exact codeAny_compStart_list loop ((Walks.list (prog := prog) (w := w) hh s₁.heap.objs.size ax (Nat.ne_of_lt (hlt _ hm)) vs.toArray).self 0 _ _ _ ⟨⟨_, gI, rfl, rfl⟩, hl.at fun o e => old _ o e⟩ loop)
end
end Mine
namespace Mine
set_option linter.unusedVariables false
theorem boundAt_len' (side n : Int) (rest : List Int) (bm : List Int × Int) : (boundAt side n rest bm).1.length ≤ bm.1.length + 1 := by
  unfold boundAt
  dsimp only
  repeat' split
  all_goals simp
theorem boundsF_len (side : Int) : ∀ (row bs : List Int) (many : Int), (boundsF side row bs many).1.length ≤ bs.length + row.length
  | [], bs, many => by simp [boundsF]
  | n :: rest, bs, many => by
    unfold boundsF
    have h1 := boundsF_len side rest (boundAt side n rest (bs, many)).1 (boundAt side n rest (bs, many)).2
    have h2 := boundAt_len' side n rest (bs, many)
    simp only [List.length_cons]
    dsimp only at h2
    omega
theorem bounds_20 (side a b c j : Int) : (boundsF side (rowOf a b c j) [] 1).1.length ≤ 20 := by
  have h1 := boundsF_len side (rowOf a b c j) [] 1
  have h2 := row_len a b c j
  simp only [List.length_nil] at h1
  omega
noncomputable def CutRg (h₀ : Heap) (L : Addr) (m : Str → Option Value) (nw : List (Addr × Obj)) (M : Int) (s₁ : Shared) (xv : Value) (s' : Shared) : Prop :=
  ∃ r t u v h' tk', xv = .ref r ∧ s' = { s₁ with heap := h', toks := tk' } ∧ IsRange h' r 1 (M + 1) 1 t u v ∧ Fr h₀ L h' m ∧ News h₀ L h' nw
noncomputable def CutEl (h₀ : Heap) (L : Addr) (m : Str → Option Value) (nw : List (Addr × Obj)) (n : Int) (s₁ : Shared) (yv : Value) (s' : Shared) : Prop :=
  ∃ t h' tk', yv = .int n t ∧ s' = { s₁ with heap := h', toks := tk' } ∧ Fr h₀ L h' m ∧ News h₀ L h' nw
section
variable {prog : Program} {w : World} {A : Around} {s : Shared} {h₀ : Heap} {L : Addr} {m : Str → Option Value} {env : Env} {elt i2 : PySem.Expr} {x y : Str} {scope : Scope} {cl : List (Str × Addr)} {news : List (Addr × Obj)} {Q : Value → Shared → Prop}
theorem near_src {ax : Addr} {vs : List Value} {c : Nat} {a b' c' j' side : Int} (hsd : side = 1 ∨ side = -1) (hh : A.handled = none) (F : Fr h₀ L s.heap m) (N : News h₀ L s.heap news) (hm : (ax, W.listOf (List.toArray vs) c) ∈ news)
    (hi : IntsAre vs (boundsF side (rowOf a b' c' j') [] 1).1) (hM : 1 ≤ (boundsF side (rowOf a b' c' j') [] 1).2 ∧ (boundsF side (rowOf a b' c' j') [] 1).2 ≤ 6)
    (iter : ∀ b tb h tk I oI C oC D oD m₂, LCg.NsObj oC m₂ → m₂ x = some (.int b tb) → Fr h₀ L h m → News h₀ L h ((I, oI) :: (C, oC) :: (D, oD) :: news) →
      wpAny (model prog w) A (eval i2 (compEnvC scope cl C env)) (CutRg h₀ L m ((I, oI) :: (C, oC) :: (D, oD) :: news) (boundsF side (rowOf a b' c' j') [] 1).2 s) (fun _ _ => False) { s with heap := h, toks := tk })
    (elem : ∀ b tb j tj h tk I2 oI2 I oI C oC D oD m₂, LCg.NsObj oC m₂ → m₂ x = some (.int b tb) → m₂ y = some (.int j tj) → Fr h₀ L h m → News h₀ L h ((I2, oI2) :: (I, oI) :: (C, oC) :: (D, oD) :: news) →
      wpAny (model prog w) A (eval elt (compEnvC scope cl C env)) (CutEl h₀ L m ((I2, oI2) :: (I, oI) :: (C, oC) :: (D, oD) :: news) (side * b + j) s) (fun _ _ => False) { s with heap := h, toks := tk })
    (fin : ∀ D ys h tk, IntsAre ys (prod2 (boundsF side (rowOf a b' c' j') [] 1).1 (boundsF side (rowOf a b' c' j') [] 1).2.toNat (fun b j => side * b + j)) → Fr h₀ L h m → News h₀ L h ((D, LCg.lst ys) :: news) → LCg.Off1 D news → Q (.ref D) { s with heap := h, toks := tk }) :
    Src2 prog w A h₀ L m env elt i2 x y scope cl Q (.ref ax) s := by
  refine ⟨ax, vs, c, _, (boundsF side (rowOf a b' c' j') [] 1).2.toNat, fun b j => side * b + j, news, rfl, hh, F, N, hm, hi, bounds_20 _ _ _ _ _, by omega, fun _ => ⟨?_, ?_⟩, fin⟩
  · intro b tb h tk I oI C oC D oD m₂ _ hC hx F' N'
    have e : (((boundsF side (rowOf a b' c' j') [] 1).2.toNat : Nat) : Int) = (boundsF side (rowOf a b' c' j') [] 1).2 := Int.toNat_of_nonneg (by omega)
    rw [e]
    exact iter b tb h tk I oI C oC D oD m₂ hC hx F' N'
  · intro b tb j tj h tk I2 oI2 I oI C oC D oD m₂ _ hC hx hy F' N'
    exact elem b tb j tj h tk I2 oI2 I oI C oC D oD m₂ hC hx hy F' N'
end
end Mine
namespace Mine
set_option linter.unusedVariables false
theorem near_18 {a b c d side M : Int} {g : Int → Int → Int} (hs : side = 1 ∨ side = -1) (hM : 1 ≤ M ∧ M ≤ 6) : (prod2 (boundsF side (rowOf a b c (Int.fmod d 4)) [] 1).1 M.toNat g).length ≤ 18 := by
  rw [prod2_len]
  have h1 := bounds_3' a b c d side hs
  have h2 : M.toNat ≤ 6 := by omega
  exact Nat.mul_le_mul h1 h2
theorem my_sorted {prog : Program} {w : World} {A : Around} {E : Value → Shared → Prop} {s : Shared} {h₀ : Heap} {L : Addr} {m : Str → Option Value} {news : List (Addr × Obj)} {l : Addr} {vs : List Value} {c : Nat} {ns : List Int} {Q : Value → Shared → Prop}
    (F : Fr h₀ L s.heap m) (N : News h₀ L s.heap news) (hl : (l, W.listOf vs.toArray c) ∈ news) (hI : IntsAre vs ns) (h18 : ns.length ≤ 18)
    (h : ∀ D zs e ns' h', Fr h₀ L h' m → News h₀ L h' ((D, W.listOf (List.toArray zs) e) :: news) → (∀ q ∈ news, q.1 < D) → IntsAre zs ns' → ns'.Perm ns → ns'.Pairwise (· ≤ ·) → ns'.length ≤ 18 → Q (.ref D) { s with heap := h' }) :
    wpAny (model prog w) A (call (.builtin "sorted") [.ref l]) Q E s := by
  refine sorted_N F N (isL N hl) hI (by rw [hI.length]; omega) fun h' vs' ns' e F' N' i p o => ?_
  refine h _ vs' e ns' h' F' N' (fun q hq => Nat.lt_succ_of_lt (Heap.lt_size (N q hq).1)) i p o ?_
  rw [p.length_eq]
  exact h18
end Mine
namespace Mine
set_option linter.unusedVariables false
theorem strs_carried : ∀ l : List (Str × Tok), CarriedAll (strValues l) (l.map fun p => PyData.str p.1)
  | [] => .nil
  | (x, t) :: l => .cons (.str x t) (strs_carried l)
theorem strs_can : ∀ l : List (Str × Tok), (∀ p ∈ l, PyData.strOk p.1 = true) → PyData.canLayAll0 (l.map fun p => PyData.str p.1) = true
  | [], _ => rfl
  | p :: r, h => by simp [PyData.canLayAll0, PyData.canLay0, strs_can r (fun q hq => h q (List.Mem.tail _ hq)), h p (List.Mem.head _)]
theorem strs_depth : ∀ l : List (Str × Tok), PyData.depthAll (l.map fun p => PyData.str p.1) = 0
  | [] => rfl
  | _ :: r => by simp [PyData.depthAll, PyData.depth, strs_depth r]
theorem strs_shaped (l : List (Str × Tok)) (h : ∀ p ∈ l, PyData.strOk p.1 = true) : SeqAt.shaped (.list (l.map fun p => PyData.str p.1)) = true := by
  simp [SeqAt.shaped, PyData.canLay0, PyData.depth, strs_can l h, strs_depth]
theorem pickS_mem : ∀ (ws : List Str) (bs : List Bool), ∀ x ∈ pickS ws bs, x ∈ ws
  | [], _, x, h => by simp [pickS] at h
  | w :: ws, [], x, h => by simp [pickS] at h
  | w :: ws, b :: bs, x, h => by
    unfold pickS at h
    cases b with
    | true =>
      rcases List.mem_cons.mp h with rfl | h
      · exact List.Mem.head _
      · exact List.Mem.tail _ (pickS_mem ws bs x h)
    | false => exact List.Mem.tail _ (pickS_mem ws bs x h)
theorem words_ok : ∀ x ∈ wordsS, PyData.strOk x = true := by decide +kernel
theorem told_ok {l : List (Str × Tok)} {n : Nat} {bs : List Bool} (h : l.map (·.1) = pickS (wordsS.take n) bs) : ∀ p ∈ l, PyData.strOk p.1 = true := fun p hp =>
  words_ok _ (List.mem_of_mem_take (pickS_mem _ _ _ (h ▸ List.mem_map.mpr ⟨p, hp, rfl⟩)))
theorem eq_nil {prog : Program} {w : World} {A : Around} {E : Value → Shared → Prop} {s : Shared} {h₀ : Heap} {L a b : Addr} {news : List (Addr × Obj)} {l : List (Str × Tok)} {c c' : Nat} {Q : Value → Shared → Prop}
    (N : News h₀ L s.heap news) (ha : (a, W.listOf (strValues l).toArray c) ∈ news) (hb : (b, W.listOf #[] c') ∈ news) (hu : A.units + 64 < cLine) {n : Nat} {bs : List Bool} (hl : l.map (·.1) = pickS (wordsS.take n) bs)
    (h1 : l = [] → Q (.bool true) s) (h2 : l ≠ [] → Q (.bool false) s) : wpAny (model prog w) A (compareOp .Eq (.ref a) (.ref b)) Q E s := by
  refine eq_dataH_same (reads_newData (isL N ha) (strs_carried l)) (reads_newData (isL (vs := []) N hb) .nil) (strs_shaped l (told_ok hl)) (strs_shaped [] (fun _ h => nomatch h)) hu (SeqAt.noMix_of_shape (.list .str) rfl _ _ (list_map_has fun _ => rfl) rfl) ?_
  cases l with
  | nil => exact h1 rfl
  | cons p l => exact h2 (by simp)
end Mine
namespace Mine
set_option linter.unusedVariables false
section
variable {prog : Program} {w : World} {A : Around} {E : Value → Shared → Prop} {s : Shared} {h₀ : Heap} {L : Addr} {m : Str → Option Value} {env : Env} {ct elt : PySem.Expr} {x : Str} {scope : Scope} {cl : List (Str × Addr)} {S : List (Addr × Obj) → Prop} {P : Nat → Value → Prop} {Fin : List Value → List (Addr × Obj) → Prop} {news : List (Addr × Obj)}
theorem restTI {n : Nat} {ks : List Int} (T : Int → Bool) (f : Int → Int) (hks : ks.length = n) (hP : ∀ i v, i < n → P i v → ∃ k t, ks[i]? = some k ∧ v = .int k t)
    (turn : ∀ k t ys I oI C oC D m₂ h tk (E' : Value → Shared → Prop), LCg.NsObj oC m₂ → m₂ x = some (.int k t) → Fr h₀ L h m → News h₀ L h ((I, oI) :: (C, oC) :: (D, LCg.lst ys) :: news) → LCg.Off3 I C D news → ((@Ne Nat I C) ∧ (@Ne Nat I D) ∧ (@Ne Nat C D)) →
      wpAny (model prog w) A (isTrue ct (compEnvC scope cl C env) (eval ct (compEnvC scope cl C env))) (fun ok s' => if ok = true then
        wpAny (model prog w) A (eval elt (compEnvC scope cl C env)) (LCg.CompEnd h₀ L m { s with heap := h, toks := tk } I oI C oC D (LCg.lst ys) S (fun y news' => news' = news ∧ T k = true ∧ ∃ t, y = .int (f k) t)) E' s'
        else LCg.CompEnd h₀ L m { s with heap := h, toks := tk } I oI C oC D (LCg.lst ys) S (fun _ news' => news' = news ∧ T k = false) Value.none s') E' { s with heap := h, toks := tk })
    (fin : ∀ ys, IntsAre ys ((ks.filter T).map f) → Fin ys news) : LCt.CompRestT prog w A h₀ L m env ct elt x scope cl s S P Fin n 0 [] news := by
  refine restT (fun i ys => IntsAre ys (((ks.take i).filter T).map f)) .nil ?_ ?_
  · intro i v ys I oI C oC D m₂ h tk E' hi hv hJ hC hx F N off ne
    obtain ⟨k, t, hk, rfl⟩ := hP i v hi hv
    refine wpAny_mono (turn k t ys I oI C oC D m₂ h tk E' hC hx F N off ne) (fun ok s₂ q => ?_) fun _ _ e => e
    cases ok with
    | true =>
      simp only [if_true] at q ⊢
      refine wpAny_mono q (fun y s₃ r => ?_) fun _ _ e => e
      obtain ⟨h', tk', nw, e, F2, N2, off2, hS, e1, e2, t2, rfl⟩ := r
      refine ⟨h', tk', nw, e, F2, N2, off2, hS, e1, ?_⟩
      rw [List.take_add_one, hk]
      simp only [Option.toList_some, List.filter_append, List.map_append]
      have e3 : (List.filter T [k]).map f = [f k] := by simp [e2]
      rw [e3]
      exact hJ.append (.cons _ _ .nil)
    | false =>
      simp only [Bool.false_eq_true, if_false] at q ⊢
      obtain ⟨h', tk', nw, e, F2, N2, off2, hS, e1, e2⟩ := q
      refine ⟨h', tk', nw, e, F2, N2, off2, hS, e1, ?_⟩
      rw [List.take_add_one, hk]
      simp only [Option.toList_some, List.filter_append, List.map_append]
      have e3 : (List.filter T [k]).map f = [] := by simp [e2]
      rw [e3, List.append_nil]
      exact hJ
  · intro ys hy
    rw [List.take_of_length_le (by rw [hks]; exact Nat.le_refl _)] at hy
    exact fin ys hy
theorem filt_range {FinS : Shared → List Value → List (Addr × Obj) → Prop} {r : Addr} {t u v : Tok} {a b c d side : Int} {vr : List Value} (_hw : IntsAre vr (rowOf a b c (Int.fmod d 4))) (_hs : side = 1 ∨ side = -1)
    (hh : A.handled = none) (F : Fr h₀ L s.heap m) (N : News h₀ L s.heap news) (hr : IsRange s.heap r (-11) 12 1 t u v)
    (turn : ∀ g (k : Int) t ys I oI C oC D m₂ h tk (E' : Value → Shared → Prop), LCg.NsObj oC m₂ → m₂ x = some (.int k t) → Fr h₀ L h m → News h₀ L h ((I, oI) :: (C, oC) :: (D, LCg.lst ys) :: news) → LCg.Off3 I C D news → ((@Ne Nat I C) ∧ (@Ne Nat I D) ∧ (@Ne Nat C D)) →
      wpAny (model prog w) A (isTrue ct (compEnvC scope cl C env) (eval ct (compEnvC scope cl C env))) (fun ok s' => if ok = true then
        wpAny (model prog w) A (eval elt (compEnvC scope cl C env)) (LCg.CompEnd h₀ L m { s with heap := h, gens := ({ s with heap := g } : Shared).gens, toks := tk } I oI C oC D (LCg.lst ys) (fun _ => True) (fun y news' => news' = news ∧ T4 a b c d (side * k) = true ∧ ∃ t, y = .int (side * k) t)) E' s'
        else LCg.CompEnd h₀ L m { s with heap := h, gens := ({ s with heap := g } : Shared).gens, toks := tk } I oI C oC D (LCg.lst ys) (fun _ => True) (fun _ news' => news' = news ∧ T4 a b c d (side * k) = false) Value.none s') E' { s with heap := h, toks := tk })
    (fin : ∀ g ys, IntsAre ys (((rangeKs (-11) 23).filter fun k => T4 a b c d (side * k)).map fun k => side * k) → FinS { s with heap := g } ys news) :
    SrcMT prog w A h₀ L m env ct elt x scope cl FinS (.ref r) s := by
  refine LCt.CompSrcT.range (n := 23) hh F N hr (by decide) (by decide) (by rw [sizeLine_eq]; decide) fun g => ?_
  refine restTI (ks := rangeKs (-11) 23) (fun k => T4 a b c d (side * k)) (fun k => side * k) (rangeKs_length _ _) ?_ ?_ (fin g)
  · rintro i v hi ⟨t, rfl⟩
    exact ⟨_, t, by simp [rangeKs, hi], rfl⟩
  · exact turn g
theorem filt_list {FinS : Shared → List Value → List (Addr × Obj) → Prop} {ax : Addr} {cx : Nat} {vs : List Value} {ks : List Int} {a b c d side : Int} {vr : List Value} (_hw : IntsAre vr (rowOf a b c (Int.fmod d 4))) (_hs : side = 1 ∨ side = -1)
    (hh : A.handled = none) (F : Fr h₀ L s.heap m) (N : News h₀ L s.heap news) (hm : (ax, W.listOf vs.toArray cx) ∈ news) (hi : IntsAre vs ks) (hn : ks.length ≤ 18)
    (turn : ∀ g (k : Int) t ys I oI C oC D m₂ h tk (E' : Value → Shared → Prop), LCg.NsObj oC m₂ → m₂ x = some (.int k t) → Fr h₀ L h m → News h₀ L h ((I, oI) :: (C, oC) :: (D, LCg.lst ys) :: news) → LCg.Off3 I C D news → ((@Ne Nat I C) ∧ (@Ne Nat I D) ∧ (@Ne Nat C D)) →
      wpAny (model prog w) A (isTrue ct (compEnvC scope cl C env) (eval ct (compEnvC scope cl C env))) (fun ok s' => if ok = true then
        wpAny (model prog w) A (eval elt (compEnvC scope cl C env)) (LCg.CompEnd h₀ L m { s with heap := h, gens := ({ s with heap := g } : Shared).gens, toks := tk } I oI C oC D (LCg.lst ys) (LCg.SrcAt h₀ ax vs.toArray) (fun y news' => news' = news ∧ T4 a b c d (side * k) = true ∧ ∃ t, y = .int (side * k) t)) E' s'
        else LCg.CompEnd h₀ L m { s with heap := h, gens := ({ s with heap := g } : Shared).gens, toks := tk } I oI C oC D (LCg.lst ys) (LCg.SrcAt h₀ ax vs.toArray) (fun _ news' => news' = news ∧ T4 a b c d (side * k) = false) Value.none s') E' { s with heap := h, toks := tk })
    (fin : ∀ g ys, IntsAre ys ((ks.filter fun k => T4 a b c d (side * k)).map fun k => side * k) → FinS { s with heap := g } ys news) :
    SrcMT prog w A h₀ L m env ct elt x scope cl FinS (.ref ax) s := by
  refine LCt.CompSrcT.ledger hh F N hm (by rw [sizeLine_eq, List.size_toArray, hi.length]; omega) fun g => ?_
  refine restTI (ks := ks) (fun k => T4 a b c d (side * k)) (fun k => side * k) (by rw [List.size_toArray]; exact hi.length.symm) ?_ ?_ (fin g)
  · intro i v hlt hv
    obtain ⟨k, t, e, hk⟩ := IntsAre.at hi i v (by simpa using hv)
    exact ⟨k, t, hk, e⟩
  · exact turn g
end
end Mine
namespace Mine
theorem sz_range {p : Int → Bool} {f : Int → Int} : (((rangeKs (-11) 23).filter p).map f).length ≤ sizeLine := by
  rw [List.length_map]
  exact Nat.le_trans (List.length_filter_le _ _) (by rw [rangeKs_length, sizeLine_eq]; decide)
theorem sz_held {p : Int → Bool} {f : Int → Int} {ns : List Int} (h : ns.length ≤ 18) : ((ns.map f).filter p).length ≤ sizeLine :=
  Nat.le_trans (List.length_filter_le _ _) (by rw [List.length_map, sizeLine_eq]; omega)
end Mine
namespace Mine
set_option linter.unusedVariables false
/-- one sentence, told at y on its side -/
noncomputable def tS (side v y : Int) : Bool := toldOf (meantOf v) (side * y)
noncomputable def modOk (v M : Int) : Prop := Int.fmod v 8 < 6 ∨ ∃ q, M = (2 + Int.fmod (Int.fdiv v 8) 2) * q
theorem mem_lt (n : Int) : (sgn n ∈ ([-1] : List Int)) ↔ n < 0 := by unfold sgn; simp only [List.mem_singleton]; split <;> split <;> omega
theorem mem_gt (n : Int) : (sgn n ∈ ([1] : List Int)) ↔ 0 < n := by unfold sgn; simp only [List.mem_singleton]; split <;> split <;> omega
theorem mem_le (n : Int) : (sgn n ∈ ([-1, 0] : List Int)) ↔ n ≤ 0 := by unfold sgn; simp only [List.mem_cons, List.not_mem_nil, or_false]; split <;> split <;> omega
theorem mem_ge (n : Int) : (sgn n ∈ ([0, 1] : List Int)) ↔ 0 ≤ n := by unfold sgn; simp only [List.mem_cons, List.not_mem_nil, or_false]; split <;> split <;> omega
theorem mem_eq (n : Int) : (sgn n ∈ ([0] : List Int)) ↔ n = 0 := by unfold sgn; simp only [List.mem_singleton]; split <;> split <;> omega
theorem mem_ne (n : Int) : (sgn n ∈ ([-1, 1] : List Int)) ↔ n ≠ 0 := by unfold sgn; simp only [List.mem_cons, List.not_mem_nil, or_false]; split <;> split <;> omega
theorem told_ord (v x : Int) (hk : Int.fmod v 8 < 6) : toldOf (meantOf v) x = decide (sgn (x - (Int.fmod (Int.fdiv v 8) 9 - 4)) ∈ takesOf (Int.fmod v 8)) := by
  unfold meantOf toldOf overOf
  rw [if_pos hk]
  simp
theorem told_mod (v x : Int) (hk : ¬ Int.fmod v 8 < 6) : toldOf (meantOf v) x = decide (sgn (Int.fmod x (2 + Int.fmod (Int.fdiv v 8) 2) - Int.fmod (Int.fdiv v 16) 3) ∈ takesOf (Int.fmod v 8)) := by
  have h2 := fm (Int.fdiv v 8) (n := 2) (by decide)
  unfold meantOf toldOf overOf
  rw [if_neg hk]
  dsimp only
  rw [if_pos (by omega)]
theorem mod_per (side v M y : Int) (hs : side = 1 ∨ side = -1) (hk : ¬ Int.fmod v 8 < 6) (hM : modOk v M) : tS side v y = tS side v (y - M) := by
  unfold tS
  rw [told_mod _ _ hk, told_mod _ _ hk]
  rcases hM with h | ⟨q, h⟩
  · exact absurd h hk
  · have : Int.fmod (side * y) (2 + Int.fmod (Int.fdiv v 8) 2) = Int.fmod (side * (y - M)) (2 + Int.fmod (Int.fdiv v 8) 2) := by
      have e : side * y = side * (y - M) + (2 + Int.fmod (Int.fdiv v 8) 2) * (side * q) := by rw [h]; rcases hs with rfl | rfl <;> simp only [Int.one_mul, Int.neg_mul, Int.mul_neg] <;> omega
      rw [e, Int.add_mul_fmod_self_left]
    rw [this]
theorem sent_exit (side v M y : Int) (hs : side = 1 ∨ side = -1) (hM1 : 1 ≤ M) (hM : modOk v M) (h1 : tS side v y = true) (h0 : tS side v (y - M) = false) :
    ∃ b ∈ bOf side v, ∃ j, 1 ≤ j ∧ j ≤ M ∧ y = side * b + j := by
  have h8 := fm v (n := 8) (by decide)
  by_cases hk : Int.fmod v 8 < 6
  · unfold tS at h1 h0
    rw [told_ord _ _ hk] at h1 h0
    replace h1 := of_decide_eq_true h1
    replace h0 := of_decide_eq_false h0
    unfold bOf
    dsimp only
    generalize Int.fmod (Int.fdiv v 8) 9 - 4 = t at *
    rcases six_of h8 hk with h | h | h | h | h | h <;> rw [h] at h1 h0 ⊢
    · replace h1 := (mem_lt _).mp h1
      replace h0 := mt (mem_lt _).mpr h0
      rcases hs with rfl | rfl
      · exact absurd (show 1 * (y - M) - t < 0 by omega) h0
      · refine ⟨t, by simp, y + t, ?_, ?_, ?_⟩ <;> omega
    · replace h1 := (mem_gt _).mp h1
      replace h0 := mt (mem_gt _).mpr h0
      rcases hs with rfl | rfl
      · refine ⟨t, by simp, y - t, ?_, ?_, ?_⟩ <;> omega
      · exact absurd (show 0 < -1 * (y - M) - t by omega) h0
    · replace h1 := (mem_le _).mp h1
      replace h0 := mt (mem_le _).mpr h0
      rcases hs with rfl | rfl
      · exact absurd (show 1 * (y - M) - t ≤ 0 by omega) h0
      · refine ⟨t - -1, by simp, y + t + 1, ?_, ?_, ?_⟩ <;> omega
    · replace h1 := (mem_ge _).mp h1
      replace h0 := mt (mem_ge _).mpr h0
      rcases hs with rfl | rfl
      · refine ⟨t - 1, by simp, y - t + 1, ?_, ?_, ?_⟩ <;> omega
      · exact absurd (show 0 ≤ -1 * (y - M) - t by omega) h0
    · replace h1 := (mem_eq _).mp h1
      rcases hs with rfl | rfl
      · refine ⟨t - 1, by simp, 1, ?_, ?_, ?_⟩ <;> omega
      · refine ⟨t - -1, by simp, 1, ?_, ?_, ?_⟩ <;> omega
    · replace h0 := mt (mem_ne _).mpr h0
      rcases hs with rfl | rfl
      · refine ⟨t, by simp, M, ?_, ?_, ?_⟩ <;> omega
      · refine ⟨t, by simp, M, ?_, ?_, ?_⟩ <;> omega
  · rw [mod_per side v M y hs hk hM, h0] at h1
    exact absurd h1 (by decide)
theorem sent_far (side v M y : Int) (hs : side = 1 ∨ side = -1) (hM1 : 1 ≤ M) (hM : modOk v M) (hy : y ≤ -5) : tS side v y = tS side v (y - M) := by
  have h8 := fm v (n := 8) (by decide)
  have h9 := fm (Int.fdiv v 8) (n := 9) (by decide)
  by_cases hk : Int.fmod v 8 < 6
  · unfold tS
    rw [told_ord _ _ hk, told_ord _ _ hk]
    generalize Int.fmod (Int.fdiv v 8) 9 = t at *
    congr 2
    have key : sgn (side * y - (t - 4)) = sgn (side * (y - M) - (t - 4)) := by
      unfold sgn
      rcases hs with rfl | rfl
      · rw [if_neg (by omega), if_pos (by omega), if_neg (by omega), if_pos (by omega)]
      · rw [if_pos (by omega), if_neg (by omega), if_pos (by omega), if_neg (by omega)]
    rw [key]
  · exact mod_per side v M y hs hk hM
noncomputable def tR (side a b c j y : Int) : Bool := trueOf (meantOf a) (meantOf b) (meantOf c) j (side * y)
theorem join_exit {k a b a' b' : Bool} (h : joinB k a b = true) (h' : joinB k a' b' = false) : (a = true ∧ a' = false) ∨ (b = true ∧ b' = false) := by
  revert h h'
  cases k <;> cases a <;> cases b <;> cases a' <;> cases b' <;> decide
theorem row_far (side a b c j M y : Int) (hs : side = 1 ∨ side = -1) (hM1 : 1 ≤ M) (ha : modOk a M) (hb : modOk b M) (hc : modOk c M) (hy : y ≤ -5) : tR side a b c j y = tR side a b c j (y - M) := by
  have e1 := sent_far side a M y hs hM1 ha hy
  have e2 := sent_far side b M y hs hM1 hb hy
  have e3 := sent_far side c M y hs hM1 hc hy
  unfold tS at e1 e2 e3
  unfold tR trueOf
  rw [e1, e2, e3]
theorem row_exit (side a b c j M y : Int) (hs : side = 1 ∨ side = -1) (hM1 : 1 ≤ M) (ha : modOk a M) (hb : modOk b M) (hc : modOk c M) (h1 : tR side a b c j y = true) (h0 : tR side a b c j (y - M) = false) :
    ∃ e ∈ bOf side a ++ bOf side b ++ bOf side c, ∃ j, 1 ≤ j ∧ j ≤ M ∧ y = side * e + j := by
  have key : ∀ v, modOk v M → toldOf (meantOf v) (side * y) = true ∧ toldOf (meantOf v) (side * (y - M)) = false → ∃ e ∈ bOf side v, ∃ j, 1 ≤ j ∧ j ≤ M ∧ y = side * e + j :=
    fun v hv h => sent_exit side v M y hs hM1 hv h.1 h.2
  unfold tR trueOf at h1 h0
  rcases join_exit h1 h0 with h | h
  · rcases join_exit h.1 h.2 with h | h
    · obtain ⟨e, he, x⟩ := key a ha h
      exact ⟨e, List.mem_append_left _ (List.mem_append_left _ he), x⟩
    · obtain ⟨e, he, x⟩ := key b hb h
      exact ⟨e, List.mem_append_left _ (List.mem_append_right _ he), x⟩
  · obtain ⟨e, he, x⟩ := key c hc h
    exact ⟨e, List.mem_append_right _ he, x⟩
end Mine
namespace Mine
set_option linter.unusedVariables false
theorem take1_eq : ∀ {l1 l2 : List Int}, l1.Pairwise (· ≤ ·) → l2.Pairwise (· ≤ ·) → (∀ x ∈ l1, x ∈ l2) → (∀ y ∈ l2, ∃ x ∈ l1, x ≤ y) → l1.take 1 = l2.take 1
  | [], [], _, _, _, _ => rfl
  | [], y :: ys, _, _, _, h => by obtain ⟨x, hx, _⟩ := h y (.head _); exact absurd hx List.not_mem_nil
  | x :: xs, [], _, _, h, _ => absurd (h x (.head _)) List.not_mem_nil
  | x :: xs, y :: ys, p1, p2, h, g => by
    obtain ⟨x', hx', hle⟩ := g y (.head _)
    have h1 : x ≤ x' := by
      rcases List.mem_cons.mp hx' with rfl | q
      · exact Int.le_refl _
      · exact (List.pairwise_cons.mp p1).1 _ q
    have h2 : y ≤ x := by
      rcases List.mem_cons.mp (h x (.head _)) with rfl | q
      · exact Int.le_refl _
      · exact (List.pairwise_cons.mp p2).1 _ q
    have : x = y := by omega
    subst this
    rfl
theorem range_sorted (a : Int) (n : Nat) : (rangeKs a n).Pairwise (· ≤ ·) := by
  unfold rangeKs
  rw [List.pairwise_map]
  exact List.Pairwise.imp (fun h => by omega) List.pairwise_lt_range
theorem range_mem {a k : Int} {n : Nat} (h1 : a ≤ k) (h2 : k < a + (n : Int)) : k ∈ rangeKs a n := by
  unfold rangeKs
  refine List.mem_map.mpr ⟨(k - a).toNat, List.mem_range.mpr (by omega), by omega⟩
theorem modOk_mul {v m q : Int} (h : modOk v m) : modOk v (m * q) := by
  rcases h with h | ⟨r, h⟩
  · exact .inl h
  · exact .inr ⟨r * q, by rw [h, Int.mul_assoc]⟩
theorem mOf_mul (v m : Int) : ∃ q, mOf v m = m * q := by
  unfold mOf
  split
  · exact ⟨1, by omega⟩
  · split
    · exact ⟨_, rfl⟩
    · exact ⟨1, by omega⟩
theorem mOf_keep {u v m : Int} (h : modOk u m) : modOk u (mOf v m) := by
  obtain ⟨q, e⟩ := mOf_mul v m
  rw [e]
  exact modOk_mul h
theorem mOf_own (v m : Int) : modOk v (mOf v m) := by
  have h2 := fm (Int.fdiv v 8) (n := 2) (by decide)
  by_cases hk : Int.fmod v 8 < 6
  · exact .inl hk
  · refine .inr ?_
    unfold mOf
    rw [if_neg hk]
    split
    · exact ⟨m, Int.mul_comm _ _⟩
    · rename_i h
      refine ⟨Int.fdiv m (2 + Int.fmod (Int.fdiv v 8) 2), ?_⟩
      have := Int.fmod_add_mul_fdiv m (2 + Int.fmod (Int.fdiv v 8) 2)
      have h0 : Int.fmod m (2 + Int.fmod (Int.fdiv v 8) 2) = 0 := by omega
      rw [h0, Int.zero_add] at this
      exact this.symm
theorem bOf_bound (side v b j : Int) (hs : side = 1 ∨ side = -1) (hb : b ∈ bOf side v) (h1 : 1 ≤ j) (h2 : j ≤ 6) : -5 < side * b + j ∧ side * b + j ≤ 10 := by
  have h9 := fm (Int.fdiv v 8) (n := 9) (by decide)
  have key : b = Int.fmod (Int.fdiv v 8) 9 - 4 ∨ b = Int.fmod (Int.fdiv v 8) 9 - 4 - side := by
    unfold bOf at hb
    dsimp only at hb
    repeat' split at hb
    all_goals first | (exact absurd hb List.not_mem_nil) | (have hb2 := List.mem_singleton.mp hb; omega)
  rcases hs with rfl | rfl <;> rcases key with rfl | rfl <;> omega
section
variable {side a b c j M : Int} (hs : side = 1 ∨ side = -1) (hM : 1 ≤ M ∧ M ≤ 6) (ha : modOk a M) (hb : modOk b M) (hc : modOk c M)
include hs hM ha hb hc
theorem far_step (n : Nat) : ∀ y : Int, y ≤ -5 → tR side a b c j y = tR side a b c j (y - M * n) := by
  induction n with
  | zero => intro y _; simp
  | succ n ih =>
    intro y hy
    rw [row_far side a b c j M y hs hM.1 ha hb hc hy, ih (y - M) (by omega)]
    congr 1
    have : M * ((n + 1 : Nat) : Int) = M * n + M := by rw [Int.natCast_add, Int.mul_add]; omega
    omega
theorem far_all (far : ∀ k : Nat, k < M.toNat → tR side a b c j ((k : Int) - 599) = false) (y : Int) (hy : y ≤ -5) : tR side a b c j y = false := by
  have h := fm (y + 599) (n := M) (by omega)
  have e := Int.fmod_add_mul_fdiv (y + 599) M
  have f := far (Int.fmod (y + 599) M).toNat (by omega)
  rw [Int.toNat_of_nonneg h.1] at f
  generalize Int.fmod (y + 599) M = r at *
  generalize Int.fdiv (y + 599) M = q at *
  by_cases hq : 0 ≤ q
  · rw [far_step hs hM ha hb hc q.toNat y hy]
    have : M * ((q.toNat : Nat) : Int) = M * q := by rw [Int.toNat_of_nonneg hq]
    have e2 : y - M * ((q.toNat : Nat) : Int) = r - 599 := by omega
    rw [e2]
    exact f
  · have g := far_step (j := j) hs hM ha hb hc (-q).toNat (r - 599) (by omega)
    have : M * (((-q).toNat : Nat) : Int) = M * -q := by rw [Int.toNat_of_nonneg (by omega)]
    rw [Int.mul_neg] at this
    have e2 : r - 599 - M * (((-q).toNat : Nat) : Int) = y := by omega
    rw [e2, f] at g
    exact g.symm
theorem down (far : ∀ k : Nat, k < M.toNat → tR side a b c j ((k : Int) - 599) = false) : ∀ (n : Nat) (y : Int), y ≤ n - 5 → tR side a b c j y = true →
    ∃ e ∈ bOf side a ++ bOf side b ++ bOf side c, ∃ i, 1 ≤ i ∧ i ≤ M ∧ side * e + i ≤ y ∧ tR side a b c j (side * e + i) = true := by
  intro n
  induction n with
  | zero =>
    intro y hy h
    rw [far_all hs hM ha hb hc far y (by omega)] at h
    exact absurd h (by decide)
  | succ n ih =>
    intro y hy h
    by_cases h0 : tR side a b c j (y - M) = true
    · obtain ⟨e, he, i, h1, h2, h3, h4⟩ := ih (y - M) (by omega) h0
      exact ⟨e, he, i, h1, h2, by omega, h4⟩
    · obtain ⟨e, he, i, h1, h2, h3⟩ := row_exit side a b c j M y hs hM.1 ha hb hc h (by simpa using h0)
      exact ⟨e, he, i, h1, h2, by omega, by rw [← h3]; exact h⟩
theorem near_take1 {ns : List Int} (far : ∀ k : Nat, k < M.toNat → tR side a b c j ((k : Int) - 599) = false)
    (hp : ns.Perm (prod2 (bOf side a ++ bOf side b ++ bOf side c) M.toNat fun b j => side * b + j)) (hq : ns.Pairwise (· ≤ ·)) :
    (ns.filter (tR side a b c j)).take 1 = ((rangeKs (-11) 23).filter (tR side a b c j)).take 1 := by
  refine take1_eq (hq.filter _) ((range_sorted _ _).filter _) ?_ ?_
  · intro x hx
    rw [List.mem_filter] at hx ⊢
    refine ⟨?_, hx.2⟩
    have h1 := hp.mem_iff.mp hx.1
    obtain ⟨e, he, h2⟩ := List.mem_flatMap.mp h1
    obtain ⟨i, hi, rfl⟩ := List.mem_map.mp h2
    have h3 := mem_rangeKs hi
    have h4 : -5 < side * e + i ∧ side * e + i ≤ 10 := by
      rcases List.mem_append.mp he with he | he
      · rcases List.mem_append.mp he with he | he
        · exact bOf_bound side a e i hs he (by omega) (by omega)
        · exact bOf_bound side b e i hs he (by omega) (by omega)
      · exact bOf_bound side c e i hs he (by omega) (by omega)
    exact range_mem (k := side * e + i) (by omega) (by omega)
  · intro y hy
    rw [List.mem_filter] at hy
    obtain ⟨e, he, i, h1, h2, h3, h4⟩ := down hs hM ha hb hc far (y + 5).toNat y (by omega) hy.2
    refine ⟨side * e + i, List.mem_filter.mpr ⟨hp.mem_iff.mpr (List.mem_flatMap.mpr ⟨e, he, List.mem_map.mpr ⟨i, range_mem h1 (by omega), rfl⟩⟩), h4⟩, h3⟩
end
theorem pick_nil : ∀ {ws : List Str} {bs : List Bool}, bs.length ≤ ws.length → pickS ws bs = [] → ∀ b ∈ bs, b = false
  | _, [], _, _, b, h => absurd h List.not_mem_nil
  | [], _ :: _, h, _, _, _ => by simp at h
  | w :: ws, b' :: bs, hl, h, b, hm => by
    unfold pickS at h
    cases b' with
    | true => simp at h
    | false =>
      rcases List.mem_cons.mp hm with rfl | hm
      · rfl
      · exact pick_nil (by simpa using hl) (by simpa using h) b hm
theorem law_F3 {a b c d side : Int} {ns : List Int} : List.filter (T4 a b c d) (List.map (fun k' => side * k') ns) = List.map (fun k => side * k) (List.filter (fun k => T4 a b c d (side * k)) ns) := by
  rw [List.filter_map]
  rfl
theorem law_F2 {a b c d side : Int} {ns : List Int} {l : List (Str × Tok)} (hs : side = 1 ∨ side = -1)
    (hl : l.map (·.1) = pickS (wordsS.take (boundsF side (rowOf a b c (Int.fmod d 4)) [] 1).2.toNat) ((List.range (boundsF side (rowOf a b c (Int.fmod d 4)) [] 1).2.toNat).map fun k : Nat => T4 a b c d (side * ((k : Int) - 599)))) (hn : l = [])
    (hp : ns.Perm (prod2 (boundsF side (rowOf a b c (Int.fmod d 4)) [] 1).1 (boundsF side (rowOf a b c (Int.fmod d 4)) [] 1).2.toNat fun b j => side * b + j)) (hq : ns.Pairwise (· ≤ ·)) :
    List.take 1 (List.filter (T4 a b c d) (List.map (fun k' => side * k') ns)) = List.take 1 (List.map (fun k => side * k) (List.filter (fun k => T4 a b c d (side * k)) (rangeKs (-11) 23))) := by
  have hM := many_ok' a b c d side hs
  rw [bnd_row _ _ _ _ _ hs (fm d (by decide))] at hl hp hM
  dsimp only at hl hp hM
  rw [law_F3, ← List.map_take, ← List.map_take]
  congr 1
  refine near_take1 (j := Int.fmod d 4) hs hM (mOf_keep (mOf_keep (mOf_own a 1))) (mOf_keep (mOf_own b _)) (mOf_own c _) ?_ hp hq
  intro k hk
  subst hn
  have h := pick_nil (by rw [List.length_map, List.length_range, List.length_take]; simp only [wordsS, List.length_cons, List.length_nil]; omega) hl.symm
  exact h _ (List.mem_map.mpr ⟨k, List.mem_range.mpr hk, rfl⟩)
end Mine
namespace Mine
set_option maxRecDepth 100000
set_option maxHeartbeats 16000000
set_option linter.unusedVariables false
set_option linter.unusedSimpArgs false
local macro_rules | `(tactic| walk_at "my_ints") => `(tactic| first | assumption | exact IntsAre.nil | exact IntsAre.cons _ _ (by walk_at "my_ints"))
local macro_rules | `(tactic| k_mem) => `(tactic| assumption)
local macro_rules | `(tactic| k_all) => `(tactic| (with_reducible assumption))
local macro_rules | `(tactic| k_all) => `(tactic| (intro p hp; exact Nat.ne_of_lt (ktn_ltOf (by with_reducible assumption) p hp)))
local macro_rules | `(tactic| walk_at "my_mem1") => `(tactic| first | exact List.Mem.head _ | (refine List.Mem.tail _ ?_; walk_at "my_mem1") | assumption)
local macro_rules | `(tactic| walk_at "my_sub") => `(tactic| first | exact List.forall_mem_nil _ | (refine List.forall_mem_cons.mpr ⟨?_, ?_⟩; (walk_at "my_mem1"); walk_at "my_sub") | (intro p hp; walk_at "my_mem1"))
local macro_rules | `(tactic| walk_at "my_ps") => `(tactic| first | exact List.forall_mem_nil _ | (refine List.forall_mem_cons.mpr ⟨rfl, ?_⟩; walk_at "my_ps"))
local macro_rules | `(tactic| walk_at "my_upd") => `(tactic| first | exact Upd.head (by walk_at "my_off") | exact Upd.tail (by ((refine neN ?_; (try dsimp only); omega))) (by walk_at "my_upd"))
local macro_rules | `(tactic| walk_at "my_off") => `(tactic| first | with_reducible assumption | exact List.forall_mem_nil _ | exact List.forall_mem_cons.mpr ⟨by ((refine neN ?_; (try dsimp only); omega)), by walk_at "my_off"⟩ | exact ne_of_allLt (by assumption))
local macro_rules | `(tactic| walk_at "my_sfx") => `(tactic| first | exact fun p hp => hp | exact fun p hp => List.Mem.tail _ hp | exact fun p hp => List.Mem.tail _ (List.Mem.tail _ hp) | exact fun p hp => List.Mem.tail _ (List.Mem.tail _ (List.Mem.tail _ hp)) | exact fun p hp => List.Mem.tail _ (List.Mem.tail _ (List.Mem.tail _ (List.Mem.tail _ hp))) | walk_at "my_sub")
section
theorem call_sentence {w : World} {p : Program} {loose : List Str} {mean : ExcName → Option Value} {mg mb : Str → Option Value} {dp un : Nat} {gd : Option (List Code)} {cn : Str} {cs : Scope} {a : Addr} {ccd : Value} {cl : List (Str × Addr)} {outer : List Env} {A₀ : Around} {base h₀ : Heap} {L : Addr} {m : Str → Option Value} {news : List (Addr × Obj)} {s : Shared} {Q E : Value → Shared → Prop}
    {v : Int} {t : Tok}
    (B : Below A₀ base outer h₀) (F : Fr h₀ L s.heap m) (X : (hd.heap_39 w.params).In h₀) (N : News h₀ L s.heap news) (T : Top p loose mean mg mb h₀) (hk : cs.kind = .function) (hdp : dp + 4 < recursionLimit) (hun : un + 40 < cLine)
    
    (ret : ∀ l vs c h' tk', Fr h₀ L h' m → News h₀ L h' ((l, W.listOf vs.toArray c) :: news) → (∀ q ∈ news, q.1 < l) → IntsAre vs (sentCode v) → Q (.ref l) { s with heap := h', toks := tk' }) :
    wpAny (model PySem.Challenge.rw_wj0027_01.row.prog w) (ktrTop dp un gd cn cs L a ccd cl outer) (call (.ref 135) [.int v t]) Q E s
   := by
  w_top off; revert X; k_fill; intro X
  refine wpAny_call ?_
  k_dflt ktr_enter
  (repeat' (first | (k_unfold; (try dsimp only)) | (k_end; wrow_close) | ((fail_if_success (fail_if_success (with_reducible show wpAny _ _ (execs (_ :: _) _) _ _ _))); (with_reducible refine wpAny_execs_cons ?_); k_fold) | walk1 | (dsimp only; first | ((fail_if_success (fail_if_success (with_reducible show wpAny _ _ (execs (_ :: _) _) _ _ _))); (with_reducible refine wpAny_execs_cons ?_); k_fold) | walk1) | (leave1; (try dsimp only)) | fail "no step"))
  · rename News h₀ _ _ _ => lN
    rename _ < _ => hv
    refine ret _ _ _ _ _ (by assumption) (cb_drop lN (List.forall_mem_cons.mpr ⟨List.Mem.head _, fun p hp => List.Mem.tail _ (List.Mem.tail _ hp)⟩)) (ktn_ltOf (And.right (by assumption))) ?_
    unfold sentCode
    rw [if_pos hv]
    walk_at "my_ints"
  · rename News h₀ _ _ _ => lN
    rename ¬ _ => hv
    refine ret _ _ _ _ _ (by assumption) lN (by assumption) ?_
    unfold sentCode
    rw [if_neg hv]
    walk_at "my_ints"
end
section
theorem call_meant {w : World} {p : Program} {loose : List Str} {mean : ExcName → Option Value} {mg mb : Str → Option Value} {dp un : Nat} {gd : Option (List Code)} {cn : Str} {cs : Scope} {a : Addr} {ccd : Value} {cl : List (Str × Addr)} {outer : List Env} {A₀ : Around} {base h₀ : Heap} {L : Addr} {m : Str → Option Value} {news : List (Addr × Obj)} {s : Shared} {Q E : Value → Shared → Prop}
    {v : Int} {t : Tok}
    (B : Below A₀ base outer h₀) (F : Fr h₀ L s.heap m) (X : (hd.heap_39 w.params).In h₀) (N : News h₀ L s.heap news) (T : Top p loose mean mg mb h₀) (hk : cs.kind = .function) (hdp : dp + 4 < recursionLimit) (hun : un + 40 < cLine)
    
    (ret : ∀ l lt t1 t2 vs c c' h' tk', Fr h₀ L h' m → News h₀ L h' ((l, W.listOf #[.int (meantOf v).1 t1, .int (meantOf v).2.1 t2, .ref lt] c) :: (lt, W.listOf vs.toArray c') :: news) → (∀ q ∈ news, q.1 < lt) → lt < l → IntsAre vs (meantOf v).2.2 → Q (.ref l) { s with heap := h', toks := tk' }) :
    wpAny (model PySem.Challenge.rw_wj0027_01.row.prog w) (ktrTop dp un gd cn cs L a ccd cl outer) (call (.ref 142) [.int v t]) Q E s
   := by
  w_top off; revert X; k_fill; intro X
  refine wpAny_call ?_
  k_dflt ktr_enter
  (repeat' (first | (k_unfold; (try dsimp only)) | (k_end; wrow_close) | ((fail_if_success (fail_if_success (with_reducible show wpAny _ _ (execs (_ :: _) _) _ _ _))); (with_reducible refine wpAny_execs_cons ?_); k_fold) | ((fail_if_success (fail_if_success (with_reducible show wpAny _ _ (subscriptTail _ _ _ _) _ _ _))); first | ((with_reducible (((k_dflt (refine kba_turn (value' := PySem.Expr.Name (PySem.Str.ofString "_") ⟨0, 0, 0, 0⟩) (fun _ => rfl) ?_)); k_here; (with_reducible show wpAny _ _ (subscriptTail _ _ (Value.ref _) (Value.int (Int.fmod _ 8) _)) _ _ _); k_dflt (refine' my_itemD (by k_asm) (by exact List.Mem.head _) (by exact (fmod8 _).1) (by exact (fmod8 _).2) (by exact Int.lt_trans (fmod8 _).2 (by decide)) ?_ (by with_unfolding_all rfl); k_whole); (try dsimp only)))))) | walk1 | (dsimp only; first | ((fail_if_success (fail_if_success (with_reducible show wpAny _ _ (execs (_ :: _) _) _ _ _))); (with_reducible refine wpAny_execs_cons ?_); k_fold) | ((fail_if_success (fail_if_success (with_reducible show wpAny _ _ (subscriptTail _ _ _ _) _ _ _))); first | ((with_reducible (((k_dflt (refine kba_turn (value' := PySem.Expr.Name (PySem.Str.ofString "_") ⟨0, 0, 0, 0⟩) (fun _ => rfl) ?_)); k_here; (with_reducible show wpAny _ _ (subscriptTail _ _ (Value.ref _) (Value.int (Int.fmod _ 8) _)) _ _ _); k_dflt (refine' my_itemD (by k_asm) (by exact List.Mem.head _) (by exact (fmod8 _).1) (by exact (fmod8 _).2) (by exact Int.lt_trans (fmod8 _).2 (by decide)) ?_ (by with_unfolding_all rfl); k_whole); (try dsimp only)))))) | walk1) | (leave1; (try dsimp only)) | fail "no step"))
  · rename News h₀ _ _ _ => lN
    rename _ < _ => hv
    rename ∀ p ∈ news, _ => hb
    have hm : meantOf v = (0, Int.fmod (Int.fdiv v 8) 9 - 4, takesOf (Int.fmod v 8)) := by unfold meantOf; rw [if_pos hv]
    rw [hm] at ret
    dsimp only at ret
    have h8 := fmod8 v
    have hk8 : v.fmod 8 = 0 ∨ v.fmod 8 = 1 ∨ v.fmod 8 = 2 ∨ v.fmod 8 = 3 ∨ v.fmod 8 = 4 ∨ v.fmod 8 = 5 := by omega
    rcases hk8 with h | h | h | h | h | h
    all_goals
      rw [h] at ret lN
      refine ret _ _ _ _ _ _ _ _ _ (by assumption) (cb_drop lN (List.forall_mem_cons.mpr ⟨List.Mem.head _, List.forall_mem_cons.mpr ⟨by walk_at "my_mem1", fun p hp => by walk_at "my_mem1"⟩⟩)) (fun q hq => Nat.lt_of_lt_of_le (hb q hq) (by omega)) (ltN (by omega)) (by walk_at "my_ints")
  · rename News h₀ _ _ _ => lN
    rename ¬ _ => hv
    rename ∀ p ∈ news, _ => hb
    have hm : meantOf v = (2 + Int.fmod (Int.fdiv v 8) 2, Int.fmod (Int.fdiv v 16) 3, takesOf (Int.fmod v 8)) := by unfold meantOf; rw [if_neg hv]
    rw [hm] at ret
    dsimp only at ret
    have h8 := fmod8 v
    have hk8 : v.fmod 8 = 6 ∨ v.fmod 8 = 7 := by omega
    rcases hk8 with h | h
    all_goals
      rw [h] at ret lN
      refine ret _ _ _ _ _ _ _ _ _ (by assumption) (cb_drop lN (List.forall_mem_cons.mpr ⟨List.Mem.head _, List.forall_mem_cons.mpr ⟨by walk_at "my_mem1", fun p hp => by walk_at "my_mem1"⟩⟩)) (fun q hq => Nat.lt_of_lt_of_le (hb q hq) (by omega)) (ltN (by omega)) (by walk_at "my_ints")
end
section
theorem call_bounds {w : World} {p : Program} {loose : List Str} {mean : ExcName → Option Value} {mg mb : Str → Option Value} {dp un : Nat} {gd : Option (List Code)} {cn : Str} {cs : Scope} {a : Addr} {ccd : Value} {cl : List (Str × Addr)} {outer : List Env} {A₀ : Around} {base h₀ : Heap} {L : Addr} {m : Str → Option Value} {news : List (Addr × Obj)} {s : Shared} {Q E : Value → Shared → Prop}
    {lr : Addr} {vr : List Value} {cr : Nat} {row : List Int} {side : Int} {t : Tok}
    (B : Below A₀ base outer h₀) (F : Fr h₀ L s.heap m) (X : (hd.heap_39 w.params).In h₀) (N : News h₀ L s.heap news) (T : Top p loose mean mg mb h₀) (hk : cs.kind = .function) (hdp : dp + 4 < recursionLimit) (hun : un + 40 < cLine)
    (hr : (lr, W.listOf vr.toArray cr) ∈ news) (hri : IntsAre vr row) (hrow : row.length ≤ 100) (hok : boundsOk row)
    (ret : ∀ lt l vs c c' t' h' tk', Fr h₀ L h' m → News h₀ L h' ((lt, ({ cls := .type "tuple", data := .seq #[.ref l, .int (boundsF side row [] 1).2 t'] c' } : Obj)) :: (l, W.listOf vs.toArray c) :: news) → (∀ q ∈ news, q.1 < l) → l < lt → IntsAre vs (boundsF side row [] 1).1 → Q (.ref lt) { s with heap := h', toks := tk' }) :
    wpAny (model PySem.Challenge.rw_wj0027_01.row.prog w) (ktrTop dp un gd cn cs L a ccd cl outer) (call (.ref 128) [.ref lr, .int side t]) Q E s
   := by
  w_top off; revert X; k_fill; intro X
  refine wpAny_call ?_
  k_dflt ktr_enter
  (repeat' (first | (k_unfold; (try dsimp only)) | (k_end; wrow_close) | ((fail_if_success (fail_if_success (with_reducible show wpAny _ _ (execs (_ :: _) _) _ _ _))); (with_reducible refine wpAny_execs_cons ?_); k_fold) | ((fail_if_success (fail_if_success (with_reducible show wpAny _ _ (subscriptTail _ _ (Value.ref 15) (Value.str _ _)) _ _ _))); k_dflt (refine' tokAt (by k_asm) (by k_asm) (by k_is) ?_ (by with_unfolding_all rfl)); k_whole) | ((fail_if_success (fail_if_success (with_reducible show wpAny _ _ (exec (PySem.Stmt.For (PySem.Expr.Tuple _ _ _) (PySem.Expr.Call _ _ _ _) (_ :: _) [] _) _) _ _ _))); (with_reducible ((k_here; (rename Fr _ _ _ _ => lF'); (with_unfolding_all refine' For_turns lF' ?_; k_whole))))) | ((fail_if_success (fail_if_success (with_reducible show wpAny _ _ (subscriptTail _ _ _ _) _ _ _))); first | ((with_reducible ((k_here; (with_reducible show wpAny _ _ (subscriptTail _ _ (Value.ref _) (Value.int _ _)) _ _ _); k_dflt (refine' my_item (by k_asm) (by k_mem) (by assumption) (by omega) (by omega) (by omega) ?_ (by with_unfolding_all rfl); k_whole); intro t'; (try dsimp only)))))) | walk1 | (dsimp only; first | ((fail_if_success (fail_if_success (with_reducible show wpAny _ _ (execs (_ :: _) _) _ _ _))); (with_reducible refine wpAny_execs_cons ?_); k_fold) | ((fail_if_success (fail_if_success (with_reducible show wpAny _ _ (subscriptTail _ _ (Value.ref 15) (Value.str _ _)) _ _ _))); k_dflt (refine' tokAt (by k_asm) (by k_asm) (by k_is) ?_ (by with_unfolding_all rfl)); k_whole) | ((fail_if_success (fail_if_success (with_reducible show wpAny _ _ (exec (PySem.Stmt.For (PySem.Expr.Tuple _ _ _) (PySem.Expr.Call _ _ _ _) (_ :: _) [] _) _) _ _ _))); (with_reducible ((k_here; (rename Fr _ _ _ _ => lF'); (with_unfolding_all refine' For_turns lF' ?_; k_whole))))) | ((fail_if_success (fail_if_success (with_reducible show wpAny _ _ (subscriptTail _ _ _ _) _ _ _))); first | ((with_reducible ((k_here; (with_reducible show wpAny _ _ (subscriptTail _ _ (Value.ref _) (Value.int _ _)) _ _ _); k_dflt (refine' my_item (by k_asm) (by k_mem) (by assumption) (by omega) (by omega) (by omega) ?_ (by with_unfolding_all rfl); k_whole); intro t'; (try dsimp only)))))) | walk1) | (leave1; (try dsimp only)) | fail "no step"))
  all_goals
    refine loop_bounds (side := side) (row := row) rfl (by assumption) (by assumption) (by k_mem) hri hok (ne_of_allLt (by assumption)) rfl ?_ ?_
    all_goals (rename (_ ∧ AllLt _ _) => hA; obtain ⟨hA1, hA2⟩ := hA)
  ·
    intro pre n rest nt r bs vs c many tm u T t h tk I o o2 e1 e2 e3 e4 e5 e6 e7 hI F' N' hT
    (try dsimp only [kstB] at F')
    k_lt hI
    have hs1 : (if 0 < side then (21 : Int) else 20) = 21 := if_pos (by assumption)
    have hs2 : (if 0 < side then (30 : Int) else 29) = 30 := if_pos (by assumption)
    have hlen : row.length = pre.length + rest.length + 1 := by rw [e1]; simp; omega
    have hmb : 1 ≤ many ∧ many ≤ 6 := by rcases e6 with h | h | h | h <;> omega
    have g1 : row.getD ((pre.length : Int) + 1).toNat 0 = rest.getD 0 0 := getD_pre e1 0 _ (by omega)
    have g2 : row.getD ((pre.length : Int) + 2).toNat 0 = rest.getD 1 0 := getD_pre e1 1 _ (by omega)
    have hr2 : n = 256 → 2 ≤ rest.length := fun hn => (e5.1 hn).1
    have hd2 : n = 256 → row.getD ((pre.length : Int) + 2).toNat 0 - 225 = 24 → row.getD ((pre.length : Int) + 1).toNat 0 - 4100 = 2 ∨ row.getD ((pre.length : Int) + 1).toNat 0 - 4100 = 3 := by
      rw [g1, g2]; intro hn h; have := (e5.1 hn).2 (by omega); omega
    (repeat' (first | (k_unfold; (try dsimp only)) | (k_end; wrow_close) | ((fail_if_success (fail_if_success (with_reducible show wpAny _ _ (execs (_ :: _) _) _ _ _))); (with_reducible refine wpAny_execs_cons ?_); k_fold) | ((fail_if_success (fail_if_success (with_reducible show wpAny _ _ (subscriptTail _ _ (Value.ref 15) (Value.str _ _)) _ _ _))); k_dflt (refine' tokAt (by k_asm) (by k_asm) (by k_is) ?_ (by with_unfolding_all rfl)); k_whole) | ((fail_if_success (fail_if_success (with_reducible show wpAny _ _ (exec (PySem.Stmt.For (PySem.Expr.Tuple _ _ _) (PySem.Expr.Call _ _ _ _) (_ :: _) [] _) _) _ _ _))); (with_reducible ((k_here; (rename Fr _ _ _ _ => lF'); (with_unfolding_all refine' For_turns lF' ?_; k_whole))))) | ((fail_if_success (fail_if_success (with_reducible show wpAny _ _ (subscriptTail _ _ _ _) _ _ _))); first | ((with_reducible ((k_here; (with_reducible show wpAny _ _ (subscriptTail _ _ (Value.ref _) (Value.int _ _)) _ _ _); k_dflt (refine' my_item (by k_asm) (by k_mem) (by assumption) (by omega) (by omega) (by omega) ?_ (by with_unfolding_all rfl); k_whole); intro t'; (try dsimp only)))))) | walk1 | (dsimp only; first | ((fail_if_success (fail_if_success (with_reducible show wpAny _ _ (execs (_ :: _) _) _ _ _))); (with_reducible refine wpAny_execs_cons ?_); k_fold) | ((fail_if_success (fail_if_success (with_reducible show wpAny _ _ (subscriptTail _ _ (Value.ref 15) (Value.str _ _)) _ _ _))); k_dflt (refine' tokAt (by k_asm) (by k_asm) (by k_is) ?_ (by with_unfolding_all rfl)); k_whole) | ((fail_if_success (fail_if_success (with_reducible show wpAny _ _ (exec (PySem.Stmt.For (PySem.Expr.Tuple _ _ _) (PySem.Expr.Call _ _ _ _) (_ :: _) [] _) _) _ _ _))); (with_reducible ((k_here; (rename Fr _ _ _ _ => lF'); (with_unfolding_all refine' For_turns lF' ?_; k_whole))))) | ((fail_if_success (fail_if_success (with_reducible show wpAny _ _ (subscriptTail _ _ _ _) _ _ _))); first | ((with_reducible ((k_here; (with_reducible show wpAny _ _ (subscriptTail _ _ (Value.ref _) (Value.int _ _)) _ _ _); k_dflt (refine' my_item (by k_asm) (by k_mem) (by assumption) (by omega) (by omega) (by omega) ?_ (by with_unfolding_all rfl); k_whole); intro t'; (try dsimp only)))))) | walk1) | (leave1; (try dsimp only)) | fail "no step"))
    all_goals (
      rename News _ _ _ _ => lN; (try simp only [List.push_toArray] at lN)
      first
      | refine' JB.fin (by assumption) lN (by walk_at "my_sub") (by walk_at "my_sub") e1 e2 e4 e5 e7 (intsAre_snoc e3) ?_ (by exact e6) (by ((refine ⟨by walk_at "my_ps", fun z h1 h2 => ?_⟩; (simp only [List.forall_mem_cons, List.not_mem_nil, false_implies, implies_true, and_true, ne_eq] at h1); (have h3 := h2); (simp only [List.contains_cons, List.contains_nil, Bool.or_false, Bool.or_eq_false_iff, beq_eq_false_iff_ne, ne_eq] at h3); (have h4 := h2); (simp only [List.contains_cons, List.contains_nil, Bool.or_false, Bool.or_eq_false_iff] at h4); first | (simp only [h1, h2, h3, if_false, Bool.false_eq_true]; done) | (simp only [h1, h3, h4, List.contains_cons, List.contains_nil, Bool.or_false, Bool.or_self, if_false, Bool.false_eq_true]; done))))
      | refine' JB.fin (by assumption) lN (by walk_at "my_sub") (by walk_at "my_sub") e1 e2 e4 e5 e7 e3 ?_ (by exact e6) (by ((refine ⟨by walk_at "my_ps", fun z h1 h2 => ?_⟩; (simp only [List.forall_mem_cons, List.not_mem_nil, false_implies, implies_true, and_true, ne_eq] at h1); (have h3 := h2); (simp only [List.contains_cons, List.contains_nil, Bool.or_false, Bool.or_eq_false_iff, beq_eq_false_iff_ne, ne_eq] at h3); (have h4 := h2); (simp only [List.contains_cons, List.contains_nil, Bool.or_false, Bool.or_eq_false_iff] at h4); first | (simp only [h1, h2, h3, if_false, Bool.false_eq_true]; done) | (simp only [h1, h3, h4, List.contains_cons, List.contains_nil, Bool.or_false, Bool.or_self, if_false, Bool.false_eq_true]; done))))
      | refine' JB.fin (by assumption) lN (by walk_at "my_sub") (by walk_at "my_sub") e1 e2 e4 e5 e7 e3 ?_ (okMany_mul e6 (hd2 (by omega) (by omega)) (by assumption)) (by ((refine ⟨by walk_at "my_ps", fun z h1 h2 => ?_⟩; (simp only [List.forall_mem_cons, List.not_mem_nil, false_implies, implies_true, and_true, ne_eq] at h1); (have h3 := h2); (simp only [List.contains_cons, List.contains_nil, Bool.or_false, Bool.or_eq_false_iff, beq_eq_false_iff_ne, ne_eq] at h3); (have h4 := h2); (simp only [List.contains_cons, List.contains_nil, Bool.or_false, Bool.or_eq_false_iff] at h4); first | (simp only [h1, h2, h3, if_false, Bool.false_eq_true]; done) | (simp only [h1, h3, h4, List.contains_cons, List.contains_nil, Bool.or_false, Bool.or_self, if_false, Bool.false_eq_true]; done))))
      first
      | exact bd0 (by assumption)
      | exact bd1 g1 g2 hs1 hs2 (by assumption) (by assumption)
      | exact bd2 g1 g2 hs1 hs2 (by assumption) (by assumption) (by assumption)
      | exact bd3 g1 g2 hs1 hs2 (by assumption) (by assumption) (by assumption) (by assumption) (by assumption)
      | exact bd4 g1 g2 hs1 hs2 (by assumption) (by assumption) (by assumption) (.inl (by assumption))
      | exact bd4 g1 g2 hs1 hs2 (by assumption) (by assumption) (by assumption) (.inr (by assumption)))
  · intro vs c many tm u h tk e1 e2 F' N'
    (try dsimp only [kstB] at F')
    (repeat' (first | (k_unfold; (try dsimp only)) | (k_end; wrow_close) | ((fail_if_success (fail_if_success (with_reducible show wpAny _ _ (execs (_ :: _) _) _ _ _))); (with_reducible refine wpAny_execs_cons ?_); k_fold) | ((fail_if_success (fail_if_success (with_reducible show wpAny _ _ (subscriptTail _ _ (Value.ref 15) (Value.str _ _)) _ _ _))); k_dflt (refine' tokAt (by k_asm) (by k_asm) (by k_is) ?_ (by with_unfolding_all rfl)); k_whole) | ((fail_if_success (fail_if_success (with_reducible show wpAny _ _ (exec (PySem.Stmt.For (PySem.Expr.Tuple _ _ _) (PySem.Expr.Call _ _ _ _) (_ :: _) [] _) _) _ _ _))); (with_reducible ((k_here; (rename Fr _ _ _ _ => lF'); (with_unfolding_all refine' For_turns lF' ?_; k_whole))))) | ((fail_if_success (fail_if_success (with_reducible show wpAny _ _ (subscriptTail _ _ _ _) _ _ _))); first | ((with_reducible ((k_here; (with_reducible show wpAny _ _ (subscriptTail _ _ (Value.ref _) (Value.int _ _)) _ _ _); k_dflt (refine' my_item (by k_asm) (by k_mem) (by assumption) (by omega) (by omega) (by omega) ?_ (by with_unfolding_all rfl); k_whole); intro t'; (try dsimp only)))))) | walk1 | (dsimp only; first | ((fail_if_success (fail_if_success (with_reducible show wpAny _ _ (execs (_ :: _) _) _ _ _))); (with_reducible refine wpAny_execs_cons ?_); k_fold) | ((fail_if_success (fail_if_success (with_reducible show wpAny _ _ (subscriptTail _ _ (Value.ref 15) (Value.str _ _)) _ _ _))); k_dflt (refine' tokAt (by k_asm) (by k_asm) (by k_is) ?_ (by with_unfolding_all rfl)); k_whole) | ((fail_if_success (fail_if_success (with_reducible show wpAny _ _ (exec (PySem.Stmt.For (PySem.Expr.Tuple _ _ _) (PySem.Expr.Call _ _ _ _) (_ :: _) [] _) _) _ _ _))); (with_reducible ((k_here; (rename Fr _ _ _ _ => lF'); (with_unfolding_all refine' For_turns lF' ?_; k_whole))))) | ((fail_if_success (fail_if_success (with_reducible show wpAny _ _ (subscriptTail _ _ _ _) _ _ _))); first | ((with_reducible ((k_here; (with_reducible show wpAny _ _ (subscriptTail _ _ (Value.ref _) (Value.int _ _)) _ _ _); k_dflt (refine' my_item (by k_asm) (by k_mem) (by assumption) (by omega) (by omega) (by omega) ?_ (by with_unfolding_all rfl); k_whole); intro t'; (try dsimp only)))))) | walk1) | (leave1; (try dsimp only)) | fail "no step"))
    rename News h₀ _ _ _ => lN
    subst e2
    skip
    exact ret _ _ _ _ _ _ _ _ (by assumption) (cb_drop lN (by walk_at "my_sub")) (ktn_ltOf (by assumption)) (ltN (by omega)) e1
  ·
    intro pre n rest nt r bs vs c many tm u T t h tk I o o2 e1 e2 e3 e4 e5 e6 e7 hI F' N' hT
    (try dsimp only [kstB] at F')
    k_lt hI
    have hs1 : (if 0 < side then (21 : Int) else 20) = 20 := if_neg (by omega)
    have hs2 : (if 0 < side then (30 : Int) else 29) = 29 := if_neg (by omega)
    have hlen : row.length = pre.length + rest.length + 1 := by rw [e1]; simp; omega
    have hmb : 1 ≤ many ∧ many ≤ 6 := by rcases e6 with h | h | h | h <;> omega
    have g1 : row.getD ((pre.length : Int) + 1).toNat 0 = rest.getD 0 0 := getD_pre e1 0 _ (by omega)
    have g2 : row.getD ((pre.length : Int) + 2).toNat 0 = rest.getD 1 0 := getD_pre e1 1 _ (by omega)
    have hr2 : n = 256 → 2 ≤ rest.length := fun hn => (e5.1 hn).1
    have hd2 : n = 256 → row.getD ((pre.length : Int) + 2).toNat 0 - 225 = 24 → row.getD ((pre.length : Int) + 1).toNat 0 - 4100 = 2 ∨ row.getD ((pre.length : Int) + 1).toNat 0 - 4100 = 3 := by
      rw [g1, g2]; intro hn h; have := (e5.1 hn).2 (by omega); omega
    (repeat' (first | (k_unfold; (try dsimp only)) | (k_end; wrow_close) | ((fail_if_success (fail_if_success (with_reducible show wpAny _ _ (execs (_ :: _) _) _ _ _))); (with_reducible refine wpAny_execs_cons ?_); k_fold) | ((fail_if_success (fail_if_success (with_reducible show wpAny _ _ (subscriptTail _ _ (Value.ref 15) (Value.str _ _)) _ _ _))); k_dflt (refine' tokAt (by k_asm) (by k_asm) (by k_is) ?_ (by with_unfolding_all rfl)); k_whole) | ((fail_if_success (fail_if_success (with_reducible show wpAny _ _ (exec (PySem.Stmt.For (PySem.Expr.Tuple _ _ _) (PySem.Expr.Call _ _ _ _) (_ :: _) [] _) _) _ _ _))); (with_reducible ((k_here; (rename Fr _ _ _ _ => lF'); (with_unfolding_all refine' For_turns lF' ?_; k_whole))))) | ((fail_if_success (fail_if_success (with_reducible show wpAny _ _ (subscriptTail _ _ _ _) _ _ _))); first | ((with_reducible ((k_here; (with_reducible show wpAny _ _ (subscriptTail _ _ (Value.ref _) (Value.int _ _)) _ _ _); k_dflt (refine' my_item (by k_asm) (by k_mem) (by assumption) (by omega) (by omega) (by omega) ?_ (by with_unfolding_all rfl); k_whole); intro t'; (try dsimp only)))))) | walk1 | (dsimp only; first | ((fail_if_success (fail_if_success (with_reducible show wpAny _ _ (execs (_ :: _) _) _ _ _))); (with_reducible refine wpAny_execs_cons ?_); k_fold) | ((fail_if_success (fail_if_success (with_reducible show wpAny _ _ (subscriptTail _ _ (Value.ref 15) (Value.str _ _)) _ _ _))); k_dflt (refine' tokAt (by k_asm) (by k_asm) (by k_is) ?_ (by with_unfolding_all rfl)); k_whole) | ((fail_if_success (fail_if_success (with_reducible show wpAny _ _ (exec (PySem.Stmt.For (PySem.Expr.Tuple _ _ _) (PySem.Expr.Call _ _ _ _) (_ :: _) [] _) _) _ _ _))); (with_reducible ((k_here; (rename Fr _ _ _ _ => lF'); (with_unfolding_all refine' For_turns lF' ?_; k_whole))))) | ((fail_if_success (fail_if_success (with_reducible show wpAny _ _ (subscriptTail _ _ _ _) _ _ _))); first | ((with_reducible ((k_here; (with_reducible show wpAny _ _ (subscriptTail _ _ (Value.ref _) (Value.int _ _)) _ _ _); k_dflt (refine' my_item (by k_asm) (by k_mem) (by assumption) (by omega) (by omega) (by omega) ?_ (by with_unfolding_all rfl); k_whole); intro t'; (try dsimp only)))))) | walk1) | (leave1; (try dsimp only)) | fail "no step"))
    all_goals (
      rename News _ _ _ _ => lN; (try simp only [List.push_toArray] at lN)
      first
      | refine' JB.fin (by assumption) lN (by walk_at "my_sub") (by walk_at "my_sub") e1 e2 e4 e5 e7 (intsAre_snoc e3) ?_ (by exact e6) (by ((refine ⟨by walk_at "my_ps", fun z h1 h2 => ?_⟩; (simp only [List.forall_mem_cons, List.not_mem_nil, false_implies, implies_true, and_true, ne_eq] at h1); (have h3 := h2); (simp only [List.contains_cons, List.contains_nil, Bool.or_false, Bool.or_eq_false_iff, beq_eq_false_iff_ne, ne_eq] at h3); (have h4 := h2); (simp only [List.contains_cons, List.contains_nil, Bool.or_false, Bool.or_eq_false_iff] at h4); first | (simp only [h1, h2, h3, if_false, Bool.false_eq_true]; done) | (simp only [h1, h3, h4, List.contains_cons, List.contains_nil, Bool.or_false, Bool.or_self, if_false, Bool.false_eq_true]; done))))
      | refine' JB.fin (by assumption) lN (by walk_at "my_sub") (by walk_at "my_sub") e1 e2 e4 e5 e7 e3 ?_ (by exact e6) (by ((refine ⟨by walk_at "my_ps", fun z h1 h2 => ?_⟩; (simp only [List.forall_mem_cons, List.not_mem_nil, false_implies, implies_true, and_true, ne_eq] at h1); (have h3 := h2); (simp only [List.contains_cons, List.contains_nil, Bool.or_false, Bool.or_eq_false_iff, beq_eq_false_iff_ne, ne_eq] at h3); (have h4 := h2); (simp only [List.contains_cons, List.contains_nil, Bool.or_false, Bool.or_eq_false_iff] at h4); first | (simp only [h1, h2, h3, if_false, Bool.false_eq_true]; done) | (simp only [h1, h3, h4, List.contains_cons, List.contains_nil, Bool.or_false, Bool.or_self, if_false, Bool.false_eq_true]; done))))
      | refine' JB.fin (by assumption) lN (by walk_at "my_sub") (by walk_at "my_sub") e1 e2 e4 e5 e7 e3 ?_ (okMany_mul e6 (hd2 (by omega) (by omega)) (by assumption)) (by ((refine ⟨by walk_at "my_ps", fun z h1 h2 => ?_⟩; (simp only [List.forall_mem_cons, List.not_mem_nil, false_implies, implies_true, and_true, ne_eq] at h1); (have h3 := h2); (simp only [List.contains_cons, List.contains_nil, Bool.or_false, Bool.or_eq_false_iff, beq_eq_false_iff_ne, ne_eq] at h3); (have h4 := h2); (simp only [List.contains_cons, List.contains_nil, Bool.or_false, Bool.or_eq_false_iff] at h4); first | (simp only [h1, h2, h3, if_false, Bool.false_eq_true]; done) | (simp only [h1, h3, h4, List.contains_cons, List.contains_nil, Bool.or_false, Bool.or_self, if_false, Bool.false_eq_true]; done))))
      first
      | exact bd0 (by assumption)
      | exact bd1 g1 g2 hs1 hs2 (by assumption) (by assumption)
      | exact bd2 g1 g2 hs1 hs2 (by assumption) (by assumption) (by assumption)
      | exact bd3 g1 g2 hs1 hs2 (by assumption) (by assumption) (by assumption) (by assumption) (by assumption)
      | exact bd4 g1 g2 hs1 hs2 (by assumption) (by assumption) (by assumption) (.inl (by assumption))
      | exact bd4 g1 g2 hs1 hs2 (by assumption) (by assumption) (by assumption) (.inr (by assumption)))
  · intro vs c many tm u h tk e1 e2 F' N'
    (try dsimp only [kstB] at F')
    (repeat' (first | (k_unfold; (try dsimp only)) | (k_end; wrow_close) | ((fail_if_success (fail_if_success (with_reducible show wpAny _ _ (execs (_ :: _) _) _ _ _))); (with_reducible refine wpAny_execs_cons ?_); k_fold) | ((fail_if_success (fail_if_success (with_reducible show wpAny _ _ (subscriptTail _ _ (Value.ref 15) (Value.str _ _)) _ _ _))); k_dflt (refine' tokAt (by k_asm) (by k_asm) (by k_is) ?_ (by with_unfolding_all rfl)); k_whole) | ((fail_if_success (fail_if_success (with_reducible show wpAny _ _ (exec (PySem.Stmt.For (PySem.Expr.Tuple _ _ _) (PySem.Expr.Call _ _ _ _) (_ :: _) [] _) _) _ _ _))); (with_reducible ((k_here; (rename Fr _ _ _ _ => lF'); (with_unfolding_all refine' For_turns lF' ?_; k_whole))))) | ((fail_if_success (fail_if_success (with_reducible show wpAny _ _ (subscriptTail _ _ _ _) _ _ _))); first | ((with_reducible ((k_here; (with_reducible show wpAny _ _ (subscriptTail _ _ (Value.ref _) (Value.int _ _)) _ _ _); k_dflt (refine' my_item (by k_asm) (by k_mem) (by assumption) (by omega) (by omega) (by omega) ?_ (by with_unfolding_all rfl); k_whole); intro t'; (try dsimp only)))))) | walk1 | (dsimp only; first | ((fail_if_success (fail_if_success (with_reducible show wpAny _ _ (execs (_ :: _) _) _ _ _))); (with_reducible refine wpAny_execs_cons ?_); k_fold) | ((fail_if_success (fail_if_success (with_reducible show wpAny _ _ (subscriptTail _ _ (Value.ref 15) (Value.str _ _)) _ _ _))); k_dflt (refine' tokAt (by k_asm) (by k_asm) (by k_is) ?_ (by with_unfolding_all rfl)); k_whole) | ((fail_if_success (fail_if_success (with_reducible show wpAny _ _ (exec (PySem.Stmt.For (PySem.Expr.Tuple _ _ _) (PySem.Expr.Call _ _ _ _) (_ :: _) [] _) _) _ _ _))); (with_reducible ((k_here; (rename Fr _ _ _ _ => lF'); (with_unfolding_all refine' For_turns lF' ?_; k_whole))))) | ((fail_if_success (fail_if_success (with_reducible show wpAny _ _ (subscriptTail _ _ _ _) _ _ _))); first | ((with_reducible ((k_here; (with_reducible show wpAny _ _ (subscriptTail _ _ (Value.ref _) (Value.int _ _)) _ _ _); k_dflt (refine' my_item (by k_asm) (by k_mem) (by assumption) (by omega) (by omega) (by omega) ?_ (by with_unfolding_all rfl); k_whole); intro t'; (try dsimp only)))))) | walk1) | (leave1; (try dsimp only)) | fail "no step"))
    rename News h₀ _ _ _ => lN
    subst e2
    skip
    exact ret _ _ _ _ _ _ _ _ (by assumption) (cb_drop lN (by walk_at "my_sub")) (ktn_ltOf (by assumption)) (ltN (by omega)) e1
end
section
theorem call_varint {w : World} {p : Program} {loose : List Str} {mean : ExcName → Option Value} {mg mb : Str → Option Value} {dp un : Nat} {gd : Option (List Code)} {cn : Str} {cs : Scope} {a : Addr} {ccd : Value} {cl : List (Str × Addr)} {outer : List Env} {A₀ : Around} {base h₀ : Heap} {L : Addr} {m : Str → Option Value} {news : List (Addr × Obj)} {s : Shared} {Q E : Value → Shared → Prop}
    {it lo : Addr} {vo : List Value} {co k : Nat} {os rest : List Int} {n : Int} {tl : List (Addr × Obj)}
    (B : Below A₀ base outer h₀) (F : Fr h₀ L s.heap m) (X : (hd.heap_39 w.params).In h₀) (N : News h₀ L s.heap news) (T : Top p loose mean mg mb h₀) (hk : cs.kind = .function) (hdp : dp + 2 < recursionLimit) (hun : un + 16 < cLine)
    (hs : ∀ p ∈ (it, iterObj lo k) :: tl, p ∈ news) (hoff : ∀ p ∈ tl, p.1 ≠ it) (ho : (lo, W.listOf vo.toArray co) ∈ tl) (hoi : IntsAre vo os) (hd : os.drop k = encN n ++ rest) (hn : 0 ≤ n ∧ n < 262144)
    (ret : ∀ t' h' tk', Fr h₀ L h' m → News h₀ L h' ((it, iterObj lo (k + (encN n).length)) :: tl) → Q (.int n t') { s with heap := h', toks := tk' }) :
    wpAny (model PySem.Challenge.rw_wj0027_01.row.prog w) (ktrTop dp un gd cn cs L a ccd cl outer) (call (.ref 46) [.ref it]) Q E s
   := by
  obtain ⟨hn0, hn1⟩ := hn
  replace N : News h₀ L s.heap ((it, iterObj lo k) :: tl) := fun p hp => N p (hs p hp)
  clear hs
  w_top off; revert X; k_fill; intro X
  rcases (by omega : n < 64 ∨ (64 ≤ n ∧ n < 4096) ∨ 4096 ≤ n) with hc | ⟨hc, hc'⟩ | hc
  · rw [enc1 hn0 hc] at hd ret
    obtain ⟨t0, x0⟩ := enc_at hoi hd 0 (by simp)
    obtain ⟨a1, a2, a3, a4⟩ := digit hn0 hc
    simp only [List.getD_cons_zero, Nat.add_zero] at x0
    refine wpAny_call ?_
    k_dflt ktr_enter
    (repeat' (first | (k_unfold; (try dsimp only)) | (k_end; wrow_close) | ((fail_if_success (fail_if_success (with_reducible show wpAny _ _ (execs (_ :: _) _) _ _ _))); (with_reducible refine wpAny_execs_cons ?_); k_fold) | ((fail_if_success (fail_if_success (with_reducible show wpAny _ _ (exec (PySem.Stmt.While (PySem.Expr.BinOp _ _ _ _) (_ :: _) [] _) _) _ _ _))); (with_reducible ((k_here; k_dflt (refine whl_start 4 ?_))))) | ((fail_if_success (fail_if_success (with_reducible show wpAny _ _ (call (Value.builtin "next") _ _) _ _ _))); (with_reducible ((k_here; (with_reducible show wpAny _ _ (call (Value.builtin "next") [Value.ref _]) _ _ _); k_dflt (refine' my_next (by k_asm) (by k_asm) (by exact Upd.head (by assumption)) (by exact List.Mem.tail _ (by assumption)) (by assumption) ?_; k_whole); intro h' F' N')))) | ((with_reducible ((first | (refine WhlIf.yes (bne_iff_ne.mpr (by omega)) ?_) | (refine WhlIf.no ((bne_eq_false_iff_eq (α := Int)).mpr (by omega)) ?_))))) | walk1 | (dsimp only; first | ((fail_if_success (fail_if_success (with_reducible show wpAny _ _ (execs (_ :: _) _) _ _ _))); (with_reducible refine wpAny_execs_cons ?_); k_fold) | ((fail_if_success (fail_if_success (with_reducible show wpAny _ _ (exec (PySem.Stmt.While (PySem.Expr.BinOp _ _ _ _) (_ :: _) [] _) _) _ _ _))); (with_reducible ((k_here; k_dflt (refine whl_start 4 ?_))))) | ((fail_if_success (fail_if_success (with_reducible show wpAny _ _ (call (Value.builtin "next") _ _) _ _ _))); (with_reducible ((k_here; (with_reducible show wpAny _ _ (call (Value.builtin "next") [Value.ref _]) _ _ _); k_dflt (refine' my_next (by k_asm) (by k_asm) (by exact Upd.head (by assumption)) (by exact List.Mem.tail _ (by assumption)) (by assumption) ?_; k_whole); intro h' F' N')))) | ((with_reducible ((first | (refine WhlIf.yes (bne_iff_ne.mpr (by omega)) ?_) | (refine WhlIf.no ((bne_eq_false_iff_eq (α := Int)).mpr (by omega)) ?_))))) | walk1) | (leave1; (try dsimp only)) | fail "no step"))
    (rename News h₀ _ _ _ => lN)
    rw [a1]
    exact ret _ _ _ (by assumption) lN
  · obtain ⟨d0, d1, p0, p1, p2, p3, p4, p5⟩ := enc2 hc hc'
    rw [p5] at hd ret
    obtain ⟨t0, x0⟩ := enc_at hoi hd 0 (by simp)
    obtain ⟨t1, x1⟩ := enc_at hoi hd 1 (by simp)
    obtain ⟨a1, a2, a3, a4⟩ := digit p0 p1
    obtain ⟨b1, b2, b3, b4⟩ := digit p2 p3
    simp only [List.getD_cons_zero, List.getD_cons_succ, Nat.add_zero] at x0 x1
    refine wpAny_call ?_
    k_dflt ktr_enter
    (repeat' (first | (k_unfold; (try dsimp only)) | (k_end; wrow_close) | ((fail_if_success (fail_if_success (with_reducible show wpAny _ _ (execs (_ :: _) _) _ _ _))); (with_reducible refine wpAny_execs_cons ?_); k_fold) | ((fail_if_success (fail_if_success (with_reducible show wpAny _ _ (exec (PySem.Stmt.While (PySem.Expr.BinOp _ _ _ _) (_ :: _) [] _) _) _ _ _))); (with_reducible ((k_here; k_dflt (refine whl_start 4 ?_))))) | ((fail_if_success (fail_if_success (with_reducible show wpAny _ _ (call (Value.builtin "next") _ _) _ _ _))); (with_reducible ((k_here; (with_reducible show wpAny _ _ (call (Value.builtin "next") [Value.ref _]) _ _ _); k_dflt (refine' my_next (by k_asm) (by k_asm) (by exact Upd.head (by assumption)) (by exact List.Mem.tail _ (by assumption)) (by assumption) ?_; k_whole); intro h' F' N')))) | ((with_reducible ((first | (refine WhlIf.yes (bne_iff_ne.mpr (by omega)) ?_) | (refine WhlIf.no ((bne_eq_false_iff_eq (α := Int)).mpr (by omega)) ?_))))) | walk1 | (dsimp only; first | ((fail_if_success (fail_if_success (with_reducible show wpAny _ _ (execs (_ :: _) _) _ _ _))); (with_reducible refine wpAny_execs_cons ?_); k_fold) | ((fail_if_success (fail_if_success (with_reducible show wpAny _ _ (exec (PySem.Stmt.While (PySem.Expr.BinOp _ _ _ _) (_ :: _) [] _) _) _ _ _))); (with_reducible ((k_here; k_dflt (refine whl_start 4 ?_))))) | ((fail_if_success (fail_if_success (with_reducible show wpAny _ _ (call (Value.builtin "next") _ _) _ _ _))); (with_reducible ((k_here; (with_reducible show wpAny _ _ (call (Value.builtin "next") [Value.ref _]) _ _ _); k_dflt (refine' my_next (by k_asm) (by k_asm) (by exact Upd.head (by assumption)) (by exact List.Mem.tail _ (by assumption)) (by assumption) ?_; k_whole); intro h' F' N')))) | ((with_reducible ((first | (refine WhlIf.yes (bne_iff_ne.mpr (by omega)) ?_) | (refine WhlIf.no ((bne_eq_false_iff_eq (α := Int)).mpr (by omega)) ?_))))) | walk1) | (leave1; (try dsimp only)) | fail "no step"))
    (rename News h₀ _ _ _ => lN)
    have e : Builtin.bitOr (Builtin.bitAnd (64 + d0) 63 * 2 ^ Int.toNat 6) (Builtin.bitAnd d1 63) = n := by
      rw [a2, b1, p4]
      exact bor p0 p2 p3
    rw [e]
    exact ret _ _ _ (by assumption) lN
  · obtain ⟨d0, d1, d2, p0, p1, p2, p3, p4, p5, p6, p7⟩ := enc3 hc hn1
    rw [p7] at hd ret
    obtain ⟨t0, x0⟩ := enc_at hoi hd 0 (by simp)
    obtain ⟨t1, x1⟩ := enc_at hoi hd 1 (by simp)
    obtain ⟨t2, x2⟩ := enc_at hoi hd 2 (by simp)
    obtain ⟨a1, a2, a3, a4⟩ := digit p0 p1
    obtain ⟨b1, b2, b3, b4⟩ := digit p2 p3
    obtain ⟨c1, c2, c3, c4⟩ := digit p4 p5
    simp only [List.getD_cons_zero, List.getD_cons_succ, Nat.add_zero] at x0 x1 x2
    replace x2 : vo[k + 1 + 1]? = _ := x2
    have e1 : Builtin.bitOr (Builtin.bitAnd (64 + d0) 63 * 2 ^ Int.toNat 6) (Builtin.bitAnd (64 + d1) 63) = d0 * 64 + d1 := by
      rw [a2, b2]
      exact bor p0 p2 p3
    refine wpAny_call ?_
    k_dflt ktr_enter
    (repeat' (first | (k_unfold; (try dsimp only)) | (k_end; wrow_close) | ((fail_if_success (fail_if_success (with_reducible show wpAny _ _ (execs (_ :: _) _) _ _ _))); (with_reducible refine wpAny_execs_cons ?_); k_fold) | ((fail_if_success (fail_if_success (with_reducible show wpAny _ _ (exec (PySem.Stmt.While (PySem.Expr.BinOp _ _ _ _) (_ :: _) [] _) _) _ _ _))); (with_reducible ((k_here; k_dflt (refine whl_start 4 ?_))))) | ((fail_if_success (fail_if_success (with_reducible show wpAny _ _ (call (Value.builtin "next") _ _) _ _ _))); (with_reducible ((k_here; (with_reducible show wpAny _ _ (call (Value.builtin "next") [Value.ref _]) _ _ _); k_dflt (refine' my_next (by k_asm) (by k_asm) (by exact Upd.head (by assumption)) (by exact List.Mem.tail _ (by assumption)) (by assumption) ?_; k_whole); intro h' F' N')))) | ((with_reducible ((first | (refine WhlIf.yes (bne_iff_ne.mpr (by omega)) ?_) | (refine WhlIf.no ((bne_eq_false_iff_eq (α := Int)).mpr (by omega)) ?_))))) | walk1 | (dsimp only; first | ((fail_if_success (fail_if_success (with_reducible show wpAny _ _ (execs (_ :: _) _) _ _ _))); (with_reducible refine wpAny_execs_cons ?_); k_fold) | ((fail_if_success (fail_if_success (with_reducible show wpAny _ _ (exec (PySem.Stmt.While (PySem.Expr.BinOp _ _ _ _) (_ :: _) [] _) _) _ _ _))); (with_reducible ((k_here; k_dflt (refine whl_start 4 ?_))))) | ((fail_if_success (fail_if_success (with_reducible show wpAny _ _ (call (Value.builtin "next") _ _) _ _ _))); (with_reducible ((k_here; (with_reducible show wpAny _ _ (call (Value.builtin "next") [Value.ref _]) _ _ _); k_dflt (refine' my_next (by k_asm) (by k_asm) (by exact Upd.head (by assumption)) (by exact List.Mem.tail _ (by assumption)) (by assumption) ?_; k_whole); intro h' F' N')))) | ((with_reducible ((first | (refine WhlIf.yes (bne_iff_ne.mpr (by omega)) ?_) | (refine WhlIf.no ((bne_eq_false_iff_eq (α := Int)).mpr (by omega)) ?_))))) | walk1) | (leave1; (try dsimp only)) | fail "no step"))
    (rename News h₀ _ _ _ => lN)
    have e : Builtin.bitOr (Builtin.bitOr (Builtin.bitAnd (64 + d0) 63 * 2 ^ Int.toNat 6) (Builtin.bitAnd (64 + d1) 63) * 2 ^ Int.toNat 6) (Builtin.bitAnd d2 63) = n := by
      rw [e1, c1, p6]
      exact bor (by omega) p4 p5
    rw [e]
    exact ret _ _ _ (by assumption) lN
end
section
theorem call_varint2 {w : World} {p : Program} {loose : List Str} {mean : ExcName → Option Value} {mg mb : Str → Option Value} {dp un : Nat} {gd : Option (List Code)} {cn : Str} {cs : Scope} {a : Addr} {ccd : Value} {cl : List (Str × Addr)} {outer : List Env} {A₀ : Around} {base h₀ : Heap} {L : Addr} {m : Str → Option Value} {s : Shared} {Q E : Value → Shared → Prop}
    {it lo R : Addr} {oR : Obj} {vo : List Value} {co k : Nat} {os rest : List Int} {n : Int} {tl : List (Addr × Obj)}
    (B : Below A₀ base outer h₀) (F : Fr h₀ L s.heap m) (X : (hd.heap_39 w.params).In h₀) (N : News h₀ L s.heap ((R, oR) :: (it, iterObj lo k) :: tl)) (T : Top p loose mean mg mb h₀) (hk : cs.kind = .function) (hdp : dp + 2 < recursionLimit) (hun : un + 16 < cLine)
    (hlt : it < R) (hoff : ∀ p ∈ tl, p.1 < it) (ho : (lo, W.listOf vo.toArray co) ∈ tl) (hoi : IntsAre vo os) (hd : os.drop k = encN n ++ rest) (hn : 0 ≤ n ∧ n < 262144)
    (ret : ∀ t' h' tk', Fr h₀ L h' m → News h₀ L h' ((R, oR) :: (it, iterObj lo (k + (encN n).length)) :: tl) → Q (.int n t') { s with heap := h', toks := tk' }) :
    wpAny (model PySem.Challenge.rw_wj0027_01.row.prog w) (ktrTop dp un gd cn cs L a ccd cl outer) (call (.ref 46) [.ref it]) Q E s
   := by
  refine call_varint (tl := (R, oR) :: tl) B F X N T hk hdp hun ?_ ?_ (List.Mem.tail _ ho) hoi hd hn fun t' h' tk' F' N' => ret t' h' tk' F' ?_
  · intro p hp
    rcases List.mem_cons.mp hp with rfl | hp
    · exact List.Mem.tail _ (List.Mem.head _)
    · rcases List.mem_cons.mp hp with rfl | hp
      · exact List.Mem.head _
      · exact List.Mem.tail _ (List.Mem.tail _ hp)
  · exact List.forall_mem_cons.mpr ⟨Nat.ne_of_gt hlt, fun p hp => Nat.ne_of_lt (hoff p hp)⟩
  · intro p hp
    refine N' p ?_
    rcases List.mem_cons.mp hp with rfl | hp
    · exact List.Mem.tail _ (List.Mem.head _)
    · rcases List.mem_cons.mp hp with rfl | hp
      · exact List.Mem.head _
      · exact List.Mem.tail _ (List.Mem.tail _ hp)
theorem call_read {w : World} {p : Program} {loose : List Str} {mean : ExcName → Option Value} {mg mb : Str → Option Value} {dp un : Nat} {gd : Option (List Code)} {cn : Str} {cs : Scope} {a : Addr} {ccd : Value} {cl : List (Str × Addr)} {outer : List Env} {A₀ : Around} {base h₀ : Heap} {L : Addr} {m : Str → Option Value} {news : List (Addr × Obj)} {s : Shared} {Q E : Value → Shared → Prop}
    {lo : Addr} {vo : List Value} {co : Nat} {row rest : List Int}
    (B : Below A₀ base outer h₀) (F : Fr h₀ L s.heap m) (X : (hd.heap_39 w.params).In h₀) (N : News h₀ L s.heap news) (T : Top p loose mean mg mb h₀) (hk : cs.kind = .function) (hdp : dp + 4 < recursionLimit) (hun : un + 40 < cLine)
    (ho : (lo, W.listOf vo.toArray co) ∈ news) (hoi : IntsAre vo (row.flatMap encN ++ 0 :: rest)) (hrow : ∀ n ∈ row, 64 ≤ n ∧ n < 262144) (hlen : row.length ≤ 100)
    (ret : ∀ l vs c h' tk', Fr h₀ L h' m → News h₀ L h' ((l, W.listOf vs.toArray c) :: news) → (∀ q ∈ news, q.1 < l) → IntsAre vs row → Q (.ref l) { s with heap := h', toks := tk' }) :
    wpAny (model PySem.Challenge.rw_wj0027_01.row.prog w) (ktrTop dp un gd cn cs L a ccd cl outer) (call (.ref 116) [.ref lo]) Q E s
   := by
  w_top off; revert X; k_fill; intro X
  obtain ⟨n₀, r₀, e0⟩ : ∃ n₀ r₀, n₀ :: r₀ = row ++ [0] := by
    cases row with
    | nil => exact ⟨0, [], rfl⟩
    | cons a r => exact ⟨a, r ++ [0], rfl⟩
  have hdx : (row.flatMap encN ++ 0 :: rest).drop 0 = encN n₀ ++ (r₀.flatMap encN ++ rest) := by
    rw [List.drop_zero, ← List.append_assoc, ← List.flatMap_cons, e0, List.flatMap_append, List.append_assoc]
    rfl
  have hn0 : 0 ≤ n₀ ∧ n₀ < 262144 := by
    cases row with
    | nil => cases e0; decide
    | cons a r =>
      have e1 := (List.cons.inj e0).1
      have := hrow a (by simp)
      omega
  have hdy : (row.flatMap encN ++ 0 :: rest).drop (0 + (encN n₀).length) = r₀.flatMap encN ++ rest := by
    rw [← List.drop_drop, hdx, List.drop_append_of_le_length (Nat.le_refl _), List.drop_length]
    rfl
  refine wpAny_call ?_
  k_dflt ktr_enter
  (repeat' (first | (k_unfold; (try dsimp only)) | (k_end; wrow_close) | ((fail_if_success (fail_if_success (with_reducible show wpAny _ _ (execs (_ :: _) _) _ _ _))); (with_reducible refine wpAny_execs_cons ?_); k_fold) | ((fail_if_success (fail_if_success (with_reducible show wpAny _ _ (exec (PySem.Stmt.While (PySem.Expr.UnaryOp _ _ _) (_ :: _) [] _) _) _ _ _))); (with_reducible ((k_here; refine Stop.put ?_)))) | ((fail_if_success (fail_if_success (with_reducible show wpAny _ _ (call _ _ _) _ _ _))); first | ((fail_if_success (fail_if_success (with_reducible show wpAny _ _ (call (Value.builtin "iter") _ _) _ _ _))); (with_reducible ((k_here; (with_reducible show wpAny _ _ (call (Value.builtin "iter") [Value.ref _]) _ _ _); k_dflt (refine' my_iter (by k_asm) (by k_asm) (by k_mem) ?_; k_whole); intro I' h' F' N' l1; (try k_lt l1); (try k_sweep))))) | ((fail_if_success (fail_if_success (with_reducible show wpAny _ _ (call (Value.builtin "list.append") _ _) _ _ _))); (with_reducible ((k_here; (with_reducible show wpAny _ _ (call (Value.builtin _) [Value.ref _, _]) _ _ _); k_dflt (refine' my_append (by k_asm) (by k_asm) (by walk_at "my_upd") (by (((try simp only [List.length_append, List.length_cons, List.length_nil, List.length_take, List.length_drop, sizeLine_eq]); omega))) ?_; k_whole); intro h' F' N'; (try k_sweep))))) | ((with_reducible ((k_here; (with_reducible show wpAny _ _ (call (Value.ref 46) [Value.ref _]) _ _ _); k_dflt (refine' call_varint2 (by k_asm) (by k_asm) (by k_asm) (by k_asm) (by k_asm) (by first | exact rfl | assumption) (by ktr_room) (by ktr_units) (by exact And.left (by assumption)) (by assumption) (by assumption) (by assumption) (by assumption) (by assumption) ?_; k_whole); intro t' h' tk' F' N'; (try k_sweep); (try dsimp only); (try k_fold))))) | ((with_reducible ((k_here; (with_reducible show wpAny _ _ (call (Value.ref _) _) _ _ _); k_dflt (refine wpAny_call ?_; (refine' code_def (by k_asm) (by k_asm) (by k_asm) (by k_asm) (by k_asm) rfl rfl rfl (by k_is) (by k_is) (by ktr_room) (by exact BindsTo.of_eq rfl) (by exact locs rfl) ?_ (by exact rfl) (by exact rfl) (by exact rfl) (by decide); k_whole; intro g' L' h' FG' F' N' B' X' T'; (try dsimp only); (try k_fold)))))))) | ((with_reducible ((refine WhlIf.yes (not_zero (by assumption)) ?_)))) | walk1 | (dsimp only; first | ((fail_if_success (fail_if_success (with_reducible show wpAny _ _ (execs (_ :: _) _) _ _ _))); (with_reducible refine wpAny_execs_cons ?_); k_fold) | ((fail_if_success (fail_if_success (with_reducible show wpAny _ _ (exec (PySem.Stmt.While (PySem.Expr.UnaryOp _ _ _) (_ :: _) [] _) _) _ _ _))); (with_reducible ((k_here; refine Stop.put ?_)))) | ((fail_if_success (fail_if_success (with_reducible show wpAny _ _ (call _ _ _) _ _ _))); first | ((fail_if_success (fail_if_success (with_reducible show wpAny _ _ (call (Value.builtin "iter") _ _) _ _ _))); (with_reducible ((k_here; (with_reducible show wpAny _ _ (call (Value.builtin "iter") [Value.ref _]) _ _ _); k_dflt (refine' my_iter (by k_asm) (by k_asm) (by k_mem) ?_; k_whole); intro I' h' F' N' l1; (try k_lt l1); (try k_sweep))))) | ((fail_if_success (fail_if_success (with_reducible show wpAny _ _ (call (Value.builtin "list.append") _ _) _ _ _))); (with_reducible ((k_here; (with_reducible show wpAny _ _ (call (Value.builtin _) [Value.ref _, _]) _ _ _); k_dflt (refine' my_append (by k_asm) (by k_asm) (by walk_at "my_upd") (by (((try simp only [List.length_append, List.length_cons, List.length_nil, List.length_take, List.length_drop, sizeLine_eq]); omega))) ?_; k_whole); intro h' F' N'; (try k_sweep))))) | ((with_reducible ((k_here; (with_reducible show wpAny _ _ (call (Value.ref 46) [Value.ref _]) _ _ _); k_dflt (refine' call_varint2 (by k_asm) (by k_asm) (by k_asm) (by k_asm) (by k_asm) (by first | exact rfl | assumption) (by ktr_room) (by ktr_units) (by exact And.left (by assumption)) (by assumption) (by assumption) (by assumption) (by assumption) (by assumption) ?_; k_whole); intro t' h' tk' F' N'; (try k_sweep); (try dsimp only); (try k_fold))))) | ((with_reducible ((k_here; (with_reducible show wpAny _ _ (call (Value.ref _) _) _ _ _); k_dflt (refine wpAny_call ?_; (refine' code_def (by k_asm) (by k_asm) (by k_asm) (by k_asm) (by k_asm) rfl rfl rfl (by k_is) (by k_is) (by ktr_room) (by exact BindsTo.of_eq rfl) (by exact locs rfl) ?_ (by exact rfl) (by exact rfl) (by exact rfl) (by decide); k_whole; intro g' L' h' FG' F' N' B' X' T'; (try dsimp only); (try k_fold)))))))) | ((with_reducible ((refine WhlIf.yes (not_zero (by assumption)) ?_)))) | walk1) | (leave1; (try dsimp only)) | fail "no step"))
  refine Stop.go ?_
  refine loop_read (row := row) (rest := rest) ?_ (by assumption) (by assumption) rfl hrow hlen e0 hdy ?_ ?_
  · passes_own
  · clear hdx hdy e0 hn0
    intro pre n n' r vs c k tn u h tk e1 e2 e3 e4 e5 F' N'
    (try dsimp only [kstB] at F')
    have hv := e2.length
    (repeat' (first | (k_unfold; (try dsimp only)) | (k_end; wrow_close) | ((fail_if_success (fail_if_success (with_reducible show wpAny _ _ (execs (_ :: _) _) _ _ _))); (with_reducible refine wpAny_execs_cons ?_); k_fold) | ((fail_if_success (fail_if_success (with_reducible show wpAny _ _ (exec (PySem.Stmt.While (PySem.Expr.UnaryOp _ _ _) (_ :: _) [] _) _) _ _ _))); (with_reducible ((k_here; refine Stop.put ?_)))) | ((fail_if_success (fail_if_success (with_reducible show wpAny _ _ (call _ _ _) _ _ _))); first | ((fail_if_success (fail_if_success (with_reducible show wpAny _ _ (call (Value.builtin "iter") _ _) _ _ _))); (with_reducible ((k_here; (with_reducible show wpAny _ _ (call (Value.builtin "iter") [Value.ref _]) _ _ _); k_dflt (refine' my_iter (by k_asm) (by k_asm) (by k_mem) ?_; k_whole); intro I' h' F' N' l1; (try k_lt l1); (try k_sweep))))) | ((fail_if_success (fail_if_success (with_reducible show wpAny _ _ (call (Value.builtin "list.append") _ _) _ _ _))); (with_reducible ((k_here; (with_reducible show wpAny _ _ (call (Value.builtin _) [Value.ref _, _]) _ _ _); k_dflt (refine' my_append (by k_asm) (by k_asm) (by walk_at "my_upd") (by (((try simp only [List.length_append, List.length_cons, List.length_nil, List.length_take, List.length_drop, sizeLine_eq]); omega))) ?_; k_whole); intro h' F' N'; (try k_sweep))))) | ((with_reducible ((k_here; (with_reducible show wpAny _ _ (call (Value.ref 46) [Value.ref _]) _ _ _); k_dflt (refine' call_varint2 (by k_asm) (by k_asm) (by k_asm) (by k_asm) (by k_asm) (by first | exact rfl | assumption) (by ktr_room) (by ktr_units) (by exact And.left (by assumption)) (by assumption) (by assumption) (by assumption) (by assumption) (by assumption) ?_; k_whole); intro t' h' tk' F' N'; (try k_sweep); (try dsimp only); (try k_fold))))) | ((with_reducible ((k_here; (with_reducible show wpAny _ _ (call (Value.ref _) _) _ _ _); k_dflt (refine wpAny_call ?_; (refine' code_def (by k_asm) (by k_asm) (by k_asm) (by k_asm) (by k_asm) rfl rfl rfl (by k_is) (by k_is) (by ktr_room) (by exact BindsTo.of_eq rfl) (by exact locs rfl) ?_ (by exact rfl) (by exact rfl) (by exact rfl) (by decide); k_whole; intro g' L' h' FG' F' N' B' X' T'; (try dsimp only); (try k_fold)))))))) | ((with_reducible ((refine WhlIf.yes (not_zero (by assumption)) ?_)))) | walk1 | (dsimp only; first | ((fail_if_success (fail_if_success (with_reducible show wpAny _ _ (execs (_ :: _) _) _ _ _))); (with_reducible refine wpAny_execs_cons ?_); k_fold) | ((fail_if_success (fail_if_success (with_reducible show wpAny _ _ (exec (PySem.Stmt.While (PySem.Expr.UnaryOp _ _ _) (_ :: _) [] _) _) _ _ _))); (with_reducible ((k_here; refine Stop.put ?_)))) | ((fail_if_success (fail_if_success (with_reducible show wpAny _ _ (call _ _ _) _ _ _))); first | ((fail_if_success (fail_if_success (with_reducible show wpAny _ _ (call (Value.builtin "iter") _ _) _ _ _))); (with_reducible ((k_here; (with_reducible show wpAny _ _ (call (Value.builtin "iter") [Value.ref _]) _ _ _); k_dflt (refine' my_iter (by k_asm) (by k_asm) (by k_mem) ?_; k_whole); intro I' h' F' N' l1; (try k_lt l1); (try k_sweep))))) | ((fail_if_success (fail_if_success (with_reducible show wpAny _ _ (call (Value.builtin "list.append") _ _) _ _ _))); (with_reducible ((k_here; (with_reducible show wpAny _ _ (call (Value.builtin _) [Value.ref _, _]) _ _ _); k_dflt (refine' my_append (by k_asm) (by k_asm) (by walk_at "my_upd") (by (((try simp only [List.length_append, List.length_cons, List.length_nil, List.length_take, List.length_drop, sizeLine_eq]); omega))) ?_; k_whole); intro h' F' N'; (try k_sweep))))) | ((with_reducible ((k_here; (with_reducible show wpAny _ _ (call (Value.ref 46) [Value.ref _]) _ _ _); k_dflt (refine' call_varint2 (by k_asm) (by k_asm) (by k_asm) (by k_asm) (by k_asm) (by first | exact rfl | assumption) (by ktr_room) (by ktr_units) (by exact And.left (by assumption)) (by assumption) (by assumption) (by assumption) (by assumption) (by assumption) ?_; k_whole); intro t' h' tk' F' N'; (try k_sweep); (try dsimp only); (try k_fold))))) | ((with_reducible ((k_here; (with_reducible show wpAny _ _ (call (Value.ref _) _) _ _ _); k_dflt (refine wpAny_call ?_; (refine' code_def (by k_asm) (by k_asm) (by k_asm) (by k_asm) (by k_asm) rfl rfl rfl (by k_is) (by k_is) (by ktr_room) (by exact BindsTo.of_eq rfl) (by exact locs rfl) ?_ (by exact rfl) (by exact rfl) (by exact rfl) (by decide); k_whole; intro g' L' h' FG' F' N' B' X' T'; (try dsimp only); (try k_fold)))))))) | ((with_reducible ((refine WhlIf.yes (not_zero (by assumption)) ?_)))) | walk1) | (leave1; (try dsimp only)) | fail "no step"))
    (rename News _ _ _ _ => lN)
    (try simp only [List.push_toArray] at lN)
    ((refine' JR.fin (by assumption) (by assumption) (by walk_at "my_sfx") (by exact ⟨by walk_at "my_ps", fun z h1 _ => by (simp only [List.forall_mem_cons, List.not_mem_nil, false_implies, implies_true, and_true, ne_eq] at h1); first | (simp only [h1, if_false]; done) | (simp only [h1, if_false]; exact rfl)⟩) (by exact intsAre_snoc (by assumption))))
  · intro vs c k tn u h tk e1 F' N'
    (try dsimp only [kstB] at F')
    (repeat' (first | (k_unfold; (try dsimp only)) | (k_end; wrow_close) | ((fail_if_success (fail_if_success (with_reducible show wpAny _ _ (execs (_ :: _) _) _ _ _))); (with_reducible refine wpAny_execs_cons ?_); k_fold) | ((fail_if_success (fail_if_success (with_reducible show wpAny _ _ (exec (PySem.Stmt.While (PySem.Expr.UnaryOp _ _ _) (_ :: _) [] _) _) _ _ _))); (with_reducible ((k_here; refine Stop.put ?_)))) | ((fail_if_success (fail_if_success (with_reducible show wpAny _ _ (call _ _ _) _ _ _))); first | ((fail_if_success (fail_if_success (with_reducible show wpAny _ _ (call (Value.builtin "iter") _ _) _ _ _))); (with_reducible ((k_here; (with_reducible show wpAny _ _ (call (Value.builtin "iter") [Value.ref _]) _ _ _); k_dflt (refine' my_iter (by k_asm) (by k_asm) (by k_mem) ?_; k_whole); intro I' h' F' N' l1; (try k_lt l1); (try k_sweep))))) | ((fail_if_success (fail_if_success (with_reducible show wpAny _ _ (call (Value.builtin "list.append") _ _) _ _ _))); (with_reducible ((k_here; (with_reducible show wpAny _ _ (call (Value.builtin _) [Value.ref _, _]) _ _ _); k_dflt (refine' my_append (by k_asm) (by k_asm) (by walk_at "my_upd") (by (((try simp only [List.length_append, List.length_cons, List.length_nil, List.length_take, List.length_drop, sizeLine_eq]); omega))) ?_; k_whole); intro h' F' N'; (try k_sweep))))) | ((with_reducible ((k_here; (with_reducible show wpAny _ _ (call (Value.ref 46) [Value.ref _]) _ _ _); k_dflt (refine' call_varint2 (by k_asm) (by k_asm) (by k_asm) (by k_asm) (by k_asm) (by first | exact rfl | assumption) (by ktr_room) (by ktr_units) (by exact And.left (by assumption)) (by assumption) (by assumption) (by assumption) (by assumption) (by assumption) ?_; k_whole); intro t' h' tk' F' N'; (try k_sweep); (try dsimp only); (try k_fold))))) | ((with_reducible ((k_here; (with_reducible show wpAny _ _ (call (Value.ref _) _) _ _ _); k_dflt (refine wpAny_call ?_; (refine' code_def (by k_asm) (by k_asm) (by k_asm) (by k_asm) (by k_asm) rfl rfl rfl (by k_is) (by k_is) (by ktr_room) (by exact BindsTo.of_eq rfl) (by exact locs rfl) ?_ (by exact rfl) (by exact rfl) (by exact rfl) (by decide); k_whole; intro g' L' h' FG' F' N' B' X' T'; (try dsimp only); (try k_fold)))))))) | ((with_reducible ((refine WhlIf.yes (not_zero (by assumption)) ?_)))) | walk1 | (dsimp only; first | ((fail_if_success (fail_if_success (with_reducible show wpAny _ _ (execs (_ :: _) _) _ _ _))); (with_reducible refine wpAny_execs_cons ?_); k_fold) | ((fail_if_success (fail_if_success (with_reducible show wpAny _ _ (exec (PySem.Stmt.While (PySem.Expr.UnaryOp _ _ _) (_ :: _) [] _) _) _ _ _))); (with_reducible ((k_here; refine Stop.put ?_)))) | ((fail_if_success (fail_if_success (with_reducible show wpAny _ _ (call _ _ _) _ _ _))); first | ((fail_if_success (fail_if_success (with_reducible show wpAny _ _ (call (Value.builtin "iter") _ _) _ _ _))); (with_reducible ((k_here; (with_reducible show wpAny _ _ (call (Value.builtin "iter") [Value.ref _]) _ _ _); k_dflt (refine' my_iter (by k_asm) (by k_asm) (by k_mem) ?_; k_whole); intro I' h' F' N' l1; (try k_lt l1); (try k_sweep))))) | ((fail_if_success (fail_if_success (with_reducible show wpAny _ _ (call (Value.builtin "list.append") _ _) _ _ _))); (with_reducible ((k_here; (with_reducible show wpAny _ _ (call (Value.builtin _) [Value.ref _, _]) _ _ _); k_dflt (refine' my_append (by k_asm) (by k_asm) (by walk_at "my_upd") (by (((try simp only [List.length_append, List.length_cons, List.length_nil, List.length_take, List.length_drop, sizeLine_eq]); omega))) ?_; k_whole); intro h' F' N'; (try k_sweep))))) | ((with_reducible ((k_here; (with_reducible show wpAny _ _ (call (Value.ref 46) [Value.ref _]) _ _ _); k_dflt (refine' call_varint2 (by k_asm) (by k_asm) (by k_asm) (by k_asm) (by k_asm) (by first | exact rfl | assumption) (by ktr_room) (by ktr_units) (by exact And.left (by assumption)) (by assumption) (by assumption) (by assumption) (by assumption) (by assumption) ?_; k_whole); intro t' h' tk' F' N'; (try k_sweep); (try dsimp only); (try k_fold))))) | ((with_reducible ((k_here; (with_reducible show wpAny _ _ (call (Value.ref _) _) _ _ _); k_dflt (refine wpAny_call ?_; (refine' code_def (by k_asm) (by k_asm) (by k_asm) (by k_asm) (by k_asm) rfl rfl rfl (by k_is) (by k_is) (by ktr_room) (by exact BindsTo.of_eq rfl) (by exact locs rfl) ?_ (by exact rfl) (by exact rfl) (by exact rfl) (by decide); k_whole; intro g' L' h' FG' F' N' B' X' T'; (try dsimp only); (try k_fold)))))))) | ((with_reducible ((refine WhlIf.yes (not_zero (by assumption)) ?_)))) | walk1) | (leave1; (try dsimp only)) | fail "no step"))
    (rename News h₀ _ _ _ => lN)
    exact ret _ _ _ _ _ (by assumption) (cb_drop lN (List.forall_mem_cons.mpr ⟨List.Mem.head _, fun p hp => List.Mem.tail _ (List.Mem.tail _ hp)⟩)) (ktn_ltOf (And.right (by assumption))) e1
end
section
local macro_rules | `(tactic| walk_at "my_kv") => `(tactic| first | exact KV.nil | exact KV.cons _ _ _ (by walk_at "my_kv"))
theorem call_held {w : World} {p : Program} {loose : List Str} {mean : ExcName → Option Value} {mg mb : Str → Option Value} {dp un : Nat} {gd : Option (List Code)} {cn : Str} {cs : Scope} {a : Addr} {ccd : Value} {cl : List (Str × Addr)} {outer : List Env} {A₀ : Around} {base h₀ : Heap} {L : Addr} {m : Str → Option Value} {news : List (Addr × Obj)} {s : Shared} {Q E : Value → Shared → Prop}
    {lr lp : Addr} {vr vp : List Value} {cr cp : Nat} {row pts : List Int}
    (B : Below A₀ base outer h₀) (F : Fr h₀ L s.heap m) (X : (hd.heap_39 w.params).In h₀) (N : News h₀ L s.heap news) (T : Top p loose mean mg mb h₀) (hk : cs.kind = .function) (hdp : dp + 4 < recursionLimit) (hun : un + 40 < cLine)
    (hr : (lr, W.listOf vr.toArray cr) ∈ news) (hri : IntsAre vr row) (hp : (lp, W.listOf vp.toArray cp) ∈ news) (hpi : IntsAre vp pts) (hrow : row.length ≤ 100) (hpts : pts.length ≤ 1000) (hok : ∀ x ∈ pts, ∃ b, runM x row = some [.b b])
    (ret : ∀ l vs c h' tk', Fr h₀ L h' m → News h₀ L h' ((l, W.listOf vs.toArray c) :: news) → (∀ q ∈ news, q.1 < l) → IntsAre vs (pts.filter (heldB row)) → Q (.ref l) { s with heap := h', toks := tk' }) :
    wpAny (model PySem.Challenge.rw_wj0027_01.row.prog w) (ktrTop dp un gd cn cs L a ccd cl outer) (call (.ref 121) [.ref lr, .ref lp]) Q E s
   := by
  w_top off; revert X; k_fill; intro X
  refine wpAny_call ?_
  k_dflt ktr_enter
  (repeat' (first | (k_unfold; (try dsimp only)) | (k_end; wrow_close) | ((fail_if_success (fail_if_success (with_reducible show wpAny _ _ (execs (_ :: _) _) _ _ _))); (with_reducible refine wpAny_execs_cons ?_); k_fold) | ((fail_if_success (fail_if_success (with_reducible show wpAny _ _ (subscriptTail _ _ (Value.ref 15) (Value.str _ _)) _ _ _))); k_dflt (refine' tokAt (by k_asm) (by k_asm) (by k_is) ?_ (by with_unfolding_all rfl)); k_whole) | ((fail_if_success (fail_if_success (with_reducible show wpAny _ _ (exec (PySem.Stmt.For (PySem.Expr.Name _ _) (PySem.Expr.Name _ _) (_ :: _) [] _) _) _ _ _))); (with_reducible ((k_here; (rename Fr _ _ _ _ => lF'); (with_unfolding_all refine' For_turns lF' ?_; k_whole))))) | ((fail_if_success (fail_if_success (with_reducible show wpAny _ _ (subscriptTail _ _ _ _) _ _ _))); first | ((with_reducible ((k_here; (with_reducible show wpAny _ _ (subscriptTail _ _ (Value.ref _) (Value.int _ _)) _ _ _); k_dflt (refine' my_dget (by k_asm) (by walk_at "my_mem1") (by with_reducible assumption) (by rfl) ?_ (by with_unfolding_all rfl); k_whole)))))) | ((fail_if_success (fail_if_success (with_reducible show wpAny _ _ (call _ _ _) _ _ _))); first | ((fail_if_success (fail_if_success (with_reducible show wpAny _ _ (call (Value.builtin "list.append") _ _) _ _ _))); (with_reducible ((k_here; (with_reducible show wpAny _ _ (call (Value.builtin _) [Value.ref _, _]) _ _ _); k_dflt (refine' my_append (by k_asm) (by k_asm) (by walk_at "my_upd") (by (((try simp only [List.length_append, List.length_cons, List.length_nil, List.length_take, List.length_drop, sizeLine_eq]); omega))) ?_; k_whole); intro h' F' N'; (try k_sweep))))) | ((fail_if_success (fail_if_success (with_reducible show wpAny _ _ (call (Value.builtin "list.pop") _ _) _ _ _))); (with_reducible ((k_here; (with_reducible show wpAny _ _ (call (Value.builtin _) [Value.ref _]) _ _ _); k_dflt (refine' my_pop (by k_asm) (by k_asm) (by walk_at "my_upd") (by (((try simp only [List.length_append, List.length_cons, List.length_nil, List.length_take, List.length_drop, sizeLine_eq]); omega))) ?_; k_whole); intro h' F' N'; (try k_sweep))))) | ((with_reducible ((k_here; (with_reducible show wpAny _ _ (call (Value.ref _) _) _ _ _); k_dflt (refine wpAny_call ?_; (refine' code_def (by k_asm) (by k_asm) (by k_asm) (by k_asm) (by k_asm) rfl rfl rfl (by k_is) (by k_is) (by ktr_room) (by exact BindsTo.of_eq rfl) (by exact locs rfl) ?_ (by exact rfl) (by exact rfl) (by exact rfl) (by decide); k_whole; intro g' L' h' FG' F' N' B' X' T'; (try dsimp only); (try k_fold))))))) | ((fail_if_success (fail_if_success (with_reducible show wpAny _ _ (call (Value.type "dict") _ _) _ _ _))); (with_reducible ((k_here; (with_reducible show wpAny _ _ (call (Value.type "dict") [Value.ref _]) _ _ _); k_dflt (refine' kdict (kvs := kvsL) (by rfl) (by k_asm) (by k_asm) (by assumption) (by walk_at "my_kv") (by decide) (by decide) (by exact kvs_put) ?_; k_whole); intro d' o' h' tk' F' N' l1 hd'; (try k_lt l1); (try k_sweep))))) | ((fail_if_success (fail_if_success (with_reducible show wpAny _ _ (call (Value.type "zip") _ _) _ _ _))); (with_reducible ((k_here; (with_reducible show wpAny _ _ (call (Value.type _) [Value.ref _, Value.ref _]) _ _ _); k_dflt (refine' kzip (by k_asm) (by k_asm) (by k_mem) (by k_mem) ?_; k_whole); intro z' h' F' N' Z'; (try k_sweep)))))) | walk1 | (dsimp only; first | ((fail_if_success (fail_if_success (with_reducible show wpAny _ _ (execs (_ :: _) _) _ _ _))); (with_reducible refine wpAny_execs_cons ?_); k_fold) | ((fail_if_success (fail_if_success (with_reducible show wpAny _ _ (subscriptTail _ _ (Value.ref 15) (Value.str _ _)) _ _ _))); k_dflt (refine' tokAt (by k_asm) (by k_asm) (by k_is) ?_ (by with_unfolding_all rfl)); k_whole) | ((fail_if_success (fail_if_success (with_reducible show wpAny _ _ (exec (PySem.Stmt.For (PySem.Expr.Name _ _) (PySem.Expr.Name _ _) (_ :: _) [] _) _) _ _ _))); (with_reducible ((k_here; (rename Fr _ _ _ _ => lF'); (with_unfolding_all refine' For_turns lF' ?_; k_whole))))) | ((fail_if_success (fail_if_success (with_reducible show wpAny _ _ (subscriptTail _ _ _ _) _ _ _))); first | ((with_reducible ((k_here; (with_reducible show wpAny _ _ (subscriptTail _ _ (Value.ref _) (Value.int _ _)) _ _ _); k_dflt (refine' my_dget (by k_asm) (by walk_at "my_mem1") (by with_reducible assumption) (by rfl) ?_ (by with_unfolding_all rfl); k_whole)))))) | ((fail_if_success (fail_if_success (with_reducible show wpAny _ _ (call _ _ _) _ _ _))); first | ((fail_if_success (fail_if_success (with_reducible show wpAny _ _ (call (Value.builtin "list.append") _ _) _ _ _))); (with_reducible ((k_here; (with_reducible show wpAny _ _ (call (Value.builtin _) [Value.ref _, _]) _ _ _); k_dflt (refine' my_append (by k_asm) (by k_asm) (by walk_at "my_upd") (by (((try simp only [List.length_append, List.length_cons, List.length_nil, List.length_take, List.length_drop, sizeLine_eq]); omega))) ?_; k_whole); intro h' F' N'; (try k_sweep))))) | ((fail_if_success (fail_if_success (with_reducible show wpAny _ _ (call (Value.builtin "list.pop") _ _) _ _ _))); (with_reducible ((k_here; (with_reducible show wpAny _ _ (call (Value.builtin _) [Value.ref _]) _ _ _); k_dflt (refine' my_pop (by k_asm) (by k_asm) (by walk_at "my_upd") (by (((try simp only [List.length_append, List.length_cons, List.length_nil, List.length_take, List.length_drop, sizeLine_eq]); omega))) ?_; k_whole); intro h' F' N'; (try k_sweep))))) | ((with_reducible ((k_here; (with_reducible show wpAny _ _ (call (Value.ref _) _) _ _ _); k_dflt (refine wpAny_call ?_; (refine' code_def (by k_asm) (by k_asm) (by k_asm) (by k_asm) (by k_asm) rfl rfl rfl (by k_is) (by k_is) (by ktr_room) (by exact BindsTo.of_eq rfl) (by exact locs rfl) ?_ (by exact rfl) (by exact rfl) (by exact rfl) (by decide); k_whole; intro g' L' h' FG' F' N' B' X' T'; (try dsimp only); (try k_fold))))))) | ((fail_if_success (fail_if_success (with_reducible show wpAny _ _ (call (Value.type "dict") _ _) _ _ _))); (with_reducible ((k_here; (with_reducible show wpAny _ _ (call (Value.type "dict") [Value.ref _]) _ _ _); k_dflt (refine' kdict (kvs := kvsL) (by rfl) (by k_asm) (by k_asm) (by assumption) (by walk_at "my_kv") (by decide) (by decide) (by exact kvs_put) ?_; k_whole); intro d' o' h' tk' F' N' l1 hd'; (try k_lt l1); (try k_sweep))))) | ((fail_if_success (fail_if_success (with_reducible show wpAny _ _ (call (Value.type "zip") _ _) _ _ _))); (with_reducible ((k_here; (with_reducible show wpAny _ _ (call (Value.type _) [Value.ref _, Value.ref _]) _ _ _); k_dflt (refine' kzip (by k_asm) (by k_asm) (by k_mem) (by k_mem) ?_; k_whole); intro z' h' F' N' Z'; (try k_sweep)))))) | walk1) | (leave1; (try dsimp only)) | fail "no step"))
  refine comp_list RS rfl (by assumption) (by assumption) (by k_mem) (by simp) ?_ ?_
  · intro C i v s₃ m₃ E' hv hn hx hk
    rcases nine_at hv with rfl | rfl | rfl | rfl | rfl | rfl | rfl | rfl | rfl
    all_goals clear hv
    all_goals (repeat' (first | (k_unfold; (try dsimp only)) | (k_end; wrow_close) | ((fail_if_success (fail_if_success (with_reducible show wpAny _ _ (execs (_ :: _) _) _ _ _))); (with_reducible refine wpAny_execs_cons ?_); k_fold) | ((fail_if_success (fail_if_success (with_reducible show wpAny _ _ (subscriptTail _ _ (Value.ref 15) (Value.str _ _)) _ _ _))); k_dflt (refine' tokAt (by k_asm) (by k_asm) (by k_is) ?_ (by with_unfolding_all rfl)); k_whole) | ((fail_if_success (fail_if_success (with_reducible show wpAny _ _ (exec (PySem.Stmt.For (PySem.Expr.Name _ _) (PySem.Expr.Name _ _) (_ :: _) [] _) _) _ _ _))); (with_reducible ((k_here; (rename Fr _ _ _ _ => lF'); (with_unfolding_all refine' For_turns lF' ?_; k_whole))))) | ((fail_if_success (fail_if_success (with_reducible show wpAny _ _ (subscriptTail _ _ _ _) _ _ _))); first | ((with_reducible ((k_here; (with_reducible show wpAny _ _ (subscriptTail _ _ (Value.ref _) (Value.int _ _)) _ _ _); k_dflt (refine' my_dget (by k_asm) (by walk_at "my_mem1") (by with_reducible assumption) (by rfl) ?_ (by with_unfolding_all rfl); k_whole)))))) | ((fail_if_success (fail_if_success (with_reducible show wpAny _ _ (call _ _ _) _ _ _))); first | ((fail_if_success (fail_if_success (with_reducible show wpAny _ _ (call (Value.builtin "list.append") _ _) _ _ _))); (with_reducible ((k_here; (with_reducible show wpAny _ _ (call (Value.builtin _) [Value.ref _, _]) _ _ _); k_dflt (refine' my_append (by k_asm) (by k_asm) (by walk_at "my_upd") (by (((try simp only [List.length_append, List.length_cons, List.length_nil, List.length_take, List.length_drop, sizeLine_eq]); omega))) ?_; k_whole); intro h' F' N'; (try k_sweep))))) | ((fail_if_success (fail_if_success (with_reducible show wpAny _ _ (call (Value.builtin "list.pop") _ _) _ _ _))); (with_reducible ((k_here; (with_reducible show wpAny _ _ (call (Value.builtin _) [Value.ref _]) _ _ _); k_dflt (refine' my_pop (by k_asm) (by k_asm) (by walk_at "my_upd") (by (((try simp only [List.length_append, List.length_cons, List.length_nil, List.length_take, List.length_drop, sizeLine_eq]); omega))) ?_; k_whole); intro h' F' N'; (try k_sweep))))) | ((with_reducible ((k_here; (with_reducible show wpAny _ _ (call (Value.ref _) _) _ _ _); k_dflt (refine wpAny_call ?_; (refine' code_def (by k_asm) (by k_asm) (by k_asm) (by k_asm) (by k_asm) rfl rfl rfl (by k_is) (by k_is) (by ktr_room) (by exact BindsTo.of_eq rfl) (by exact locs rfl) ?_ (by exact rfl) (by exact rfl) (by exact rfl) (by decide); k_whole; intro g' L' h' FG' F' N' B' X' T'; (try dsimp only); (try k_fold))))))) | ((fail_if_success (fail_if_success (with_reducible show wpAny _ _ (call (Value.type "dict") _ _) _ _ _))); (with_reducible ((k_here; (with_reducible show wpAny _ _ (call (Value.type "dict") [Value.ref _]) _ _ _); k_dflt (refine' kdict (kvs := kvsL) (by rfl) (by k_asm) (by k_asm) (by assumption) (by walk_at "my_kv") (by decide) (by decide) (by exact kvs_put) ?_; k_whole); intro d' o' h' tk' F' N' l1 hd'; (try k_lt l1); (try k_sweep))))) | ((fail_if_success (fail_if_success (with_reducible show wpAny _ _ (call (Value.type "zip") _ _) _ _ _))); (with_reducible ((k_here; (with_reducible show wpAny _ _ (call (Value.type _) [Value.ref _, Value.ref _]) _ _ _); k_dflt (refine' kzip (by k_asm) (by k_asm) (by k_mem) (by k_mem) ?_; k_whole); intro z' h' F' N' Z'; (try k_sweep)))))) | walk1 | (dsimp only; first | ((fail_if_success (fail_if_success (with_reducible show wpAny _ _ (execs (_ :: _) _) _ _ _))); (with_reducible refine wpAny_execs_cons ?_); k_fold) | ((fail_if_success (fail_if_success (with_reducible show wpAny _ _ (subscriptTail _ _ (Value.ref 15) (Value.str _ _)) _ _ _))); k_dflt (refine' tokAt (by k_asm) (by k_asm) (by k_is) ?_ (by with_unfolding_all rfl)); k_whole) | ((fail_if_success (fail_if_success (with_reducible show wpAny _ _ (exec (PySem.Stmt.For (PySem.Expr.Name _ _) (PySem.Expr.Name _ _) (_ :: _) [] _) _) _ _ _))); (with_reducible ((k_here; (rename Fr _ _ _ _ => lF'); (with_unfolding_all refine' For_turns lF' ?_; k_whole))))) | ((fail_if_success (fail_if_success (with_reducible show wpAny _ _ (subscriptTail _ _ _ _) _ _ _))); first | ((with_reducible ((k_here; (with_reducible show wpAny _ _ (subscriptTail _ _ (Value.ref _) (Value.int _ _)) _ _ _); k_dflt (refine' my_dget (by k_asm) (by walk_at "my_mem1") (by with_reducible assumption) (by rfl) ?_ (by with_unfolding_all rfl); k_whole)))))) | ((fail_if_success (fail_if_success (with_reducible show wpAny _ _ (call _ _ _) _ _ _))); first | ((fail_if_success (fail_if_success (with_reducible show wpAny _ _ (call (Value.builtin "list.append") _ _) _ _ _))); (with_reducible ((k_here; (with_reducible show wpAny _ _ (call (Value.builtin _) [Value.ref _, _]) _ _ _); k_dflt (refine' my_append (by k_asm) (by k_asm) (by walk_at "my_upd") (by (((try simp only [List.length_append, List.length_cons, List.length_nil, List.length_take, List.length_drop, sizeLine_eq]); omega))) ?_; k_whole); intro h' F' N'; (try k_sweep))))) | ((fail_if_success (fail_if_success (with_reducible show wpAny _ _ (call (Value.builtin "list.pop") _ _) _ _ _))); (with_reducible ((k_here; (with_reducible show wpAny _ _ (call (Value.builtin _) [Value.ref _]) _ _ _); k_dflt (refine' my_pop (by k_asm) (by k_asm) (by walk_at "my_upd") (by (((try simp only [List.length_append, List.length_cons, List.length_nil, List.length_take, List.length_drop, sizeLine_eq]); omega))) ?_; k_whole); intro h' F' N'; (try k_sweep))))) | ((with_reducible ((k_here; (with_reducible show wpAny _ _ (call (Value.ref _) _) _ _ _); k_dflt (refine wpAny_call ?_; (refine' code_def (by k_asm) (by k_asm) (by k_asm) (by k_asm) (by k_asm) rfl rfl rfl (by k_is) (by k_is) (by ktr_room) (by exact BindsTo.of_eq rfl) (by exact locs rfl) ?_ (by exact rfl) (by exact rfl) (by exact rfl) (by decide); k_whole; intro g' L' h' FG' F' N' B' X' T'; (try dsimp only); (try k_fold))))))) | ((fail_if_success (fail_if_success (with_reducible show wpAny _ _ (call (Value.type "dict") _ _) _ _ _))); (with_reducible ((k_here; (with_reducible show wpAny _ _ (call (Value.type "dict") [Value.ref _]) _ _ _); k_dflt (refine' kdict (kvs := kvsL) (by rfl) (by k_asm) (by k_asm) (by assumption) (by walk_at "my_kv") (by decide) (by decide) (by exact kvs_put) ?_; k_whole); intro d' o' h' tk' F' N' l1 hd'; (try k_lt l1); (try k_sweep))))) | ((fail_if_success (fail_if_success (with_reducible show wpAny _ _ (call (Value.type "zip") _ _) _ _ _))); (with_reducible ((k_here; (with_reducible show wpAny _ _ (call (Value.type _) [Value.ref _, Value.ref _]) _ _ _); k_dflt (refine' kzip (by k_asm) (by k_asm) (by k_mem) (by k_mem) ?_; k_whole); intro z' h' F' N' Z'; (try k_sweep)))))) | walk1) | (leave1; (try dsimp only)) | fail "no step"))
    all_goals first | exact ⟨_, _, rfl, fun _ _ e => e⟩ | exact ⟨RS.mk' (by decide +kernel), _, _, rfl, fun _ _ e => e⟩ | exact RS.mk' (by decide +kernel)
  intro D ys cD h' tk' F' N' hP
  obtain ⟨u0, u1, u2, u3, u4, u5, u6, u7, u8, rfl⟩ := pr_nine hP
  clear hP
  (try dsimp only)
  (repeat' (first | (k_unfold; (try dsimp only)) | (k_end; wrow_close) | ((fail_if_success (fail_if_success (with_reducible show wpAny _ _ (execs (_ :: _) _) _ _ _))); (with_reducible refine wpAny_execs_cons ?_); k_fold) | ((fail_if_success (fail_if_success (with_reducible show wpAny _ _ (subscriptTail _ _ (Value.ref 15) (Value.str _ _)) _ _ _))); k_dflt (refine' tokAt (by k_asm) (by k_asm) (by k_is) ?_ (by with_unfolding_all rfl)); k_whole) | ((fail_if_success (fail_if_success (with_reducible show wpAny _ _ (exec (PySem.Stmt.For (PySem.Expr.Name _ _) (PySem.Expr.Name _ _) (_ :: _) [] _) _) _ _ _))); (with_reducible ((k_here; (rename Fr _ _ _ _ => lF'); (with_unfolding_all refine' For_turns lF' ?_; k_whole))))) | ((fail_if_success (fail_if_success (with_reducible show wpAny _ _ (subscriptTail _ _ _ _) _ _ _))); first | ((with_reducible ((k_here; (with_reducible show wpAny _ _ (subscriptTail _ _ (Value.ref _) (Value.int _ _)) _ _ _); k_dflt (refine' my_dget (by k_asm) (by walk_at "my_mem1") (by with_reducible assumption) (by rfl) ?_ (by with_unfolding_all rfl); k_whole)))))) | ((fail_if_success (fail_if_success (with_reducible show wpAny _ _ (call _ _ _) _ _ _))); first | ((fail_if_success (fail_if_success (with_reducible show wpAny _ _ (call (Value.builtin "list.append") _ _) _ _ _))); (with_reducible ((k_here; (with_reducible show wpAny _ _ (call (Value.builtin _) [Value.ref _, _]) _ _ _); k_dflt (refine' my_append (by k_asm) (by k_asm) (by walk_at "my_upd") (by (((try simp only [List.length_append, List.length_cons, List.length_nil, List.length_take, List.length_drop, sizeLine_eq]); omega))) ?_; k_whole); intro h' F' N'; (try k_sweep))))) | ((fail_if_success (fail_if_success (with_reducible show wpAny _ _ (call (Value.builtin "list.pop") _ _) _ _ _))); (with_reducible ((k_here; (with_reducible show wpAny _ _ (call (Value.builtin _) [Value.ref _]) _ _ _); k_dflt (refine' my_pop (by k_asm) (by k_asm) (by walk_at "my_upd") (by (((try simp only [List.length_append, List.length_cons, List.length_nil, List.length_take, List.length_drop, sizeLine_eq]); omega))) ?_; k_whole); intro h' F' N'; (try k_sweep))))) | ((with_reducible ((k_here; (with_reducible show wpAny _ _ (call (Value.ref _) _) _ _ _); k_dflt (refine wpAny_call ?_; (refine' code_def (by k_asm) (by k_asm) (by k_asm) (by k_asm) (by k_asm) rfl rfl rfl (by k_is) (by k_is) (by ktr_room) (by exact BindsTo.of_eq rfl) (by exact locs rfl) ?_ (by exact rfl) (by exact rfl) (by exact rfl) (by decide); k_whole; intro g' L' h' FG' F' N' B' X' T'; (try dsimp only); (try k_fold))))))) | ((fail_if_success (fail_if_success (with_reducible show wpAny _ _ (call (Value.type "dict") _ _) _ _ _))); (with_reducible ((k_here; (with_reducible show wpAny _ _ (call (Value.type "dict") [Value.ref _]) _ _ _); k_dflt (refine' kdict (kvs := kvsL) (by rfl) (by k_asm) (by k_asm) (by assumption) (by walk_at "my_kv") (by decide) (by decide) (by exact kvs_put) ?_; k_whole); intro d' o' h' tk' F' N' l1 hd'; (try k_lt l1); (try k_sweep))))) | ((fail_if_success (fail_if_success (with_reducible show wpAny _ _ (call (Value.type "zip") _ _) _ _ _))); (with_reducible ((k_here; (with_reducible show wpAny _ _ (call (Value.type _) [Value.ref _, Value.ref _]) _ _ _); k_dflt (refine' kzip (by k_asm) (by k_asm) (by k_mem) (by k_mem) ?_; k_whole); intro z' h' F' N' Z'; (try k_sweep)))))) | walk1 | (dsimp only; first | ((fail_if_success (fail_if_success (with_reducible show wpAny _ _ (execs (_ :: _) _) _ _ _))); (with_reducible refine wpAny_execs_cons ?_); k_fold) | ((fail_if_success (fail_if_success (with_reducible show wpAny _ _ (subscriptTail _ _ (Value.ref 15) (Value.str _ _)) _ _ _))); k_dflt (refine' tokAt (by k_asm) (by k_asm) (by k_is) ?_ (by with_unfolding_all rfl)); k_whole) | ((fail_if_success (fail_if_success (with_reducible show wpAny _ _ (exec (PySem.Stmt.For (PySem.Expr.Name _ _) (PySem.Expr.Name _ _) (_ :: _) [] _) _) _ _ _))); (with_reducible ((k_here; (rename Fr _ _ _ _ => lF'); (with_unfolding_all refine' For_turns lF' ?_; k_whole))))) | ((fail_if_success (fail_if_success (with_reducible show wpAny _ _ (subscriptTail _ _ _ _) _ _ _))); first | ((with_reducible ((k_here; (with_reducible show wpAny _ _ (subscriptTail _ _ (Value.ref _) (Value.int _ _)) _ _ _); k_dflt (refine' my_dget (by k_asm) (by walk_at "my_mem1") (by with_reducible assumption) (by rfl) ?_ (by with_unfolding_all rfl); k_whole)))))) | ((fail_if_success (fail_if_success (with_reducible show wpAny _ _ (call _ _ _) _ _ _))); first | ((fail_if_success (fail_if_success (with_reducible show wpAny _ _ (call (Value.builtin "list.append") _ _) _ _ _))); (with_reducible ((k_here; (with_reducible show wpAny _ _ (call (Value.builtin _) [Value.ref _, _]) _ _ _); k_dflt (refine' my_append (by k_asm) (by k_asm) (by walk_at "my_upd") (by (((try simp only [List.length_append, List.length_cons, List.length_nil, List.length_take, List.length_drop, sizeLine_eq]); omega))) ?_; k_whole); intro h' F' N'; (try k_sweep))))) | ((fail_if_success (fail_if_success (with_reducible show wpAny _ _ (call (Value.builtin "list.pop") _ _) _ _ _))); (with_reducible ((k_here; (with_reducible show wpAny _ _ (call (Value.builtin _) [Value.ref _]) _ _ _); k_dflt (refine' my_pop (by k_asm) (by k_asm) (by walk_at "my_upd") (by (((try simp only [List.length_append, List.length_cons, List.length_nil, List.length_take, List.length_drop, sizeLine_eq]); omega))) ?_; k_whole); intro h' F' N'; (try k_sweep))))) | ((with_reducible ((k_here; (with_reducible show wpAny _ _ (call (Value.ref _) _) _ _ _); k_dflt (refine wpAny_call ?_; (refine' code_def (by k_asm) (by k_asm) (by k_asm) (by k_asm) (by k_asm) rfl rfl rfl (by k_is) (by k_is) (by ktr_room) (by exact BindsTo.of_eq rfl) (by exact locs rfl) ?_ (by exact rfl) (by exact rfl) (by exact rfl) (by decide); k_whole; intro g' L' h' FG' F' N' B' X' T'; (try dsimp only); (try k_fold))))))) | ((fail_if_success (fail_if_success (with_reducible show wpAny _ _ (call (Value.type "dict") _ _) _ _ _))); (with_reducible ((k_here; (with_reducible show wpAny _ _ (call (Value.type "dict") [Value.ref _]) _ _ _); k_dflt (refine' kdict (kvs := kvsL) (by rfl) (by k_asm) (by k_asm) (by assumption) (by walk_at "my_kv") (by decide) (by decide) (by exact kvs_put) ?_; k_whole); intro d' o' h' tk' F' N' l1 hd'; (try k_lt l1); (try k_sweep))))) | ((fail_if_success (fail_if_success (with_reducible show wpAny _ _ (call (Value.type "zip") _ _) _ _ _))); (with_reducible ((k_here; (with_reducible show wpAny _ _ (call (Value.type _) [Value.ref _, Value.ref _]) _ _ _); k_dflt (refine' kzip (by k_asm) (by k_asm) (by k_mem) (by k_mem) ?_; k_whole); intro z' h' F' N' Z'; (try k_sweep)))))) | walk1) | (leave1; (try dsimp only)) | fail "no step"))
  (rename News _ _ _ _ => lN)
  refine pack lN fun tl s1 s2 N2 => ?_
  have hdm := s1 _ (List.Mem.head _)
  have hrm := s1 (lr, W.listOf vr.toArray cr) (by walk_at "my_mem1")
  have hpm := s1 (lp, W.listOf vp.toArray cp) (by walk_at "my_mem1")
  have hnews : ∀ p ∈ news, p ∈ tl := fun p hp => s1 p (by walk_at "my_mem1")
  have hlt := pack_lt (by assumption) s2
  clear s1 s2 lN
  have hltne := ne_of_allLt hlt
  refine loop_points (row := row) (pts := pts) rfl (by assumption) N2 hpm hpi hpts hok ?_ ?_
  · intro x xt b hs vs c u h tk I o e1 e2 e3 e4 F' N'
    have hvl := e1.length
    replace e4 := ltN e4
    (repeat' (first | (k_unfold; (try dsimp only)) | (k_end; wrow_close) | ((fail_if_success (fail_if_success (with_reducible show wpAny _ _ (execs (_ :: _) _) _ _ _))); (with_reducible refine wpAny_execs_cons ?_); k_fold) | ((fail_if_success (fail_if_success (with_reducible show wpAny _ _ (subscriptTail _ _ (Value.ref 15) (Value.str _ _)) _ _ _))); k_dflt (refine' tokAt (by k_asm) (by k_asm) (by k_is) ?_ (by with_unfolding_all rfl)); k_whole) | ((fail_if_success (fail_if_success (with_reducible show wpAny _ _ (exec (PySem.Stmt.For (PySem.Expr.Name _ _) (PySem.Expr.Name _ _) (_ :: _) [] _) _) _ _ _))); (with_reducible ((k_here; (rename Fr _ _ _ _ => lF'); (with_unfolding_all refine' For_turns lF' ?_; k_whole))))) | ((fail_if_success (fail_if_success (with_reducible show wpAny _ _ (subscriptTail _ _ _ _) _ _ _))); first | ((with_reducible ((k_here; (with_reducible show wpAny _ _ (subscriptTail _ _ (Value.ref _) (Value.int _ _)) _ _ _); k_dflt (refine' my_dget (by k_asm) (by walk_at "my_mem1") (by with_reducible assumption) (by rfl) ?_ (by with_unfolding_all rfl); k_whole)))))) | ((fail_if_success (fail_if_success (with_reducible show wpAny _ _ (call _ _ _) _ _ _))); first | ((fail_if_success (fail_if_success (with_reducible show wpAny _ _ (call (Value.builtin "list.append") _ _) _ _ _))); (with_reducible ((k_here; (with_reducible show wpAny _ _ (call (Value.builtin _) [Value.ref _, _]) _ _ _); k_dflt (refine' my_append (by k_asm) (by k_asm) (by walk_at "my_upd") (by (((try simp only [List.length_append, List.length_cons, List.length_nil, List.length_take, List.length_drop, sizeLine_eq]); omega))) ?_; k_whole); intro h' F' N'; (try k_sweep))))) | ((fail_if_success (fail_if_success (with_reducible show wpAny _ _ (call (Value.builtin "list.pop") _ _) _ _ _))); (with_reducible ((k_here; (with_reducible show wpAny _ _ (call (Value.builtin _) [Value.ref _]) _ _ _); k_dflt (refine' my_pop (by k_asm) (by k_asm) (by walk_at "my_upd") (by (((try simp only [List.length_append, List.length_cons, List.length_nil, List.length_take, List.length_drop, sizeLine_eq]); omega))) ?_; k_whole); intro h' F' N'; (try k_sweep))))) | ((with_reducible ((k_here; (with_reducible show wpAny _ _ (call (Value.ref _) _) _ _ _); k_dflt (refine wpAny_call ?_; (refine' code_def (by k_asm) (by k_asm) (by k_asm) (by k_asm) (by k_asm) rfl rfl rfl (by k_is) (by k_is) (by ktr_room) (by exact BindsTo.of_eq rfl) (by exact locs rfl) ?_ (by exact rfl) (by exact rfl) (by exact rfl) (by decide); k_whole; intro g' L' h' FG' F' N' B' X' T'; (try dsimp only); (try k_fold))))))) | ((fail_if_success (fail_if_success (with_reducible show wpAny _ _ (call (Value.type "dict") _ _) _ _ _))); (with_reducible ((k_here; (with_reducible show wpAny _ _ (call (Value.type "dict") [Value.ref _]) _ _ _); k_dflt (refine' kdict (kvs := kvsL) (by rfl) (by k_asm) (by k_asm) (by assumption) (by walk_at "my_kv") (by decide) (by decide) (by exact kvs_put) ?_; k_whole); intro d' o' h' tk' F' N' l1 hd'; (try k_lt l1); (try k_sweep))))) | ((fail_if_success (fail_if_success (with_reducible show wpAny _ _ (call (Value.type "zip") _ _) _ _ _))); (with_reducible ((k_here; (with_reducible show wpAny _ _ (call (Value.type _) [Value.ref _, Value.ref _]) _ _ _); k_dflt (refine' kzip (by k_asm) (by k_asm) (by k_mem) (by k_mem) ?_; k_whole); intro z' h' F' N' Z'; (try k_sweep)))))) | walk1 | (dsimp only; first | ((fail_if_success (fail_if_success (with_reducible show wpAny _ _ (execs (_ :: _) _) _ _ _))); (with_reducible refine wpAny_execs_cons ?_); k_fold) | ((fail_if_success (fail_if_success (with_reducible show wpAny _ _ (subscriptTail _ _ (Value.ref 15) (Value.str _ _)) _ _ _))); k_dflt (refine' tokAt (by k_asm) (by k_asm) (by k_is) ?_ (by with_unfolding_all rfl)); k_whole) | ((fail_if_success (fail_if_success (with_reducible show wpAny _ _ (exec (PySem.Stmt.For (PySem.Expr.Name _ _) (PySem.Expr.Name _ _) (_ :: _) [] _) _) _ _ _))); (with_reducible ((k_here; (rename Fr _ _ _ _ => lF'); (with_unfolding_all refine' For_turns lF' ?_; k_whole))))) | ((fail_if_success (fail_if_success (with_reducible show wpAny _ _ (subscriptTail _ _ _ _) _ _ _))); first | ((with_reducible ((k_here; (with_reducible show wpAny _ _ (subscriptTail _ _ (Value.ref _) (Value.int _ _)) _ _ _); k_dflt (refine' my_dget (by k_asm) (by walk_at "my_mem1") (by with_reducible assumption) (by rfl) ?_ (by with_unfolding_all rfl); k_whole)))))) | ((fail_if_success (fail_if_success (with_reducible show wpAny _ _ (call _ _ _) _ _ _))); first | ((fail_if_success (fail_if_success (with_reducible show wpAny _ _ (call (Value.builtin "list.append") _ _) _ _ _))); (with_reducible ((k_here; (with_reducible show wpAny _ _ (call (Value.builtin _) [Value.ref _, _]) _ _ _); k_dflt (refine' my_append (by k_asm) (by k_asm) (by walk_at "my_upd") (by (((try simp only [List.length_append, List.length_cons, List.length_nil, List.length_take, List.length_drop, sizeLine_eq]); omega))) ?_; k_whole); intro h' F' N'; (try k_sweep))))) | ((fail_if_success (fail_if_success (with_reducible show wpAny _ _ (call (Value.builtin "list.pop") _ _) _ _ _))); (with_reducible ((k_here; (with_reducible show wpAny _ _ (call (Value.builtin _) [Value.ref _]) _ _ _); k_dflt (refine' my_pop (by k_asm) (by k_asm) (by walk_at "my_upd") (by (((try simp only [List.length_append, List.length_cons, List.length_nil, List.length_take, List.length_drop, sizeLine_eq]); omega))) ?_; k_whole); intro h' F' N'; (try k_sweep))))) | ((with_reducible ((k_here; (with_reducible show wpAny _ _ (call (Value.ref _) _) _ _ _); k_dflt (refine wpAny_call ?_; (refine' code_def (by k_asm) (by k_asm) (by k_asm) (by k_asm) (by k_asm) rfl rfl rfl (by k_is) (by k_is) (by ktr_room) (by exact BindsTo.of_eq rfl) (by exact locs rfl) ?_ (by exact rfl) (by exact rfl) (by exact rfl) (by decide); k_whole; intro g' L' h' FG' F' N' B' X' T'; (try dsimp only); (try k_fold))))))) | ((fail_if_success (fail_if_success (with_reducible show wpAny _ _ (call (Value.type "dict") _ _) _ _ _))); (with_reducible ((k_here; (with_reducible show wpAny _ _ (call (Value.type "dict") [Value.ref _]) _ _ _); k_dflt (refine' kdict (kvs := kvsL) (by rfl) (by k_asm) (by k_asm) (by assumption) (by walk_at "my_kv") (by decide) (by decide) (by exact kvs_put) ?_; k_whole); intro d' o' h' tk' F' N' l1 hd'; (try k_lt l1); (try k_sweep))))) | ((fail_if_success (fail_if_success (with_reducible show wpAny _ _ (call (Value.type "zip") _ _) _ _ _))); (with_reducible ((k_here; (with_reducible show wpAny _ _ (call (Value.type _) [Value.ref _, Value.ref _]) _ _ _); k_dflt (refine' kzip (by k_asm) (by k_asm) (by k_mem) (by k_mem) ?_; k_whole); intro z' h' F' N' Z'; (try k_sweep)))))) | walk1) | (leave1; (try dsimp only)) | fail "no step"))
    (rename News _ _ _ _ => lN)
    (rename (_ ∧ _ ∧ AllLt _ tl) => hlp)
    obtain ⟨hlp1, hlp2, hlp3⟩ := hlp
    have hlpne := ne_of_allLt hlp3
    refine loop_pile (row := row) (xv := x) rfl (by assumption) lN (List.Mem.tail _ (List.Mem.tail _ hrm)) hri hrow e3 ?_ ?_
    · clear lN
      intro pl pl' n nt vsP cP uP hP tkP I2 o2 p1 p2 p3 p4 FP NP
      have pvl := p1.len
      replace p4 := ltN p4
      rcases step_cases p3 with ⟨rfl, rfl⟩ | ⟨hn, rfl⟩ | ⟨uu, ll, rest, r, hn, rfl, hd, rfl⟩
      · (repeat' (first | (k_unfold; (try dsimp only)) | (k_end; wrow_close) | ((fail_if_success (fail_if_success (with_reducible show wpAny _ _ (execs (_ :: _) _) _ _ _))); (with_reducible refine wpAny_execs_cons ?_); k_fold) | ((fail_if_success (fail_if_success (with_reducible show wpAny _ _ (subscriptTail _ _ (Value.ref 15) (Value.str _ _)) _ _ _))); k_dflt (refine' tokAt (by k_asm) (by k_asm) (by k_is) ?_ (by with_unfolding_all rfl)); k_whole) | ((fail_if_success (fail_if_success (with_reducible show wpAny _ _ (exec (PySem.Stmt.For (PySem.Expr.Name _ _) (PySem.Expr.Name _ _) (_ :: _) [] _) _) _ _ _))); (with_reducible ((k_here; (rename Fr _ _ _ _ => lF'); (with_unfolding_all refine' For_turns lF' ?_; k_whole))))) | ((fail_if_success (fail_if_success (with_reducible show wpAny _ _ (subscriptTail _ _ _ _) _ _ _))); first | ((with_reducible ((k_here; (with_reducible show wpAny _ _ (subscriptTail _ _ (Value.ref _) (Value.int _ _)) _ _ _); k_dflt (refine' my_dget (by k_asm) (by walk_at "my_mem1") (by with_reducible assumption) (by rfl) ?_ (by with_unfolding_all rfl); k_whole)))))) | ((fail_if_success (fail_if_success (with_reducible show wpAny _ _ (call _ _ _) _ _ _))); first | ((fail_if_success (fail_if_success (with_reducible show wpAny _ _ (call (Value.builtin "list.append") _ _) _ _ _))); (with_reducible ((k_here; (with_reducible show wpAny _ _ (call (Value.builtin _) [Value.ref _, _]) _ _ _); k_dflt (refine' my_append (by k_asm) (by k_asm) (by walk_at "my_upd") (by (((try simp only [List.length_append, List.length_cons, List.length_nil, List.length_take, List.length_drop, sizeLine_eq]); omega))) ?_; k_whole); intro h' F' N'; (try k_sweep))))) | ((fail_if_success (fail_if_success (with_reducible show wpAny _ _ (call (Value.builtin "list.pop") _ _) _ _ _))); (with_reducible ((k_here; (with_reducible show wpAny _ _ (call (Value.builtin _) [Value.ref _]) _ _ _); k_dflt (refine' my_pop (by k_asm) (by k_asm) (by walk_at "my_upd") (by (((try simp only [List.length_append, List.length_cons, List.length_nil, List.length_take, List.length_drop, sizeLine_eq]); omega))) ?_; k_whole); intro h' F' N'; (try k_sweep))))) | ((with_reducible ((k_here; (with_reducible show wpAny _ _ (call (Value.ref _) _) _ _ _); k_dflt (refine wpAny_call ?_; (refine' code_def (by k_asm) (by k_asm) (by k_asm) (by k_asm) (by k_asm) rfl rfl rfl (by k_is) (by k_is) (by ktr_room) (by exact BindsTo.of_eq rfl) (by exact locs rfl) ?_ (by exact rfl) (by exact rfl) (by exact rfl) (by decide); k_whole; intro g' L' h' FG' F' N' B' X' T'; (try dsimp only); (try k_fold))))))) | ((fail_if_success (fail_if_success (with_reducible show wpAny _ _ (call (Value.type "dict") _ _) _ _ _))); (with_reducible ((k_here; (with_reducible show wpAny _ _ (call (Value.type "dict") [Value.ref _]) _ _ _); k_dflt (refine' kdict (kvs := kvsL) (by rfl) (by k_asm) (by k_asm) (by assumption) (by walk_at "my_kv") (by decide) (by decide) (by exact kvs_put) ?_; k_whole); intro d' o' h' tk' F' N' l1 hd'; (try k_lt l1); (try k_sweep))))) | ((fail_if_success (fail_if_success (with_reducible show wpAny _ _ (call (Value.type "zip") _ _) _ _ _))); (with_reducible ((k_here; (with_reducible show wpAny _ _ (call (Value.type _) [Value.ref _, Value.ref _]) _ _ _); k_dflt (refine' kzip (by k_asm) (by k_asm) (by k_mem) (by k_mem) ?_; k_whole); intro z' h' F' N' Z'; (try k_sweep)))))) | walk1 | (dsimp only; first | ((fail_if_success (fail_if_success (with_reducible show wpAny _ _ (execs (_ :: _) _) _ _ _))); (with_reducible refine wpAny_execs_cons ?_); k_fold) | ((fail_if_success (fail_if_success (with_reducible show wpAny _ _ (subscriptTail _ _ (Value.ref 15) (Value.str _ _)) _ _ _))); k_dflt (refine' tokAt (by k_asm) (by k_asm) (by k_is) ?_ (by with_unfolding_all rfl)); k_whole) | ((fail_if_success (fail_if_success (with_reducible show wpAny _ _ (exec (PySem.Stmt.For (PySem.Expr.Name _ _) (PySem.Expr.Name _ _) (_ :: _) [] _) _) _ _ _))); (with_reducible ((k_here; (rename Fr _ _ _ _ => lF'); (with_unfolding_all refine' For_turns lF' ?_; k_whole))))) | ((fail_if_success (fail_if_success (with_reducible show wpAny _ _ (subscriptTail _ _ _ _) _ _ _))); first | ((with_reducible ((k_here; (with_reducible show wpAny _ _ (subscriptTail _ _ (Value.ref _) (Value.int _ _)) _ _ _); k_dflt (refine' my_dget (by k_asm) (by walk_at "my_mem1") (by with_reducible assumption) (by rfl) ?_ (by with_unfolding_all rfl); k_whole)))))) | ((fail_if_success (fail_if_success (with_reducible show wpAny _ _ (call _ _ _) _ _ _))); first | ((fail_if_success (fail_if_success (with_reducible show wpAny _ _ (call (Value.builtin "list.append") _ _) _ _ _))); (with_reducible ((k_here; (with_reducible show wpAny _ _ (call (Value.builtin _) [Value.ref _, _]) _ _ _); k_dflt (refine' my_append (by k_asm) (by k_asm) (by walk_at "my_upd") (by (((try simp only [List.length_append, List.length_cons, List.length_nil, List.length_take, List.length_drop, sizeLine_eq]); omega))) ?_; k_whole); intro h' F' N'; (try k_sweep))))) | ((fail_if_success (fail_if_success (with_reducible show wpAny _ _ (call (Value.builtin "list.pop") _ _) _ _ _))); (with_reducible ((k_here; (with_reducible show wpAny _ _ (call (Value.builtin _) [Value.ref _]) _ _ _); k_dflt (refine' my_pop (by k_asm) (by k_asm) (by walk_at "my_upd") (by (((try simp only [List.length_append, List.length_cons, List.length_nil, List.length_take, List.length_drop, sizeLine_eq]); omega))) ?_; k_whole); intro h' F' N'; (try k_sweep))))) | ((with_reducible ((k_here; (with_reducible show wpAny _ _ (call (Value.ref _) _) _ _ _); k_dflt (refine wpAny_call ?_; (refine' code_def (by k_asm) (by k_asm) (by k_asm) (by k_asm) (by k_asm) rfl rfl rfl (by k_is) (by k_is) (by ktr_room) (by exact BindsTo.of_eq rfl) (by exact locs rfl) ?_ (by exact rfl) (by exact rfl) (by exact rfl) (by decide); k_whole; intro g' L' h' FG' F' N' B' X' T'; (try dsimp only); (try k_fold))))))) | ((fail_if_success (fail_if_success (with_reducible show wpAny _ _ (call (Value.type "dict") _ _) _ _ _))); (with_reducible ((k_here; (with_reducible show wpAny _ _ (call (Value.type "dict") [Value.ref _]) _ _ _); k_dflt (refine' kdict (kvs := kvsL) (by rfl) (by k_asm) (by k_asm) (by assumption) (by walk_at "my_kv") (by decide) (by decide) (by exact kvs_put) ?_; k_whole); intro d' o' h' tk' F' N' l1 hd'; (try k_lt l1); (try k_sweep))))) | ((fail_if_success (fail_if_success (with_reducible show wpAny _ _ (call (Value.type "zip") _ _) _ _ _))); (with_reducible ((k_here; (with_reducible show wpAny _ _ (call (Value.type _) [Value.ref _, Value.ref _]) _ _ _); k_dflt (refine' kzip (by k_asm) (by k_asm) (by k_mem) (by k_mem) ?_; k_whole); intro z' h' F' N' Z'; (try k_sweep)))))) | walk1) | (leave1; (try dsimp only)) | fail "no step"))
        ((refine' JPt.fin (by assumption) (by assumption) (by walk_at "my_sub") (by walk_at "my_sfx") (by ((refine ⟨by walk_at "my_ps", fun z h1 h2 => ?_⟩; (simp only [List.forall_mem_cons, List.not_mem_nil, false_implies, implies_true, and_true, ne_eq] at h1); (have h3 := h2); (simp only [List.contains_cons, List.contains_nil, Bool.or_false, Bool.or_eq_false_iff, beq_eq_false_iff_ne, ne_eq] at h3); (have h4 := h2); (simp only [List.contains_cons, List.contains_nil, Bool.or_false, Bool.or_eq_false_iff] at h4); first | (simp only [h1, h2, h3, if_false, Bool.false_eq_true]; done) | (simp only [h1, h3, h4, List.contains_cons, List.contains_nil, Bool.or_false, Bool.or_self, if_false, Bool.false_eq_true]; done)))) ?_))
        exact PilIs.i _ _ p1
      · (repeat' (first | (k_unfold; (try dsimp only)) | (k_end; wrow_close) | ((fail_if_success (fail_if_success (with_reducible show wpAny _ _ (execs (_ :: _) _) _ _ _))); (with_reducible refine wpAny_execs_cons ?_); k_fold) | ((fail_if_success (fail_if_success (with_reducible show wpAny _ _ (subscriptTail _ _ (Value.ref 15) (Value.str _ _)) _ _ _))); k_dflt (refine' tokAt (by k_asm) (by k_asm) (by k_is) ?_ (by with_unfolding_all rfl)); k_whole) | ((fail_if_success (fail_if_success (with_reducible show wpAny _ _ (exec (PySem.Stmt.For (PySem.Expr.Name _ _) (PySem.Expr.Name _ _) (_ :: _) [] _) _) _ _ _))); (with_reducible ((k_here; (rename Fr _ _ _ _ => lF'); (with_unfolding_all refine' For_turns lF' ?_; k_whole))))) | ((fail_if_success (fail_if_success (with_reducible show wpAny _ _ (subscriptTail _ _ _ _) _ _ _))); first | ((with_reducible ((k_here; (with_reducible show wpAny _ _ (subscriptTail _ _ (Value.ref _) (Value.int _ _)) _ _ _); k_dflt (refine' my_dget (by k_asm) (by walk_at "my_mem1") (by with_reducible assumption) (by rfl) ?_ (by with_unfolding_all rfl); k_whole)))))) | ((fail_if_success (fail_if_success (with_reducible show wpAny _ _ (call _ _ _) _ _ _))); first | ((fail_if_success (fail_if_success (with_reducible show wpAny _ _ (call (Value.builtin "list.append") _ _) _ _ _))); (with_reducible ((k_here; (with_reducible show wpAny _ _ (call (Value.builtin _) [Value.ref _, _]) _ _ _); k_dflt (refine' my_append (by k_asm) (by k_asm) (by walk_at "my_upd") (by (((try simp only [List.length_append, List.length_cons, List.length_nil, List.length_take, List.length_drop, sizeLine_eq]); omega))) ?_; k_whole); intro h' F' N'; (try k_sweep))))) | ((fail_if_success (fail_if_success (with_reducible show wpAny _ _ (call (Value.builtin "list.pop") _ _) _ _ _))); (with_reducible ((k_here; (with_reducible show wpAny _ _ (call (Value.builtin _) [Value.ref _]) _ _ _); k_dflt (refine' my_pop (by k_asm) (by k_asm) (by walk_at "my_upd") (by (((try simp only [List.length_append, List.length_cons, List.length_nil, List.length_take, List.length_drop, sizeLine_eq]); omega))) ?_; k_whole); intro h' F' N'; (try k_sweep))))) | ((with_reducible ((k_here; (with_reducible show wpAny _ _ (call (Value.ref _) _) _ _ _); k_dflt (refine wpAny_call ?_; (refine' code_def (by k_asm) (by k_asm) (by k_asm) (by k_asm) (by k_asm) rfl rfl rfl (by k_is) (by k_is) (by ktr_room) (by exact BindsTo.of_eq rfl) (by exact locs rfl) ?_ (by exact rfl) (by exact rfl) (by exact rfl) (by decide); k_whole; intro g' L' h' FG' F' N' B' X' T'; (try dsimp only); (try k_fold))))))) | ((fail_if_success (fail_if_success (with_reducible show wpAny _ _ (call (Value.type "dict") _ _) _ _ _))); (with_reducible ((k_here; (with_reducible show wpAny _ _ (call (Value.type "dict") [Value.ref _]) _ _ _); k_dflt (refine' kdict (kvs := kvsL) (by rfl) (by k_asm) (by k_asm) (by assumption) (by walk_at "my_kv") (by decide) (by decide) (by exact kvs_put) ?_; k_whole); intro d' o' h' tk' F' N' l1 hd'; (try k_lt l1); (try k_sweep))))) | ((fail_if_success (fail_if_success (with_reducible show wpAny _ _ (call (Value.type "zip") _ _) _ _ _))); (with_reducible ((k_here; (with_reducible show wpAny _ _ (call (Value.type _) [Value.ref _, Value.ref _]) _ _ _); k_dflt (refine' kzip (by k_asm) (by k_asm) (by k_mem) (by k_mem) ?_; k_whole); intro z' h' F' N' Z'; (try k_sweep)))))) | walk1 | (dsimp only; first | ((fail_if_success (fail_if_success (with_reducible show wpAny _ _ (execs (_ :: _) _) _ _ _))); (with_reducible refine wpAny_execs_cons ?_); k_fold) | ((fail_if_success (fail_if_success (with_reducible show wpAny _ _ (subscriptTail _ _ (Value.ref 15) (Value.str _ _)) _ _ _))); k_dflt (refine' tokAt (by k_asm) (by k_asm) (by k_is) ?_ (by with_unfolding_all rfl)); k_whole) | ((fail_if_success (fail_if_success (with_reducible show wpAny _ _ (exec (PySem.Stmt.For (PySem.Expr.Name _ _) (PySem.Expr.Name _ _) (_ :: _) [] _) _) _ _ _))); (with_reducible ((k_here; (rename Fr _ _ _ _ => lF'); (with_unfolding_all refine' For_turns lF' ?_; k_whole))))) | ((fail_if_success (fail_if_success (with_reducible show wpAny _ _ (subscriptTail _ _ _ _) _ _ _))); first | ((with_reducible ((k_here; (with_reducible show wpAny _ _ (subscriptTail _ _ (Value.ref _) (Value.int _ _)) _ _ _); k_dflt (refine' my_dget (by k_asm) (by walk_at "my_mem1") (by with_reducible assumption) (by rfl) ?_ (by with_unfolding_all rfl); k_whole)))))) | ((fail_if_success (fail_if_success (with_reducible show wpAny _ _ (call _ _ _) _ _ _))); first | ((fail_if_success (fail_if_success (with_reducible show wpAny _ _ (call (Value.builtin "list.append") _ _) _ _ _))); (with_reducible ((k_here; (with_reducible show wpAny _ _ (call (Value.builtin _) [Value.ref _, _]) _ _ _); k_dflt (refine' my_append (by k_asm) (by k_asm) (by walk_at "my_upd") (by (((try simp only [List.length_append, List.length_cons, List.length_nil, List.length_take, List.length_drop, sizeLine_eq]); omega))) ?_; k_whole); intro h' F' N'; (try k_sweep))))) | ((fail_if_success (fail_if_success (with_reducible show wpAny _ _ (call (Value.builtin "list.pop") _ _) _ _ _))); (with_reducible ((k_here; (with_reducible show wpAny _ _ (call (Value.builtin _) [Value.ref _]) _ _ _); k_dflt (refine' my_pop (by k_asm) (by k_asm) (by walk_at "my_upd") (by (((try simp only [List.length_append, List.length_cons, List.length_nil, List.length_take, List.length_drop, sizeLine_eq]); omega))) ?_; k_whole); intro h' F' N'; (try k_sweep))))) | ((with_reducible ((k_here; (with_reducible show wpAny _ _ (call (Value.ref _) _) _ _ _); k_dflt (refine wpAny_call ?_; (refine' code_def (by k_asm) (by k_asm) (by k_asm) (by k_asm) (by k_asm) rfl rfl rfl (by k_is) (by k_is) (by ktr_room) (by exact BindsTo.of_eq rfl) (by exact locs rfl) ?_ (by exact rfl) (by exact rfl) (by exact rfl) (by decide); k_whole; intro g' L' h' FG' F' N' B' X' T'; (try dsimp only); (try k_fold))))))) | ((fail_if_success (fail_if_success (with_reducible show wpAny _ _ (call (Value.type "dict") _ _) _ _ _))); (with_reducible ((k_here; (with_reducible show wpAny _ _ (call (Value.type "dict") [Value.ref _]) _ _ _); k_dflt (refine' kdict (kvs := kvsL) (by rfl) (by k_asm) (by k_asm) (by assumption) (by walk_at "my_kv") (by decide) (by decide) (by exact kvs_put) ?_; k_whole); intro d' o' h' tk' F' N' l1 hd'; (try k_lt l1); (try k_sweep))))) | ((fail_if_success (fail_if_success (with_reducible show wpAny _ _ (call (Value.type "zip") _ _) _ _ _))); (with_reducible ((k_here; (with_reducible show wpAny _ _ (call (Value.type _) [Value.ref _, Value.ref _]) _ _ _); k_dflt (refine' kzip (by k_asm) (by k_asm) (by k_mem) (by k_mem) ?_; k_whole); intro z' h' F' N' Z'; (try k_sweep)))))) | walk1) | (leave1; (try dsimp only)) | fail "no step"))
        all_goals first | (exfalso; omega) | skip
        ((refine' JPt.fin (by assumption) (by assumption) (by walk_at "my_sub") (by walk_at "my_sfx") (by ((refine ⟨by walk_at "my_ps", fun z h1 h2 => ?_⟩; (simp only [List.forall_mem_cons, List.not_mem_nil, false_implies, implies_true, and_true, ne_eq] at h1); (have h3 := h2); (simp only [List.contains_cons, List.contains_nil, Bool.or_false, Bool.or_eq_false_iff, beq_eq_false_iff_ne, ne_eq] at h3); (have h4 := h2); (simp only [List.contains_cons, List.contains_nil, Bool.or_false, Bool.or_eq_false_iff] at h4); first | (simp only [h1, h2, h3, if_false, Bool.false_eq_true]; done) | (simp only [h1, h3, h4, List.contains_cons, List.contains_nil, Bool.or_false, Bool.or_self, if_false, Bool.false_eq_true]; done)))) ?_))
        exact PilIs.i _ _ p1
      · rcases deed_cases hd with ⟨a, b, rfl, rfl, hc⟩ | ⟨a, b, rfl, rfl, hc⟩
        · obtain ⟨vs0, ta, tb, rfl, p1'⟩ := p1.ii
          have q1 := p1'.len
          simp only [List.length_cons] at p2
          rcases hc with ⟨rfl, rfl⟩ | ⟨rfl, rfl⟩ | ⟨rfl, rfl⟩ | ⟨rfl, rfl⟩ | ⟨rfl, rfl⟩ | ⟨rfl, rfl⟩ | ⟨rfl, hb, rfl⟩
          all_goals (repeat' (first | (k_unfold; (try dsimp only)) | (k_end; wrow_close) | ((fail_if_success (fail_if_success (with_reducible show wpAny _ _ (execs (_ :: _) _) _ _ _))); (with_reducible refine wpAny_execs_cons ?_); k_fold) | ((fail_if_success (fail_if_success (with_reducible show wpAny _ _ (subscriptTail _ _ (Value.ref 15) (Value.str _ _)) _ _ _))); k_dflt (refine' tokAt (by k_asm) (by k_asm) (by k_is) ?_ (by with_unfolding_all rfl)); k_whole) | ((fail_if_success (fail_if_success (with_reducible show wpAny _ _ (exec (PySem.Stmt.For (PySem.Expr.Name _ _) (PySem.Expr.Name _ _) (_ :: _) [] _) _) _ _ _))); (with_reducible ((k_here; (rename Fr _ _ _ _ => lF'); (with_unfolding_all refine' For_turns lF' ?_; k_whole))))) | ((fail_if_success (fail_if_success (with_reducible show wpAny _ _ (subscriptTail _ _ _ _) _ _ _))); first | ((with_reducible ((k_here; (with_reducible show wpAny _ _ (subscriptTail _ _ (Value.ref _) (Value.int _ _)) _ _ _); k_dflt (refine' my_dget (by k_asm) (by walk_at "my_mem1") (by with_reducible assumption) (by rfl) ?_ (by with_unfolding_all rfl); k_whole)))))) | ((fail_if_success (fail_if_success (with_reducible show wpAny _ _ (call _ _ _) _ _ _))); first | ((fail_if_success (fail_if_success (with_reducible show wpAny _ _ (call (Value.builtin "list.append") _ _) _ _ _))); (with_reducible ((k_here; (with_reducible show wpAny _ _ (call (Value.builtin _) [Value.ref _, _]) _ _ _); k_dflt (refine' my_append (by k_asm) (by k_asm) (by walk_at "my_upd") (by (((try simp only [List.length_append, List.length_cons, List.length_nil, List.length_take, List.length_drop, sizeLine_eq]); omega))) ?_; k_whole); intro h' F' N'; (try k_sweep))))) | ((fail_if_success (fail_if_success (with_reducible show wpAny _ _ (call (Value.builtin "list.pop") _ _) _ _ _))); (with_reducible ((k_here; (with_reducible show wpAny _ _ (call (Value.builtin _) [Value.ref _]) _ _ _); k_dflt (refine' my_pop (by k_asm) (by k_asm) (by walk_at "my_upd") (by (((try simp only [List.length_append, List.length_cons, List.length_nil, List.length_take, List.length_drop, sizeLine_eq]); omega))) ?_; k_whole); intro h' F' N'; (try k_sweep))))) | ((with_reducible ((k_here; (with_reducible show wpAny _ _ (call (Value.ref _) _) _ _ _); k_dflt (refine wpAny_call ?_; (refine' code_def (by k_asm) (by k_asm) (by k_asm) (by k_asm) (by k_asm) rfl rfl rfl (by k_is) (by k_is) (by ktr_room) (by exact BindsTo.of_eq rfl) (by exact locs rfl) ?_ (by exact rfl) (by exact rfl) (by exact rfl) (by decide); k_whole; intro g' L' h' FG' F' N' B' X' T'; (try dsimp only); (try k_fold))))))) | ((fail_if_success (fail_if_success (with_reducible show wpAny _ _ (call (Value.type "dict") _ _) _ _ _))); (with_reducible ((k_here; (with_reducible show wpAny _ _ (call (Value.type "dict") [Value.ref _]) _ _ _); k_dflt (refine' kdict (kvs := kvsL) (by rfl) (by k_asm) (by k_asm) (by assumption) (by walk_at "my_kv") (by decide) (by decide) (by exact kvs_put) ?_; k_whole); intro d' o' h' tk' F' N' l1 hd'; (try k_lt l1); (try k_sweep))))) | ((fail_if_success (fail_if_success (with_reducible show wpAny _ _ (call (Value.type "zip") _ _) _ _ _))); (with_reducible ((k_here; (with_reducible show wpAny _ _ (call (Value.type _) [Value.ref _, Value.ref _]) _ _ _); k_dflt (refine' kzip (by k_asm) (by k_asm) (by k_mem) (by k_mem) ?_; k_whole); intro z' h' F' N' Z'; (try k_sweep)))))) | walk1 | (dsimp only; first | ((fail_if_success (fail_if_success (with_reducible show wpAny _ _ (execs (_ :: _) _) _ _ _))); (with_reducible refine wpAny_execs_cons ?_); k_fold) | ((fail_if_success (fail_if_success (with_reducible show wpAny _ _ (subscriptTail _ _ (Value.ref 15) (Value.str _ _)) _ _ _))); k_dflt (refine' tokAt (by k_asm) (by k_asm) (by k_is) ?_ (by with_unfolding_all rfl)); k_whole) | ((fail_if_success (fail_if_success (with_reducible show wpAny _ _ (exec (PySem.Stmt.For (PySem.Expr.Name _ _) (PySem.Expr.Name _ _) (_ :: _) [] _) _) _ _ _))); (with_reducible ((k_here; (rename Fr _ _ _ _ => lF'); (with_unfolding_all refine' For_turns lF' ?_; k_whole))))) | ((fail_if_success (fail_if_success (with_reducible show wpAny _ _ (subscriptTail _ _ _ _) _ _ _))); first | ((with_reducible ((k_here; (with_reducible show wpAny _ _ (subscriptTail _ _ (Value.ref _) (Value.int _ _)) _ _ _); k_dflt (refine' my_dget (by k_asm) (by walk_at "my_mem1") (by with_reducible assumption) (by rfl) ?_ (by with_unfolding_all rfl); k_whole)))))) | ((fail_if_success (fail_if_success (with_reducible show wpAny _ _ (call _ _ _) _ _ _))); first | ((fail_if_success (fail_if_success (with_reducible show wpAny _ _ (call (Value.builtin "list.append") _ _) _ _ _))); (with_reducible ((k_here; (with_reducible show wpAny _ _ (call (Value.builtin _) [Value.ref _, _]) _ _ _); k_dflt (refine' my_append (by k_asm) (by k_asm) (by walk_at "my_upd") (by (((try simp only [List.length_append, List.length_cons, List.length_nil, List.length_take, List.length_drop, sizeLine_eq]); omega))) ?_; k_whole); intro h' F' N'; (try k_sweep))))) | ((fail_if_success (fail_if_success (with_reducible show wpAny _ _ (call (Value.builtin "list.pop") _ _) _ _ _))); (with_reducible ((k_here; (with_reducible show wpAny _ _ (call (Value.builtin _) [Value.ref _]) _ _ _); k_dflt (refine' my_pop (by k_asm) (by k_asm) (by walk_at "my_upd") (by (((try simp only [List.length_append, List.length_cons, List.length_nil, List.length_take, List.length_drop, sizeLine_eq]); omega))) ?_; k_whole); intro h' F' N'; (try k_sweep))))) | ((with_reducible ((k_here; (with_reducible show wpAny _ _ (call (Value.ref _) _) _ _ _); k_dflt (refine wpAny_call ?_; (refine' code_def (by k_asm) (by k_asm) (by k_asm) (by k_asm) (by k_asm) rfl rfl rfl (by k_is) (by k_is) (by ktr_room) (by exact BindsTo.of_eq rfl) (by exact locs rfl) ?_ (by exact rfl) (by exact rfl) (by exact rfl) (by decide); k_whole; intro g' L' h' FG' F' N' B' X' T'; (try dsimp only); (try k_fold))))))) | ((fail_if_success (fail_if_success (with_reducible show wpAny _ _ (call (Value.type "dict") _ _) _ _ _))); (with_reducible ((k_here; (with_reducible show wpAny _ _ (call (Value.type "dict") [Value.ref _]) _ _ _); k_dflt (refine' kdict (kvs := kvsL) (by rfl) (by k_asm) (by k_asm) (by assumption) (by walk_at "my_kv") (by decide) (by decide) (by exact kvs_put) ?_; k_whole); intro d' o' h' tk' F' N' l1 hd'; (try k_lt l1); (try k_sweep))))) | ((fail_if_success (fail_if_success (with_reducible show wpAny _ _ (call (Value.type "zip") _ _) _ _ _))); (with_reducible ((k_here; (with_reducible show wpAny _ _ (call (Value.type _) [Value.ref _, Value.ref _]) _ _ _); k_dflt (refine' kzip (by k_asm) (by k_asm) (by k_mem) (by k_mem) ?_; k_whole); intro z' h' F' N' Z'; (try k_sweep)))))) | walk1) | (leave1; (try dsimp only)) | fail "no step"))
          all_goals ((refine' JPt.fin (by assumption) (by assumption) (by walk_at "my_sub") (by walk_at "my_sfx") (by ((refine ⟨by walk_at "my_ps", fun z h1 h2 => ?_⟩; (simp only [List.forall_mem_cons, List.not_mem_nil, false_implies, implies_true, and_true, ne_eq] at h1); (have h3 := h2); (simp only [List.contains_cons, List.contains_nil, Bool.or_false, Bool.or_eq_false_iff, beq_eq_false_iff_ne, ne_eq] at h3); (have h4 := h2); (simp only [List.contains_cons, List.contains_nil, Bool.or_false, Bool.or_eq_false_iff] at h4); first | (simp only [h1, h2, h3, if_false, Bool.false_eq_true]; done) | (simp only [h1, h3, h4, List.contains_cons, List.contains_nil, Bool.or_false, Bool.or_self, if_false, Bool.false_eq_true]; done)))) ?_))
          all_goals first | exact PilIs.b _ p1' | exact PilIs.i _ _ p1'
        · obtain ⟨vs0, rfl, p1'⟩ := p1.bb
          have q1 := p1'.len
          simp only [List.length_cons] at p2
          rcases hc with ⟨rfl, rfl⟩ | ⟨rfl, rfl⟩
          all_goals (repeat' (first | (k_unfold; (try dsimp only)) | (k_end; wrow_close) | ((fail_if_success (fail_if_success (with_reducible show wpAny _ _ (execs (_ :: _) _) _ _ _))); (with_reducible refine wpAny_execs_cons ?_); k_fold) | ((fail_if_success (fail_if_success (with_reducible show wpAny _ _ (subscriptTail _ _ (Value.ref 15) (Value.str _ _)) _ _ _))); k_dflt (refine' tokAt (by k_asm) (by k_asm) (by k_is) ?_ (by with_unfolding_all rfl)); k_whole) | ((fail_if_success (fail_if_success (with_reducible show wpAny _ _ (exec (PySem.Stmt.For (PySem.Expr.Name _ _) (PySem.Expr.Name _ _) (_ :: _) [] _) _) _ _ _))); (with_reducible ((k_here; (rename Fr _ _ _ _ => lF'); (with_unfolding_all refine' For_turns lF' ?_; k_whole))))) | ((fail_if_success (fail_if_success (with_reducible show wpAny _ _ (subscriptTail _ _ _ _) _ _ _))); first | ((with_reducible ((k_here; (with_reducible show wpAny _ _ (subscriptTail _ _ (Value.ref _) (Value.int _ _)) _ _ _); k_dflt (refine' my_dget (by k_asm) (by walk_at "my_mem1") (by with_reducible assumption) (by rfl) ?_ (by with_unfolding_all rfl); k_whole)))))) | ((fail_if_success (fail_if_success (with_reducible show wpAny _ _ (call _ _ _) _ _ _))); first | ((fail_if_success (fail_if_success (with_reducible show wpAny _ _ (call (Value.builtin "list.append") _ _) _ _ _))); (with_reducible ((k_here; (with_reducible show wpAny _ _ (call (Value.builtin _) [Value.ref _, _]) _ _ _); k_dflt (refine' my_append (by k_asm) (by k_asm) (by walk_at "my_upd") (by (((try simp only [List.length_append, List.length_cons, List.length_nil, List.length_take, List.length_drop, sizeLine_eq]); omega))) ?_; k_whole); intro h' F' N'; (try k_sweep))))) | ((fail_if_success (fail_if_success (with_reducible show wpAny _ _ (call (Value.builtin "list.pop") _ _) _ _ _))); (with_reducible ((k_here; (with_reducible show wpAny _ _ (call (Value.builtin _) [Value.ref _]) _ _ _); k_dflt (refine' my_pop (by k_asm) (by k_asm) (by walk_at "my_upd") (by (((try simp only [List.length_append, List.length_cons, List.length_nil, List.length_take, List.length_drop, sizeLine_eq]); omega))) ?_; k_whole); intro h' F' N'; (try k_sweep))))) | ((with_reducible ((k_here; (with_reducible show wpAny _ _ (call (Value.ref _) _) _ _ _); k_dflt (refine wpAny_call ?_; (refine' code_def (by k_asm) (by k_asm) (by k_asm) (by k_asm) (by k_asm) rfl rfl rfl (by k_is) (by k_is) (by ktr_room) (by exact BindsTo.of_eq rfl) (by exact locs rfl) ?_ (by exact rfl) (by exact rfl) (by exact rfl) (by decide); k_whole; intro g' L' h' FG' F' N' B' X' T'; (try dsimp only); (try k_fold))))))) | ((fail_if_success (fail_if_success (with_reducible show wpAny _ _ (call (Value.type "dict") _ _) _ _ _))); (with_reducible ((k_here; (with_reducible show wpAny _ _ (call (Value.type "dict") [Value.ref _]) _ _ _); k_dflt (refine' kdict (kvs := kvsL) (by rfl) (by k_asm) (by k_asm) (by assumption) (by walk_at "my_kv") (by decide) (by decide) (by exact kvs_put) ?_; k_whole); intro d' o' h' tk' F' N' l1 hd'; (try k_lt l1); (try k_sweep))))) | ((fail_if_success (fail_if_success (with_reducible show wpAny _ _ (call (Value.type "zip") _ _) _ _ _))); (with_reducible ((k_here; (with_reducible show wpAny _ _ (call (Value.type _) [Value.ref _, Value.ref _]) _ _ _); k_dflt (refine' kzip (by k_asm) (by k_asm) (by k_mem) (by k_mem) ?_; k_whole); intro z' h' F' N' Z'; (try k_sweep)))))) | walk1 | (dsimp only; first | ((fail_if_success (fail_if_success (with_reducible show wpAny _ _ (execs (_ :: _) _) _ _ _))); (with_reducible refine wpAny_execs_cons ?_); k_fold) | ((fail_if_success (fail_if_success (with_reducible show wpAny _ _ (subscriptTail _ _ (Value.ref 15) (Value.str _ _)) _ _ _))); k_dflt (refine' tokAt (by k_asm) (by k_asm) (by k_is) ?_ (by with_unfolding_all rfl)); k_whole) | ((fail_if_success (fail_if_success (with_reducible show wpAny _ _ (exec (PySem.Stmt.For (PySem.Expr.Name _ _) (PySem.Expr.Name _ _) (_ :: _) [] _) _) _ _ _))); (with_reducible ((k_here; (rename Fr _ _ _ _ => lF'); (with_unfolding_all refine' For_turns lF' ?_; k_whole))))) | ((fail_if_success (fail_if_success (with_reducible show wpAny _ _ (subscriptTail _ _ _ _) _ _ _))); first | ((with_reducible ((k_here; (with_reducible show wpAny _ _ (subscriptTail _ _ (Value.ref _) (Value.int _ _)) _ _ _); k_dflt (refine' my_dget (by k_asm) (by walk_at "my_mem1") (by with_reducible assumption) (by rfl) ?_ (by with_unfolding_all rfl); k_whole)))))) | ((fail_if_success (fail_if_success (with_reducible show wpAny _ _ (call _ _ _) _ _ _))); first | ((fail_if_success (fail_if_success (with_reducible show wpAny _ _ (call (Value.builtin "list.append") _ _) _ _ _))); (with_reducible ((k_here; (with_reducible show wpAny _ _ (call (Value.builtin _) [Value.ref _, _]) _ _ _); k_dflt (refine' my_append (by k_asm) (by k_asm) (by walk_at "my_upd") (by (((try simp only [List.length_append, List.length_cons, List.length_nil, List.length_take, List.length_drop, sizeLine_eq]); omega))) ?_; k_whole); intro h' F' N'; (try k_sweep))))) | ((fail_if_success (fail_if_success (with_reducible show wpAny _ _ (call (Value.builtin "list.pop") _ _) _ _ _))); (with_reducible ((k_here; (with_reducible show wpAny _ _ (call (Value.builtin _) [Value.ref _]) _ _ _); k_dflt (refine' my_pop (by k_asm) (by k_asm) (by walk_at "my_upd") (by (((try simp only [List.length_append, List.length_cons, List.length_nil, List.length_take, List.length_drop, sizeLine_eq]); omega))) ?_; k_whole); intro h' F' N'; (try k_sweep))))) | ((with_reducible ((k_here; (with_reducible show wpAny _ _ (call (Value.ref _) _) _ _ _); k_dflt (refine wpAny_call ?_; (refine' code_def (by k_asm) (by k_asm) (by k_asm) (by k_asm) (by k_asm) rfl rfl rfl (by k_is) (by k_is) (by ktr_room) (by exact BindsTo.of_eq rfl) (by exact locs rfl) ?_ (by exact rfl) (by exact rfl) (by exact rfl) (by decide); k_whole; intro g' L' h' FG' F' N' B' X' T'; (try dsimp only); (try k_fold))))))) | ((fail_if_success (fail_if_success (with_reducible show wpAny _ _ (call (Value.type "dict") _ _) _ _ _))); (with_reducible ((k_here; (with_reducible show wpAny _ _ (call (Value.type "dict") [Value.ref _]) _ _ _); k_dflt (refine' kdict (kvs := kvsL) (by rfl) (by k_asm) (by k_asm) (by assumption) (by walk_at "my_kv") (by decide) (by decide) (by exact kvs_put) ?_; k_whole); intro d' o' h' tk' F' N' l1 hd'; (try k_lt l1); (try k_sweep))))) | ((fail_if_success (fail_if_success (with_reducible show wpAny _ _ (call (Value.type "zip") _ _) _ _ _))); (with_reducible ((k_here; (with_reducible show wpAny _ _ (call (Value.type _) [Value.ref _, Value.ref _]) _ _ _); k_dflt (refine' kzip (by k_asm) (by k_asm) (by k_mem) (by k_mem) ?_; k_whole); intro z' h' F' N' Z'; (try k_sweep)))))) | walk1) | (leave1; (try dsimp only)) | fail "no step"))
          all_goals ((refine' JPt.fin (by assumption) (by assumption) (by walk_at "my_sub") (by walk_at "my_sfx") (by ((refine ⟨by walk_at "my_ps", fun z h1 h2 => ?_⟩; (simp only [List.forall_mem_cons, List.not_mem_nil, false_implies, implies_true, and_true, ne_eq] at h1); (have h3 := h2); (simp only [List.contains_cons, List.contains_nil, Bool.or_false, Bool.or_eq_false_iff, beq_eq_false_iff_ne, ne_eq] at h3); (have h4 := h2); (simp only [List.contains_cons, List.contains_nil, Bool.or_false, Bool.or_eq_false_iff] at h4); first | (simp only [h1, h2, h3, if_false, Bool.false_eq_true]; done) | (simp only [h1, h3, h4, List.contains_cons, List.contains_nil, Bool.or_false, Bool.or_self, if_false, Bool.false_eq_true]; done)))) ?_))
          all_goals exact PilIs.b _ p1'
    · intro cP uP hP tkP FP NP
      cases b
      · (repeat' (first | (k_unfold; (try dsimp only)) | (k_end; wrow_close) | ((fail_if_success (fail_if_success (with_reducible show wpAny _ _ (execs (_ :: _) _) _ _ _))); (with_reducible refine wpAny_execs_cons ?_); k_fold) | ((fail_if_success (fail_if_success (with_reducible show wpAny _ _ (subscriptTail _ _ (Value.ref 15) (Value.str _ _)) _ _ _))); k_dflt (refine' tokAt (by k_asm) (by k_asm) (by k_is) ?_ (by with_unfolding_all rfl)); k_whole) | ((fail_if_success (fail_if_success (with_reducible show wpAny _ _ (exec (PySem.Stmt.For (PySem.Expr.Name _ _) (PySem.Expr.Name _ _) (_ :: _) [] _) _) _ _ _))); (with_reducible ((k_here; (rename Fr _ _ _ _ => lF'); (with_unfolding_all refine' For_turns lF' ?_; k_whole))))) | ((fail_if_success (fail_if_success (with_reducible show wpAny _ _ (subscriptTail _ _ _ _) _ _ _))); first | ((with_reducible ((k_here; (with_reducible show wpAny _ _ (subscriptTail _ _ (Value.ref _) (Value.int _ _)) _ _ _); k_dflt (refine' my_dget (by k_asm) (by walk_at "my_mem1") (by with_reducible assumption) (by rfl) ?_ (by with_unfolding_all rfl); k_whole)))))) | ((fail_if_success (fail_if_success (with_reducible show wpAny _ _ (call _ _ _) _ _ _))); first | ((fail_if_success (fail_if_success (with_reducible show wpAny _ _ (call (Value.builtin "list.append") _ _) _ _ _))); (with_reducible ((k_here; (with_reducible show wpAny _ _ (call (Value.builtin _) [Value.ref _, _]) _ _ _); k_dflt (refine' my_append (by k_asm) (by k_asm) (by walk_at "my_upd") (by (((try simp only [List.length_append, List.length_cons, List.length_nil, List.length_take, List.length_drop, sizeLine_eq]); omega))) ?_; k_whole); intro h' F' N'; (try k_sweep))))) | ((fail_if_success (fail_if_success (with_reducible show wpAny _ _ (call (Value.builtin "list.pop") _ _) _ _ _))); (with_reducible ((k_here; (with_reducible show wpAny _ _ (call (Value.builtin _) [Value.ref _]) _ _ _); k_dflt (refine' my_pop (by k_asm) (by k_asm) (by walk_at "my_upd") (by (((try simp only [List.length_append, List.length_cons, List.length_nil, List.length_take, List.length_drop, sizeLine_eq]); omega))) ?_; k_whole); intro h' F' N'; (try k_sweep))))) | ((with_reducible ((k_here; (with_reducible show wpAny _ _ (call (Value.ref _) _) _ _ _); k_dflt (refine wpAny_call ?_; (refine' code_def (by k_asm) (by k_asm) (by k_asm) (by k_asm) (by k_asm) rfl rfl rfl (by k_is) (by k_is) (by ktr_room) (by exact BindsTo.of_eq rfl) (by exact locs rfl) ?_ (by exact rfl) (by exact rfl) (by exact rfl) (by decide); k_whole; intro g' L' h' FG' F' N' B' X' T'; (try dsimp only); (try k_fold))))))) | ((fail_if_success (fail_if_success (with_reducible show wpAny _ _ (call (Value.type "dict") _ _) _ _ _))); (with_reducible ((k_here; (with_reducible show wpAny _ _ (call (Value.type "dict") [Value.ref _]) _ _ _); k_dflt (refine' kdict (kvs := kvsL) (by rfl) (by k_asm) (by k_asm) (by assumption) (by walk_at "my_kv") (by decide) (by decide) (by exact kvs_put) ?_; k_whole); intro d' o' h' tk' F' N' l1 hd'; (try k_lt l1); (try k_sweep))))) | ((fail_if_success (fail_if_success (with_reducible show wpAny _ _ (call (Value.type "zip") _ _) _ _ _))); (with_reducible ((k_here; (with_reducible show wpAny _ _ (call (Value.type _) [Value.ref _, Value.ref _]) _ _ _); k_dflt (refine' kzip (by k_asm) (by k_asm) (by k_mem) (by k_mem) ?_; k_whole); intro z' h' F' N' Z'; (try k_sweep)))))) | walk1 | (dsimp only; first | ((fail_if_success (fail_if_success (with_reducible show wpAny _ _ (execs (_ :: _) _) _ _ _))); (with_reducible refine wpAny_execs_cons ?_); k_fold) | ((fail_if_success (fail_if_success (with_reducible show wpAny _ _ (subscriptTail _ _ (Value.ref 15) (Value.str _ _)) _ _ _))); k_dflt (refine' tokAt (by k_asm) (by k_asm) (by k_is) ?_ (by with_unfolding_all rfl)); k_whole) | ((fail_if_success (fail_if_success (with_reducible show wpAny _ _ (exec (PySem.Stmt.For (PySem.Expr.Name _ _) (PySem.Expr.Name _ _) (_ :: _) [] _) _) _ _ _))); (with_reducible ((k_here; (rename Fr _ _ _ _ => lF'); (with_unfolding_all refine' For_turns lF' ?_; k_whole))))) | ((fail_if_success (fail_if_success (with_reducible show wpAny _ _ (subscriptTail _ _ _ _) _ _ _))); first | ((with_reducible ((k_here; (with_reducible show wpAny _ _ (subscriptTail _ _ (Value.ref _) (Value.int _ _)) _ _ _); k_dflt (refine' my_dget (by k_asm) (by walk_at "my_mem1") (by with_reducible assumption) (by rfl) ?_ (by with_unfolding_all rfl); k_whole)))))) | ((fail_if_success (fail_if_success (with_reducible show wpAny _ _ (call _ _ _) _ _ _))); first | ((fail_if_success (fail_if_success (with_reducible show wpAny _ _ (call (Value.builtin "list.append") _ _) _ _ _))); (with_reducible ((k_here; (with_reducible show wpAny _ _ (call (Value.builtin _) [Value.ref _, _]) _ _ _); k_dflt (refine' my_append (by k_asm) (by k_asm) (by walk_at "my_upd") (by (((try simp only [List.length_append, List.length_cons, List.length_nil, List.length_take, List.length_drop, sizeLine_eq]); omega))) ?_; k_whole); intro h' F' N'; (try k_sweep))))) | ((fail_if_success (fail_if_success (with_reducible show wpAny _ _ (call (Value.builtin "list.pop") _ _) _ _ _))); (with_reducible ((k_here; (with_reducible show wpAny _ _ (call (Value.builtin _) [Value.ref _]) _ _ _); k_dflt (refine' my_pop (by k_asm) (by k_asm) (by walk_at "my_upd") (by (((try simp only [List.length_append, List.length_cons, List.length_nil, List.length_take, List.length_drop, sizeLine_eq]); omega))) ?_; k_whole); intro h' F' N'; (try k_sweep))))) | ((with_reducible ((k_here; (with_reducible show wpAny _ _ (call (Value.ref _) _) _ _ _); k_dflt (refine wpAny_call ?_; (refine' code_def (by k_asm) (by k_asm) (by k_asm) (by k_asm) (by k_asm) rfl rfl rfl (by k_is) (by k_is) (by ktr_room) (by exact BindsTo.of_eq rfl) (by exact locs rfl) ?_ (by exact rfl) (by exact rfl) (by exact rfl) (by decide); k_whole; intro g' L' h' FG' F' N' B' X' T'; (try dsimp only); (try k_fold))))))) | ((fail_if_success (fail_if_success (with_reducible show wpAny _ _ (call (Value.type "dict") _ _) _ _ _))); (with_reducible ((k_here; (with_reducible show wpAny _ _ (call (Value.type "dict") [Value.ref _]) _ _ _); k_dflt (refine' kdict (kvs := kvsL) (by rfl) (by k_asm) (by k_asm) (by assumption) (by walk_at "my_kv") (by decide) (by decide) (by exact kvs_put) ?_; k_whole); intro d' o' h' tk' F' N' l1 hd'; (try k_lt l1); (try k_sweep))))) | ((fail_if_success (fail_if_success (with_reducible show wpAny _ _ (call (Value.type "zip") _ _) _ _ _))); (with_reducible ((k_here; (with_reducible show wpAny _ _ (call (Value.type _) [Value.ref _, Value.ref _]) _ _ _); k_dflt (refine' kzip (by k_asm) (by k_asm) (by k_mem) (by k_mem) ?_; k_whole); intro z' h' F' N' Z'; (try k_sweep)))))) | walk1) | (leave1; (try dsimp only)) | fail "no step"))
        ((refine' JXt.fin (by assumption) (by assumption) (by walk_at "my_sub") (by walk_at "my_sfx") (by ((refine ⟨by walk_at "my_ps", fun z h1 h2 => ?_⟩; (simp only [List.forall_mem_cons, List.not_mem_nil, false_implies, implies_true, and_true, ne_eq] at h1); (have h3 := h2); (simp only [List.contains_cons, List.contains_nil, Bool.or_false, Bool.or_eq_false_iff, beq_eq_false_iff_ne, ne_eq] at h3); (have h4 := h2); (simp only [List.contains_cons, List.contains_nil, Bool.or_false, Bool.or_eq_false_iff] at h4); first | (simp only [h1, h2, h3, if_false, Bool.false_eq_true]; done) | (simp only [h1, h3, h4, List.contains_cons, List.contains_nil, Bool.or_false, Bool.or_self, if_false, Bool.false_eq_true]; done)))) ?_))
        exact e1
      · (repeat' (first | (k_unfold; (try dsimp only)) | (k_end; wrow_close) | ((fail_if_success (fail_if_success (with_reducible show wpAny _ _ (execs (_ :: _) _) _ _ _))); (with_reducible refine wpAny_execs_cons ?_); k_fold) | ((fail_if_success (fail_if_success (with_reducible show wpAny _ _ (subscriptTail _ _ (Value.ref 15) (Value.str _ _)) _ _ _))); k_dflt (refine' tokAt (by k_asm) (by k_asm) (by k_is) ?_ (by with_unfolding_all rfl)); k_whole) | ((fail_if_success (fail_if_success (with_reducible show wpAny _ _ (exec (PySem.Stmt.For (PySem.Expr.Name _ _) (PySem.Expr.Name _ _) (_ :: _) [] _) _) _ _ _))); (with_reducible ((k_here; (rename Fr _ _ _ _ => lF'); (with_unfolding_all refine' For_turns lF' ?_; k_whole))))) | ((fail_if_success (fail_if_success (with_reducible show wpAny _ _ (subscriptTail _ _ _ _) _ _ _))); first | ((with_reducible ((k_here; (with_reducible show wpAny _ _ (subscriptTail _ _ (Value.ref _) (Value.int _ _)) _ _ _); k_dflt (refine' my_dget (by k_asm) (by walk_at "my_mem1") (by with_reducible assumption) (by rfl) ?_ (by with_unfolding_all rfl); k_whole)))))) | ((fail_if_success (fail_if_success (with_reducible show wpAny _ _ (call _ _ _) _ _ _))); first | ((fail_if_success (fail_if_success (with_reducible show wpAny _ _ (call (Value.builtin "list.append") _ _) _ _ _))); (with_reducible ((k_here; (with_reducible show wpAny _ _ (call (Value.builtin _) [Value.ref _, _]) _ _ _); k_dflt (refine' my_append (by k_asm) (by k_asm) (by walk_at "my_upd") (by (((try simp only [List.length_append, List.length_cons, List.length_nil, List.length_take, List.length_drop, sizeLine_eq]); omega))) ?_; k_whole); intro h' F' N'; (try k_sweep))))) | ((fail_if_success (fail_if_success (with_reducible show wpAny _ _ (call (Value.builtin "list.pop") _ _) _ _ _))); (with_reducible ((k_here; (with_reducible show wpAny _ _ (call (Value.builtin _) [Value.ref _]) _ _ _); k_dflt (refine' my_pop (by k_asm) (by k_asm) (by walk_at "my_upd") (by (((try simp only [List.length_append, List.length_cons, List.length_nil, List.length_take, List.length_drop, sizeLine_eq]); omega))) ?_; k_whole); intro h' F' N'; (try k_sweep))))) | ((with_reducible ((k_here; (with_reducible show wpAny _ _ (call (Value.ref _) _) _ _ _); k_dflt (refine wpAny_call ?_; (refine' code_def (by k_asm) (by k_asm) (by k_asm) (by k_asm) (by k_asm) rfl rfl rfl (by k_is) (by k_is) (by ktr_room) (by exact BindsTo.of_eq rfl) (by exact locs rfl) ?_ (by exact rfl) (by exact rfl) (by exact rfl) (by decide); k_whole; intro g' L' h' FG' F' N' B' X' T'; (try dsimp only); (try k_fold))))))) | ((fail_if_success (fail_if_success (with_reducible show wpAny _ _ (call (Value.type "dict") _ _) _ _ _))); (with_reducible ((k_here; (with_reducible show wpAny _ _ (call (Value.type "dict") [Value.ref _]) _ _ _); k_dflt (refine' kdict (kvs := kvsL) (by rfl) (by k_asm) (by k_asm) (by assumption) (by walk_at "my_kv") (by decide) (by decide) (by exact kvs_put) ?_; k_whole); intro d' o' h' tk' F' N' l1 hd'; (try k_lt l1); (try k_sweep))))) | ((fail_if_success (fail_if_success (with_reducible show wpAny _ _ (call (Value.type "zip") _ _) _ _ _))); (with_reducible ((k_here; (with_reducible show wpAny _ _ (call (Value.type _) [Value.ref _, Value.ref _]) _ _ _); k_dflt (refine' kzip (by k_asm) (by k_asm) (by k_mem) (by k_mem) ?_; k_whole); intro z' h' F' N' Z'; (try k_sweep)))))) | walk1 | (dsimp only; first | ((fail_if_success (fail_if_success (with_reducible show wpAny _ _ (execs (_ :: _) _) _ _ _))); (with_reducible refine wpAny_execs_cons ?_); k_fold) | ((fail_if_success (fail_if_success (with_reducible show wpAny _ _ (subscriptTail _ _ (Value.ref 15) (Value.str _ _)) _ _ _))); k_dflt (refine' tokAt (by k_asm) (by k_asm) (by k_is) ?_ (by with_unfolding_all rfl)); k_whole) | ((fail_if_success (fail_if_success (with_reducible show wpAny _ _ (exec (PySem.Stmt.For (PySem.Expr.Name _ _) (PySem.Expr.Name _ _) (_ :: _) [] _) _) _ _ _))); (with_reducible ((k_here; (rename Fr _ _ _ _ => lF'); (with_unfolding_all refine' For_turns lF' ?_; k_whole))))) | ((fail_if_success (fail_if_success (with_reducible show wpAny _ _ (subscriptTail _ _ _ _) _ _ _))); first | ((with_reducible ((k_here; (with_reducible show wpAny _ _ (subscriptTail _ _ (Value.ref _) (Value.int _ _)) _ _ _); k_dflt (refine' my_dget (by k_asm) (by walk_at "my_mem1") (by with_reducible assumption) (by rfl) ?_ (by with_unfolding_all rfl); k_whole)))))) | ((fail_if_success (fail_if_success (with_reducible show wpAny _ _ (call _ _ _) _ _ _))); first | ((fail_if_success (fail_if_success (with_reducible show wpAny _ _ (call (Value.builtin "list.append") _ _) _ _ _))); (with_reducible ((k_here; (with_reducible show wpAny _ _ (call (Value.builtin _) [Value.ref _, _]) _ _ _); k_dflt (refine' my_append (by k_asm) (by k_asm) (by walk_at "my_upd") (by (((try simp only [List.length_append, List.length_cons, List.length_nil, List.length_take, List.length_drop, sizeLine_eq]); omega))) ?_; k_whole); intro h' F' N'; (try k_sweep))))) | ((fail_if_success (fail_if_success (with_reducible show wpAny _ _ (call (Value.builtin "list.pop") _ _) _ _ _))); (with_reducible ((k_here; (with_reducible show wpAny _ _ (call (Value.builtin _) [Value.ref _]) _ _ _); k_dflt (refine' my_pop (by k_asm) (by k_asm) (by walk_at "my_upd") (by (((try simp only [List.length_append, List.length_cons, List.length_nil, List.length_take, List.length_drop, sizeLine_eq]); omega))) ?_; k_whole); intro h' F' N'; (try k_sweep))))) | ((with_reducible ((k_here; (with_reducible show wpAny _ _ (call (Value.ref _) _) _ _ _); k_dflt (refine wpAny_call ?_; (refine' code_def (by k_asm) (by k_asm) (by k_asm) (by k_asm) (by k_asm) rfl rfl rfl (by k_is) (by k_is) (by ktr_room) (by exact BindsTo.of_eq rfl) (by exact locs rfl) ?_ (by exact rfl) (by exact rfl) (by exact rfl) (by decide); k_whole; intro g' L' h' FG' F' N' B' X' T'; (try dsimp only); (try k_fold))))))) | ((fail_if_success (fail_if_success (with_reducible show wpAny _ _ (call (Value.type "dict") _ _) _ _ _))); (with_reducible ((k_here; (with_reducible show wpAny _ _ (call (Value.type "dict") [Value.ref _]) _ _ _); k_dflt (refine' kdict (kvs := kvsL) (by rfl) (by k_asm) (by k_asm) (by assumption) (by walk_at "my_kv") (by decide) (by decide) (by exact kvs_put) ?_; k_whole); intro d' o' h' tk' F' N' l1 hd'; (try k_lt l1); (try k_sweep))))) | ((fail_if_success (fail_if_success (with_reducible show wpAny _ _ (call (Value.type "zip") _ _) _ _ _))); (with_reducible ((k_here; (with_reducible show wpAny _ _ (call (Value.type _) [Value.ref _, Value.ref _]) _ _ _); k_dflt (refine' kzip (by k_asm) (by k_asm) (by k_mem) (by k_mem) ?_; k_whole); intro z' h' F' N' Z'; (try k_sweep)))))) | walk1) | (leave1; (try dsimp only)) | fail "no step"))
        ((refine' JXt.fin (by assumption) (by assumption) (by walk_at "my_sub") (by walk_at "my_sfx") (by ((refine ⟨by walk_at "my_ps", fun z h1 h2 => ?_⟩; (simp only [List.forall_mem_cons, List.not_mem_nil, false_implies, implies_true, and_true, ne_eq] at h1); (have h3 := h2); (simp only [List.contains_cons, List.contains_nil, Bool.or_false, Bool.or_eq_false_iff, beq_eq_false_iff_ne, ne_eq] at h3); (have h4 := h2); (simp only [List.contains_cons, List.contains_nil, Bool.or_false, Bool.or_eq_false_iff] at h4); first | (simp only [h1, h2, h3, if_false, Bool.false_eq_true]; done) | (simp only [h1, h3, h4, List.contains_cons, List.contains_nil, Bool.or_false, Bool.or_self, if_false, Bool.false_eq_true]; done)))) ?_))
        exact intsAre_snoc e1
  · intro vs c u h tk e1 F' N'
    (repeat' (first | (k_unfold; (try dsimp only)) | (k_end; wrow_close) | ((fail_if_success (fail_if_success (with_reducible show wpAny _ _ (execs (_ :: _) _) _ _ _))); (with_reducible refine wpAny_execs_cons ?_); k_fold) | ((fail_if_success (fail_if_success (with_reducible show wpAny _ _ (subscriptTail _ _ (Value.ref 15) (Value.str _ _)) _ _ _))); k_dflt (refine' tokAt (by k_asm) (by k_asm) (by k_is) ?_ (by with_unfolding_all rfl)); k_whole) | ((fail_if_success (fail_if_success (with_reducible show wpAny _ _ (exec (PySem.Stmt.For (PySem.Expr.Name _ _) (PySem.Expr.Name _ _) (_ :: _) [] _) _) _ _ _))); (with_reducible ((k_here; (rename Fr _ _ _ _ => lF'); (with_unfolding_all refine' For_turns lF' ?_; k_whole))))) | ((fail_if_success (fail_if_success (with_reducible show wpAny _ _ (subscriptTail _ _ _ _) _ _ _))); first | ((with_reducible ((k_here; (with_reducible show wpAny _ _ (subscriptTail _ _ (Value.ref _) (Value.int _ _)) _ _ _); k_dflt (refine' my_dget (by k_asm) (by walk_at "my_mem1") (by with_reducible assumption) (by rfl) ?_ (by with_unfolding_all rfl); k_whole)))))) | ((fail_if_success (fail_if_success (with_reducible show wpAny _ _ (call _ _ _) _ _ _))); first | ((fail_if_success (fail_if_success (with_reducible show wpAny _ _ (call (Value.builtin "list.append") _ _) _ _ _))); (with_reducible ((k_here; (with_reducible show wpAny _ _ (call (Value.builtin _) [Value.ref _, _]) _ _ _); k_dflt (refine' my_append (by k_asm) (by k_asm) (by walk_at "my_upd") (by (((try simp only [List.length_append, List.length_cons, List.length_nil, List.length_take, List.length_drop, sizeLine_eq]); omega))) ?_; k_whole); intro h' F' N'; (try k_sweep))))) | ((fail_if_success (fail_if_success (with_reducible show wpAny _ _ (call (Value.builtin "list.pop") _ _) _ _ _))); (with_reducible ((k_here; (with_reducible show wpAny _ _ (call (Value.builtin _) [Value.ref _]) _ _ _); k_dflt (refine' my_pop (by k_asm) (by k_asm) (by walk_at "my_upd") (by (((try simp only [List.length_append, List.length_cons, List.length_nil, List.length_take, List.length_drop, sizeLine_eq]); omega))) ?_; k_whole); intro h' F' N'; (try k_sweep))))) | ((with_reducible ((k_here; (with_reducible show wpAny _ _ (call (Value.ref _) _) _ _ _); k_dflt (refine wpAny_call ?_; (refine' code_def (by k_asm) (by k_asm) (by k_asm) (by k_asm) (by k_asm) rfl rfl rfl (by k_is) (by k_is) (by ktr_room) (by exact BindsTo.of_eq rfl) (by exact locs rfl) ?_ (by exact rfl) (by exact rfl) (by exact rfl) (by decide); k_whole; intro g' L' h' FG' F' N' B' X' T'; (try dsimp only); (try k_fold))))))) | ((fail_if_success (fail_if_success (with_reducible show wpAny _ _ (call (Value.type "dict") _ _) _ _ _))); (with_reducible ((k_here; (with_reducible show wpAny _ _ (call (Value.type "dict") [Value.ref _]) _ _ _); k_dflt (refine' kdict (kvs := kvsL) (by rfl) (by k_asm) (by k_asm) (by assumption) (by walk_at "my_kv") (by decide) (by decide) (by exact kvs_put) ?_; k_whole); intro d' o' h' tk' F' N' l1 hd'; (try k_lt l1); (try k_sweep))))) | ((fail_if_success (fail_if_success (with_reducible show wpAny _ _ (call (Value.type "zip") _ _) _ _ _))); (with_reducible ((k_here; (with_reducible show wpAny _ _ (call (Value.type _) [Value.ref _, Value.ref _]) _ _ _); k_dflt (refine' kzip (by k_asm) (by k_asm) (by k_mem) (by k_mem) ?_; k_whole); intro z' h' F' N' Z'; (try k_sweep)))))) | walk1 | (dsimp only; first | ((fail_if_success (fail_if_success (with_reducible show wpAny _ _ (execs (_ :: _) _) _ _ _))); (with_reducible refine wpAny_execs_cons ?_); k_fold) | ((fail_if_success (fail_if_success (with_reducible show wpAny _ _ (subscriptTail _ _ (Value.ref 15) (Value.str _ _)) _ _ _))); k_dflt (refine' tokAt (by k_asm) (by k_asm) (by k_is) ?_ (by with_unfolding_all rfl)); k_whole) | ((fail_if_success (fail_if_success (with_reducible show wpAny _ _ (exec (PySem.Stmt.For (PySem.Expr.Name _ _) (PySem.Expr.Name _ _) (_ :: _) [] _) _) _ _ _))); (with_reducible ((k_here; (rename Fr _ _ _ _ => lF'); (with_unfolding_all refine' For_turns lF' ?_; k_whole))))) | ((fail_if_success (fail_if_success (with_reducible show wpAny _ _ (subscriptTail _ _ _ _) _ _ _))); first | ((with_reducible ((k_here; (with_reducible show wpAny _ _ (subscriptTail _ _ (Value.ref _) (Value.int _ _)) _ _ _); k_dflt (refine' my_dget (by k_asm) (by walk_at "my_mem1") (by with_reducible assumption) (by rfl) ?_ (by with_unfolding_all rfl); k_whole)))))) | ((fail_if_success (fail_if_success (with_reducible show wpAny _ _ (call _ _ _) _ _ _))); first | ((fail_if_success (fail_if_success (with_reducible show wpAny _ _ (call (Value.builtin "list.append") _ _) _ _ _))); (with_reducible ((k_here; (with_reducible show wpAny _ _ (call (Value.builtin _) [Value.ref _, _]) _ _ _); k_dflt (refine' my_append (by k_asm) (by k_asm) (by walk_at "my_upd") (by (((try simp only [List.length_append, List.length_cons, List.length_nil, List.length_take, List.length_drop, sizeLine_eq]); omega))) ?_; k_whole); intro h' F' N'; (try k_sweep))))) | ((fail_if_success (fail_if_success (with_reducible show wpAny _ _ (call (Value.builtin "list.pop") _ _) _ _ _))); (with_reducible ((k_here; (with_reducible show wpAny _ _ (call (Value.builtin _) [Value.ref _]) _ _ _); k_dflt (refine' my_pop (by k_asm) (by k_asm) (by walk_at "my_upd") (by (((try simp only [List.length_append, List.length_cons, List.length_nil, List.length_take, List.length_drop, sizeLine_eq]); omega))) ?_; k_whole); intro h' F' N'; (try k_sweep))))) | ((with_reducible ((k_here; (with_reducible show wpAny _ _ (call (Value.ref _) _) _ _ _); k_dflt (refine wpAny_call ?_; (refine' code_def (by k_asm) (by k_asm) (by k_asm) (by k_asm) (by k_asm) rfl rfl rfl (by k_is) (by k_is) (by ktr_room) (by exact BindsTo.of_eq rfl) (by exact locs rfl) ?_ (by exact rfl) (by exact rfl) (by exact rfl) (by decide); k_whole; intro g' L' h' FG' F' N' B' X' T'; (try dsimp only); (try k_fold))))))) | ((fail_if_success (fail_if_success (with_reducible show wpAny _ _ (call (Value.type "dict") _ _) _ _ _))); (with_reducible ((k_here; (with_reducible show wpAny _ _ (call (Value.type "dict") [Value.ref _]) _ _ _); k_dflt (refine' kdict (kvs := kvsL) (by rfl) (by k_asm) (by k_asm) (by assumption) (by walk_at "my_kv") (by decide) (by decide) (by exact kvs_put) ?_; k_whole); intro d' o' h' tk' F' N' l1 hd'; (try k_lt l1); (try k_sweep))))) | ((fail_if_success (fail_if_success (with_reducible show wpAny _ _ (call (Value.type "zip") _ _) _ _ _))); (with_reducible ((k_here; (with_reducible show wpAny _ _ (call (Value.type _) [Value.ref _, Value.ref _]) _ _ _); k_dflt (refine' kzip (by k_asm) (by k_asm) (by k_mem) (by k_mem) ?_; k_whole); intro z' h' F' N' Z'; (try k_sweep)))))) | walk1) | (leave1; (try dsimp only)) | fail "no step"))
    rename News h₀ _ _ _ => lN
    exact ret _ _ _ _ _ (by assumption) (cb_drop lN (List.forall_mem_cons.mpr ⟨List.Mem.head _, fun p hp => List.Mem.tail _ (hnews p hp)⟩)) (fun q hq => ktn_ltOf hlt q (hnews q hq)) e1
end
section
theorem call_true {w : World} {p : Program} {loose : List Str} {mean : ExcName → Option Value} {mg mb : Str → Option Value} {dp un : Nat} {gd : Option (List Code)} {cn : Str} {cs : Scope} {a : Addr} {ccd : Value} {cl : List (Str × Addr)} {outer : List Env} {A₀ : Around} {base h₀ : Heap} {L : Addr} {m : Str → Option Value} {news : List (Addr × Obj)} {s : Shared} {Q E : Value → Shared → Prop}
    {lm : Addr} {l0 l1 l2 : Addr} {cm : Nat} {d0 d1 d2 : MT} {j x : Int} {tj tx : Tok}
    (B : Below A₀ base outer h₀) (F : Fr h₀ L s.heap m) (X : (hd.heap_39 w.params).In h₀) (N : News h₀ L s.heap news) (T : Top p loose mean mg mb h₀) (hk : cs.kind = .function) (hdp : dp + 4 < recursionLimit) (hun : un + 40 < cLine)
    (hm : (lm, W.listOf #[.ref l0, .ref l1, .ref l2] cm) ∈ news) (h0 : MeantIs news l0 d0) (h1 : MeantIs news l1 d1) (h2 : MeantIs news l2 d2) (hj : 0 ≤ j ∧ j < 4)
    (ret : ∀ h' tk', Fr h₀ L h' m → News h₀ L h' news → Q (.bool (trueOf d0 d1 d2 j x)) { s with heap := h', toks := tk' }) :
    wpAny (model PySem.Challenge.rw_wj0027_01.row.prog w) (ktrTop dp un gd cn cs L a ccd cl outer) (call (.ref 149) [.ref lm, .int j tj, .int x tx]) Q E s
   := by
  w_top off; revert X; k_fill; intro X
  refine wpAny_call ?_
  k_dflt ktr_enter
  (repeat' (first | (k_unfold; (try dsimp only)) | (k_end; wrow_close) | ((fail_if_success (fail_if_success (with_reducible show wpAny _ _ (execs (_ :: _) _) _ _ _))); (with_reducible refine wpAny_execs_cons ?_); k_fold) | ((fail_if_success (fail_if_success (with_reducible show wpAny _ _ (exec (PySem.Stmt.For (PySem.Expr.Tuple _ _ _) (PySem.Expr.Name _ _) (_ :: _) [] _) _) _ _ _))); (with_reducible ((k_here; (rename Fr _ _ _ _ => lF'); (with_unfolding_all refine' For_turns lF' ?_; k_whole))))) | ((fail_if_success (fail_if_success (with_reducible show wpAny _ _ (compareOp _ _ _) _ _ _))); first | ((with_reducible ((k_here; (with_reducible show wpAny _ _ (compareOp _ (Value.int _ _) (Value.ref _)) _ _ _); (rename News _ _ _ _ => lN'); k_dflt (refine' in_list_ints (isL lN' (by walk_at "my_mem1")) (by assumption) ?_; k_whole)))))) | walk1 | (dsimp only; first | ((fail_if_success (fail_if_success (with_reducible show wpAny _ _ (execs (_ :: _) _) _ _ _))); (with_reducible refine wpAny_execs_cons ?_); k_fold) | ((fail_if_success (fail_if_success (with_reducible show wpAny _ _ (exec (PySem.Stmt.For (PySem.Expr.Tuple _ _ _) (PySem.Expr.Name _ _) (_ :: _) [] _) _) _ _ _))); (with_reducible ((k_here; (rename Fr _ _ _ _ => lF'); (with_unfolding_all refine' For_turns lF' ?_; k_whole))))) | ((fail_if_success (fail_if_success (with_reducible show wpAny _ _ (compareOp _ _ _) _ _ _))); first | ((with_reducible ((k_here; (with_reducible show wpAny _ _ (compareOp _ (Value.int _ _) (Value.ref _)) _ _ _); (rename News _ _ _ _ => lN'); k_dflt (refine' in_list_ints (isL lN' (by walk_at "my_mem1")) (by assumption) ?_; k_whole)))))) | walk1) | (leave1; (try dsimp only)) | fail "no step"))
  refine loop_true (x := x) (ds := [(l0, d0), (l1, d1), (l2, d2)]) rfl (by assumption) (by assumption) (by k_mem) (by simp) (by simp only [List.forall_mem_cons]; exact ⟨h0, h1, h2, List.forall_mem_nil _⟩) ?_ ?_
  · intro l d1' d2' d3' t1 t2 lx vs c1 c2 pre c u h tk I o e1 e2 e3 e4 e5 F' N'
    replace e5 := ltN e5
    (rename (∀ p ∈ news, p.1 < _) => hA)
    (repeat' (first | (k_unfold; (try dsimp only)) | (k_end; wrow_close) | ((fail_if_success (fail_if_success (with_reducible show wpAny _ _ (execs (_ :: _) _) _ _ _))); (with_reducible refine wpAny_execs_cons ?_); k_fold) | ((fail_if_success (fail_if_success (with_reducible show wpAny _ _ (exec (PySem.Stmt.For (PySem.Expr.Tuple _ _ _) (PySem.Expr.Name _ _) (_ :: _) [] _) _) _ _ _))); (with_reducible ((k_here; (rename Fr _ _ _ _ => lF'); (with_unfolding_all refine' For_turns lF' ?_; k_whole))))) | ((fail_if_success (fail_if_success (with_reducible show wpAny _ _ (compareOp _ _ _) _ _ _))); first | ((with_reducible ((k_here; (with_reducible show wpAny _ _ (compareOp _ (Value.int _ _) (Value.ref _)) _ _ _); (rename News _ _ _ _ => lN'); k_dflt (refine' in_list_ints (isL lN' (by walk_at "my_mem1")) (by assumption) ?_; k_whole)))))) | walk1 | (dsimp only; first | ((fail_if_success (fail_if_success (with_reducible show wpAny _ _ (execs (_ :: _) _) _ _ _))); (with_reducible refine wpAny_execs_cons ?_); k_fold) | ((fail_if_success (fail_if_success (with_reducible show wpAny _ _ (exec (PySem.Stmt.For (PySem.Expr.Tuple _ _ _) (PySem.Expr.Name _ _) (_ :: _) [] _) _) _ _ _))); (with_reducible ((k_here; (rename Fr _ _ _ _ => lF'); (with_unfolding_all refine' For_turns lF' ?_; k_whole))))) | ((fail_if_success (fail_if_success (with_reducible show wpAny _ _ (compareOp _ _ _) _ _ _))); first | ((with_reducible ((k_here; (with_reducible show wpAny _ _ (compareOp _ (Value.int _ _) (Value.ref _)) _ _ _); (rename News _ _ _ _ => lN'); k_dflt (refine' in_list_ints (isL lN' (by walk_at "my_mem1")) (by assumption) ?_; k_whole)))))) | walk1) | (leave1; (try dsimp only)) | fail "no step"))
    all_goals (
      (rename News _ _ _ _ => lN)
      (try simp only [List.push_toArray] at lN)
      ((refine' JT.fin (by assumption) (by assumption) (by walk_at "my_sub") (by walk_at "my_sfx") (by ((refine ⟨by walk_at "my_ps", fun z h1 h2 => ?_⟩; (simp only [List.forall_mem_cons, List.not_mem_nil, false_implies, implies_true, and_true, ne_eq] at h1); (have h3 := h2); (simp only [List.contains_cons, List.contains_nil, Bool.or_false, Bool.or_eq_false_iff, beq_eq_false_iff_ne, ne_eq] at h3); (have h4 := h2); (simp only [List.contains_cons, List.contains_nil, Bool.or_false, Bool.or_eq_false_iff] at h4); first | (simp only [h1, h2, h3, if_false, Bool.false_eq_true]; done) | (simp only [h1, h3, h4, List.contains_cons, List.contains_nil, Bool.or_false, Bool.or_self, if_false, Bool.false_eq_true]; done)))) ?_))
      refine told_any _ _ _ _ _ ?_
      first | exact if_pos (by assumption) | exact if_neg (fun h => h (by assumption)))
  · intro c u h tk F' N'
    obtain ⟨hj0, hj1⟩ := hj
    have hj4 : j = 0 ∨ j = 1 ∨ j = 2 ∨ j = 3 := by omega
    simp only [toldV, List.map_cons, List.map_nil] at N'
    rcases hj4 with rfl | rfl | rfl | rfl
    all_goals (repeat' (first | (k_unfold; (try dsimp only)) | (k_end; wrow_close) | ((fail_if_success (fail_if_success (with_reducible show wpAny _ _ (execs (_ :: _) _) _ _ _))); (with_reducible refine wpAny_execs_cons ?_); k_fold) | ((fail_if_success (fail_if_success (with_reducible show wpAny _ _ (exec (PySem.Stmt.For (PySem.Expr.Tuple _ _ _) (PySem.Expr.Name _ _) (_ :: _) [] _) _) _ _ _))); (with_reducible ((k_here; (rename Fr _ _ _ _ => lF'); (with_unfolding_all refine' For_turns lF' ?_; k_whole))))) | ((fail_if_success (fail_if_success (with_reducible show wpAny _ _ (compareOp _ _ _) _ _ _))); first | ((with_reducible ((k_here; (with_reducible show wpAny _ _ (compareOp _ (Value.int _ _) (Value.ref _)) _ _ _); (rename News _ _ _ _ => lN'); k_dflt (refine' in_list_ints (isL lN' (by walk_at "my_mem1")) (by assumption) ?_; k_whole)))))) | walk1 | (dsimp only; first | ((fail_if_success (fail_if_success (with_reducible show wpAny _ _ (execs (_ :: _) _) _ _ _))); (with_reducible refine wpAny_execs_cons ?_); k_fold) | ((fail_if_success (fail_if_success (with_reducible show wpAny _ _ (exec (PySem.Stmt.For (PySem.Expr.Tuple _ _ _) (PySem.Expr.Name _ _) (_ :: _) [] _) _) _ _ _))); (with_reducible ((k_here; (rename Fr _ _ _ _ => lF'); (with_unfolding_all refine' For_turns lF' ?_; k_whole))))) | ((fail_if_success (fail_if_success (with_reducible show wpAny _ _ (compareOp _ _ _) _ _ _))); first | ((with_reducible ((k_here; (with_reducible show wpAny _ _ (compareOp _ (Value.int _ _) (Value.ref _)) _ _ _); (rename News _ _ _ _ => lN'); k_dflt (refine' in_list_ints (isL lN' (by walk_at "my_mem1")) (by assumption) ?_; k_whole)))))) | walk1) | (leave1; (try dsimp only)) | fail "no step"))
    all_goals (
      (rename News h₀ _ _ _ => lN)
      refine q_of (ret _ _ (by assumption) (cb_drop lN (by walk_at "my_sub"))) (congrArg Value.bool ?_)
      simp [trueOf, joinB, *])
end
section
theorem call_flags {w : World} {p : Program} {loose : List Str} {mean : ExcName → Option Value} {mg mb : Str → Option Value} {dp un : Nat} {gd : Option (List Code)} {cn : Str} {cs : Scope} {a : Addr} {ccd : Value} {cl : List (Str × Addr)} {outer : List Env} {A₀ : Around} {base h₀ : Heap} {L : Addr} {m : Str → Option Value} {news : List (Addr × Obj)} {s : Shared} {Q E : Value → Shared → Prop}
    {bs : List Bool} {v : Int} {t : Tok}
    (B : Below A₀ base outer h₀) (F : Fr h₀ L s.heap m) (X : (hd.heap_39 w.params).In h₀) (N : News h₀ L s.heap news) (T : Top p loose mean mg mb h₀) (hk : cs.kind = .function) (hdp : dp + 4 < recursionLimit) (hun : un + 40 < cLine)
    (hb : bs.length = 6) (hv : v = flagsOf bs)
    (ret : ∀ t' h' tk', Fr h₀ L h' m → News h₀ L h' news → Q (.str (flagText bs) t') { s with heap := h', toks := tk' }) :
    wpAny (model PySem.Challenge.rw_wj0027_01.row.prog w) (ktrTop dp un gd cn cs L a ccd cl outer) (call (.ref 39) [.int v t]) Q E s
   := by
  subst hv
  w_top off; revert X; k_fill; intro X
  refine wpAny_call ?_
  k_dflt ktr_enter
  (repeat' (first | (k_unfold; (try dsimp only)) | (k_end; wrow_close) | ((fail_if_success (fail_if_success (with_reducible show wpAny _ _ (execs (_ :: _) _) _ _ _))); (with_reducible refine wpAny_execs_cons ?_); k_fold) | ((fail_if_success (fail_if_success (with_reducible show wpAny _ _ (exec (PySem.Stmt.For (PySem.Expr.Name _ _) (PySem.Expr.Call _ _ _ _) (_ :: _) (_ :: _) _) _) _ _ _))); (with_reducible ((k_here; (with_unfolding_all refine' For_else ?_; k_whole))))) | ((fail_if_success (fail_if_success (with_reducible show wpAny _ _ (call (Value.builtin "str.join") _ _) _ _ _))); (with_reducible ((k_here; (rename pickS wordsS _ = _ ++ [_] => lP'); (rename News _ _ _ _ => lN'); k_dflt (refine' flag_join lN' (by walk_at "my_mem1") (by decide +kernel) lP' ?_; k_whole); intro t' k')))) | walk1 | (dsimp only; first | ((fail_if_success (fail_if_success (with_reducible show wpAny _ _ (execs (_ :: _) _) _ _ _))); (with_reducible refine wpAny_execs_cons ?_); k_fold) | ((fail_if_success (fail_if_success (with_reducible show wpAny _ _ (exec (PySem.Stmt.For (PySem.Expr.Name _ _) (PySem.Expr.Call _ _ _ _) (_ :: _) (_ :: _) _) _) _ _ _))); (with_reducible ((k_here; (with_unfolding_all refine' For_else ?_; k_whole))))) | ((fail_if_success (fail_if_success (with_reducible show wpAny _ _ (call (Value.builtin "str.join") _ _) _ _ _))); (with_reducible ((k_here; (rename pickS wordsS _ = _ ++ [_] => lP'); (rename News _ _ _ _ => lN'); k_dflt (refine' flag_join lN' (by walk_at "my_mem1") (by decide +kernel) lP' ?_; k_whole); intro t' k')))) | walk1) | (leave1; (try dsimp only)) | fail "no step"))
  refine loop_flags (bs := bs) rfl (by assumption) (by assumption) (by assumption) ?_ hb rfl ?_ ?_ ?_
  · passes_own
  · intro i V tf t l c u h tk I o e1 e2 e3 F' N'
    (try dsimp only [kstB] at F')
    have e2 : Builtin.bitAnd V (1 * 2 ^ (i : Int).toNat) = 0 := by simpa using e2
    (repeat' (first | (k_unfold; (try dsimp only)) | (k_end; wrow_close) | ((fail_if_success (fail_if_success (with_reducible show wpAny _ _ (execs (_ :: _) _) _ _ _))); (with_reducible refine wpAny_execs_cons ?_); k_fold) | ((fail_if_success (fail_if_success (with_reducible show wpAny _ _ (exec (PySem.Stmt.For (PySem.Expr.Name _ _) (PySem.Expr.Call _ _ _ _) (_ :: _) (_ :: _) _) _) _ _ _))); (with_reducible ((k_here; (with_unfolding_all refine' For_else ?_; k_whole))))) | ((fail_if_success (fail_if_success (with_reducible show wpAny _ _ (call (Value.builtin "str.join") _ _) _ _ _))); (with_reducible ((k_here; (rename pickS wordsS _ = _ ++ [_] => lP'); (rename News _ _ _ _ => lN'); k_dflt (refine' flag_join lN' (by walk_at "my_mem1") (by decide +kernel) lP' ?_; k_whole); intro t' k')))) | walk1 | (dsimp only; first | ((fail_if_success (fail_if_success (with_reducible show wpAny _ _ (execs (_ :: _) _) _ _ _))); (with_reducible refine wpAny_execs_cons ?_); k_fold) | ((fail_if_success (fail_if_success (with_reducible show wpAny _ _ (exec (PySem.Stmt.For (PySem.Expr.Name _ _) (PySem.Expr.Call _ _ _ _) (_ :: _) (_ :: _) _) _) _ _ _))); (with_reducible ((k_here; (with_unfolding_all refine' For_else ?_; k_whole))))) | ((fail_if_success (fail_if_success (with_reducible show wpAny _ _ (call (Value.builtin "str.join") _ _) _ _ _))); (with_reducible ((k_here; (rename pickS wordsS _ = _ ++ [_] => lP'); (rename News _ _ _ _ => lN'); k_dflt (refine' flag_join lN' (by walk_at "my_mem1") (by decide +kernel) lP' ?_; k_whole); intro t' k')))) | walk1) | (leave1; (try dsimp only)) | fail "no step"))
    all_goals first | (exfalso; omega) | skip
    (rename News _ _ _ _ => lN)
    ((refine' JF1.fin (by assumption) (by assumption) (by walk_at "my_sub") (by walk_at "my_sfx") (by (first | ((refine ⟨by walk_at "my_ps", fun z h1 h2 => ?_⟩; (simp only [List.forall_mem_cons, List.not_mem_nil, false_implies, implies_true, and_true, ne_eq] at h1); (have h3 := h2); (simp only [List.contains_cons, List.contains_nil, Bool.or_false, Bool.or_eq_false_iff, beq_eq_false_iff_ne, ne_eq] at h3); (have h4 := h2); (simp only [List.contains_cons, List.contains_nil, Bool.or_false, Bool.or_eq_false_iff] at h4); first | (simp only [h1, h2, h3, if_false, Bool.false_eq_true]; done) | (simp only [h1, h2, h3, if_false, Bool.false_eq_true]; exact rfl) | (simp only [h1, h3, h4, List.contains_cons, List.contains_nil, Bool.or_false, Bool.or_self, if_false, Bool.false_eq_true]; done))) | ((refine ⟨by walk_at "my_ps", fun z h1 h2 => ?_⟩; (simp only [List.forall_mem_cons, List.not_mem_nil, false_implies, implies_true, and_true, ne_eq] at h1); (have h3 := h2); (simp only [List.contains_cons, List.contains_nil, Bool.or_false, Bool.or_eq_false_iff, beq_eq_false_iff_ne, ne_eq] at h3); (have h4 := h2); (simp only [List.contains_cons, List.contains_nil, Bool.or_false, Bool.or_eq_false_iff] at h4); first | (simp only [h1, h2, h3, if_false, Bool.false_eq_true]; done) | (simp only [h1, h3, h4, List.contains_cons, List.contains_nil, Bool.or_false, Bool.or_self, if_false, Bool.false_eq_true]; done))))) (by rfl)))
  · intro i V R tf t l c u h tk I o e1 e2 e3 e4 e5 e6 e7 F' N'
    replace e7 := ltN e7
    (try dsimp only [kstB] at F')
    have hl : (strValues l).length ≤ 6 := by simpa [strValues] using e6
    have hi : i = 1 ∨ i = 2 ∨ i = 3 ∨ i = 4 ∨ i = 5 ∨ i = 6 := by omega
    generalize hk : (i : Int) = k
    rcases hi with rfl | rfl | rfl | rfl | rfl | rfl
    · obtain rfl : k = 1 := by omega
      replace e3 : Builtin.bitAnd V (1 * 2 ^ Int.toNat 1) = 2 := e3
      replace e4 : Builtin.bitXor V (1 * 2 ^ Int.toNat 1) = R := e4
      subst e4
      (repeat' (first | (k_unfold; (try dsimp only)) | (k_end; wrow_close) | ((fail_if_success (fail_if_success (with_reducible show wpAny _ _ (execs (_ :: _) _) _ _ _))); (with_reducible refine wpAny_execs_cons ?_); k_fold) | ((fail_if_success (fail_if_success (with_reducible show wpAny _ _ (exec (PySem.Stmt.For (PySem.Expr.Name _ _) (PySem.Expr.Call _ _ _ _) (_ :: _) (_ :: _) _) _) _ _ _))); (with_reducible ((k_here; (with_unfolding_all refine' For_else ?_; k_whole))))) | ((fail_if_success (fail_if_success (with_reducible show wpAny _ _ (call (Value.builtin "str.join") _ _) _ _ _))); (with_reducible ((k_here; (rename pickS wordsS _ = _ ++ [_] => lP'); (rename News _ _ _ _ => lN'); k_dflt (refine' flag_join lN' (by walk_at "my_mem1") (by decide +kernel) lP' ?_; k_whole); intro t' k')))) | walk1 | (dsimp only; first | ((fail_if_success (fail_if_success (with_reducible show wpAny _ _ (execs (_ :: _) _) _ _ _))); (with_reducible refine wpAny_execs_cons ?_); k_fold) | ((fail_if_success (fail_if_success (with_reducible show wpAny _ _ (exec (PySem.Stmt.For (PySem.Expr.Name _ _) (PySem.Expr.Call _ _ _ _) (_ :: _) (_ :: _) _) _) _ _ _))); (with_reducible ((k_here; (with_unfolding_all refine' For_else ?_; k_whole))))) | ((fail_if_success (fail_if_success (with_reducible show wpAny _ _ (call (Value.builtin "str.join") _ _) _ _ _))); (with_reducible ((k_here; (rename pickS wordsS _ = _ ++ [_] => lP'); (rename News _ _ _ _ => lN'); k_dflt (refine' flag_join lN' (by walk_at "my_mem1") (by decide +kernel) lP' ?_; k_whole); intro t' k')))) | walk1) | (leave1; (try dsimp only)) | fail "no step"))
      all_goals first | (exfalso; omega) | skip
      · (rename News _ _ _ _ => lN)
        (try simp only [List.push_toArray] at lN)
        ((refine' JS.fin (by assumption) (by assumption) (by walk_at "my_sub") (by walk_at "my_sfx") (by (first | ((refine ⟨by walk_at "my_ps", fun z h1 h2 => ?_⟩; (simp only [List.forall_mem_cons, List.not_mem_nil, false_implies, implies_true, and_true, ne_eq] at h1); (have h3 := h2); (simp only [List.contains_cons, List.contains_nil, Bool.or_false, Bool.or_eq_false_iff, beq_eq_false_iff_ne, ne_eq] at h3); (have h4 := h2); (simp only [List.contains_cons, List.contains_nil, Bool.or_false, Bool.or_eq_false_iff] at h4); first | (simp only [h1, h2, h3, if_false, Bool.false_eq_true]; done) | (simp only [h1, h2, h3, if_false, Bool.false_eq_true]; exact rfl) | (simp only [h1, h3, h4, List.contains_cons, List.contains_nil, Bool.or_false, Bool.or_self, if_false, Bool.false_eq_true]; done))) | ((refine ⟨by walk_at "my_ps", fun z h1 h2 => ?_⟩; (simp only [List.forall_mem_cons, List.not_mem_nil, false_implies, implies_true, and_true, ne_eq] at h1); (have h3 := h2); (simp only [List.contains_cons, List.contains_nil, Bool.or_false, Bool.or_eq_false_iff, beq_eq_false_iff_ne, ne_eq] at h3); (have h4 := h2); (simp only [List.contains_cons, List.contains_nil, Bool.or_false, Bool.or_eq_false_iff] at h4); first | (simp only [h1, h2, h3, if_false, Bool.false_eq_true]; done) | (simp only [h1, h3, h4, List.contains_cons, List.contains_nil, Bool.or_false, Bool.or_self, if_false, Bool.false_eq_true]; done))))) (by assumption) (by decide +kernel)))
      · (rename News _ _ _ _ => lN)
        (try simp only [List.push_toArray] at lN)
        have hp := e5 (by assumption)
        dsimp only [MPost]
        (repeat' (first | (k_unfold; (try dsimp only)) | (k_end; wrow_close) | ((fail_if_success (fail_if_success (with_reducible show wpAny _ _ (execs (_ :: _) _) _ _ _))); (with_reducible refine wpAny_execs_cons ?_); k_fold) | ((fail_if_success (fail_if_success (with_reducible show wpAny _ _ (exec (PySem.Stmt.For (PySem.Expr.Name _ _) (PySem.Expr.Call _ _ _ _) (_ :: _) (_ :: _) _) _) _ _ _))); (with_reducible ((k_here; (with_unfolding_all refine' For_else ?_; k_whole))))) | ((fail_if_success (fail_if_success (with_reducible show wpAny _ _ (call (Value.builtin "str.join") _ _) _ _ _))); (with_reducible ((k_here; (rename pickS wordsS _ = _ ++ [_] => lP'); (rename News _ _ _ _ => lN'); k_dflt (refine' flag_join lN' (by walk_at "my_mem1") (by decide +kernel) lP' ?_; k_whole); intro t' k')))) | walk1 | (dsimp only; first | ((fail_if_success (fail_if_success (with_reducible show wpAny _ _ (execs (_ :: _) _) _ _ _))); (with_reducible refine wpAny_execs_cons ?_); k_fold) | ((fail_if_success (fail_if_success (with_reducible show wpAny _ _ (exec (PySem.Stmt.For (PySem.Expr.Name _ _) (PySem.Expr.Call _ _ _ _) (_ :: _) (_ :: _) _) _) _ _ _))); (with_reducible ((k_here; (with_unfolding_all refine' For_else ?_; k_whole))))) | ((fail_if_success (fail_if_success (with_reducible show wpAny _ _ (call (Value.builtin "str.join") _ _) _ _ _))); (with_reducible ((k_here; (rename pickS wordsS _ = _ ++ [_] => lP'); (rename News _ _ _ _ => lN'); k_dflt (refine' flag_join lN' (by walk_at "my_mem1") (by decide +kernel) lP' ?_; k_whole); intro t' k')))) | walk1) | (leave1; (try dsimp only)) | fail "no step"))
        (rename News h₀ _ _ _ => lN)
        exact ret _ _ _ (by assumption) (cb_drop lN (by walk_at "my_sfx"))
    · obtain rfl : k = 2 := by omega
      replace e3 : Builtin.bitAnd V (1 * 2 ^ Int.toNat 2) = 4 := e3
      replace e4 : Builtin.bitXor V (1 * 2 ^ Int.toNat 2) = R := e4
      subst e4
      (repeat' (first | (k_unfold; (try dsimp only)) | (k_end; wrow_close) | ((fail_if_success (fail_if_success (with_reducible show wpAny _ _ (execs (_ :: _) _) _ _ _))); (with_reducible refine wpAny_execs_cons ?_); k_fold) | ((fail_if_success (fail_if_success (with_reducible show wpAny _ _ (exec (PySem.Stmt.For (PySem.Expr.Name _ _) (PySem.Expr.Call _ _ _ _) (_ :: _) (_ :: _) _) _) _ _ _))); (with_reducible ((k_here; (with_unfolding_all refine' For_else ?_; k_whole))))) | ((fail_if_success (fail_if_success (with_reducible show wpAny _ _ (call (Value.builtin "str.join") _ _) _ _ _))); (with_reducible ((k_here; (rename pickS wordsS _ = _ ++ [_] => lP'); (rename News _ _ _ _ => lN'); k_dflt (refine' flag_join lN' (by walk_at "my_mem1") (by decide +kernel) lP' ?_; k_whole); intro t' k')))) | walk1 | (dsimp only; first | ((fail_if_success (fail_if_success (with_reducible show wpAny _ _ (execs (_ :: _) _) _ _ _))); (with_reducible refine wpAny_execs_cons ?_); k_fold) | ((fail_if_success (fail_if_success (with_reducible show wpAny _ _ (exec (PySem.Stmt.For (PySem.Expr.Name _ _) (PySem.Expr.Call _ _ _ _) (_ :: _) (_ :: _) _) _) _ _ _))); (with_reducible ((k_here; (with_unfolding_all refine' For_else ?_; k_whole))))) | ((fail_if_success (fail_if_success (with_reducible show wpAny _ _ (call (Value.builtin "str.join") _ _) _ _ _))); (with_reducible ((k_here; (rename pickS wordsS _ = _ ++ [_] => lP'); (rename News _ _ _ _ => lN'); k_dflt (refine' flag_join lN' (by walk_at "my_mem1") (by decide +kernel) lP' ?_; k_whole); intro t' k')))) | walk1) | (leave1; (try dsimp only)) | fail "no step"))
      all_goals first | (exfalso; omega) | skip
      · (rename News _ _ _ _ => lN)
        (try simp only [List.push_toArray] at lN)
        ((refine' JS.fin (by assumption) (by assumption) (by walk_at "my_sub") (by walk_at "my_sfx") (by (first | ((refine ⟨by walk_at "my_ps", fun z h1 h2 => ?_⟩; (simp only [List.forall_mem_cons, List.not_mem_nil, false_implies, implies_true, and_true, ne_eq] at h1); (have h3 := h2); (simp only [List.contains_cons, List.contains_nil, Bool.or_false, Bool.or_eq_false_iff, beq_eq_false_iff_ne, ne_eq] at h3); (have h4 := h2); (simp only [List.contains_cons, List.contains_nil, Bool.or_false, Bool.or_eq_false_iff] at h4); first | (simp only [h1, h2, h3, if_false, Bool.false_eq_true]; done) | (simp only [h1, h2, h3, if_false, Bool.false_eq_true]; exact rfl) | (simp only [h1, h3, h4, List.contains_cons, List.contains_nil, Bool.or_false, Bool.or_self, if_false, Bool.false_eq_true]; done))) | ((refine ⟨by walk_at "my_ps", fun z h1 h2 => ?_⟩; (simp only [List.forall_mem_cons, List.not_mem_nil, false_implies, implies_true, and_true, ne_eq] at h1); (have h3 := h2); (simp only [List.contains_cons, List.contains_nil, Bool.or_false, Bool.or_eq_false_iff, beq_eq_false_iff_ne, ne_eq] at h3); (have h4 := h2); (simp only [List.contains_cons, List.contains_nil, Bool.or_false, Bool.or_eq_false_iff] at h4); first | (simp only [h1, h2, h3, if_false, Bool.false_eq_true]; done) | (simp only [h1, h3, h4, List.contains_cons, List.contains_nil, Bool.or_false, Bool.or_self, if_false, Bool.false_eq_true]; done))))) (by assumption) (by decide +kernel)))
      · (rename News _ _ _ _ => lN)
        (try simp only [List.push_toArray] at lN)
        have hp := e5 (by assumption)
        dsimp only [MPost]
        (repeat' (first | (k_unfold; (try dsimp only)) | (k_end; wrow_close) | ((fail_if_success (fail_if_success (with_reducible show wpAny _ _ (execs (_ :: _) _) _ _ _))); (with_reducible refine wpAny_execs_cons ?_); k_fold) | ((fail_if_success (fail_if_success (with_reducible show wpAny _ _ (exec (PySem.Stmt.For (PySem.Expr.Name _ _) (PySem.Expr.Call _ _ _ _) (_ :: _) (_ :: _) _) _) _ _ _))); (with_reducible ((k_here; (with_unfolding_all refine' For_else ?_; k_whole))))) | ((fail_if_success (fail_if_success (with_reducible show wpAny _ _ (call (Value.builtin "str.join") _ _) _ _ _))); (with_reducible ((k_here; (rename pickS wordsS _ = _ ++ [_] => lP'); (rename News _ _ _ _ => lN'); k_dflt (refine' flag_join lN' (by walk_at "my_mem1") (by decide +kernel) lP' ?_; k_whole); intro t' k')))) | walk1 | (dsimp only; first | ((fail_if_success (fail_if_success (with_reducible show wpAny _ _ (execs (_ :: _) _) _ _ _))); (with_reducible refine wpAny_execs_cons ?_); k_fold) | ((fail_if_success (fail_if_success (with_reducible show wpAny _ _ (exec (PySem.Stmt.For (PySem.Expr.Name _ _) (PySem.Expr.Call _ _ _ _) (_ :: _) (_ :: _) _) _) _ _ _))); (with_reducible ((k_here; (with_unfolding_all refine' For_else ?_; k_whole))))) | ((fail_if_success (fail_if_success (with_reducible show wpAny _ _ (call (Value.builtin "str.join") _ _) _ _ _))); (with_reducible ((k_here; (rename pickS wordsS _ = _ ++ [_] => lP'); (rename News _ _ _ _ => lN'); k_dflt (refine' flag_join lN' (by walk_at "my_mem1") (by decide +kernel) lP' ?_; k_whole); intro t' k')))) | walk1) | (leave1; (try dsimp only)) | fail "no step"))
        (rename News h₀ _ _ _ => lN)
        exact ret _ _ _ (by assumption) (cb_drop lN (by walk_at "my_sfx"))
    · obtain rfl : k = 3 := by omega
      replace e3 : Builtin.bitAnd V (1 * 2 ^ Int.toNat 3) = 8 := e3
      replace e4 : Builtin.bitXor V (1 * 2 ^ Int.toNat 3) = R := e4
      subst e4
      (repeat' (first | (k_unfold; (try dsimp only)) | (k_end; wrow_close) | ((fail_if_success (fail_if_success (with_reducible show wpAny _ _ (execs (_ :: _) _) _ _ _))); (with_reducible refine wpAny_execs_cons ?_); k_fold) | ((fail_if_success (fail_if_success (with_reducible show wpAny _ _ (exec (PySem.Stmt.For (PySem.Expr.Name _ _) (PySem.Expr.Call _ _ _ _) (_ :: _) (_ :: _) _) _) _ _ _))); (with_reducible ((k_here; (with_unfolding_all refine' For_else ?_; k_whole))))) | ((fail_if_success (fail_if_success (with_reducible show wpAny _ _ (call (Value.builtin "str.join") _ _) _ _ _))); (with_reducible ((k_here; (rename pickS wordsS _ = _ ++ [_] => lP'); (rename News _ _ _ _ => lN'); k_dflt (refine' flag_join lN' (by walk_at "my_mem1") (by decide +kernel) lP' ?_; k_whole); intro t' k')))) | walk1 | (dsimp only; first | ((fail_if_success (fail_if_success (with_reducible show wpAny _ _ (execs (_ :: _) _) _ _ _))); (with_reducible refine wpAny_execs_cons ?_); k_fold) | ((fail_if_success (fail_if_success (with_reducible show wpAny _ _ (exec (PySem.Stmt.For (PySem.Expr.Name _ _) (PySem.Expr.Call _ _ _ _) (_ :: _) (_ :: _) _) _) _ _ _))); (with_reducible ((k_here; (with_unfolding_all refine' For_else ?_; k_whole))))) | ((fail_if_success (fail_if_success (with_reducible show wpAny _ _ (call (Value.builtin "str.join") _ _) _ _ _))); (with_reducible ((k_here; (rename pickS wordsS _ = _ ++ [_] => lP'); (rename News _ _ _ _ => lN'); k_dflt (refine' flag_join lN' (by walk_at "my_mem1") (by decide +kernel) lP' ?_; k_whole); intro t' k')))) | walk1) | (leave1; (try dsimp only)) | fail "no step"))
      all_goals first | (exfalso; omega) | skip
      · (rename News _ _ _ _ => lN)
        (try simp only [List.push_toArray] at lN)
        ((refine' JS.fin (by assumption) (by assumption) (by walk_at "my_sub") (by walk_at "my_sfx") (by (first | ((refine ⟨by walk_at "my_ps", fun z h1 h2 => ?_⟩; (simp only [List.forall_mem_cons, List.not_mem_nil, false_implies, implies_true, and_true, ne_eq] at h1); (have h3 := h2); (simp only [List.contains_cons, List.contains_nil, Bool.or_false, Bool.or_eq_false_iff, beq_eq_false_iff_ne, ne_eq] at h3); (have h4 := h2); (simp only [List.contains_cons, List.contains_nil, Bool.or_false, Bool.or_eq_false_iff] at h4); first | (simp only [h1, h2, h3, if_false, Bool.false_eq_true]; done) | (simp only [h1, h2, h3, if_false, Bool.false_eq_true]; exact rfl) | (simp only [h1, h3, h4, List.contains_cons, List.contains_nil, Bool.or_false, Bool.or_self, if_false, Bool.false_eq_true]; done))) | ((refine ⟨by walk_at "my_ps", fun z h1 h2 => ?_⟩; (simp only [List.forall_mem_cons, List.not_mem_nil, false_implies, implies_true, and_true, ne_eq] at h1); (have h3 := h2); (simp only [List.contains_cons, List.contains_nil, Bool.or_false, Bool.or_eq_false_iff, beq_eq_false_iff_ne, ne_eq] at h3); (have h4 := h2); (simp only [List.contains_cons, List.contains_nil, Bool.or_false, Bool.or_eq_false_iff] at h4); first | (simp only [h1, h2, h3, if_false, Bool.false_eq_true]; done) | (simp only [h1, h3, h4, List.contains_cons, List.contains_nil, Bool.or_false, Bool.or_self, if_false, Bool.false_eq_true]; done))))) (by assumption) (by decide +kernel)))
      · (rename News _ _ _ _ => lN)
        (try simp only [List.push_toArray] at lN)
        have hp := e5 (by assumption)
        dsimp only [MPost]
        (repeat' (first | (k_unfold; (try dsimp only)) | (k_end; wrow_close) | ((fail_if_success (fail_if_success (with_reducible show wpAny _ _ (execs (_ :: _) _) _ _ _))); (with_reducible refine wpAny_execs_cons ?_); k_fold) | ((fail_if_success (fail_if_success (with_reducible show wpAny _ _ (exec (PySem.Stmt.For (PySem.Expr.Name _ _) (PySem.Expr.Call _ _ _ _) (_ :: _) (_ :: _) _) _) _ _ _))); (with_reducible ((k_here; (with_unfolding_all refine' For_else ?_; k_whole))))) | ((fail_if_success (fail_if_success (with_reducible show wpAny _ _ (call (Value.builtin "str.join") _ _) _ _ _))); (with_reducible ((k_here; (rename pickS wordsS _ = _ ++ [_] => lP'); (rename News _ _ _ _ => lN'); k_dflt (refine' flag_join lN' (by walk_at "my_mem1") (by decide +kernel) lP' ?_; k_whole); intro t' k')))) | walk1 | (dsimp only; first | ((fail_if_success (fail_if_success (with_reducible show wpAny _ _ (execs (_ :: _) _) _ _ _))); (with_reducible refine wpAny_execs_cons ?_); k_fold) | ((fail_if_success (fail_if_success (with_reducible show wpAny _ _ (exec (PySem.Stmt.For (PySem.Expr.Name _ _) (PySem.Expr.Call _ _ _ _) (_ :: _) (_ :: _) _) _) _ _ _))); (with_reducible ((k_here; (with_unfolding_all refine' For_else ?_; k_whole))))) | ((fail_if_success (fail_if_success (with_reducible show wpAny _ _ (call (Value.builtin "str.join") _ _) _ _ _))); (with_reducible ((k_here; (rename pickS wordsS _ = _ ++ [_] => lP'); (rename News _ _ _ _ => lN'); k_dflt (refine' flag_join lN' (by walk_at "my_mem1") (by decide +kernel) lP' ?_; k_whole); intro t' k')))) | walk1) | (leave1; (try dsimp only)) | fail "no step"))
        (rename News h₀ _ _ _ => lN)
        exact ret _ _ _ (by assumption) (cb_drop lN (by walk_at "my_sfx"))
    · obtain rfl : k = 4 := by omega
      replace e3 : Builtin.bitAnd V (1 * 2 ^ Int.toNat 4) = 16 := e3
      replace e4 : Builtin.bitXor V (1 * 2 ^ Int.toNat 4) = R := e4
      subst e4
      (repeat' (first | (k_unfold; (try dsimp only)) | (k_end; wrow_close) | ((fail_if_success (fail_if_success (with_reducible show wpAny _ _ (execs (_ :: _) _) _ _ _))); (with_reducible refine wpAny_execs_cons ?_); k_fold) | ((fail_if_success (fail_if_success (with_reducible show wpAny _ _ (exec (PySem.Stmt.For (PySem.Expr.Name _ _) (PySem.Expr.Call _ _ _ _) (_ :: _) (_ :: _) _) _) _ _ _))); (with_reducible ((k_here; (with_unfolding_all refine' For_else ?_; k_whole))))) | ((fail_if_success (fail_if_success (with_reducible show wpAny _ _ (call (Value.builtin "str.join") _ _) _ _ _))); (with_reducible ((k_here; (rename pickS wordsS _ = _ ++ [_] => lP'); (rename News _ _ _ _ => lN'); k_dflt (refine' flag_join lN' (by walk_at "my_mem1") (by decide +kernel) lP' ?_; k_whole); intro t' k')))) | walk1 | (dsimp only; first | ((fail_if_success (fail_if_success (with_reducible show wpAny _ _ (execs (_ :: _) _) _ _ _))); (with_reducible refine wpAny_execs_cons ?_); k_fold) | ((fail_if_success (fail_if_success (with_reducible show wpAny _ _ (exec (PySem.Stmt.For (PySem.Expr.Name _ _) (PySem.Expr.Call _ _ _ _) (_ :: _) (_ :: _) _) _) _ _ _))); (with_reducible ((k_here; (with_unfolding_all refine' For_else ?_; k_whole))))) | ((fail_if_success (fail_if_success (with_reducible show wpAny _ _ (call (Value.builtin "str.join") _ _) _ _ _))); (with_reducible ((k_here; (rename pickS wordsS _ = _ ++ [_] => lP'); (rename News _ _ _ _ => lN'); k_dflt (refine' flag_join lN' (by walk_at "my_mem1") (by decide +kernel) lP' ?_; k_whole); intro t' k')))) | walk1) | (leave1; (try dsimp only)) | fail "no step"))
      all_goals first | (exfalso; omega) | skip
      · (rename News _ _ _ _ => lN)
        (try simp only [List.push_toArray] at lN)
        ((refine' JS.fin (by assumption) (by assumption) (by walk_at "my_sub") (by walk_at "my_sfx") (by (first | ((refine ⟨by walk_at "my_ps", fun z h1 h2 => ?_⟩; (simp only [List.forall_mem_cons, List.not_mem_nil, false_implies, implies_true, and_true, ne_eq] at h1); (have h3 := h2); (simp only [List.contains_cons, List.contains_nil, Bool.or_false, Bool.or_eq_false_iff, beq_eq_false_iff_ne, ne_eq] at h3); (have h4 := h2); (simp only [List.contains_cons, List.contains_nil, Bool.or_false, Bool.or_eq_false_iff] at h4); first | (simp only [h1, h2, h3, if_false, Bool.false_eq_true]; done) | (simp only [h1, h2, h3, if_false, Bool.false_eq_true]; exact rfl) | (simp only [h1, h3, h4, List.contains_cons, List.contains_nil, Bool.or_false, Bool.or_self, if_false, Bool.false_eq_true]; done))) | ((refine ⟨by walk_at "my_ps", fun z h1 h2 => ?_⟩; (simp only [List.forall_mem_cons, List.not_mem_nil, false_implies, implies_true, and_true, ne_eq] at h1); (have h3 := h2); (simp only [List.contains_cons, List.contains_nil, Bool.or_false, Bool.or_eq_false_iff, beq_eq_false_iff_ne, ne_eq] at h3); (have h4 := h2); (simp only [List.contains_cons, List.contains_nil, Bool.or_false, Bool.or_eq_false_iff] at h4); first | (simp only [h1, h2, h3, if_false, Bool.false_eq_true]; done) | (simp only [h1, h3, h4, List.contains_cons, List.contains_nil, Bool.or_false, Bool.or_self, if_false, Bool.false_eq_true]; done))))) (by assumption) (by decide +kernel)))
      · (rename News _ _ _ _ => lN)
        (try simp only [List.push_toArray] at lN)
        have hp := e5 (by assumption)
        dsimp only [MPost]
        (repeat' (first | (k_unfold; (try dsimp only)) | (k_end; wrow_close) | ((fail_if_success (fail_if_success (with_reducible show wpAny _ _ (execs (_ :: _) _) _ _ _))); (with_reducible refine wpAny_execs_cons ?_); k_fold) | ((fail_if_success (fail_if_success (with_reducible show wpAny _ _ (exec (PySem.Stmt.For (PySem.Expr.Name _ _) (PySem.Expr.Call _ _ _ _) (_ :: _) (_ :: _) _) _) _ _ _))); (with_reducible ((k_here; (with_unfolding_all refine' For_else ?_; k_whole))))) | ((fail_if_success (fail_if_success (with_reducible show wpAny _ _ (call (Value.builtin "str.join") _ _) _ _ _))); (with_reducible ((k_here; (rename pickS wordsS _ = _ ++ [_] => lP'); (rename News _ _ _ _ => lN'); k_dflt (refine' flag_join lN' (by walk_at "my_mem1") (by decide +kernel) lP' ?_; k_whole); intro t' k')))) | walk1 | (dsimp only; first | ((fail_if_success (fail_if_success (with_reducible show wpAny _ _ (execs (_ :: _) _) _ _ _))); (with_reducible refine wpAny_execs_cons ?_); k_fold) | ((fail_if_success (fail_if_success (with_reducible show wpAny _ _ (exec (PySem.Stmt.For (PySem.Expr.Name _ _) (PySem.Expr.Call _ _ _ _) (_ :: _) (_ :: _) _) _) _ _ _))); (with_reducible ((k_here; (with_unfolding_all refine' For_else ?_; k_whole))))) | ((fail_if_success (fail_if_success (with_reducible show wpAny _ _ (call (Value.builtin "str.join") _ _) _ _ _))); (with_reducible ((k_here; (rename pickS wordsS _ = _ ++ [_] => lP'); (rename News _ _ _ _ => lN'); k_dflt (refine' flag_join lN' (by walk_at "my_mem1") (by decide +kernel) lP' ?_; k_whole); intro t' k')))) | walk1) | (leave1; (try dsimp only)) | fail "no step"))
        (rename News h₀ _ _ _ => lN)
        exact ret _ _ _ (by assumption) (cb_drop lN (by walk_at "my_sfx"))
    · obtain rfl : k = 5 := by omega
      replace e3 : Builtin.bitAnd V (1 * 2 ^ Int.toNat 5) = 32 := e3
      replace e4 : Builtin.bitXor V (1 * 2 ^ Int.toNat 5) = R := e4
      subst e4
      (repeat' (first | (k_unfold; (try dsimp only)) | (k_end; wrow_close) | ((fail_if_success (fail_if_success (with_reducible show wpAny _ _ (execs (_ :: _) _) _ _ _))); (with_reducible refine wpAny_execs_cons ?_); k_fold) | ((fail_if_success (fail_if_success (with_reducible show wpAny _ _ (exec (PySem.Stmt.For (PySem.Expr.Name _ _) (PySem.Expr.Call _ _ _ _) (_ :: _) (_ :: _) _) _) _ _ _))); (with_reducible ((k_here; (with_unfolding_all refine' For_else ?_; k_whole))))) | ((fail_if_success (fail_if_success (with_reducible show wpAny _ _ (call (Value.builtin "str.join") _ _) _ _ _))); (with_reducible ((k_here; (rename pickS wordsS _ = _ ++ [_] => lP'); (rename News _ _ _ _ => lN'); k_dflt (refine' flag_join lN' (by walk_at "my_mem1") (by decide +kernel) lP' ?_; k_whole); intro t' k')))) | walk1 | (dsimp only; first | ((fail_if_success (fail_if_success (with_reducible show wpAny _ _ (execs (_ :: _) _) _ _ _))); (with_reducible refine wpAny_execs_cons ?_); k_fold) | ((fail_if_success (fail_if_success (with_reducible show wpAny _ _ (exec (PySem.Stmt.For (PySem.Expr.Name _ _) (PySem.Expr.Call _ _ _ _) (_ :: _) (_ :: _) _) _) _ _ _))); (with_reducible ((k_here; (with_unfolding_all refine' For_else ?_; k_whole))))) | ((fail_if_success (fail_if_success (with_reducible show wpAny _ _ (call (Value.builtin "str.join") _ _) _ _ _))); (with_reducible ((k_here; (rename pickS wordsS _ = _ ++ [_] => lP'); (rename News _ _ _ _ => lN'); k_dflt (refine' flag_join lN' (by walk_at "my_mem1") (by decide +kernel) lP' ?_; k_whole); intro t' k')))) | walk1) | (leave1; (try dsimp only)) | fail "no step"))
      all_goals first | (exfalso; omega) | skip
      · (rename News _ _ _ _ => lN)
        (try simp only [List.push_toArray] at lN)
        ((refine' JS.fin (by assumption) (by assumption) (by walk_at "my_sub") (by walk_at "my_sfx") (by (first | ((refine ⟨by walk_at "my_ps", fun z h1 h2 => ?_⟩; (simp only [List.forall_mem_cons, List.not_mem_nil, false_implies, implies_true, and_true, ne_eq] at h1); (have h3 := h2); (simp only [List.contains_cons, List.contains_nil, Bool.or_false, Bool.or_eq_false_iff, beq_eq_false_iff_ne, ne_eq] at h3); (have h4 := h2); (simp only [List.contains_cons, List.contains_nil, Bool.or_false, Bool.or_eq_false_iff] at h4); first | (simp only [h1, h2, h3, if_false, Bool.false_eq_true]; done) | (simp only [h1, h2, h3, if_false, Bool.false_eq_true]; exact rfl) | (simp only [h1, h3, h4, List.contains_cons, List.contains_nil, Bool.or_false, Bool.or_self, if_false, Bool.false_eq_true]; done))) | ((refine ⟨by walk_at "my_ps", fun z h1 h2 => ?_⟩; (simp only [List.forall_mem_cons, List.not_mem_nil, false_implies, implies_true, and_true, ne_eq] at h1); (have h3 := h2); (simp only [List.contains_cons, List.contains_nil, Bool.or_false, Bool.or_eq_false_iff, beq_eq_false_iff_ne, ne_eq] at h3); (have h4 := h2); (simp only [List.contains_cons, List.contains_nil, Bool.or_false, Bool.or_eq_false_iff] at h4); first | (simp only [h1, h2, h3, if_false, Bool.false_eq_true]; done) | (simp only [h1, h3, h4, List.contains_cons, List.contains_nil, Bool.or_false, Bool.or_self, if_false, Bool.false_eq_true]; done))))) (by assumption) (by decide +kernel)))
      · (rename News _ _ _ _ => lN)
        (try simp only [List.push_toArray] at lN)
        have hp := e5 (by assumption)
        dsimp only [MPost]
        (repeat' (first | (k_unfold; (try dsimp only)) | (k_end; wrow_close) | ((fail_if_success (fail_if_success (with_reducible show wpAny _ _ (execs (_ :: _) _) _ _ _))); (with_reducible refine wpAny_execs_cons ?_); k_fold) | ((fail_if_success (fail_if_success (with_reducible show wpAny _ _ (exec (PySem.Stmt.For (PySem.Expr.Name _ _) (PySem.Expr.Call _ _ _ _) (_ :: _) (_ :: _) _) _) _ _ _))); (with_reducible ((k_here; (with_unfolding_all refine' For_else ?_; k_whole))))) | ((fail_if_success (fail_if_success (with_reducible show wpAny _ _ (call (Value.builtin "str.join") _ _) _ _ _))); (with_reducible ((k_here; (rename pickS wordsS _ = _ ++ [_] => lP'); (rename News _ _ _ _ => lN'); k_dflt (refine' flag_join lN' (by walk_at "my_mem1") (by decide +kernel) lP' ?_; k_whole); intro t' k')))) | walk1 | (dsimp only; first | ((fail_if_success (fail_if_success (with_reducible show wpAny _ _ (execs (_ :: _) _) _ _ _))); (with_reducible refine wpAny_execs_cons ?_); k_fold) | ((fail_if_success (fail_if_success (with_reducible show wpAny _ _ (exec (PySem.Stmt.For (PySem.Expr.Name _ _) (PySem.Expr.Call _ _ _ _) (_ :: _) (_ :: _) _) _) _ _ _))); (with_reducible ((k_here; (with_unfolding_all refine' For_else ?_; k_whole))))) | ((fail_if_success (fail_if_success (with_reducible show wpAny _ _ (call (Value.builtin "str.join") _ _) _ _ _))); (with_reducible ((k_here; (rename pickS wordsS _ = _ ++ [_] => lP'); (rename News _ _ _ _ => lN'); k_dflt (refine' flag_join lN' (by walk_at "my_mem1") (by decide +kernel) lP' ?_; k_whole); intro t' k')))) | walk1) | (leave1; (try dsimp only)) | fail "no step"))
        (rename News h₀ _ _ _ => lN)
        exact ret _ _ _ (by assumption) (cb_drop lN (by walk_at "my_sfx"))
    · obtain rfl : k = 6 := by omega
      replace e3 : Builtin.bitAnd V (1 * 2 ^ Int.toNat 6) = 64 := e3
      replace e4 : Builtin.bitXor V (1 * 2 ^ Int.toNat 6) = R := e4
      subst e4
      (repeat' (first | (k_unfold; (try dsimp only)) | (k_end; wrow_close) | ((fail_if_success (fail_if_success (with_reducible show wpAny _ _ (execs (_ :: _) _) _ _ _))); (with_reducible refine wpAny_execs_cons ?_); k_fold) | ((fail_if_success (fail_if_success (with_reducible show wpAny _ _ (exec (PySem.Stmt.For (PySem.Expr.Name _ _) (PySem.Expr.Call _ _ _ _) (_ :: _) (_ :: _) _) _) _ _ _))); (with_reducible ((k_here; (with_unfolding_all refine' For_else ?_; k_whole))))) | ((fail_if_success (fail_if_success (with_reducible show wpAny _ _ (call (Value.builtin "str.join") _ _) _ _ _))); (with_reducible ((k_here; (rename pickS wordsS _ = _ ++ [_] => lP'); (rename News _ _ _ _ => lN'); k_dflt (refine' flag_join lN' (by walk_at "my_mem1") (by decide +kernel) lP' ?_; k_whole); intro t' k')))) | walk1 | (dsimp only; first | ((fail_if_success (fail_if_success (with_reducible show wpAny _ _ (execs (_ :: _) _) _ _ _))); (with_reducible refine wpAny_execs_cons ?_); k_fold) | ((fail_if_success (fail_if_success (with_reducible show wpAny _ _ (exec (PySem.Stmt.For (PySem.Expr.Name _ _) (PySem.Expr.Call _ _ _ _) (_ :: _) (_ :: _) _) _) _ _ _))); (with_reducible ((k_here; (with_unfolding_all refine' For_else ?_; k_whole))))) | ((fail_if_success (fail_if_success (with_reducible show wpAny _ _ (call (Value.builtin "str.join") _ _) _ _ _))); (with_reducible ((k_here; (rename pickS wordsS _ = _ ++ [_] => lP'); (rename News _ _ _ _ => lN'); k_dflt (refine' flag_join lN' (by walk_at "my_mem1") (by decide +kernel) lP' ?_; k_whole); intro t' k')))) | walk1) | (leave1; (try dsimp only)) | fail "no step"))
      all_goals first | (exfalso; omega) | skip
      · (rename News _ _ _ _ => lN)
        (try simp only [List.push_toArray] at lN)
        ((refine' JS.fin (by assumption) (by assumption) (by walk_at "my_sub") (by walk_at "my_sfx") (by (first | ((refine ⟨by walk_at "my_ps", fun z h1 h2 => ?_⟩; (simp only [List.forall_mem_cons, List.not_mem_nil, false_implies, implies_true, and_true, ne_eq] at h1); (have h3 := h2); (simp only [List.contains_cons, List.contains_nil, Bool.or_false, Bool.or_eq_false_iff, beq_eq_false_iff_ne, ne_eq] at h3); (have h4 := h2); (simp only [List.contains_cons, List.contains_nil, Bool.or_false, Bool.or_eq_false_iff] at h4); first | (simp only [h1, h2, h3, if_false, Bool.false_eq_true]; done) | (simp only [h1, h2, h3, if_false, Bool.false_eq_true]; exact rfl) | (simp only [h1, h3, h4, List.contains_cons, List.contains_nil, Bool.or_false, Bool.or_self, if_false, Bool.false_eq_true]; done))) | ((refine ⟨by walk_at "my_ps", fun z h1 h2 => ?_⟩; (simp only [List.forall_mem_cons, List.not_mem_nil, false_implies, implies_true, and_true, ne_eq] at h1); (have h3 := h2); (simp only [List.contains_cons, List.contains_nil, Bool.or_false, Bool.or_eq_false_iff, beq_eq_false_iff_ne, ne_eq] at h3); (have h4 := h2); (simp only [List.contains_cons, List.contains_nil, Bool.or_false, Bool.or_eq_false_iff] at h4); first | (simp only [h1, h2, h3, if_false, Bool.false_eq_true]; done) | (simp only [h1, h3, h4, List.contains_cons, List.contains_nil, Bool.or_false, Bool.or_self, if_false, Bool.false_eq_true]; done))))) (by assumption) (by decide +kernel)))
      · (rename News _ _ _ _ => lN)
        (try simp only [List.push_toArray] at lN)
        have hp := e5 (by assumption)
        dsimp only [MPost]
        (repeat' (first | (k_unfold; (try dsimp only)) | (k_end; wrow_close) | ((fail_if_success (fail_if_success (with_reducible show wpAny _ _ (execs (_ :: _) _) _ _ _))); (with_reducible refine wpAny_execs_cons ?_); k_fold) | ((fail_if_success (fail_if_success (with_reducible show wpAny _ _ (exec (PySem.Stmt.For (PySem.Expr.Name _ _) (PySem.Expr.Call _ _ _ _) (_ :: _) (_ :: _) _) _) _ _ _))); (with_reducible ((k_here; (with_unfolding_all refine' For_else ?_; k_whole))))) | ((fail_if_success (fail_if_success (with_reducible show wpAny _ _ (call (Value.builtin "str.join") _ _) _ _ _))); (with_reducible ((k_here; (rename pickS wordsS _ = _ ++ [_] => lP'); (rename News _ _ _ _ => lN'); k_dflt (refine' flag_join lN' (by walk_at "my_mem1") (by decide +kernel) lP' ?_; k_whole); intro t' k')))) | walk1 | (dsimp only; first | ((fail_if_success (fail_if_success (with_reducible show wpAny _ _ (execs (_ :: _) _) _ _ _))); (with_reducible refine wpAny_execs_cons ?_); k_fold) | ((fail_if_success (fail_if_success (with_reducible show wpAny _ _ (exec (PySem.Stmt.For (PySem.Expr.Name _ _) (PySem.Expr.Call _ _ _ _) (_ :: _) (_ :: _) _) _) _ _ _))); (with_reducible ((k_here; (with_unfolding_all refine' For_else ?_; k_whole))))) | ((fail_if_success (fail_if_success (with_reducible show wpAny _ _ (call (Value.builtin "str.join") _ _) _ _ _))); (with_reducible ((k_here; (rename pickS wordsS _ = _ ++ [_] => lP'); (rename News _ _ _ _ => lN'); k_dflt (refine' flag_join lN' (by walk_at "my_mem1") (by decide +kernel) lP' ?_; k_whole); intro t' k')))) | walk1) | (leave1; (try dsimp only)) | fail "no step"))
        (rename News h₀ _ _ _ => lN)
        exact ret _ _ _ (by assumption) (cb_drop lN (by walk_at "my_sfx"))
  · intro tf c u h tk e1 F' N'
    (try dsimp only [kstB] at F')
    (repeat' (first | (k_unfold; (try dsimp only)) | (k_end; wrow_close) | ((fail_if_success (fail_if_success (with_reducible show wpAny _ _ (execs (_ :: _) _) _ _ _))); (with_reducible refine wpAny_execs_cons ?_); k_fold) | ((fail_if_success (fail_if_success (with_reducible show wpAny _ _ (exec (PySem.Stmt.For (PySem.Expr.Name _ _) (PySem.Expr.Call _ _ _ _) (_ :: _) (_ :: _) _) _) _ _ _))); (with_reducible ((k_here; (with_unfolding_all refine' For_else ?_; k_whole))))) | ((fail_if_success (fail_if_success (with_reducible show wpAny _ _ (call (Value.builtin "str.join") _ _) _ _ _))); (with_reducible ((k_here; (rename pickS wordsS _ = _ ++ [_] => lP'); (rename News _ _ _ _ => lN'); k_dflt (refine' flag_join lN' (by walk_at "my_mem1") (by decide +kernel) lP' ?_; k_whole); intro t' k')))) | walk1 | (dsimp only; first | ((fail_if_success (fail_if_success (with_reducible show wpAny _ _ (execs (_ :: _) _) _ _ _))); (with_reducible refine wpAny_execs_cons ?_); k_fold) | ((fail_if_success (fail_if_success (with_reducible show wpAny _ _ (exec (PySem.Stmt.For (PySem.Expr.Name _ _) (PySem.Expr.Call _ _ _ _) (_ :: _) (_ :: _) _) _) _ _ _))); (with_reducible ((k_here; (with_unfolding_all refine' For_else ?_; k_whole))))) | ((fail_if_success (fail_if_success (with_reducible show wpAny _ _ (call (Value.builtin "str.join") _ _) _ _ _))); (with_reducible ((k_here; (rename pickS wordsS _ = _ ++ [_] => lP'); (rename News _ _ _ _ => lN'); k_dflt (refine' flag_join lN' (by walk_at "my_mem1") (by decide +kernel) lP' ?_; k_whole); intro t' k')))) | walk1) | (leave1; (try dsimp only)) | fail "no step"))
    (rename News h₀ _ _ _ => lN)
    refine q_of (ret _ _ _ (by assumption) (cb_drop lN (by walk_at "my_sub"))) (congrArg (fun x => Value.str x _) ?_)
    unfold flagText
    rw [if_pos e1]
    decide +kernel
end
section
local macro_rules | `(tactic| walk_at "my_ltall") => `(tactic| first | exact List.forall_mem_nil _ | (refine List.forall_mem_cons.mpr ⟨ltN (by (try dsimp only); omega), ?_⟩; walk_at "my_ltall") | assumption)
local macro_rules | `(tactic| walk_at "fin_W") => `(tactic| (refine' JS.fin' ?F ?N ?I ?n ?d ?e ?S; (case F => assumption); (case N => assumption); (case I => walk_at "my_sub"); (case n => walk_at "my_sub"); (case d => first | assumption | rfl); (case e => first | assumption | rfl); (case S => ((refine ⟨by walk_at "my_ps", fun z h1 h2 => ?_⟩; (simp only [List.forall_mem_cons, List.not_mem_nil, false_implies, implies_true, and_true, ne_eq] at h1); (have h3 := h2); (simp only [List.contains_cons, List.contains_nil, Bool.or_false, Bool.or_eq_false_iff, beq_eq_false_iff_ne, ne_eq] at h3); (have h4 := h2); (simp only [List.contains_cons, List.contains_nil, Bool.or_false, Bool.or_eq_false_iff] at h4); first | (simp only [h1, h2, h3, if_false, Bool.false_eq_true]; done) | (simp only [h1, h3, h4, List.contains_cons, List.contains_nil, Bool.or_false, Bool.or_self, if_false, Bool.false_eq_true]; done))))))
theorem law_holds : PySem.Challenge.rw_wj0027_01.Holds := hd (by rfl) (by rfl) (by rfl) (by
  k_fill
  intro w s₀ s₁ mg mb G Y fa o pm cd doc dV kV ho hd hcd hD hmg hg args vals as hpre hlay hrd hwl hlo
  have KX := kIn_of Y
  have X := (Ground.X G).1
  have V := (Ground.X G).2
  have GL := glob_more (Ground.glob G (by decide +kernel) (by decide +kernel)) V
  refine Ground.open G ?_
  intro T B D TE TW
  try (refine guard_noD D (by decide +kernel) ?_; clear D)
  obtain ⟨_, _, M⟩ := bmod_of_top T
  have TA := at_of_top T
  try (obtain ⟨_, _, he, B0⟩ := based_of_top T rfl hmg ho hd; have he' : cd = _ := he; subst he'; clear he)
  clear hmg
  wrow_args hpre hlay hrd hwl hlo
  all_goals (
    first | refine callC_kw (enter_call ?_) | refine enter_call ?_ | refine callC_kw (enter_callW ?_) | refine enter_callW ?_ | w_how
    w_top on
    try refine codeAny_mono ?_ (fun _ _ g => GoodW.toG g)
    have K0 := below_caller (Top.heap T)
    w_call any ho hd hcd hD T F
    clear hd TA
    k_drop
    skip)
  all_goals w_top off
  all_goals try k_fold
  (repeat' (first | (k_unfold; (try dsimp only)) | (k_end; wrow_close) | ((fail_if_success (fail_if_success (with_reducible show wpAny _ _ (execs (_ :: _) _) _ _ _))); (with_reducible refine wpAny_execs_cons ?_); k_fold) | ((fail_if_success (fail_if_success (with_reducible show wpAny _ _ (exec _ _) _ _ _))); first | ((fail_if_success (fail_if_success (with_reducible show wpAny _ _ (exec (PySem.Stmt.For (PySem.Expr.Name _ _) (PySem.Expr.BinOp _ _ _ _) (_ :: _) [] _) _) _ _ _))); (with_reducible ((k_here; (rename Fr _ _ _ _ => lF'); (with_unfolding_all refine' For_turns lF' ?_; k_whole))))) | ((fail_if_success (fail_if_success (with_reducible show wpAny _ _ (exec (PySem.Stmt.For (PySem.Expr.Name _ _) (PySem.Expr.List _ _) (_ :: _) [] _) _) _ _ _))); (with_reducible ((k_here; (rename Fr _ _ _ _ => lF'); (with_unfolding_all refine' For_stop lF' ?_; k_whole))))) | ((with_reducible ((k_here; (with_reducible show wpAny _ _ (exec (PySem.Stmt.Assign [_] (PySem.Expr.ListComp _ [⟨_, PySem.Expr.Call _ _ _ _, [_], _⟩] _ _) _) _) _ _ _); k_dflt (refine comp_ownA (F₀ := by k_asm) (by rfl) (by with_unfolding_all rfl) (by with_unfolding_all rfl) (by decide) (by rfl) (by decide) (by rfl) (by rfl) (by rfl) ?_); k_whole)))) | ((with_reducible ((k_here; (with_reducible show wpAny _ _ (exec (PySem.Stmt.If (PySem.Expr.Compare (PySem.Expr.Call _ _ _ _) _ _ _) _ _ _) _) _ _ _); (fail_if_success (with_reducible show wpAny _ _ _ (CutN _ _ _ _ _) _ _)); k_dflt (refine' cutN (by k_asm) (by k_asm) ?_ (fun h' tk' F' N' => ?_); k_whole)))))) | ((fail_if_success (fail_if_success (with_reducible show wpAny _ _ (subscriptTail _ _ _ _) _ _ _))); first | ((with_reducible (((k_dflt (refine kba_turn (value' := PySem.Expr.Name (PySem.Str.ofString "_") ⟨0, 0, 0, 0⟩) (fun _ => rfl) ?_)); (k_here; (with_reducible show wpAny _ _ (subscriptTail _ (PySem.Expr.Slice (some _) none none _) (Value.ref _) (Value.ref _)) _ _ _); k_dflt (refine' my_from (by k_asm) (by k_asm) (by k_mem) (by walk_at "my_ints") (by (first | decide | omega)) (by (((try simp only [List.length_append, List.length_cons, List.length_nil, List.length_take, List.length_drop, sizeLine_eq]); omega))) ?_ (by with_unfolding_all rfl) (by kmk_pure); k_whole); intro D' zs' h' F' N' l1 hI'; (try k_lt l1); (try k_sweep)))))) | ((with_reducible ((k_here; (with_reducible show wpAny _ _ (subscriptTail _ _ (Value.ref _) (Value.int _ _)) _ _ _); k_dflt (refine' my_word (by k_asm) (by walk_at "my_mem1") (by omega) (by omega) ?_ (by with_unfolding_all rfl); k_whole); intro t'; (try dsimp only); (try k_unmd))))) | ((with_reducible ((k_here; (with_reducible show wpAny _ _ (subscriptTail _ (PySem.Expr.Slice none (some _) none _) (Value.ref _) (Value.ref _)) _ _ _); k_dflt (refine' my_upto3 (by k_asm) (by k_asm) (by walk_at "my_mem1") ?_ (by with_unfolding_all rfl) (by kmk_pure); k_whole); intro D' h' F' N' l1; (try k_lt l1); (try k_sweep)))))) | ((fail_if_success (fail_if_success (with_reducible show wpAny _ _ (binaryOp _ _ _) _ _ _))); first | ((fail_if_success (fail_if_success (with_reducible show wpAny _ _ (binaryOp _ (Value.ref _) (Value.ref _)) _ _ _))); (with_reducible ((k_here; k_dflt (refine' my_add4 (by k_asm) (by k_asm) (by k_mem) (by k_mem) (by (with_reducible assumption)) (by (with_reducible assumption)) (by with_reducible rfl) ?_; k_whole); intro D' n1' n2' n3' n4' t1' t2' t3' t4' h' F' N' l1; (try k_lt l1); (try k_sweep))))) | ((with_reducible ((first | with_reducible refine my_fdiv4096 ?_ | with_reducible refine my_fdiv64 ?_)))) | ((with_reducible ((with_reducible refine my_shl (by assumption) (by assumption) ?_)))) | ((with_reducible ((with_reducible refine my_mul (by assumption) ?_)))) | ((with_reducible ((first | with_reducible refine my_pow2 ?_ | with_reducible refine my_pow1 ?_)))) | ((fail_if_success (fail_if_success (with_reducible show wpAny _ _ (binaryOp _ (Value.ref _) (Value.ref _)) _ _ _))); (with_reducible ((k_here; k_dflt (refine' my_add (by k_asm) (by k_asm) (by k_mem) (by k_mem) (by walk_at "my_ints") (by walk_at "my_ints") (by (((try simp only [List.length_append, List.length_cons, List.length_nil, List.length_take, List.length_drop, sizeLine_eq]); omega))) ?_; k_whole); intro D' zs' h' F' N' l1 hI'; (try k_lt l1); (try k_sweep)))))) | ((fail_if_success (fail_if_success (with_reducible show wpAny _ _ (compareOp _ _ _) _ _ _))); first | ((with_reducible ((k_here; (with_reducible show wpAny _ _ (compareOp PySem.CmpOp.Eq (Value.ref _) (Value.ref _)) _ _ _); k_dflt (refine' eq_nil (by k_asm) (by walk_at "my_mem1") (by walk_at "my_mem1") (by units_room) (by assumption) ?_ ?_); (all_goals (intro q'; (try dsimp only); (try k_unmd))))))) | ((with_reducible ((first | with_reducible refine ne_same (by with_reducible rfl) ?_ | refine ne_same (by assumption) ?_))))) | ((fail_if_success (fail_if_success (with_reducible show wpAny _ _ (call _ _ _) _ _ _))); first | ((fail_if_success (fail_if_success (with_reducible show wpAny _ _ (call (Value.builtin "list.extend") _ _) _ _ _))); (with_reducible ((k_here; (with_reducible show wpAny _ _ (call (Value.builtin _) [Value.ref _, Value.ref _]) _ _ _); (rename IntsAre _ _ => lI'); (have hzl' := lI'.length); (simp only [List.length_append, List.length_cons, List.length_nil] at hzl'); k_dflt (refine' my_extend (by k_asm) (by k_asm) (by walk_at "my_mem1") (by omega) (by walk_at "my_upd") (by omega) ?_; k_whole); intro h' F' N'; (try k_sweep))))) | ((fail_if_success (fail_if_success (with_reducible show wpAny _ _ (call (Value.builtin "sorted") _ _) _ _ _))); (with_reducible ((k_here; (with_reducible show wpAny _ _ (call (Value.builtin "sorted") [Value.ref _]) _ _ _); k_dflt (refine' my_sorted (by k_asm) (by k_asm) (by walk_at "my_mem1") (by assumption) (by exact near_18 (by assumption) (by assumption)) ?_; k_whole); intro D' zs' e' ns' h' F' N' l1 hI' hp' hs' hl'; (try k_lt l1); (try k_sweep))))) | ((fail_if_success (fail_if_success (with_reducible show wpAny _ _ (call (Value.builtin "str.join") _ _) _ _ _))); (with_reducible ((k_here; (with_reducible show wpAny _ _ (call (Value.builtin _) [Value.str _ _, Value.ref _]) _ _ _); k_dflt (refine' join_told (by k_asm) (by walk_at "my_mem1") (by assumption) (by assumption) ?_ ?_); (all_goals (intro t' k' e1' e2' e3'; (try rw [e2']); (try dsimp only); (try k_unmd))))))) | ((with_reducible ((k_here; (with_reducible show wpAny _ _ (call (Value.ref 39) [Value.int _ _]) _ _ _); k_dflt (refine' call_flags (by k_asm) (by k_asm) (by k_asm) (by k_asm) (by k_asm) (by first | exact rfl | assumption) (by ktr_room) (by ktr_units) ?_ (by exact flags_law _ _ _ _ _ _ (by assumption) (by assumption)) ?_; (exact bitsL_len _ _ _ _ _ _); k_whole); intro t' h' tk' F' N'; (try k_sweep); (try dsimp only); (try k_unmd); (try k_fold))))) | ((with_reducible ((k_here; (with_reducible show wpAny _ _ (call (Value.ref 149) [Value.ref _, Value.int _ _, Value.int _ _]) _ _ _); k_dflt (refine' call_true (by k_asm) (by k_asm) (by k_asm) (by k_asm) (by k_asm) (by first | exact rfl | assumption) (by ktr_room) (by ktr_units) (by walk_at "my_mem1") (by exact meantIs_mono (by assumption) (fun p hp => by walk_at "my_mem1")) (by exact meantIs_mono (by assumption) (fun p hp => by walk_at "my_mem1")) (by exact meantIs_mono (by assumption) (fun p hp => by walk_at "my_mem1")) (by exact fm _ (by decide)) ?_; k_whole); intro h' tk' F' N'; (try k_sweep); (try dsimp only); (try k_unmd); (try k_fold))))) | ((with_reducible ((k_here; (with_reducible show wpAny _ _ (call (Value.ref 121) [Value.ref _, Value.ref _]) _ _ _); k_dflt (refine' call_held (by k_asm) (by k_asm) (by k_asm) (by k_asm) (by k_asm) (by first | exact rfl | assumption) (by ktr_room) (by ktr_units) (by walk_at "my_mem1") (by assumption) (by walk_at "my_mem1") (by assumption) (by (exact Nat.le_trans (row_len _ _ _ _) (by decide))) (by (first | (simp only [List.length_map, rangeKs_length]; omega) | omega)) (by exact fun x _ => ⟨_, run_row _ _ _ _ x⟩) ?_; k_whole); intro l' vs' c' h' tk' F' N' l1 hi'; (rw [held_row] at hi'); (try k_lt l1); (try k_sweep); (try dsimp only); (try k_unmd); (try k_fold))))) | ((with_reducible ((k_here; (with_reducible show wpAny _ _ (call (Value.ref 128) [Value.ref _, Value.int _ _]) _ _ _); (rename (_ = (1 : Int) ∨ _ = (-1 : Int)) => hsd'); k_dflt (refine' call_bounds (by k_asm) (by k_asm) (by k_asm) (by k_asm) (by k_asm) (by first | exact rfl | assumption) (by ktr_room) (by ktr_units) (by walk_at "my_mem1") (by assumption) (by (exact Nat.le_trans (row_len _ _ _ _) (by decide))) (by exact boundsOk_row _ _ _ _) ?_; k_whole); intro lt' l' vs' c' c1' t' h' tk' F' N' l1 l2 hi'; (have hmany' := many_of hsd' hi'); (try k_lt l1); (try k_lt2 l2); (try k_sweep); (try dsimp only); (try k_unmd); (try k_fold))))) | ((with_reducible ((k_here; (with_reducible show wpAny _ _ (call (Value.ref 116) [Value.ref _]) _ _ _); k_dflt (refine' call_read (by k_asm) (by k_asm) (by k_asm) (by k_asm) (by k_asm) (by first | exact rfl | assumption) (by ktr_room) (by ktr_units) (by k_mem) (by (assumption)) (by (exact row_range _ _ _ _)) (by (exact Nat.le_trans (row_len _ _ _ _) (by decide))) ?_; k_whole); intro l' vs' c' h' tk' F' N' l1 hi'; (try k_lt l1); (try k_sweep); (try dsimp only); (try k_unmd); (try k_fold))))) | ((with_reducible ((k_here; (with_reducible show wpAny _ _ (call (Value.ref 142) [Value.int _ _]) _ _ _); k_dflt (refine' call_meant (by k_asm) (by k_asm) (by k_asm) (by k_asm) (by k_asm) (by first | exact rfl | assumption) (by ktr_room) (by ktr_units) ?_; k_whole); intro l' lt' t1' t2' vs' c' c1' h' tk' F' N' l1 l2 hi'; (try k_lt l1); (try k_lt2 l2); (try k_sweep); (try dsimp only); (try k_unmd); (try k_fold))))) | ((with_reducible ((k_here; (with_reducible show wpAny _ _ (call (Value.ref 135) [Value.int _ _]) _ _ _); k_dflt (refine' call_sentence (by k_asm) (by k_asm) (by k_asm) (by k_asm) (by k_asm) (by first | exact rfl | assumption) (by ktr_room) (by ktr_units) ?_; k_whole); intro l' vs' c' h' tk' F' N' l1 hi'; (try k_lt l1); (try k_sweep); (have hlen' := sentLen _ hi'); (try dsimp only); (try k_unmd); (try k_fold)))))) | ((fail_if_success (fail_if_success (with_reducible show wpAny _ _ (eval (PySem.Expr.ListComp _ _ _ _) _) _ _ _))); first | ((with_reducible ((k_here; (with_reducible show wpAny _ _ (eval (PySem.Expr.ListComp (PySem.Expr.BinOp _ _ _ _) [⟨_, _, [_], _⟩] _ _) _) _ _ _); (fail_if_success (with_reducible show wpAny _ _ (eval (PySem.Expr.ListComp _ [⟨_, PySem.Expr.Tuple _ _ _, _, _⟩] _ _) _) _ _ _)); k_dflt (refine comp_ownT (F₀ := by k_asm) (by with_unfolding_all rfl) (by decide) (by rfl) (by decide) (by rfl) ?_); k_whole)))) | ((with_reducible ((k_here; (with_reducible show wpAny _ _ (eval (PySem.Expr.ListComp _ [_, _] _ _) _) _ _ _); k_dflt (refine comp2 (F₀ := by k_asm) (by with_unfolding_all rfl) (by decide) (by rfl) (by decide) (by rfl) (by rfl) (by decide) ?_); k_whole)))) | ((with_reducible ((k_here; (with_reducible show wpAny _ _ (eval (PySem.Expr.ListComp (PySem.Expr.BinOp _ PySem.Operator.LShift _ _) _ _ _) _) _ _ _); k_dflt (refine comp_own (F₀ := by k_asm) (by with_unfolding_all rfl) (by decide) (by rfl) (by decide) (by rfl) ?_); k_whole)))) | ((with_reducible ((k_here; (with_reducible show wpAny _ _ (eval (PySem.Expr.ListComp _ [⟨_, PySem.Expr.Subscript _ _ _, _, _⟩] _ _) _) _ _ _); (fail_if_success (with_reducible show wpAny _ _ (eval (PySem.Expr.ListComp _ [⟨_, PySem.Expr.Subscript _ _ _, _, _⟩] _ _) _) (CutM _ _ _ _ _ _ _ _) _ _)); (k_dflt (refine' cut_meant (by k_asm) (by k_asm) (by walk_at "my_mem1") ?_ (fun D' h' tk' l0' k0' l1' k1' l2' k2' c0' c1' c2' cc' e0' e1' e2' p0' p1' p2' q0' q1' q2' vs0' vs1' vs2' F' N' i0' i1' i2' o1' lx' g1' g2' g3' g4' g5' => ?_); k_whole); (rotate_left; (try simp only [LCg.Off1, and_true] at o1'); (try k_lt lx'); rotate_left)))))) | ((with_reducible ((k_here; (with_reducible show wpAny _ _ (eval (PySem.Expr.ListComp _ [⟨_, PySem.Expr.Subscript _ _ _, _, _⟩] _ _) _) (CutM _ _ _ _ _ _ _ _) _ _); k_dflt (refine comp_own (F₀ := by k_asm) (by with_unfolding_all rfl) (by decide) (by rfl) (by decide) (by rfl) ?_); k_whole)))) | ((with_reducible ((k_here; (with_reducible show wpAny _ _ (eval (PySem.Expr.ListComp _ [⟨_, PySem.Expr.Tuple _ _ _, _, _⟩] _ _) _) _ _ _); (fail_if_success (with_reducible show wpAny _ _ (eval (PySem.Expr.ListComp _ [⟨_, PySem.Expr.Tuple _ _ _, _, _⟩] _ _) _) (CutL _ _ _ _ _ _) _ _)); k_dflt (refine' cut_enc (by assumption) (by k_asm) (by k_asm) ?_ (fun D' zs' h' tk' F' N' o1' hI' hlen' => ?_); k_whole); (rotate_left; (try simp only [LCg.Off1, and_true] at o1'); rotate_left))))) | ((with_reducible ((k_here; (with_reducible show wpAny _ _ (eval (PySem.Expr.ListComp _ [⟨_, PySem.Expr.Tuple _ _ _, _, _⟩] _ _) _) (CutL _ _ _ _ _ _) _ _); k_dflt (refine comp_tup (F₀ := by k_asm) (by with_unfolding_all rfl) (by decide) (by rfl) (by decide) (by rfl) ?_); k_whole))))) | ((fail_if_success (fail_if_success (with_reducible show wpAny _ _ (eval (PySem.Expr.Name _ _) _) _ _ _))); first | ((with_reducible ((k_here; (rename Fr _ _ _ _ => lF'); k_dflt (refine' nameX_L lF' (by first | with_reducible assumption | exact rfl | assumption) ?_ (by rfl) (by rfl) (by decide); k_whole)))))) | ((fail_if_success (fail_if_success (with_reducible show wpAny _ _ (truthy _) _ _ _))); first | ((with_reducible ((with_reducible refine truthy_flag (bitsL_len _ _ _ _ _ _) ?_))))) | ((fail_if_success (fail_if_success (with_reducible show _ ∧ _))); (with_reducible ((exact ⟨rfl, _, rfl⟩)))) | ((fail_if_success (fail_if_success (with_reducible show LCg.CompEnd _ _ _ _ _ _ _ _ _ _ _ _ _ _))); (with_reducible ((k_dflt (refine' comp_end2 (by with_reducible assumption) (by with_reducible assumption) (by first | assumption | (simp only [LCg.Off3, and_true]; assumption)) (by exact ⟨by (exact ltN (by omega)), by (exact ltN (by omega)), by (exact ltN (by omega))⟩) (by with_reducible assumption) (by first | exact True.intro | lcg_src | exact Or.inr ⟨_, by walk_at "my_mem1", rfl, _, rfl⟩) ?_; k_whole))))) | ((fail_if_success (fail_if_success (with_reducible show CutEl _ _ _ _ _ _ _ _))); ((exact ⟨_, _, _, rfl, rfl, (by assumption), (by assumption)⟩))) | ((fail_if_success (fail_if_success (with_reducible show CutN _ _ _ _ _ _ _))); (with_reducible (((rename News _ _ _ _ => lN'); k_dflt (refine CutN.fin (by assumption) lN' (by walk_at "my_sfx")))))) | ((fail_if_success (fail_if_success (with_reducible show CutRg _ _ _ _ _ _ _ _))); ((exact ⟨_, _, _, _, _, _, rfl, rfl, (by assumption), (by assumption), (by assumption)⟩))) | ((fail_if_success (fail_if_success (with_reducible show LCg.FinE _ _ _ _ _ _ _))); (with_reducible (((unfold LCg.FinE); intro D' h' tk' F' N' o1'; (with_reducible show CutM _ _ _ _ _ _ _ _ _ _); k_dflt (refine' ⟨_, _, _, _, _, _, _, _, _, _, _, _, _, _, _, _, _, _, _, _, _, _, _, _, _, rfl, rfl, (by assumption), cb_drop N' (by walk_at "my_sub"), (by assumption), (by assumption), (by assumption), (by exact off1_sub o1' (by walk_at "my_sub")), (by walk_at "my_ltall"), (by (exact ltN (by omega))), (by (exact ltN (by omega))), (by (exact ltN (by omega))), (by (exact ltN (by omega))), (by (exact ltN (by omega)))⟩))))) | ((fail_if_success (fail_if_success (with_reducible show Src2 _ _ _ _ _ _ _ _ _ _ _ _ _ _ _ _))); (with_reducible ((k_here; (rename (_ = (1 : Int) ∨ _ = (-1 : Int)) => hsd'); k_dflt (refine' near_src hsd' (by rfl) (by k_asm) (by k_asm) (by walk_at "my_mem1") (by assumption) (by assumption) ?_ ?_ ?_); (focus (intro b' tb' h' tk' I' oI' C' oC' D' oD' m' hC' hx' F' N')); rotate_left; (focus (intro b' tb' j' tj' h' tk' J' oJ' I' oI' C' oC' D' oD' m' hC' hx' hy' F' N')); rotate_left; (intro D' ys' h' tk' hI' F' N' o1'; (try simp only [LCg.Off1, and_true] at o1')); rotate_left)))) | ((fail_if_success (fail_if_success (with_reducible show SrcM _ _ _ _ _ _ _ _ _ _ _ _ _ _))); (with_reducible ((k_here; (rename (_ = (1 : Int) ∨ _ = (-1 : Int)) => hsd'); k_dflt (refine' shift_law hsd' (by rfl) (by k_asm) (by k_asm) (by walk_at "my_mem1") (by assumption) (by omega) ?_ ?_); (focus (intro g' k' t' ys' I' oI' C' oC' D' m' h' tk' E' hlo' hhi' hC' hx' F' N' off' ne'; (try simp only [LCg.Off3, and_true] at off'))); rotate_left; intro g' ys' hI'; rotate_left)))) | ((fail_if_success (fail_if_success (with_reducible show SrcMT _ _ _ _ _ _ _ _ _ _ _ _ _ _ _))); (with_reducible ((k_here; (rename IntsAre _ (rowOf _ _ _ _) => hrw'); (rename (_ = (1 : Int) ∨ _ = (-1 : Int)) => hsd'); k_dflt (refine' filt_list hrw' hsd' (by rfl) (by k_asm) (by k_asm) (by walk_at "my_mem1") (by assumption) (by assumption) ?_ ?_); (focus (intro g' k' t' ys' I' oI' C' oC' D' m' h' tk' E' hC' hx' F' N' off' ne'; (try simp only [LCg.Off3, and_true] at off'))); rotate_left; intro g' ys' hI'; rotate_left)))) | ((fail_if_success (fail_if_success (with_reducible show SrcTup _ _ _ _ _ _ _ _ _ _ _ _ _ _ _))); (with_reducible ((k_here; k_dflt (refine SrcTup.put (by rfl) (by k_asm) (by k_asm) (by walk_at "my_mem1") (by first | size_fits | exact Nat.le_of_ble_eq_true rfl) ?_; intro g'; lct_lit))))) | ((fail_if_success (fail_if_success (with_reducible show LCg.CompEnd _ _ _ _ _ _ _ _ _ _ _ _ _ _))); (with_reducible ((k_dflt (refine' comp_end (by k_asm) (by k_asm) (by first | assumption | (simp only [LCg.Off3, and_true]; assumption)) (by first | exact True.intro | walk_at "my_mem1" | lcg_src) ?_; k_whole))))) | ((fail_if_success (fail_if_success (with_reducible show LCg.FinE _ _ _ _ _ _ _))); (with_reducible (((unfold LCg.FinE); intro D' h' tk' F' N' o1'; (with_reducible show CutL _ _ _ _ _ _ _ _); k_dflt (refine' CutL.fin (by assumption) (by assumption) (by walk_at "my_sfx") (by assumption) (by ((first | exact encI2 (by omega) | exact encI1 (by omega) (by omega) | exact encI0 (by omega) (by omega))))))))) | ((fail_if_success (fail_if_success (with_reducible show SrcM _ _ _ _ _ _ _ _ _ _ _ _ _ _))); (with_reducible ((k_here; k_dflt (refine SrcM.put (by rfl) (by k_asm) (by k_asm) (by walk_at "my_mem1") (by first | size_fits | exact Nat.le_of_ble_eq_true rfl) ?_; intro g'; lcg_lit))))) | ((fail_if_success (fail_if_success (with_reducible show SrcMT _ _ _ _ _ _ _ _ _ _ _ _ _ _ _))); (with_reducible ((k_here; (rename IntsAre _ (rowOf _ _ _ _) => hrw'); (rename (_ = (1 : Int) ∨ _ = (-1 : Int)) => hsd'); k_dflt (refine' filt_range hrw' hsd' (by rfl) (by k_asm) (by k_asm) (by assumption) ?_ ?_); (focus (intro g' k' t' ys' I' oI' C' oC' D' m' h' tk' E' hC' hx' F' N' off' ne'; (try simp only [LCg.Off3, and_true] at off'))); rotate_left; intro g' ys' hI'; rotate_left)))) | ((fail_if_success (fail_if_success (with_reducible show SrcMT _ _ _ _ _ _ _ _ _ _ _ _ _ _ _))); (with_reducible ((k_here; (rename IntsAre _ (rowOf _ _ _ _) => hrw'); (rename (_ = (1 : Int) ∨ _ = (-1 : Int)) => hsd'); k_dflt (refine' told_law hrw' hsd' (by rfl) (by k_asm) (by k_asm) (by assumption) (by assumption) ?_ ?_); (focus (intro g' k' t' ys' I' oI' C' oC' D' m' h' tk' E' hlo' hhi' hC' hx' F' N' off' ne'; (try simp only [LCg.Off3, and_true] at off'))); rotate_left; intro g' l' hl'; rotate_left)))) | walk1 | (dsimp only; first | ((fail_if_success (fail_if_success (with_reducible show wpAny _ _ (execs (_ :: _) _) _ _ _))); (with_reducible refine wpAny_execs_cons ?_); k_fold) | ((fail_if_success (fail_if_success (with_reducible show wpAny _ _ (exec _ _) _ _ _))); first | ((fail_if_success (fail_if_success (with_reducible show wpAny _ _ (exec (PySem.Stmt.For (PySem.Expr.Name _ _) (PySem.Expr.BinOp _ _ _ _) (_ :: _) [] _) _) _ _ _))); (with_reducible ((k_here; (rename Fr _ _ _ _ => lF'); (with_unfolding_all refine' For_turns lF' ?_; k_whole))))) | ((fail_if_success (fail_if_success (with_reducible show wpAny _ _ (exec (PySem.Stmt.For (PySem.Expr.Name _ _) (PySem.Expr.List _ _) (_ :: _) [] _) _) _ _ _))); (with_reducible ((k_here; (rename Fr _ _ _ _ => lF'); (with_unfolding_all refine' For_stop lF' ?_; k_whole))))) | ((with_reducible ((k_here; (with_reducible show wpAny _ _ (exec (PySem.Stmt.Assign [_] (PySem.Expr.ListComp _ [⟨_, PySem.Expr.Call _ _ _ _, [_], _⟩] _ _) _) _) _ _ _); k_dflt (refine comp_ownA (F₀ := by k_asm) (by rfl) (by with_unfolding_all rfl) (by with_unfolding_all rfl) (by decide) (by rfl) (by decide) (by rfl) (by rfl) (by rfl) ?_); k_whole)))) | ((with_reducible ((k_here; (with_reducible show wpAny _ _ (exec (PySem.Stmt.If (PySem.Expr.Compare (PySem.Expr.Call _ _ _ _) _ _ _) _ _ _) _) _ _ _); (fail_if_success (with_reducible show wpAny _ _ _ (CutN _ _ _ _ _) _ _)); k_dflt (refine' cutN (by k_asm) (by k_asm) ?_ (fun h' tk' F' N' => ?_); k_whole)))))) | ((fail_if_success (fail_if_success (with_reducible show wpAny _ _ (subscriptTail _ _ _ _) _ _ _))); first | ((with_reducible (((k_dflt (refine kba_turn (value' := PySem.Expr.Name (PySem.Str.ofString "_") ⟨0, 0, 0, 0⟩) (fun _ => rfl) ?_)); (k_here; (with_reducible show wpAny _ _ (subscriptTail _ (PySem.Expr.Slice (some _) none none _) (Value.ref _) (Value.ref _)) _ _ _); k_dflt (refine' my_from (by k_asm) (by k_asm) (by k_mem) (by walk_at "my_ints") (by (first | decide | omega)) (by (((try simp only [List.length_append, List.length_cons, List.length_nil, List.length_take, List.length_drop, sizeLine_eq]); omega))) ?_ (by with_unfolding_all rfl) (by kmk_pure); k_whole); intro D' zs' h' F' N' l1 hI'; (try k_lt l1); (try k_sweep)))))) | ((with_reducible ((k_here; (with_reducible show wpAny _ _ (subscriptTail _ _ (Value.ref _) (Value.int _ _)) _ _ _); k_dflt (refine' my_word (by k_asm) (by walk_at "my_mem1") (by omega) (by omega) ?_ (by with_unfolding_all rfl); k_whole); intro t'; (try dsimp only); (try k_unmd))))) | ((with_reducible ((k_here; (with_reducible show wpAny _ _ (subscriptTail _ (PySem.Expr.Slice none (some _) none _) (Value.ref _) (Value.ref _)) _ _ _); k_dflt (refine' my_upto3 (by k_asm) (by k_asm) (by walk_at "my_mem1") ?_ (by with_unfolding_all rfl) (by kmk_pure); k_whole); intro D' h' F' N' l1; (try k_lt l1); (try k_sweep)))))) | ((fail_if_success (fail_if_success (with_reducible show wpAny _ _ (binaryOp _ _ _) _ _ _))); first | ((fail_if_success (fail_if_success (with_reducible show wpAny _ _ (binaryOp _ (Value.ref _) (Value.ref _)) _ _ _))); (with_reducible ((k_here; k_dflt (refine' my_add4 (by k_asm) (by k_asm) (by k_mem) (by k_mem) (by (with_reducible assumption)) (by (with_reducible assumption)) (by with_reducible rfl) ?_; k_whole); intro D' n1' n2' n3' n4' t1' t2' t3' t4' h' F' N' l1; (try k_lt l1); (try k_sweep))))) | ((with_reducible ((first | with_reducible refine my_fdiv4096 ?_ | with_reducible refine my_fdiv64 ?_)))) | ((with_reducible ((with_reducible refine my_shl (by assumption) (by assumption) ?_)))) | ((with_reducible ((with_reducible refine my_mul (by assumption) ?_)))) | ((with_reducible ((first | with_reducible refine my_pow2 ?_ | with_reducible refine my_pow1 ?_)))) | ((fail_if_success (fail_if_success (with_reducible show wpAny _ _ (binaryOp _ (Value.ref _) (Value.ref _)) _ _ _))); (with_reducible ((k_here; k_dflt (refine' my_add (by k_asm) (by k_asm) (by k_mem) (by k_mem) (by walk_at "my_ints") (by walk_at "my_ints") (by (((try simp only [List.length_append, List.length_cons, List.length_nil, List.length_take, List.length_drop, sizeLine_eq]); omega))) ?_; k_whole); intro D' zs' h' F' N' l1 hI'; (try k_lt l1); (try k_sweep)))))) | ((fail_if_success (fail_if_success (with_reducible show wpAny _ _ (compareOp _ _ _) _ _ _))); first | ((with_reducible ((k_here; (with_reducible show wpAny _ _ (compareOp PySem.CmpOp.Eq (Value.ref _) (Value.ref _)) _ _ _); k_dflt (refine' eq_nil (by k_asm) (by walk_at "my_mem1") (by walk_at "my_mem1") (by units_room) (by assumption) ?_ ?_); (all_goals (intro q'; (try dsimp only); (try k_unmd))))))) | ((with_reducible ((first | with_reducible refine ne_same (by with_reducible rfl) ?_ | refine ne_same (by assumption) ?_))))) | ((fail_if_success (fail_if_success (with_reducible show wpAny _ _ (call _ _ _) _ _ _))); first | ((fail_if_success (fail_if_success (with_reducible show wpAny _ _ (call (Value.builtin "list.extend") _ _) _ _ _))); (with_reducible ((k_here; (with_reducible show wpAny _ _ (call (Value.builtin _) [Value.ref _, Value.ref _]) _ _ _); (rename IntsAre _ _ => lI'); (have hzl' := lI'.length); (simp only [List.length_append, List.length_cons, List.length_nil] at hzl'); k_dflt (refine' my_extend (by k_asm) (by k_asm) (by walk_at "my_mem1") (by omega) (by walk_at "my_upd") (by omega) ?_; k_whole); intro h' F' N'; (try k_sweep))))) | ((fail_if_success (fail_if_success (with_reducible show wpAny _ _ (call (Value.builtin "sorted") _ _) _ _ _))); (with_reducible ((k_here; (with_reducible show wpAny _ _ (call (Value.builtin "sorted") [Value.ref _]) _ _ _); k_dflt (refine' my_sorted (by k_asm) (by k_asm) (by walk_at "my_mem1") (by assumption) (by exact near_18 (by assumption) (by assumption)) ?_; k_whole); intro D' zs' e' ns' h' F' N' l1 hI' hp' hs' hl'; (try k_lt l1); (try k_sweep))))) | ((fail_if_success (fail_if_success (with_reducible show wpAny _ _ (call (Value.builtin "str.join") _ _) _ _ _))); (with_reducible ((k_here; (with_reducible show wpAny _ _ (call (Value.builtin _) [Value.str _ _, Value.ref _]) _ _ _); k_dflt (refine' join_told (by k_asm) (by walk_at "my_mem1") (by assumption) (by assumption) ?_ ?_); (all_goals (intro t' k' e1' e2' e3'; (try rw [e2']); (try dsimp only); (try k_unmd))))))) | ((with_reducible ((k_here; (with_reducible show wpAny _ _ (call (Value.ref 39) [Value.int _ _]) _ _ _); k_dflt (refine' call_flags (by k_asm) (by k_asm) (by k_asm) (by k_asm) (by k_asm) (by first | exact rfl | assumption) (by ktr_room) (by ktr_units) ?_ (by exact flags_law _ _ _ _ _ _ (by assumption) (by assumption)) ?_; (exact bitsL_len _ _ _ _ _ _); k_whole); intro t' h' tk' F' N'; (try k_sweep); (try dsimp only); (try k_unmd); (try k_fold))))) | ((with_reducible ((k_here; (with_reducible show wpAny _ _ (call (Value.ref 149) [Value.ref _, Value.int _ _, Value.int _ _]) _ _ _); k_dflt (refine' call_true (by k_asm) (by k_asm) (by k_asm) (by k_asm) (by k_asm) (by first | exact rfl | assumption) (by ktr_room) (by ktr_units) (by walk_at "my_mem1") (by exact meantIs_mono (by assumption) (fun p hp => by walk_at "my_mem1")) (by exact meantIs_mono (by assumption) (fun p hp => by walk_at "my_mem1")) (by exact meantIs_mono (by assumption) (fun p hp => by walk_at "my_mem1")) (by exact fm _ (by decide)) ?_; k_whole); intro h' tk' F' N'; (try k_sweep); (try dsimp only); (try k_unmd); (try k_fold))))) | ((with_reducible ((k_here; (with_reducible show wpAny _ _ (call (Value.ref 121) [Value.ref _, Value.ref _]) _ _ _); k_dflt (refine' call_held (by k_asm) (by k_asm) (by k_asm) (by k_asm) (by k_asm) (by first | exact rfl | assumption) (by ktr_room) (by ktr_units) (by walk_at "my_mem1") (by assumption) (by walk_at "my_mem1") (by assumption) (by (exact Nat.le_trans (row_len _ _ _ _) (by decide))) (by (first | (simp only [List.length_map, rangeKs_length]; omega) | omega)) (by exact fun x _ => ⟨_, run_row _ _ _ _ x⟩) ?_; k_whole); intro l' vs' c' h' tk' F' N' l1 hi'; (rw [held_row] at hi'); (try k_lt l1); (try k_sweep); (try dsimp only); (try k_unmd); (try k_fold))))) | ((with_reducible ((k_here; (with_reducible show wpAny _ _ (call (Value.ref 128) [Value.ref _, Value.int _ _]) _ _ _); (rename (_ = (1 : Int) ∨ _ = (-1 : Int)) => hsd'); k_dflt (refine' call_bounds (by k_asm) (by k_asm) (by k_asm) (by k_asm) (by k_asm) (by first | exact rfl | assumption) (by ktr_room) (by ktr_units) (by walk_at "my_mem1") (by assumption) (by (exact Nat.le_trans (row_len _ _ _ _) (by decide))) (by exact boundsOk_row _ _ _ _) ?_; k_whole); intro lt' l' vs' c' c1' t' h' tk' F' N' l1 l2 hi'; (have hmany' := many_of hsd' hi'); (try k_lt l1); (try k_lt2 l2); (try k_sweep); (try dsimp only); (try k_unmd); (try k_fold))))) | ((with_reducible ((k_here; (with_reducible show wpAny _ _ (call (Value.ref 116) [Value.ref _]) _ _ _); k_dflt (refine' call_read (by k_asm) (by k_asm) (by k_asm) (by k_asm) (by k_asm) (by first | exact rfl | assumption) (by ktr_room) (by ktr_units) (by k_mem) (by (assumption)) (by (exact row_range _ _ _ _)) (by (exact Nat.le_trans (row_len _ _ _ _) (by decide))) ?_; k_whole); intro l' vs' c' h' tk' F' N' l1 hi'; (try k_lt l1); (try k_sweep); (try dsimp only); (try k_unmd); (try k_fold))))) | ((with_reducible ((k_here; (with_reducible show wpAny _ _ (call (Value.ref 142) [Value.int _ _]) _ _ _); k_dflt (refine' call_meant (by k_asm) (by k_asm) (by k_asm) (by k_asm) (by k_asm) (by first | exact rfl | assumption) (by ktr_room) (by ktr_units) ?_; k_whole); intro l' lt' t1' t2' vs' c' c1' h' tk' F' N' l1 l2 hi'; (try k_lt l1); (try k_lt2 l2); (try k_sweep); (try dsimp only); (try k_unmd); (try k_fold))))) | ((with_reducible ((k_here; (with_reducible show wpAny _ _ (call (Value.ref 135) [Value.int _ _]) _ _ _); k_dflt (refine' call_sentence (by k_asm) (by k_asm) (by k_asm) (by k_asm) (by k_asm) (by first | exact rfl | assumption) (by ktr_room) (by ktr_units) ?_; k_whole); intro l' vs' c' h' tk' F' N' l1 hi'; (try k_lt l1); (try k_sweep); (have hlen' := sentLen _ hi'); (try dsimp only); (try k_unmd); (try k_fold)))))) | ((fail_if_success (fail_if_success (with_reducible show wpAny _ _ (eval (PySem.Expr.ListComp _ _ _ _) _) _ _ _))); first | ((with_reducible ((k_here; (with_reducible show wpAny _ _ (eval (PySem.Expr.ListComp (PySem.Expr.BinOp _ _ _ _) [⟨_, _, [_], _⟩] _ _) _) _ _ _); (fail_if_success (with_reducible show wpAny _ _ (eval (PySem.Expr.ListComp _ [⟨_, PySem.Expr.Tuple _ _ _, _, _⟩] _ _) _) _ _ _)); k_dflt (refine comp_ownT (F₀ := by k_asm) (by with_unfolding_all rfl) (by decide) (by rfl) (by decide) (by rfl) ?_); k_whole)))) | ((with_reducible ((k_here; (with_reducible show wpAny _ _ (eval (PySem.Expr.ListComp _ [_, _] _ _) _) _ _ _); k_dflt (refine comp2 (F₀ := by k_asm) (by with_unfolding_all rfl) (by decide) (by rfl) (by decide) (by rfl) (by rfl) (by decide) ?_); k_whole)))) | ((with_reducible ((k_here; (with_reducible show wpAny _ _ (eval (PySem.Expr.ListComp (PySem.Expr.BinOp _ PySem.Operator.LShift _ _) _ _ _) _) _ _ _); k_dflt (refine comp_own (F₀ := by k_asm) (by with_unfolding_all rfl) (by decide) (by rfl) (by decide) (by rfl) ?_); k_whole)))) | ((with_reducible ((k_here; (with_reducible show wpAny _ _ (eval (PySem.Expr.ListComp _ [⟨_, PySem.Expr.Subscript _ _ _, _, _⟩] _ _) _) _ _ _); (fail_if_success (with_reducible show wpAny _ _ (eval (PySem.Expr.ListComp _ [⟨_, PySem.Expr.Subscript _ _ _, _, _⟩] _ _) _) (CutM _ _ _ _ _ _ _ _) _ _)); (k_dflt (refine' cut_meant (by k_asm) (by k_asm) (by walk_at "my_mem1") ?_ (fun D' h' tk' l0' k0' l1' k1' l2' k2' c0' c1' c2' cc' e0' e1' e2' p0' p1' p2' q0' q1' q2' vs0' vs1' vs2' F' N' i0' i1' i2' o1' lx' g1' g2' g3' g4' g5' => ?_); k_whole); (rotate_left; (try simp only [LCg.Off1, and_true] at o1'); (try k_lt lx'); rotate_left)))))) | ((with_reducible ((k_here; (with_reducible show wpAny _ _ (eval (PySem.Expr.ListComp _ [⟨_, PySem.Expr.Subscript _ _ _, _, _⟩] _ _) _) (CutM _ _ _ _ _ _ _ _) _ _); k_dflt (refine comp_own (F₀ := by k_asm) (by with_unfolding_all rfl) (by decide) (by rfl) (by decide) (by rfl) ?_); k_whole)))) | ((with_reducible ((k_here; (with_reducible show wpAny _ _ (eval (PySem.Expr.ListComp _ [⟨_, PySem.Expr.Tuple _ _ _, _, _⟩] _ _) _) _ _ _); (fail_if_success (with_reducible show wpAny _ _ (eval (PySem.Expr.ListComp _ [⟨_, PySem.Expr.Tuple _ _ _, _, _⟩] _ _) _) (CutL _ _ _ _ _ _) _ _)); k_dflt (refine' cut_enc (by assumption) (by k_asm) (by k_asm) ?_ (fun D' zs' h' tk' F' N' o1' hI' hlen' => ?_); k_whole); (rotate_left; (try simp only [LCg.Off1, and_true] at o1'); rotate_left))))) | ((with_reducible ((k_here; (with_reducible show wpAny _ _ (eval (PySem.Expr.ListComp _ [⟨_, PySem.Expr.Tuple _ _ _, _, _⟩] _ _) _) (CutL _ _ _ _ _ _) _ _); k_dflt (refine comp_tup (F₀ := by k_asm) (by with_unfolding_all rfl) (by decide) (by rfl) (by decide) (by rfl) ?_); k_whole))))) | ((fail_if_success (fail_if_success (with_reducible show wpAny _ _ (eval (PySem.Expr.Name _ _) _) _ _ _))); first | ((with_reducible ((k_here; (rename Fr _ _ _ _ => lF'); k_dflt (refine' nameX_L lF' (by first | with_reducible assumption | exact rfl | assumption) ?_ (by rfl) (by rfl) (by decide); k_whole)))))) | ((fail_if_success (fail_if_success (with_reducible show wpAny _ _ (truthy _) _ _ _))); first | ((with_reducible ((with_reducible refine truthy_flag (bitsL_len _ _ _ _ _ _) ?_))))) | ((fail_if_success (fail_if_success (with_reducible show _ ∧ _))); (with_reducible ((exact ⟨rfl, _, rfl⟩)))) | ((fail_if_success (fail_if_success (with_reducible show LCg.CompEnd _ _ _ _ _ _ _ _ _ _ _ _ _ _))); (with_reducible ((k_dflt (refine' comp_end2 (by with_reducible assumption) (by with_reducible assumption) (by first | assumption | (simp only [LCg.Off3, and_true]; assumption)) (by exact ⟨by (exact ltN (by omega)), by (exact ltN (by omega)), by (exact ltN (by omega))⟩) (by with_reducible assumption) (by first | exact True.intro | lcg_src | exact Or.inr ⟨_, by walk_at "my_mem1", rfl, _, rfl⟩) ?_; k_whole))))) | ((fail_if_success (fail_if_success (with_reducible show CutEl _ _ _ _ _ _ _ _))); ((exact ⟨_, _, _, rfl, rfl, (by assumption), (by assumption)⟩))) | ((fail_if_success (fail_if_success (with_reducible show CutN _ _ _ _ _ _ _))); (with_reducible (((rename News _ _ _ _ => lN'); k_dflt (refine CutN.fin (by assumption) lN' (by walk_at "my_sfx")))))) | ((fail_if_success (fail_if_success (with_reducible show CutRg _ _ _ _ _ _ _ _))); ((exact ⟨_, _, _, _, _, _, rfl, rfl, (by assumption), (by assumption), (by assumption)⟩))) | ((fail_if_success (fail_if_success (with_reducible show LCg.FinE _ _ _ _ _ _ _))); (with_reducible (((unfold LCg.FinE); intro D' h' tk' F' N' o1'; (with_reducible show CutM _ _ _ _ _ _ _ _ _ _); k_dflt (refine' ⟨_, _, _, _, _, _, _, _, _, _, _, _, _, _, _, _, _, _, _, _, _, _, _, _, _, rfl, rfl, (by assumption), cb_drop N' (by walk_at "my_sub"), (by assumption), (by assumption), (by assumption), (by exact off1_sub o1' (by walk_at "my_sub")), (by walk_at "my_ltall"), (by (exact ltN (by omega))), (by (exact ltN (by omega))), (by (exact ltN (by omega))), (by (exact ltN (by omega))), (by (exact ltN (by omega)))⟩))))) | ((fail_if_success (fail_if_success (with_reducible show Src2 _ _ _ _ _ _ _ _ _ _ _ _ _ _ _ _))); (with_reducible ((k_here; (rename (_ = (1 : Int) ∨ _ = (-1 : Int)) => hsd'); k_dflt (refine' near_src hsd' (by rfl) (by k_asm) (by k_asm) (by walk_at "my_mem1") (by assumption) (by assumption) ?_ ?_ ?_); (focus (intro b' tb' h' tk' I' oI' C' oC' D' oD' m' hC' hx' F' N')); rotate_left; (focus (intro b' tb' j' tj' h' tk' J' oJ' I' oI' C' oC' D' oD' m' hC' hx' hy' F' N')); rotate_left; (intro D' ys' h' tk' hI' F' N' o1'; (try simp only [LCg.Off1, and_true] at o1')); rotate_left)))) | ((fail_if_success (fail_if_success (with_reducible show SrcM _ _ _ _ _ _ _ _ _ _ _ _ _ _))); (with_reducible ((k_here; (rename (_ = (1 : Int) ∨ _ = (-1 : Int)) => hsd'); k_dflt (refine' shift_law hsd' (by rfl) (by k_asm) (by k_asm) (by walk_at "my_mem1") (by assumption) (by omega) ?_ ?_); (focus (intro g' k' t' ys' I' oI' C' oC' D' m' h' tk' E' hlo' hhi' hC' hx' F' N' off' ne'; (try simp only [LCg.Off3, and_true] at off'))); rotate_left; intro g' ys' hI'; rotate_left)))) | ((fail_if_success (fail_if_success (with_reducible show SrcMT _ _ _ _ _ _ _ _ _ _ _ _ _ _ _))); (with_reducible ((k_here; (rename IntsAre _ (rowOf _ _ _ _) => hrw'); (rename (_ = (1 : Int) ∨ _ = (-1 : Int)) => hsd'); k_dflt (refine' filt_list hrw' hsd' (by rfl) (by k_asm) (by k_asm) (by walk_at "my_mem1") (by assumption) (by assumption) ?_ ?_); (focus (intro g' k' t' ys' I' oI' C' oC' D' m' h' tk' E' hC' hx' F' N' off' ne'; (try simp only [LCg.Off3, and_true] at off'))); rotate_left; intro g' ys' hI'; rotate_left)))) | ((fail_if_success (fail_if_success (with_reducible show SrcTup _ _ _ _ _ _ _ _ _ _ _ _ _ _ _))); (with_reducible ((k_here; k_dflt (refine SrcTup.put (by rfl) (by k_asm) (by k_asm) (by walk_at "my_mem1") (by first | size_fits | exact Nat.le_of_ble_eq_true rfl) ?_; intro g'; lct_lit))))) | ((fail_if_success (fail_if_success (with_reducible show LCg.CompEnd _ _ _ _ _ _ _ _ _ _ _ _ _ _))); (with_reducible ((k_dflt (refine' comp_end (by k_asm) (by k_asm) (by first | assumption | (simp only [LCg.Off3, and_true]; assumption)) (by first | exact True.intro | walk_at "my_mem1" | lcg_src) ?_; k_whole))))) | ((fail_if_success (fail_if_success (with_reducible show LCg.FinE _ _ _ _ _ _ _))); (with_reducible (((unfold LCg.FinE); intro D' h' tk' F' N' o1'; (with_reducible show CutL _ _ _ _ _ _ _ _); k_dflt (refine' CutL.fin (by assumption) (by assumption) (by walk_at "my_sfx") (by assumption) (by ((first | exact encI2 (by omega) | exact encI1 (by omega) (by omega) | exact encI0 (by omega) (by omega))))))))) | ((fail_if_success (fail_if_success (with_reducible show SrcM _ _ _ _ _ _ _ _ _ _ _ _ _ _))); (with_reducible ((k_here; k_dflt (refine SrcM.put (by rfl) (by k_asm) (by k_asm) (by walk_at "my_mem1") (by first | size_fits | exact Nat.le_of_ble_eq_true rfl) ?_; intro g'; lcg_lit))))) | ((fail_if_success (fail_if_success (with_reducible show SrcMT _ _ _ _ _ _ _ _ _ _ _ _ _ _ _))); (with_reducible ((k_here; (rename IntsAre _ (rowOf _ _ _ _) => hrw'); (rename (_ = (1 : Int) ∨ _ = (-1 : Int)) => hsd'); k_dflt (refine' filt_range hrw' hsd' (by rfl) (by k_asm) (by k_asm) (by assumption) ?_ ?_); (focus (intro g' k' t' ys' I' oI' C' oC' D' m' h' tk' E' hC' hx' F' N' off' ne'; (try simp only [LCg.Off3, and_true] at off'))); rotate_left; intro g' ys' hI'; rotate_left)))) | ((fail_if_success (fail_if_success (with_reducible show SrcMT _ _ _ _ _ _ _ _ _ _ _ _ _ _ _))); (with_reducible ((k_here; (rename IntsAre _ (rowOf _ _ _ _) => hrw'); (rename (_ = (1 : Int) ∨ _ = (-1 : Int)) => hsd'); k_dflt (refine' told_law hrw' hsd' (by rfl) (by k_asm) (by k_asm) (by assumption) (by assumption) ?_ ?_); (focus (intro g' k' t' ys' I' oI' C' oC' D' m' h' tk' E' hlo' hhi' hC' hx' F' N' off' ne'; (try simp only [LCg.Off3, and_true] at off'))); rotate_left; intro g' l' hl'; rotate_left)))) | walk1) | (leave1; (try dsimp only)) | fail "no step"))
  (rename Fr _ _ _ _ => lF)
  (rename News _ _ _ _ => lN)
  refine pack2 lF lN rfl (by walk_at "my_mem1") (by walk_at "my_mem1") fun tl hk off1 off2 N2 => ?_
  refine loop_oct rfl lF N2 (hk _ (by walk_at "my_mem1") (by ((refine neN ?_; (try dsimp only); omega))) (by ((refine neN ?_; (try dsimp only); omega)))) (by assumption) (by assumption) ?_ ?_ (ltN (by omega)) rfl ?_ ?_
  · exact row_len2 _ _ _ _
  · exact row_range2 _ _ _ _
  · (((repeat (rename (_ < _ ∧ _) => hx; clear hx)); (repeat (rename News _ _ _ _ => hx; clear hx)); (repeat (rename Fr _ _ _ _ => hx; clear hx)); (repeat (rename Obj.data _ = _ => hx; clear hx)); (repeat (rename IntsAre _ _ => hx; clear hx)); (repeat (rename (List.length _ ≤ _) => hx; clear hx)); (repeat (rename (∀ p ∈ _ :: _, p.1 ≠ _ → p.1 ≠ _ → p ∈ _) => hx; clear hx))))
    intro m₁ hm₁ k kt os vs c oN vN h tk I o e1 e2 e3 e4 e5 e6 e7 e10 e8 F' N'
    have e9 := ne_of_allLt (allLt_of e8)
    (repeat' (first | (k_unfold; (try dsimp only)) | (k_end; wrow_close) | ((fail_if_success (fail_if_success (with_reducible show wpAny _ _ (execs (_ :: _) _) _ _ _))); (with_reducible refine wpAny_execs_cons ?_); k_fold) | ((fail_if_success (fail_if_success (with_reducible show wpAny _ _ (exec _ _) _ _ _))); first | ((fail_if_success (fail_if_success (with_reducible show wpAny _ _ (exec (PySem.Stmt.For (PySem.Expr.Name _ _) (PySem.Expr.BinOp _ _ _ _) (_ :: _) [] _) _) _ _ _))); (with_reducible ((k_here; (rename Fr _ _ _ _ => lF'); (with_unfolding_all refine' For_turns lF' ?_; k_whole))))) | ((fail_if_success (fail_if_success (with_reducible show wpAny _ _ (exec (PySem.Stmt.For (PySem.Expr.Name _ _) (PySem.Expr.List _ _) (_ :: _) [] _) _) _ _ _))); (with_reducible ((k_here; (rename Fr _ _ _ _ => lF'); (with_unfolding_all refine' For_stop lF' ?_; k_whole))))) | ((with_reducible ((k_here; (with_reducible show wpAny _ _ (exec (PySem.Stmt.Assign [_] (PySem.Expr.ListComp _ [⟨_, PySem.Expr.Call _ _ _ _, [_], _⟩] _ _) _) _) _ _ _); k_dflt (refine comp_ownA (F₀ := by k_asm) (by rfl) (by with_unfolding_all rfl) (by with_unfolding_all rfl) (by decide) (by rfl) (by decide) (by rfl) (by rfl) (by rfl) ?_); k_whole)))) | ((with_reducible ((k_here; (with_reducible show wpAny _ _ (exec (PySem.Stmt.If (PySem.Expr.Compare (PySem.Expr.Call _ _ _ _) _ _ _) _ _ _) _) _ _ _); (fail_if_success (with_reducible show wpAny _ _ _ (CutN _ _ _ _ _) _ _)); k_dflt (refine' cutN (by k_asm) (by k_asm) ?_ (fun h' tk' F' N' => ?_); k_whole)))))) | ((fail_if_success (fail_if_success (with_reducible show wpAny _ _ (subscriptTail _ _ _ _) _ _ _))); first | ((with_reducible (((k_dflt (refine kba_turn (value' := PySem.Expr.Name (PySem.Str.ofString "_") ⟨0, 0, 0, 0⟩) (fun _ => rfl) ?_)); (k_here; (with_reducible show wpAny _ _ (subscriptTail _ (PySem.Expr.Slice (some _) none none _) (Value.ref _) (Value.ref _)) _ _ _); k_dflt (refine' my_from (by k_asm) (by k_asm) (by k_mem) (by walk_at "my_ints") (by (first | decide | omega)) (by (((try simp only [List.length_append, List.length_cons, List.length_nil, List.length_take, List.length_drop, sizeLine_eq]); omega))) ?_ (by with_unfolding_all rfl) (by kmk_pure); k_whole); intro D' zs' h' F' N' l1 hI'; (try k_lt l1); (try k_sweep)))))) | ((with_reducible ((k_here; (with_reducible show wpAny _ _ (subscriptTail _ _ (Value.ref _) (Value.int _ _)) _ _ _); k_dflt (refine' my_word (by k_asm) (by walk_at "my_mem1") (by omega) (by omega) ?_ (by with_unfolding_all rfl); k_whole); intro t'; (try dsimp only); (try k_unmd))))) | ((with_reducible ((k_here; (with_reducible show wpAny _ _ (subscriptTail _ (PySem.Expr.Slice none (some _) none _) (Value.ref _) (Value.ref _)) _ _ _); k_dflt (refine' my_upto3 (by k_asm) (by k_asm) (by walk_at "my_mem1") ?_ (by with_unfolding_all rfl) (by kmk_pure); k_whole); intro D' h' F' N' l1; (try k_lt l1); (try k_sweep)))))) | ((fail_if_success (fail_if_success (with_reducible show wpAny _ _ (binaryOp _ _ _) _ _ _))); first | ((fail_if_success (fail_if_success (with_reducible show wpAny _ _ (binaryOp _ (Value.ref _) (Value.ref _)) _ _ _))); (with_reducible ((k_here; k_dflt (refine' my_add4 (by k_asm) (by k_asm) (by k_mem) (by k_mem) (by (with_reducible assumption)) (by (with_reducible assumption)) (by with_reducible rfl) ?_; k_whole); intro D' n1' n2' n3' n4' t1' t2' t3' t4' h' F' N' l1; (try k_lt l1); (try k_sweep))))) | ((with_reducible ((first | with_reducible refine my_fdiv4096 ?_ | with_reducible refine my_fdiv64 ?_)))) | ((with_reducible ((with_reducible refine my_shl (by assumption) (by assumption) ?_)))) | ((with_reducible ((with_reducible refine my_mul (by assumption) ?_)))) | ((with_reducible ((first | with_reducible refine my_pow2 ?_ | with_reducible refine my_pow1 ?_)))) | ((fail_if_success (fail_if_success (with_reducible show wpAny _ _ (binaryOp _ (Value.ref _) (Value.ref _)) _ _ _))); (with_reducible ((k_here; k_dflt (refine' my_add (by k_asm) (by k_asm) (by k_mem) (by k_mem) (by walk_at "my_ints") (by walk_at "my_ints") (by (((try simp only [List.length_append, List.length_cons, List.length_nil, List.length_take, List.length_drop, sizeLine_eq]); omega))) ?_; k_whole); intro D' zs' h' F' N' l1 hI'; (try k_lt l1); (try k_sweep)))))) | ((fail_if_success (fail_if_success (with_reducible show wpAny _ _ (compareOp _ _ _) _ _ _))); first | ((with_reducible ((k_here; (with_reducible show wpAny _ _ (compareOp PySem.CmpOp.Eq (Value.ref _) (Value.ref _)) _ _ _); k_dflt (refine' eq_nil (by k_asm) (by walk_at "my_mem1") (by walk_at "my_mem1") (by units_room) (by assumption) ?_ ?_); (all_goals (intro q'; (try dsimp only); (try k_unmd))))))) | ((with_reducible ((first | with_reducible refine ne_same (by with_reducible rfl) ?_ | refine ne_same (by assumption) ?_))))) | ((fail_if_success (fail_if_success (with_reducible show wpAny _ _ (call _ _ _) _ _ _))); first | ((fail_if_success (fail_if_success (with_reducible show wpAny _ _ (call (Value.builtin "list.extend") _ _) _ _ _))); (with_reducible ((k_here; (with_reducible show wpAny _ _ (call (Value.builtin _) [Value.ref _, Value.ref _]) _ _ _); (rename IntsAre _ _ => lI'); (have hzl' := lI'.length); (simp only [List.length_append, List.length_cons, List.length_nil] at hzl'); k_dflt (refine' my_extend (by k_asm) (by k_asm) (by walk_at "my_mem1") (by omega) (by walk_at "my_upd") (by omega) ?_; k_whole); intro h' F' N'; (try k_sweep))))) | ((fail_if_success (fail_if_success (with_reducible show wpAny _ _ (call (Value.builtin "sorted") _ _) _ _ _))); (with_reducible ((k_here; (with_reducible show wpAny _ _ (call (Value.builtin "sorted") [Value.ref _]) _ _ _); k_dflt (refine' my_sorted (by k_asm) (by k_asm) (by walk_at "my_mem1") (by assumption) (by exact near_18 (by assumption) (by assumption)) ?_; k_whole); intro D' zs' e' ns' h' F' N' l1 hI' hp' hs' hl'; (try k_lt l1); (try k_sweep))))) | ((fail_if_success (fail_if_success (with_reducible show wpAny _ _ (call (Value.builtin "str.join") _ _) _ _ _))); (with_reducible ((k_here; (with_reducible show wpAny _ _ (call (Value.builtin _) [Value.str _ _, Value.ref _]) _ _ _); k_dflt (refine' join_told (by k_asm) (by walk_at "my_mem1") (by assumption) (by assumption) ?_ ?_); (all_goals (intro t' k' e1' e2' e3'; (try rw [e2']); (try dsimp only); (try k_unmd))))))) | ((with_reducible ((k_here; (with_reducible show wpAny _ _ (call (Value.ref 39) [Value.int _ _]) _ _ _); k_dflt (refine' call_flags (by k_asm) (by k_asm) (by k_asm) (by k_asm) (by k_asm) (by first | exact rfl | assumption) (by ktr_room) (by ktr_units) ?_ (by exact flags_law _ _ _ _ _ _ (by assumption) (by assumption)) ?_; (exact bitsL_len _ _ _ _ _ _); k_whole); intro t' h' tk' F' N'; (try k_sweep); (try dsimp only); (try k_unmd); (try k_fold))))) | ((with_reducible ((k_here; (with_reducible show wpAny _ _ (call (Value.ref 149) [Value.ref _, Value.int _ _, Value.int _ _]) _ _ _); k_dflt (refine' call_true (by k_asm) (by k_asm) (by k_asm) (by k_asm) (by k_asm) (by first | exact rfl | assumption) (by ktr_room) (by ktr_units) (by walk_at "my_mem1") (by exact meantIs_mono (by assumption) (fun p hp => by walk_at "my_mem1")) (by exact meantIs_mono (by assumption) (fun p hp => by walk_at "my_mem1")) (by exact meantIs_mono (by assumption) (fun p hp => by walk_at "my_mem1")) (by exact fm _ (by decide)) ?_; k_whole); intro h' tk' F' N'; (try k_sweep); (try dsimp only); (try k_unmd); (try k_fold))))) | ((with_reducible ((k_here; (with_reducible show wpAny _ _ (call (Value.ref 121) [Value.ref _, Value.ref _]) _ _ _); k_dflt (refine' call_held (by k_asm) (by k_asm) (by k_asm) (by k_asm) (by k_asm) (by first | exact rfl | assumption) (by ktr_room) (by ktr_units) (by walk_at "my_mem1") (by assumption) (by walk_at "my_mem1") (by assumption) (by (exact Nat.le_trans (row_len _ _ _ _) (by decide))) (by (first | (simp only [List.length_map, rangeKs_length]; omega) | omega)) (by exact fun x _ => ⟨_, run_row _ _ _ _ x⟩) ?_; k_whole); intro l' vs' c' h' tk' F' N' l1 hi'; (rw [held_row] at hi'); (try k_lt l1); (try k_sweep); (try dsimp only); (try k_unmd); (try k_fold))))) | ((with_reducible ((k_here; (with_reducible show wpAny _ _ (call (Value.ref 128) [Value.ref _, Value.int _ _]) _ _ _); (rename (_ = (1 : Int) ∨ _ = (-1 : Int)) => hsd'); k_dflt (refine' call_bounds (by k_asm) (by k_asm) (by k_asm) (by k_asm) (by k_asm) (by first | exact rfl | assumption) (by ktr_room) (by ktr_units) (by walk_at "my_mem1") (by assumption) (by (exact Nat.le_trans (row_len _ _ _ _) (by decide))) (by exact boundsOk_row _ _ _ _) ?_; k_whole); intro lt' l' vs' c' c1' t' h' tk' F' N' l1 l2 hi'; (have hmany' := many_of hsd' hi'); (try k_lt l1); (try k_lt2 l2); (try k_sweep); (try dsimp only); (try k_unmd); (try k_fold))))) | ((with_reducible ((k_here; (with_reducible show wpAny _ _ (call (Value.ref 116) [Value.ref _]) _ _ _); k_dflt (refine' call_read (by k_asm) (by k_asm) (by k_asm) (by k_asm) (by k_asm) (by first | exact rfl | assumption) (by ktr_room) (by ktr_units) (by k_mem) (by (assumption)) (by (exact row_range _ _ _ _)) (by (exact Nat.le_trans (row_len _ _ _ _) (by decide))) ?_; k_whole); intro l' vs' c' h' tk' F' N' l1 hi'; (try k_lt l1); (try k_sweep); (try dsimp only); (try k_unmd); (try k_fold))))) | ((with_reducible ((k_here; (with_reducible show wpAny _ _ (call (Value.ref 142) [Value.int _ _]) _ _ _); k_dflt (refine' call_meant (by k_asm) (by k_asm) (by k_asm) (by k_asm) (by k_asm) (by first | exact rfl | assumption) (by ktr_room) (by ktr_units) ?_; k_whole); intro l' lt' t1' t2' vs' c' c1' h' tk' F' N' l1 l2 hi'; (try k_lt l1); (try k_lt2 l2); (try k_sweep); (try dsimp only); (try k_unmd); (try k_fold))))) | ((with_reducible ((k_here; (with_reducible show wpAny _ _ (call (Value.ref 135) [Value.int _ _]) _ _ _); k_dflt (refine' call_sentence (by k_asm) (by k_asm) (by k_asm) (by k_asm) (by k_asm) (by first | exact rfl | assumption) (by ktr_room) (by ktr_units) ?_; k_whole); intro l' vs' c' h' tk' F' N' l1 hi'; (try k_lt l1); (try k_sweep); (have hlen' := sentLen _ hi'); (try dsimp only); (try k_unmd); (try k_fold)))))) | ((fail_if_success (fail_if_success (with_reducible show wpAny _ _ (eval (PySem.Expr.ListComp _ _ _ _) _) _ _ _))); first | ((with_reducible ((k_here; (with_reducible show wpAny _ _ (eval (PySem.Expr.ListComp (PySem.Expr.BinOp _ _ _ _) [⟨_, _, [_], _⟩] _ _) _) _ _ _); (fail_if_success (with_reducible show wpAny _ _ (eval (PySem.Expr.ListComp _ [⟨_, PySem.Expr.Tuple _ _ _, _, _⟩] _ _) _) _ _ _)); k_dflt (refine comp_ownT (F₀ := by k_asm) (by with_unfolding_all rfl) (by decide) (by rfl) (by decide) (by rfl) ?_); k_whole)))) | ((with_reducible ((k_here; (with_reducible show wpAny _ _ (eval (PySem.Expr.ListComp _ [_, _] _ _) _) _ _ _); k_dflt (refine comp2 (F₀ := by k_asm) (by with_unfolding_all rfl) (by decide) (by rfl) (by decide) (by rfl) (by rfl) (by decide) ?_); k_whole)))) | ((with_reducible ((k_here; (with_reducible show wpAny _ _ (eval (PySem.Expr.ListComp (PySem.Expr.BinOp _ PySem.Operator.LShift _ _) _ _ _) _) _ _ _); k_dflt (refine comp_own (F₀ := by k_asm) (by with_unfolding_all rfl) (by decide) (by rfl) (by decide) (by rfl) ?_); k_whole)))) | ((with_reducible ((k_here; (with_reducible show wpAny _ _ (eval (PySem.Expr.ListComp _ [⟨_, PySem.Expr.Subscript _ _ _, _, _⟩] _ _) _) _ _ _); (fail_if_success (with_reducible show wpAny _ _ (eval (PySem.Expr.ListComp _ [⟨_, PySem.Expr.Subscript _ _ _, _, _⟩] _ _) _) (CutM _ _ _ _ _ _ _ _) _ _)); (k_dflt (refine' cut_meant (by k_asm) (by k_asm) (by walk_at "my_mem1") ?_ (fun D' h' tk' l0' k0' l1' k1' l2' k2' c0' c1' c2' cc' e0' e1' e2' p0' p1' p2' q0' q1' q2' vs0' vs1' vs2' F' N' i0' i1' i2' o1' lx' g1' g2' g3' g4' g5' => ?_); k_whole); (rotate_left; (try simp only [LCg.Off1, and_true] at o1'); (try k_lt lx'); rotate_left)))))) | ((with_reducible ((k_here; (with_reducible show wpAny _ _ (eval (PySem.Expr.ListComp _ [⟨_, PySem.Expr.Subscript _ _ _, _, _⟩] _ _) _) (CutM _ _ _ _ _ _ _ _) _ _); k_dflt (refine comp_own (F₀ := by k_asm) (by with_unfolding_all rfl) (by decide) (by rfl) (by decide) (by rfl) ?_); k_whole)))) | ((with_reducible ((k_here; (with_reducible show wpAny _ _ (eval (PySem.Expr.ListComp _ [⟨_, PySem.Expr.Tuple _ _ _, _, _⟩] _ _) _) _ _ _); (fail_if_success (with_reducible show wpAny _ _ (eval (PySem.Expr.ListComp _ [⟨_, PySem.Expr.Tuple _ _ _, _, _⟩] _ _) _) (CutL _ _ _ _ _ _) _ _)); k_dflt (refine' cut_enc (by assumption) (by k_asm) (by k_asm) ?_ (fun D' zs' h' tk' F' N' o1' hI' hlen' => ?_); k_whole); (rotate_left; (try simp only [LCg.Off1, and_true] at o1'); rotate_left))))) | ((with_reducible ((k_here; (with_reducible show wpAny _ _ (eval (PySem.Expr.ListComp _ [⟨_, PySem.Expr.Tuple _ _ _, _, _⟩] _ _) _) (CutL _ _ _ _ _ _) _ _); k_dflt (refine comp_tup (F₀ := by k_asm) (by with_unfolding_all rfl) (by decide) (by rfl) (by decide) (by rfl) ?_); k_whole))))) | ((fail_if_success (fail_if_success (with_reducible show wpAny _ _ (eval (PySem.Expr.Name _ _) _) _ _ _))); first | ((with_reducible ((k_here; (rename Fr _ _ _ _ => lF'); k_dflt (refine' nameX_L lF' (by first | with_reducible assumption | exact rfl | assumption) ?_ (by rfl) (by rfl) (by decide); k_whole)))))) | ((fail_if_success (fail_if_success (with_reducible show wpAny _ _ (truthy _) _ _ _))); first | ((with_reducible ((with_reducible refine truthy_flag (bitsL_len _ _ _ _ _ _) ?_))))) | ((fail_if_success (fail_if_success (with_reducible show _ ∧ _))); (with_reducible ((exact ⟨rfl, _, rfl⟩)))) | ((fail_if_success (fail_if_success (with_reducible show LCg.CompEnd _ _ _ _ _ _ _ _ _ _ _ _ _ _))); (with_reducible ((k_dflt (refine' comp_end2 (by with_reducible assumption) (by with_reducible assumption) (by first | assumption | (simp only [LCg.Off3, and_true]; assumption)) (by exact ⟨by (exact ltN (by omega)), by (exact ltN (by omega)), by (exact ltN (by omega))⟩) (by with_reducible assumption) (by first | exact True.intro | lcg_src | exact Or.inr ⟨_, by walk_at "my_mem1", rfl, _, rfl⟩) ?_; k_whole))))) | ((fail_if_success (fail_if_success (with_reducible show CutEl _ _ _ _ _ _ _ _))); ((exact ⟨_, _, _, rfl, rfl, (by assumption), (by assumption)⟩))) | ((fail_if_success (fail_if_success (with_reducible show CutN _ _ _ _ _ _ _))); (with_reducible (((rename News _ _ _ _ => lN'); k_dflt (refine CutN.fin (by assumption) lN' (by walk_at "my_sfx")))))) | ((fail_if_success (fail_if_success (with_reducible show CutRg _ _ _ _ _ _ _ _))); ((exact ⟨_, _, _, _, _, _, rfl, rfl, (by assumption), (by assumption), (by assumption)⟩))) | ((fail_if_success (fail_if_success (with_reducible show LCg.FinE _ _ _ _ _ _ _))); (with_reducible (((unfold LCg.FinE); intro D' h' tk' F' N' o1'; (with_reducible show CutM _ _ _ _ _ _ _ _ _ _); k_dflt (refine' ⟨_, _, _, _, _, _, _, _, _, _, _, _, _, _, _, _, _, _, _, _, _, _, _, _, _, rfl, rfl, (by assumption), cb_drop N' (by walk_at "my_sub"), (by assumption), (by assumption), (by assumption), (by exact off1_sub o1' (by walk_at "my_sub")), (by walk_at "my_ltall"), (by (exact ltN (by omega))), (by (exact ltN (by omega))), (by (exact ltN (by omega))), (by (exact ltN (by omega))), (by (exact ltN (by omega)))⟩))))) | ((fail_if_success (fail_if_success (with_reducible show Src2 _ _ _ _ _ _ _ _ _ _ _ _ _ _ _ _))); (with_reducible ((k_here; (rename (_ = (1 : Int) ∨ _ = (-1 : Int)) => hsd'); k_dflt (refine' near_src hsd' (by rfl) (by k_asm) (by k_asm) (by walk_at "my_mem1") (by assumption) (by assumption) ?_ ?_ ?_); (focus (intro b' tb' h' tk' I' oI' C' oC' D' oD' m' hC' hx' F' N')); rotate_left; (focus (intro b' tb' j' tj' h' tk' J' oJ' I' oI' C' oC' D' oD' m' hC' hx' hy' F' N')); rotate_left; (intro D' ys' h' tk' hI' F' N' o1'; (try simp only [LCg.Off1, and_true] at o1')); rotate_left)))) | ((fail_if_success (fail_if_success (with_reducible show SrcM _ _ _ _ _ _ _ _ _ _ _ _ _ _))); (with_reducible ((k_here; (rename (_ = (1 : Int) ∨ _ = (-1 : Int)) => hsd'); k_dflt (refine' shift_law hsd' (by rfl) (by k_asm) (by k_asm) (by walk_at "my_mem1") (by assumption) (by omega) ?_ ?_); (focus (intro g' k' t' ys' I' oI' C' oC' D' m' h' tk' E' hlo' hhi' hC' hx' F' N' off' ne'; (try simp only [LCg.Off3, and_true] at off'))); rotate_left; intro g' ys' hI'; rotate_left)))) | ((fail_if_success (fail_if_success (with_reducible show SrcMT _ _ _ _ _ _ _ _ _ _ _ _ _ _ _))); (with_reducible ((k_here; (rename IntsAre _ (rowOf _ _ _ _) => hrw'); (rename (_ = (1 : Int) ∨ _ = (-1 : Int)) => hsd'); k_dflt (refine' filt_list hrw' hsd' (by rfl) (by k_asm) (by k_asm) (by walk_at "my_mem1") (by assumption) (by assumption) ?_ ?_); (focus (intro g' k' t' ys' I' oI' C' oC' D' m' h' tk' E' hC' hx' F' N' off' ne'; (try simp only [LCg.Off3, and_true] at off'))); rotate_left; intro g' ys' hI'; rotate_left)))) | ((fail_if_success (fail_if_success (with_reducible show SrcTup _ _ _ _ _ _ _ _ _ _ _ _ _ _ _))); (with_reducible ((k_here; k_dflt (refine SrcTup.put (by rfl) (by k_asm) (by k_asm) (by walk_at "my_mem1") (by first | size_fits | exact Nat.le_of_ble_eq_true rfl) ?_; intro g'; lct_lit))))) | ((fail_if_success (fail_if_success (with_reducible show LCg.CompEnd _ _ _ _ _ _ _ _ _ _ _ _ _ _))); (with_reducible ((k_dflt (refine' comp_end (by k_asm) (by k_asm) (by first | assumption | (simp only [LCg.Off3, and_true]; assumption)) (by first | exact True.intro | walk_at "my_mem1" | lcg_src) ?_; k_whole))))) | ((fail_if_success (fail_if_success (with_reducible show LCg.FinE _ _ _ _ _ _ _))); (with_reducible (((unfold LCg.FinE); intro D' h' tk' F' N' o1'; (with_reducible show CutL _ _ _ _ _ _ _ _); k_dflt (refine' CutL.fin (by assumption) (by assumption) (by walk_at "my_sfx") (by assumption) (by ((first | exact encI2 (by omega) | exact encI1 (by omega) (by omega) | exact encI0 (by omega) (by omega))))))))) | ((fail_if_success (fail_if_success (with_reducible show SrcM _ _ _ _ _ _ _ _ _ _ _ _ _ _))); (with_reducible ((k_here; k_dflt (refine SrcM.put (by rfl) (by k_asm) (by k_asm) (by walk_at "my_mem1") (by first | size_fits | exact Nat.le_of_ble_eq_true rfl) ?_; intro g'; lcg_lit))))) | ((fail_if_success (fail_if_success (with_reducible show SrcMT _ _ _ _ _ _ _ _ _ _ _ _ _ _ _))); (with_reducible ((k_here; (rename IntsAre _ (rowOf _ _ _ _) => hrw'); (rename (_ = (1 : Int) ∨ _ = (-1 : Int)) => hsd'); k_dflt (refine' filt_range hrw' hsd' (by rfl) (by k_asm) (by k_asm) (by assumption) ?_ ?_); (focus (intro g' k' t' ys' I' oI' C' oC' D' m' h' tk' E' hC' hx' F' N' off' ne'; (try simp only [LCg.Off3, and_true] at off'))); rotate_left; intro g' ys' hI'; rotate_left)))) | ((fail_if_success (fail_if_success (with_reducible show SrcMT _ _ _ _ _ _ _ _ _ _ _ _ _ _ _))); (with_reducible ((k_here; (rename IntsAre _ (rowOf _ _ _ _) => hrw'); (rename (_ = (1 : Int) ∨ _ = (-1 : Int)) => hsd'); k_dflt (refine' told_law hrw' hsd' (by rfl) (by k_asm) (by k_asm) (by assumption) (by assumption) ?_ ?_); (focus (intro g' k' t' ys' I' oI' C' oC' D' m' h' tk' E' hlo' hhi' hC' hx' F' N' off' ne'; (try simp only [LCg.Off3, and_true] at off'))); rotate_left; intro g' l' hl'; rotate_left)))) | walk1 | (dsimp only; first | ((fail_if_success (fail_if_success (with_reducible show wpAny _ _ (execs (_ :: _) _) _ _ _))); (with_reducible refine wpAny_execs_cons ?_); k_fold) | ((fail_if_success (fail_if_success (with_reducible show wpAny _ _ (exec _ _) _ _ _))); first | ((fail_if_success (fail_if_success (with_reducible show wpAny _ _ (exec (PySem.Stmt.For (PySem.Expr.Name _ _) (PySem.Expr.BinOp _ _ _ _) (_ :: _) [] _) _) _ _ _))); (with_reducible ((k_here; (rename Fr _ _ _ _ => lF'); (with_unfolding_all refine' For_turns lF' ?_; k_whole))))) | ((fail_if_success (fail_if_success (with_reducible show wpAny _ _ (exec (PySem.Stmt.For (PySem.Expr.Name _ _) (PySem.Expr.List _ _) (_ :: _) [] _) _) _ _ _))); (with_reducible ((k_here; (rename Fr _ _ _ _ => lF'); (with_unfolding_all refine' For_stop lF' ?_; k_whole))))) | ((with_reducible ((k_here; (with_reducible show wpAny _ _ (exec (PySem.Stmt.Assign [_] (PySem.Expr.ListComp _ [⟨_, PySem.Expr.Call _ _ _ _, [_], _⟩] _ _) _) _) _ _ _); k_dflt (refine comp_ownA (F₀ := by k_asm) (by rfl) (by with_unfolding_all rfl) (by with_unfolding_all rfl) (by decide) (by rfl) (by decide) (by rfl) (by rfl) (by rfl) ?_); k_whole)))) | ((with_reducible ((k_here; (with_reducible show wpAny _ _ (exec (PySem.Stmt.If (PySem.Expr.Compare (PySem.Expr.Call _ _ _ _) _ _ _) _ _ _) _) _ _ _); (fail_if_success (with_reducible show wpAny _ _ _ (CutN _ _ _ _ _) _ _)); k_dflt (refine' cutN (by k_asm) (by k_asm) ?_ (fun h' tk' F' N' => ?_); k_whole)))))) | ((fail_if_success (fail_if_success (with_reducible show wpAny _ _ (subscriptTail _ _ _ _) _ _ _))); first | ((with_reducible (((k_dflt (refine kba_turn (value' := PySem.Expr.Name (PySem.Str.ofString "_") ⟨0, 0, 0, 0⟩) (fun _ => rfl) ?_)); (k_here; (with_reducible show wpAny _ _ (subscriptTail _ (PySem.Expr.Slice (some _) none none _) (Value.ref _) (Value.ref _)) _ _ _); k_dflt (refine' my_from (by k_asm) (by k_asm) (by k_mem) (by walk_at "my_ints") (by (first | decide | omega)) (by (((try simp only [List.length_append, List.length_cons, List.length_nil, List.length_take, List.length_drop, sizeLine_eq]); omega))) ?_ (by with_unfolding_all rfl) (by kmk_pure); k_whole); intro D' zs' h' F' N' l1 hI'; (try k_lt l1); (try k_sweep)))))) | ((with_reducible ((k_here; (with_reducible show wpAny _ _ (subscriptTail _ _ (Value.ref _) (Value.int _ _)) _ _ _); k_dflt (refine' my_word (by k_asm) (by walk_at "my_mem1") (by omega) (by omega) ?_ (by with_unfolding_all rfl); k_whole); intro t'; (try dsimp only); (try k_unmd))))) | ((with_reducible ((k_here; (with_reducible show wpAny _ _ (subscriptTail _ (PySem.Expr.Slice none (some _) none _) (Value.ref _) (Value.ref _)) _ _ _); k_dflt (refine' my_upto3 (by k_asm) (by k_asm) (by walk_at "my_mem1") ?_ (by with_unfolding_all rfl) (by kmk_pure); k_whole); intro D' h' F' N' l1; (try k_lt l1); (try k_sweep)))))) | ((fail_if_success (fail_if_success (with_reducible show wpAny _ _ (binaryOp _ _ _) _ _ _))); first | ((fail_if_success (fail_if_success (with_reducible show wpAny _ _ (binaryOp _ (Value.ref _) (Value.ref _)) _ _ _))); (with_reducible ((k_here; k_dflt (refine' my_add4 (by k_asm) (by k_asm) (by k_mem) (by k_mem) (by (with_reducible assumption)) (by (with_reducible assumption)) (by with_reducible rfl) ?_; k_whole); intro D' n1' n2' n3' n4' t1' t2' t3' t4' h' F' N' l1; (try k_lt l1); (try k_sweep))))) | ((with_reducible ((first | with_reducible refine my_fdiv4096 ?_ | with_reducible refine my_fdiv64 ?_)))) | ((with_reducible ((with_reducible refine my_shl (by assumption) (by assumption) ?_)))) | ((with_reducible ((with_reducible refine my_mul (by assumption) ?_)))) | ((with_reducible ((first | with_reducible refine my_pow2 ?_ | with_reducible refine my_pow1 ?_)))) | ((fail_if_success (fail_if_success (with_reducible show wpAny _ _ (binaryOp _ (Value.ref _) (Value.ref _)) _ _ _))); (with_reducible ((k_here; k_dflt (refine' my_add (by k_asm) (by k_asm) (by k_mem) (by k_mem) (by walk_at "my_ints") (by walk_at "my_ints") (by (((try simp only [List.length_append, List.length_cons, List.length_nil, List.length_take, List.length_drop, sizeLine_eq]); omega))) ?_; k_whole); intro D' zs' h' F' N' l1 hI'; (try k_lt l1); (try k_sweep)))))) | ((fail_if_success (fail_if_success (with_reducible show wpAny _ _ (compareOp _ _ _) _ _ _))); first | ((with_reducible ((k_here; (with_reducible show wpAny _ _ (compareOp PySem.CmpOp.Eq (Value.ref _) (Value.ref _)) _ _ _); k_dflt (refine' eq_nil (by k_asm) (by walk_at "my_mem1") (by walk_at "my_mem1") (by units_room) (by assumption) ?_ ?_); (all_goals (intro q'; (try dsimp only); (try k_unmd))))))) | ((with_reducible ((first | with_reducible refine ne_same (by with_reducible rfl) ?_ | refine ne_same (by assumption) ?_))))) | ((fail_if_success (fail_if_success (with_reducible show wpAny _ _ (call _ _ _) _ _ _))); first | ((fail_if_success (fail_if_success (with_reducible show wpAny _ _ (call (Value.builtin "list.extend") _ _) _ _ _))); (with_reducible ((k_here; (with_reducible show wpAny _ _ (call (Value.builtin _) [Value.ref _, Value.ref _]) _ _ _); (rename IntsAre _ _ => lI'); (have hzl' := lI'.length); (simp only [List.length_append, List.length_cons, List.length_nil] at hzl'); k_dflt (refine' my_extend (by k_asm) (by k_asm) (by walk_at "my_mem1") (by omega) (by walk_at "my_upd") (by omega) ?_; k_whole); intro h' F' N'; (try k_sweep))))) | ((fail_if_success (fail_if_success (with_reducible show wpAny _ _ (call (Value.builtin "sorted") _ _) _ _ _))); (with_reducible ((k_here; (with_reducible show wpAny _ _ (call (Value.builtin "sorted") [Value.ref _]) _ _ _); k_dflt (refine' my_sorted (by k_asm) (by k_asm) (by walk_at "my_mem1") (by assumption) (by exact near_18 (by assumption) (by assumption)) ?_; k_whole); intro D' zs' e' ns' h' F' N' l1 hI' hp' hs' hl'; (try k_lt l1); (try k_sweep))))) | ((fail_if_success (fail_if_success (with_reducible show wpAny _ _ (call (Value.builtin "str.join") _ _) _ _ _))); (with_reducible ((k_here; (with_reducible show wpAny _ _ (call (Value.builtin _) [Value.str _ _, Value.ref _]) _ _ _); k_dflt (refine' join_told (by k_asm) (by walk_at "my_mem1") (by assumption) (by assumption) ?_ ?_); (all_goals (intro t' k' e1' e2' e3'; (try rw [e2']); (try dsimp only); (try k_unmd))))))) | ((with_reducible ((k_here; (with_reducible show wpAny _ _ (call (Value.ref 39) [Value.int _ _]) _ _ _); k_dflt (refine' call_flags (by k_asm) (by k_asm) (by k_asm) (by k_asm) (by k_asm) (by first | exact rfl | assumption) (by ktr_room) (by ktr_units) ?_ (by exact flags_law _ _ _ _ _ _ (by assumption) (by assumption)) ?_; (exact bitsL_len _ _ _ _ _ _); k_whole); intro t' h' tk' F' N'; (try k_sweep); (try dsimp only); (try k_unmd); (try k_fold))))) | ((with_reducible ((k_here; (with_reducible show wpAny _ _ (call (Value.ref 149) [Value.ref _, Value.int _ _, Value.int _ _]) _ _ _); k_dflt (refine' call_true (by k_asm) (by k_asm) (by k_asm) (by k_asm) (by k_asm) (by first | exact rfl | assumption) (by ktr_room) (by ktr_units) (by walk_at "my_mem1") (by exact meantIs_mono (by assumption) (fun p hp => by walk_at "my_mem1")) (by exact meantIs_mono (by assumption) (fun p hp => by walk_at "my_mem1")) (by exact meantIs_mono (by assumption) (fun p hp => by walk_at "my_mem1")) (by exact fm _ (by decide)) ?_; k_whole); intro h' tk' F' N'; (try k_sweep); (try dsimp only); (try k_unmd); (try k_fold))))) | ((with_reducible ((k_here; (with_reducible show wpAny _ _ (call (Value.ref 121) [Value.ref _, Value.ref _]) _ _ _); k_dflt (refine' call_held (by k_asm) (by k_asm) (by k_asm) (by k_asm) (by k_asm) (by first | exact rfl | assumption) (by ktr_room) (by ktr_units) (by walk_at "my_mem1") (by assumption) (by walk_at "my_mem1") (by assumption) (by (exact Nat.le_trans (row_len _ _ _ _) (by decide))) (by (first | (simp only [List.length_map, rangeKs_length]; omega) | omega)) (by exact fun x _ => ⟨_, run_row _ _ _ _ x⟩) ?_; k_whole); intro l' vs' c' h' tk' F' N' l1 hi'; (rw [held_row] at hi'); (try k_lt l1); (try k_sweep); (try dsimp only); (try k_unmd); (try k_fold))))) | ((with_reducible ((k_here; (with_reducible show wpAny _ _ (call (Value.ref 128) [Value.ref _, Value.int _ _]) _ _ _); (rename (_ = (1 : Int) ∨ _ = (-1 : Int)) => hsd'); k_dflt (refine' call_bounds (by k_asm) (by k_asm) (by k_asm) (by k_asm) (by k_asm) (by first | exact rfl | assumption) (by ktr_room) (by ktr_units) (by walk_at "my_mem1") (by assumption) (by (exact Nat.le_trans (row_len _ _ _ _) (by decide))) (by exact boundsOk_row _ _ _ _) ?_; k_whole); intro lt' l' vs' c' c1' t' h' tk' F' N' l1 l2 hi'; (have hmany' := many_of hsd' hi'); (try k_lt l1); (try k_lt2 l2); (try k_sweep); (try dsimp only); (try k_unmd); (try k_fold))))) | ((with_reducible ((k_here; (with_reducible show wpAny _ _ (call (Value.ref 116) [Value.ref _]) _ _ _); k_dflt (refine' call_read (by k_asm) (by k_asm) (by k_asm) (by k_asm) (by k_asm) (by first | exact rfl | assumption) (by ktr_room) (by ktr_units) (by k_mem) (by (assumption)) (by (exact row_range _ _ _ _)) (by (exact Nat.le_trans (row_len _ _ _ _) (by decide))) ?_; k_whole); intro l' vs' c' h' tk' F' N' l1 hi'; (try k_lt l1); (try k_sweep); (try dsimp only); (try k_unmd); (try k_fold))))) | ((with_reducible ((k_here; (with_reducible show wpAny _ _ (call (Value.ref 142) [Value.int _ _]) _ _ _); k_dflt (refine' call_meant (by k_asm) (by k_asm) (by k_asm) (by k_asm) (by k_asm) (by first | exact rfl | assumption) (by ktr_room) (by ktr_units) ?_; k_whole); intro l' lt' t1' t2' vs' c' c1' h' tk' F' N' l1 l2 hi'; (try k_lt l1); (try k_lt2 l2); (try k_sweep); (try dsimp only); (try k_unmd); (try k_fold))))) | ((with_reducible ((k_here; (with_reducible show wpAny _ _ (call (Value.ref 135) [Value.int _ _]) _ _ _); k_dflt (refine' call_sentence (by k_asm) (by k_asm) (by k_asm) (by k_asm) (by k_asm) (by first | exact rfl | assumption) (by ktr_room) (by ktr_units) ?_; k_whole); intro l' vs' c' h' tk' F' N' l1 hi'; (try k_lt l1); (try k_sweep); (have hlen' := sentLen _ hi'); (try dsimp only); (try k_unmd); (try k_fold)))))) | ((fail_if_success (fail_if_success (with_reducible show wpAny _ _ (eval (PySem.Expr.ListComp _ _ _ _) _) _ _ _))); first | ((with_reducible ((k_here; (with_reducible show wpAny _ _ (eval (PySem.Expr.ListComp (PySem.Expr.BinOp _ _ _ _) [⟨_, _, [_], _⟩] _ _) _) _ _ _); (fail_if_success (with_reducible show wpAny _ _ (eval (PySem.Expr.ListComp _ [⟨_, PySem.Expr.Tuple _ _ _, _, _⟩] _ _) _) _ _ _)); k_dflt (refine comp_ownT (F₀ := by k_asm) (by with_unfolding_all rfl) (by decide) (by rfl) (by decide) (by rfl) ?_); k_whole)))) | ((with_reducible ((k_here; (with_reducible show wpAny _ _ (eval (PySem.Expr.ListComp _ [_, _] _ _) _) _ _ _); k_dflt (refine comp2 (F₀ := by k_asm) (by with_unfolding_all rfl) (by decide) (by rfl) (by decide) (by rfl) (by rfl) (by decide) ?_); k_whole)))) | ((with_reducible ((k_here; (with_reducible show wpAny _ _ (eval (PySem.Expr.ListComp (PySem.Expr.BinOp _ PySem.Operator.LShift _ _) _ _ _) _) _ _ _); k_dflt (refine comp_own (F₀ := by k_asm) (by with_unfolding_all rfl) (by decide) (by rfl) (by decide) (by rfl) ?_); k_whole)))) | ((with_reducible ((k_here; (with_reducible show wpAny _ _ (eval (PySem.Expr.ListComp _ [⟨_, PySem.Expr.Subscript _ _ _, _, _⟩] _ _) _) _ _ _); (fail_if_success (with_reducible show wpAny _ _ (eval (PySem.Expr.ListComp _ [⟨_, PySem.Expr.Subscript _ _ _, _, _⟩] _ _) _) (CutM _ _ _ _ _ _ _ _) _ _)); (k_dflt (refine' cut_meant (by k_asm) (by k_asm) (by walk_at "my_mem1") ?_ (fun D' h' tk' l0' k0' l1' k1' l2' k2' c0' c1' c2' cc' e0' e1' e2' p0' p1' p2' q0' q1' q2' vs0' vs1' vs2' F' N' i0' i1' i2' o1' lx' g1' g2' g3' g4' g5' => ?_); k_whole); (rotate_left; (try simp only [LCg.Off1, and_true] at o1'); (try k_lt lx'); rotate_left)))))) | ((with_reducible ((k_here; (with_reducible show wpAny _ _ (eval (PySem.Expr.ListComp _ [⟨_, PySem.Expr.Subscript _ _ _, _, _⟩] _ _) _) (CutM _ _ _ _ _ _ _ _) _ _); k_dflt (refine comp_own (F₀ := by k_asm) (by with_unfolding_all rfl) (by decide) (by rfl) (by decide) (by rfl) ?_); k_whole)))) | ((with_reducible ((k_here; (with_reducible show wpAny _ _ (eval (PySem.Expr.ListComp _ [⟨_, PySem.Expr.Tuple _ _ _, _, _⟩] _ _) _) _ _ _); (fail_if_success (with_reducible show wpAny _ _ (eval (PySem.Expr.ListComp _ [⟨_, PySem.Expr.Tuple _ _ _, _, _⟩] _ _) _) (CutL _ _ _ _ _ _) _ _)); k_dflt (refine' cut_enc (by assumption) (by k_asm) (by k_asm) ?_ (fun D' zs' h' tk' F' N' o1' hI' hlen' => ?_); k_whole); (rotate_left; (try simp only [LCg.Off1, and_true] at o1'); rotate_left))))) | ((with_reducible ((k_here; (with_reducible show wpAny _ _ (eval (PySem.Expr.ListComp _ [⟨_, PySem.Expr.Tuple _ _ _, _, _⟩] _ _) _) (CutL _ _ _ _ _ _) _ _); k_dflt (refine comp_tup (F₀ := by k_asm) (by with_unfolding_all rfl) (by decide) (by rfl) (by decide) (by rfl) ?_); k_whole))))) | ((fail_if_success (fail_if_success (with_reducible show wpAny _ _ (eval (PySem.Expr.Name _ _) _) _ _ _))); first | ((with_reducible ((k_here; (rename Fr _ _ _ _ => lF'); k_dflt (refine' nameX_L lF' (by first | with_reducible assumption | exact rfl | assumption) ?_ (by rfl) (by rfl) (by decide); k_whole)))))) | ((fail_if_success (fail_if_success (with_reducible show wpAny _ _ (truthy _) _ _ _))); first | ((with_reducible ((with_reducible refine truthy_flag (bitsL_len _ _ _ _ _ _) ?_))))) | ((fail_if_success (fail_if_success (with_reducible show _ ∧ _))); (with_reducible ((exact ⟨rfl, _, rfl⟩)))) | ((fail_if_success (fail_if_success (with_reducible show LCg.CompEnd _ _ _ _ _ _ _ _ _ _ _ _ _ _))); (with_reducible ((k_dflt (refine' comp_end2 (by with_reducible assumption) (by with_reducible assumption) (by first | assumption | (simp only [LCg.Off3, and_true]; assumption)) (by exact ⟨by (exact ltN (by omega)), by (exact ltN (by omega)), by (exact ltN (by omega))⟩) (by with_reducible assumption) (by first | exact True.intro | lcg_src | exact Or.inr ⟨_, by walk_at "my_mem1", rfl, _, rfl⟩) ?_; k_whole))))) | ((fail_if_success (fail_if_success (with_reducible show CutEl _ _ _ _ _ _ _ _))); ((exact ⟨_, _, _, rfl, rfl, (by assumption), (by assumption)⟩))) | ((fail_if_success (fail_if_success (with_reducible show CutN _ _ _ _ _ _ _))); (with_reducible (((rename News _ _ _ _ => lN'); k_dflt (refine CutN.fin (by assumption) lN' (by walk_at "my_sfx")))))) | ((fail_if_success (fail_if_success (with_reducible show CutRg _ _ _ _ _ _ _ _))); ((exact ⟨_, _, _, _, _, _, rfl, rfl, (by assumption), (by assumption), (by assumption)⟩))) | ((fail_if_success (fail_if_success (with_reducible show LCg.FinE _ _ _ _ _ _ _))); (with_reducible (((unfold LCg.FinE); intro D' h' tk' F' N' o1'; (with_reducible show CutM _ _ _ _ _ _ _ _ _ _); k_dflt (refine' ⟨_, _, _, _, _, _, _, _, _, _, _, _, _, _, _, _, _, _, _, _, _, _, _, _, _, rfl, rfl, (by assumption), cb_drop N' (by walk_at "my_sub"), (by assumption), (by assumption), (by assumption), (by exact off1_sub o1' (by walk_at "my_sub")), (by walk_at "my_ltall"), (by (exact ltN (by omega))), (by (exact ltN (by omega))), (by (exact ltN (by omega))), (by (exact ltN (by omega))), (by (exact ltN (by omega)))⟩))))) | ((fail_if_success (fail_if_success (with_reducible show Src2 _ _ _ _ _ _ _ _ _ _ _ _ _ _ _ _))); (with_reducible ((k_here; (rename (_ = (1 : Int) ∨ _ = (-1 : Int)) => hsd'); k_dflt (refine' near_src hsd' (by rfl) (by k_asm) (by k_asm) (by walk_at "my_mem1") (by assumption) (by assumption) ?_ ?_ ?_); (focus (intro b' tb' h' tk' I' oI' C' oC' D' oD' m' hC' hx' F' N')); rotate_left; (focus (intro b' tb' j' tj' h' tk' J' oJ' I' oI' C' oC' D' oD' m' hC' hx' hy' F' N')); rotate_left; (intro D' ys' h' tk' hI' F' N' o1'; (try simp only [LCg.Off1, and_true] at o1')); rotate_left)))) | ((fail_if_success (fail_if_success (with_reducible show SrcM _ _ _ _ _ _ _ _ _ _ _ _ _ _))); (with_reducible ((k_here; (rename (_ = (1 : Int) ∨ _ = (-1 : Int)) => hsd'); k_dflt (refine' shift_law hsd' (by rfl) (by k_asm) (by k_asm) (by walk_at "my_mem1") (by assumption) (by omega) ?_ ?_); (focus (intro g' k' t' ys' I' oI' C' oC' D' m' h' tk' E' hlo' hhi' hC' hx' F' N' off' ne'; (try simp only [LCg.Off3, and_true] at off'))); rotate_left; intro g' ys' hI'; rotate_left)))) | ((fail_if_success (fail_if_success (with_reducible show SrcMT _ _ _ _ _ _ _ _ _ _ _ _ _ _ _))); (with_reducible ((k_here; (rename IntsAre _ (rowOf _ _ _ _) => hrw'); (rename (_ = (1 : Int) ∨ _ = (-1 : Int)) => hsd'); k_dflt (refine' filt_list hrw' hsd' (by rfl) (by k_asm) (by k_asm) (by walk_at "my_mem1") (by assumption) (by assumption) ?_ ?_); (focus (intro g' k' t' ys' I' oI' C' oC' D' m' h' tk' E' hC' hx' F' N' off' ne'; (try simp only [LCg.Off3, and_true] at off'))); rotate_left; intro g' ys' hI'; rotate_left)))) | ((fail_if_success (fail_if_success (with_reducible show SrcTup _ _ _ _ _ _ _ _ _ _ _ _ _ _ _))); (with_reducible ((k_here; k_dflt (refine SrcTup.put (by rfl) (by k_asm) (by k_asm) (by walk_at "my_mem1") (by first | size_fits | exact Nat.le_of_ble_eq_true rfl) ?_; intro g'; lct_lit))))) | ((fail_if_success (fail_if_success (with_reducible show LCg.CompEnd _ _ _ _ _ _ _ _ _ _ _ _ _ _))); (with_reducible ((k_dflt (refine' comp_end (by k_asm) (by k_asm) (by first | assumption | (simp only [LCg.Off3, and_true]; assumption)) (by first | exact True.intro | walk_at "my_mem1" | lcg_src) ?_; k_whole))))) | ((fail_if_success (fail_if_success (with_reducible show LCg.FinE _ _ _ _ _ _ _))); (with_reducible (((unfold LCg.FinE); intro D' h' tk' F' N' o1'; (with_reducible show CutL _ _ _ _ _ _ _ _); k_dflt (refine' CutL.fin (by assumption) (by assumption) (by walk_at "my_sfx") (by assumption) (by ((first | exact encI2 (by omega) | exact encI1 (by omega) (by omega) | exact encI0 (by omega) (by omega))))))))) | ((fail_if_success (fail_if_success (with_reducible show SrcM _ _ _ _ _ _ _ _ _ _ _ _ _ _))); (with_reducible ((k_here; k_dflt (refine SrcM.put (by rfl) (by k_asm) (by k_asm) (by walk_at "my_mem1") (by first | size_fits | exact Nat.le_of_ble_eq_true rfl) ?_; intro g'; lcg_lit))))) | ((fail_if_success (fail_if_success (with_reducible show SrcMT _ _ _ _ _ _ _ _ _ _ _ _ _ _ _))); (with_reducible ((k_here; (rename IntsAre _ (rowOf _ _ _ _) => hrw'); (rename (_ = (1 : Int) ∨ _ = (-1 : Int)) => hsd'); k_dflt (refine' filt_range hrw' hsd' (by rfl) (by k_asm) (by k_asm) (by assumption) ?_ ?_); (focus (intro g' k' t' ys' I' oI' C' oC' D' m' h' tk' E' hC' hx' F' N' off' ne'; (try simp only [LCg.Off3, and_true] at off'))); rotate_left; intro g' ys' hI'; rotate_left)))) | ((fail_if_success (fail_if_success (with_reducible show SrcMT _ _ _ _ _ _ _ _ _ _ _ _ _ _ _))); (with_reducible ((k_here; (rename IntsAre _ (rowOf _ _ _ _) => hrw'); (rename (_ = (1 : Int) ∨ _ = (-1 : Int)) => hsd'); k_dflt (refine' told_law hrw' hsd' (by rfl) (by k_asm) (by k_asm) (by assumption) (by assumption) ?_ ?_); (focus (intro g' k' t' ys' I' oI' C' oC' D' m' h' tk' E' hlo' hhi' hC' hx' F' N' off' ne'; (try simp only [LCg.Off3, and_true] at off'))); rotate_left; intro g' l' hl'; rotate_left)))) | walk1) | (leave1; (try dsimp only)) | fail "no step"))
    ((refine' JO.fin (by assumption) (by assumption) (by walk_at "my_sub") (by walk_at "my_sub") (by assumption) (by exact IntsAre.append (by assumption) (by assumption))))
  · intro vs c oN vN h tk e1 e2 F' N'
    change Fr _ (Array.size _) _ _ at F'
    change News _ (Array.size _) _ _ at N'
    refine stage F' N' hk rfl rfl rfl (by walk_at "my_mem1") (by walk_at "my_mem1") (by walk_at "my_mem1") (by walk_at "my_mem1") (by walk_at "my_mem1") (by assumption) (by assumption) (by assumption) (by assumption) (by assumption) (by walk_at "my_mem1") (by walk_at "my_mem1") (by walk_at "my_mem1") (by assumption) (by assumption) ⟨ltN (by omega), ltN (by omega), ltN (by omega), ltN (by omega)⟩ ?_
    (((repeat (rename (_ < _ ∧ _) => hx; clear hx)); (repeat (rename News _ _ _ _ => hx; clear hx)); (repeat (rename Fr _ _ _ _ => hx; clear hx)); (repeat (rename Obj.data _ = _ => hx; clear hx)); (repeat (rename IntsAre _ _ => hx; clear hx)); (repeat (rename (List.length _ ≤ _) => hx; clear hx)); (repeat (rename (∀ p ∈ _ :: _, p.1 ≠ _ → p.1 ≠ _ → p ∈ _) => hx; clear hx))))
    clear hk off1 off2
    intro m₁ hmo hmr hmn w4 w5 w6 d4 d5 d6 d1 d2 hir hio g1 g2 g3 g4 F' N'
    (repeat' (first | (k_unfold; (try dsimp only)) | (k_end; wrow_close) | ((fail_if_success (fail_if_success (with_reducible show wpAny _ _ (execs (_ :: _) _) _ _ _))); (with_reducible refine wpAny_execs_cons ?_); k_fold) | ((fail_if_success (fail_if_success (with_reducible show wpAny _ _ (exec _ _) _ _ _))); first | ((fail_if_success (fail_if_success (with_reducible show wpAny _ _ (exec (PySem.Stmt.For (PySem.Expr.Name _ _) (PySem.Expr.BinOp _ _ _ _) (_ :: _) [] _) _) _ _ _))); (with_reducible ((k_here; (rename Fr _ _ _ _ => lF'); (with_unfolding_all refine' For_turns lF' ?_; k_whole))))) | ((fail_if_success (fail_if_success (with_reducible show wpAny _ _ (exec (PySem.Stmt.For (PySem.Expr.Name _ _) (PySem.Expr.List _ _) (_ :: _) [] _) _) _ _ _))); (with_reducible ((k_here; (rename Fr _ _ _ _ => lF'); (with_unfolding_all refine' For_stop lF' ?_; k_whole))))) | ((with_reducible ((k_here; (with_reducible show wpAny _ _ (exec (PySem.Stmt.Assign [_] (PySem.Expr.ListComp _ [⟨_, PySem.Expr.Call _ _ _ _, [_], _⟩] _ _) _) _) _ _ _); k_dflt (refine comp_ownA (F₀ := by k_asm) (by rfl) (by with_unfolding_all rfl) (by with_unfolding_all rfl) (by decide) (by rfl) (by decide) (by rfl) (by rfl) (by rfl) ?_); k_whole)))) | ((with_reducible ((k_here; (with_reducible show wpAny _ _ (exec (PySem.Stmt.If (PySem.Expr.Compare (PySem.Expr.Call _ _ _ _) _ _ _) _ _ _) _) _ _ _); (fail_if_success (with_reducible show wpAny _ _ _ (CutN _ _ _ _ _) _ _)); k_dflt (refine' cutN (by k_asm) (by k_asm) ?_ (fun h' tk' F' N' => ?_); k_whole)))))) | ((fail_if_success (fail_if_success (with_reducible show wpAny _ _ (subscriptTail _ _ _ _) _ _ _))); first | ((with_reducible (((k_dflt (refine kba_turn (value' := PySem.Expr.Name (PySem.Str.ofString "_") ⟨0, 0, 0, 0⟩) (fun _ => rfl) ?_)); (k_here; (with_reducible show wpAny _ _ (subscriptTail _ (PySem.Expr.Slice (some _) none none _) (Value.ref _) (Value.ref _)) _ _ _); k_dflt (refine' my_from (by k_asm) (by k_asm) (by k_mem) (by walk_at "my_ints") (by (first | decide | omega)) (by (((try simp only [List.length_append, List.length_cons, List.length_nil, List.length_take, List.length_drop, sizeLine_eq]); omega))) ?_ (by with_unfolding_all rfl) (by kmk_pure); k_whole); intro D' zs' h' F' N' l1 hI'; (try k_lt l1); (try k_sweep)))))) | ((with_reducible ((k_here; (with_reducible show wpAny _ _ (subscriptTail _ _ (Value.ref _) (Value.int _ _)) _ _ _); k_dflt (refine' my_word (by k_asm) (by walk_at "my_mem1") (by omega) (by omega) ?_ (by with_unfolding_all rfl); k_whole); intro t'; (try dsimp only); (try k_unmd))))) | ((with_reducible ((k_here; (with_reducible show wpAny _ _ (subscriptTail _ (PySem.Expr.Slice none (some _) none _) (Value.ref _) (Value.ref _)) _ _ _); k_dflt (refine' my_upto3 (by k_asm) (by k_asm) (by walk_at "my_mem1") ?_ (by with_unfolding_all rfl) (by kmk_pure); k_whole); intro D' h' F' N' l1; (try k_lt l1); (try k_sweep)))))) | ((fail_if_success (fail_if_success (with_reducible show wpAny _ _ (binaryOp _ _ _) _ _ _))); first | ((fail_if_success (fail_if_success (with_reducible show wpAny _ _ (binaryOp _ (Value.ref _) (Value.ref _)) _ _ _))); (with_reducible ((k_here; k_dflt (refine' my_add4 (by k_asm) (by k_asm) (by k_mem) (by k_mem) (by (with_reducible assumption)) (by (with_reducible assumption)) (by with_reducible rfl) ?_; k_whole); intro D' n1' n2' n3' n4' t1' t2' t3' t4' h' F' N' l1; (try k_lt l1); (try k_sweep))))) | ((with_reducible ((first | with_reducible refine my_fdiv4096 ?_ | with_reducible refine my_fdiv64 ?_)))) | ((with_reducible ((with_reducible refine my_shl (by assumption) (by assumption) ?_)))) | ((with_reducible ((with_reducible refine my_mul (by assumption) ?_)))) | ((with_reducible ((first | with_reducible refine my_pow2 ?_ | with_reducible refine my_pow1 ?_)))) | ((fail_if_success (fail_if_success (with_reducible show wpAny _ _ (binaryOp _ (Value.ref _) (Value.ref _)) _ _ _))); (with_reducible ((k_here; k_dflt (refine' my_add (by k_asm) (by k_asm) (by k_mem) (by k_mem) (by walk_at "my_ints") (by walk_at "my_ints") (by (((try simp only [List.length_append, List.length_cons, List.length_nil, List.length_take, List.length_drop, sizeLine_eq]); omega))) ?_; k_whole); intro D' zs' h' F' N' l1 hI'; (try k_lt l1); (try k_sweep)))))) | ((fail_if_success (fail_if_success (with_reducible show wpAny _ _ (compareOp _ _ _) _ _ _))); first | ((with_reducible ((k_here; (with_reducible show wpAny _ _ (compareOp PySem.CmpOp.Eq (Value.ref _) (Value.ref _)) _ _ _); k_dflt (refine' eq_nil (by k_asm) (by walk_at "my_mem1") (by walk_at "my_mem1") (by units_room) (by assumption) ?_ ?_); (all_goals (intro q'; (try dsimp only); (try k_unmd))))))) | ((with_reducible ((first | with_reducible refine ne_same (by with_reducible rfl) ?_ | refine ne_same (by assumption) ?_))))) | ((fail_if_success (fail_if_success (with_reducible show wpAny _ _ (call _ _ _) _ _ _))); first | ((fail_if_success (fail_if_success (with_reducible show wpAny _ _ (call (Value.builtin "list.extend") _ _) _ _ _))); (with_reducible ((k_here; (with_reducible show wpAny _ _ (call (Value.builtin _) [Value.ref _, Value.ref _]) _ _ _); (rename IntsAre _ _ => lI'); (have hzl' := lI'.length); (simp only [List.length_append, List.length_cons, List.length_nil] at hzl'); k_dflt (refine' my_extend (by k_asm) (by k_asm) (by walk_at "my_mem1") (by omega) (by walk_at "my_upd") (by omega) ?_; k_whole); intro h' F' N'; (try k_sweep))))) | ((fail_if_success (fail_if_success (with_reducible show wpAny _ _ (call (Value.builtin "sorted") _ _) _ _ _))); (with_reducible ((k_here; (with_reducible show wpAny _ _ (call (Value.builtin "sorted") [Value.ref _]) _ _ _); k_dflt (refine' my_sorted (by k_asm) (by k_asm) (by walk_at "my_mem1") (by assumption) (by exact near_18 (by assumption) (by assumption)) ?_; k_whole); intro D' zs' e' ns' h' F' N' l1 hI' hp' hs' hl'; (try k_lt l1); (try k_sweep))))) | ((fail_if_success (fail_if_success (with_reducible show wpAny _ _ (call (Value.builtin "str.join") _ _) _ _ _))); (with_reducible ((k_here; (with_reducible show wpAny _ _ (call (Value.builtin _) [Value.str _ _, Value.ref _]) _ _ _); k_dflt (refine' join_told (by k_asm) (by walk_at "my_mem1") (by assumption) (by assumption) ?_ ?_); (all_goals (intro t' k' e1' e2' e3'; (try rw [e2']); (try dsimp only); (try k_unmd))))))) | ((with_reducible ((k_here; (with_reducible show wpAny _ _ (call (Value.ref 39) [Value.int _ _]) _ _ _); k_dflt (refine' call_flags (by k_asm) (by k_asm) (by k_asm) (by k_asm) (by k_asm) (by first | exact rfl | assumption) (by ktr_room) (by ktr_units) ?_ (by exact flags_law _ _ _ _ _ _ (by assumption) (by assumption)) ?_; (exact bitsL_len _ _ _ _ _ _); k_whole); intro t' h' tk' F' N'; (try k_sweep); (try dsimp only); (try k_unmd); (try k_fold))))) | ((with_reducible ((k_here; (with_reducible show wpAny _ _ (call (Value.ref 149) [Value.ref _, Value.int _ _, Value.int _ _]) _ _ _); k_dflt (refine' call_true (by k_asm) (by k_asm) (by k_asm) (by k_asm) (by k_asm) (by first | exact rfl | assumption) (by ktr_room) (by ktr_units) (by walk_at "my_mem1") (by exact meantIs_mono (by assumption) (fun p hp => by walk_at "my_mem1")) (by exact meantIs_mono (by assumption) (fun p hp => by walk_at "my_mem1")) (by exact meantIs_mono (by assumption) (fun p hp => by walk_at "my_mem1")) (by exact fm _ (by decide)) ?_; k_whole); intro h' tk' F' N'; (try k_sweep); (try dsimp only); (try k_unmd); (try k_fold))))) | ((with_reducible ((k_here; (with_reducible show wpAny _ _ (call (Value.ref 121) [Value.ref _, Value.ref _]) _ _ _); k_dflt (refine' call_held (by k_asm) (by k_asm) (by k_asm) (by k_asm) (by k_asm) (by first | exact rfl | assumption) (by ktr_room) (by ktr_units) (by walk_at "my_mem1") (by assumption) (by walk_at "my_mem1") (by assumption) (by (exact Nat.le_trans (row_len _ _ _ _) (by decide))) (by (first | (simp only [List.length_map, rangeKs_length]; omega) | omega)) (by exact fun x _ => ⟨_, run_row _ _ _ _ x⟩) ?_; k_whole); intro l' vs' c' h' tk' F' N' l1 hi'; (rw [held_row] at hi'); (try k_lt l1); (try k_sweep); (try dsimp only); (try k_unmd); (try k_fold))))) | ((with_reducible ((k_here; (with_reducible show wpAny _ _ (call (Value.ref 128) [Value.ref _, Value.int _ _]) _ _ _); (rename (_ = (1 : Int) ∨ _ = (-1 : Int)) => hsd'); k_dflt (refine' call_bounds (by k_asm) (by k_asm) (by k_asm) (by k_asm) (by k_asm) (by first | exact rfl | assumption) (by ktr_room) (by ktr_units) (by walk_at "my_mem1") (by assumption) (by (exact Nat.le_trans (row_len _ _ _ _) (by decide))) (by exact boundsOk_row _ _ _ _) ?_; k_whole); intro lt' l' vs' c' c1' t' h' tk' F' N' l1 l2 hi'; (have hmany' := many_of hsd' hi'); (try k_lt l1); (try k_lt2 l2); (try k_sweep); (try dsimp only); (try k_unmd); (try k_fold))))) | ((with_reducible ((k_here; (with_reducible show wpAny _ _ (call (Value.ref 116) [Value.ref _]) _ _ _); k_dflt (refine' call_read (by k_asm) (by k_asm) (by k_asm) (by k_asm) (by k_asm) (by first | exact rfl | assumption) (by ktr_room) (by ktr_units) (by k_mem) (by (assumption)) (by (exact row_range _ _ _ _)) (by (exact Nat.le_trans (row_len _ _ _ _) (by decide))) ?_; k_whole); intro l' vs' c' h' tk' F' N' l1 hi'; (try k_lt l1); (try k_sweep); (try dsimp only); (try k_unmd); (try k_fold))))) | ((with_reducible ((k_here; (with_reducible show wpAny _ _ (call (Value.ref 142) [Value.int _ _]) _ _ _); k_dflt (refine' call_meant (by k_asm) (by k_asm) (by k_asm) (by k_asm) (by k_asm) (by first | exact rfl | assumption) (by ktr_room) (by ktr_units) ?_; k_whole); intro l' lt' t1' t2' vs' c' c1' h' tk' F' N' l1 l2 hi'; (try k_lt l1); (try k_lt2 l2); (try k_sweep); (try dsimp only); (try k_unmd); (try k_fold))))) | ((with_reducible ((k_here; (with_reducible show wpAny _ _ (call (Value.ref 135) [Value.int _ _]) _ _ _); k_dflt (refine' call_sentence (by k_asm) (by k_asm) (by k_asm) (by k_asm) (by k_asm) (by first | exact rfl | assumption) (by ktr_room) (by ktr_units) ?_; k_whole); intro l' vs' c' h' tk' F' N' l1 hi'; (try k_lt l1); (try k_sweep); (have hlen' := sentLen _ hi'); (try dsimp only); (try k_unmd); (try k_fold)))))) | ((fail_if_success (fail_if_success (with_reducible show wpAny _ _ (eval (PySem.Expr.ListComp _ _ _ _) _) _ _ _))); first | ((with_reducible ((k_here; (with_reducible show wpAny _ _ (eval (PySem.Expr.ListComp (PySem.Expr.BinOp _ _ _ _) [⟨_, _, [_], _⟩] _ _) _) _ _ _); (fail_if_success (with_reducible show wpAny _ _ (eval (PySem.Expr.ListComp _ [⟨_, PySem.Expr.Tuple _ _ _, _, _⟩] _ _) _) _ _ _)); k_dflt (refine comp_ownT (F₀ := by k_asm) (by with_unfolding_all rfl) (by decide) (by rfl) (by decide) (by rfl) ?_); k_whole)))) | ((with_reducible ((k_here; (with_reducible show wpAny _ _ (eval (PySem.Expr.ListComp _ [_, _] _ _) _) _ _ _); k_dflt (refine comp2 (F₀ := by k_asm) (by with_unfolding_all rfl) (by decide) (by rfl) (by decide) (by rfl) (by rfl) (by decide) ?_); k_whole)))) | ((with_reducible ((k_here; (with_reducible show wpAny _ _ (eval (PySem.Expr.ListComp (PySem.Expr.BinOp _ PySem.Operator.LShift _ _) _ _ _) _) _ _ _); k_dflt (refine comp_own (F₀ := by k_asm) (by with_unfolding_all rfl) (by decide) (by rfl) (by decide) (by rfl) ?_); k_whole)))) | ((with_reducible ((k_here; (with_reducible show wpAny _ _ (eval (PySem.Expr.ListComp _ [⟨_, PySem.Expr.Subscript _ _ _, _, _⟩] _ _) _) _ _ _); (fail_if_success (with_reducible show wpAny _ _ (eval (PySem.Expr.ListComp _ [⟨_, PySem.Expr.Subscript _ _ _, _, _⟩] _ _) _) (CutM _ _ _ _ _ _ _ _) _ _)); (k_dflt (refine' cut_meant (by k_asm) (by k_asm) (by walk_at "my_mem1") ?_ (fun D' h' tk' l0' k0' l1' k1' l2' k2' c0' c1' c2' cc' e0' e1' e2' p0' p1' p2' q0' q1' q2' vs0' vs1' vs2' F' N' i0' i1' i2' o1' lx' g1' g2' g3' g4' g5' => ?_); k_whole); (rotate_left; (try simp only [LCg.Off1, and_true] at o1'); (try k_lt lx'); rotate_left)))))) | ((with_reducible ((k_here; (with_reducible show wpAny _ _ (eval (PySem.Expr.ListComp _ [⟨_, PySem.Expr.Subscript _ _ _, _, _⟩] _ _) _) (CutM _ _ _ _ _ _ _ _) _ _); k_dflt (refine comp_own (F₀ := by k_asm) (by with_unfolding_all rfl) (by decide) (by rfl) (by decide) (by rfl) ?_); k_whole)))) | ((with_reducible ((k_here; (with_reducible show wpAny _ _ (eval (PySem.Expr.ListComp _ [⟨_, PySem.Expr.Tuple _ _ _, _, _⟩] _ _) _) _ _ _); (fail_if_success (with_reducible show wpAny _ _ (eval (PySem.Expr.ListComp _ [⟨_, PySem.Expr.Tuple _ _ _, _, _⟩] _ _) _) (CutL _ _ _ _ _ _) _ _)); k_dflt (refine' cut_enc (by assumption) (by k_asm) (by k_asm) ?_ (fun D' zs' h' tk' F' N' o1' hI' hlen' => ?_); k_whole); (rotate_left; (try simp only [LCg.Off1, and_true] at o1'); rotate_left))))) | ((with_reducible ((k_here; (with_reducible show wpAny _ _ (eval (PySem.Expr.ListComp _ [⟨_, PySem.Expr.Tuple _ _ _, _, _⟩] _ _) _) (CutL _ _ _ _ _ _) _ _); k_dflt (refine comp_tup (F₀ := by k_asm) (by with_unfolding_all rfl) (by decide) (by rfl) (by decide) (by rfl) ?_); k_whole))))) | ((fail_if_success (fail_if_success (with_reducible show wpAny _ _ (eval (PySem.Expr.Name _ _) _) _ _ _))); first | ((with_reducible ((k_here; (rename Fr _ _ _ _ => lF'); k_dflt (refine' nameX_L lF' (by first | with_reducible assumption | exact rfl | assumption) ?_ (by rfl) (by rfl) (by decide); k_whole)))))) | ((fail_if_success (fail_if_success (with_reducible show wpAny _ _ (truthy _) _ _ _))); first | ((with_reducible ((with_reducible refine truthy_flag (bitsL_len _ _ _ _ _ _) ?_))))) | ((fail_if_success (fail_if_success (with_reducible show _ ∧ _))); (with_reducible ((exact ⟨rfl, _, rfl⟩)))) | ((fail_if_success (fail_if_success (with_reducible show LCg.CompEnd _ _ _ _ _ _ _ _ _ _ _ _ _ _))); (with_reducible ((k_dflt (refine' comp_end2 (by with_reducible assumption) (by with_reducible assumption) (by first | assumption | (simp only [LCg.Off3, and_true]; assumption)) (by exact ⟨by (exact ltN (by omega)), by (exact ltN (by omega)), by (exact ltN (by omega))⟩) (by with_reducible assumption) (by first | exact True.intro | lcg_src | exact Or.inr ⟨_, by walk_at "my_mem1", rfl, _, rfl⟩) ?_; k_whole))))) | ((fail_if_success (fail_if_success (with_reducible show CutEl _ _ _ _ _ _ _ _))); ((exact ⟨_, _, _, rfl, rfl, (by assumption), (by assumption)⟩))) | ((fail_if_success (fail_if_success (with_reducible show CutN _ _ _ _ _ _ _))); (with_reducible (((rename News _ _ _ _ => lN'); k_dflt (refine CutN.fin (by assumption) lN' (by walk_at "my_sfx")))))) | ((fail_if_success (fail_if_success (with_reducible show CutRg _ _ _ _ _ _ _ _))); ((exact ⟨_, _, _, _, _, _, rfl, rfl, (by assumption), (by assumption), (by assumption)⟩))) | ((fail_if_success (fail_if_success (with_reducible show LCg.FinE _ _ _ _ _ _ _))); (with_reducible (((unfold LCg.FinE); intro D' h' tk' F' N' o1'; (with_reducible show CutM _ _ _ _ _ _ _ _ _ _); k_dflt (refine' ⟨_, _, _, _, _, _, _, _, _, _, _, _, _, _, _, _, _, _, _, _, _, _, _, _, _, rfl, rfl, (by assumption), cb_drop N' (by walk_at "my_sub"), (by assumption), (by assumption), (by assumption), (by exact off1_sub o1' (by walk_at "my_sub")), (by walk_at "my_ltall"), (by (exact ltN (by omega))), (by (exact ltN (by omega))), (by (exact ltN (by omega))), (by (exact ltN (by omega))), (by (exact ltN (by omega)))⟩))))) | ((fail_if_success (fail_if_success (with_reducible show Src2 _ _ _ _ _ _ _ _ _ _ _ _ _ _ _ _))); (with_reducible ((k_here; (rename (_ = (1 : Int) ∨ _ = (-1 : Int)) => hsd'); k_dflt (refine' near_src hsd' (by rfl) (by k_asm) (by k_asm) (by walk_at "my_mem1") (by assumption) (by assumption) ?_ ?_ ?_); (focus (intro b' tb' h' tk' I' oI' C' oC' D' oD' m' hC' hx' F' N')); rotate_left; (focus (intro b' tb' j' tj' h' tk' J' oJ' I' oI' C' oC' D' oD' m' hC' hx' hy' F' N')); rotate_left; (intro D' ys' h' tk' hI' F' N' o1'; (try simp only [LCg.Off1, and_true] at o1')); rotate_left)))) | ((fail_if_success (fail_if_success (with_reducible show SrcM _ _ _ _ _ _ _ _ _ _ _ _ _ _))); (with_reducible ((k_here; (rename (_ = (1 : Int) ∨ _ = (-1 : Int)) => hsd'); k_dflt (refine' shift_law hsd' (by rfl) (by k_asm) (by k_asm) (by walk_at "my_mem1") (by assumption) (by omega) ?_ ?_); (focus (intro g' k' t' ys' I' oI' C' oC' D' m' h' tk' E' hlo' hhi' hC' hx' F' N' off' ne'; (try simp only [LCg.Off3, and_true] at off'))); rotate_left; intro g' ys' hI'; rotate_left)))) | ((fail_if_success (fail_if_success (with_reducible show SrcMT _ _ _ _ _ _ _ _ _ _ _ _ _ _ _))); (with_reducible ((k_here; (rename IntsAre _ (rowOf _ _ _ _) => hrw'); (rename (_ = (1 : Int) ∨ _ = (-1 : Int)) => hsd'); k_dflt (refine' filt_list hrw' hsd' (by rfl) (by k_asm) (by k_asm) (by walk_at "my_mem1") (by assumption) (by assumption) ?_ ?_); (focus (intro g' k' t' ys' I' oI' C' oC' D' m' h' tk' E' hC' hx' F' N' off' ne'; (try simp only [LCg.Off3, and_true] at off'))); rotate_left; intro g' ys' hI'; rotate_left)))) | ((fail_if_success (fail_if_success (with_reducible show SrcTup _ _ _ _ _ _ _ _ _ _ _ _ _ _ _))); (with_reducible ((k_here; k_dflt (refine SrcTup.put (by rfl) (by k_asm) (by k_asm) (by walk_at "my_mem1") (by first | size_fits | exact Nat.le_of_ble_eq_true rfl) ?_; intro g'; lct_lit))))) | ((fail_if_success (fail_if_success (with_reducible show LCg.CompEnd _ _ _ _ _ _ _ _ _ _ _ _ _ _))); (with_reducible ((k_dflt (refine' comp_end (by k_asm) (by k_asm) (by first | assumption | (simp only [LCg.Off3, and_true]; assumption)) (by first | exact True.intro | walk_at "my_mem1" | lcg_src) ?_; k_whole))))) | ((fail_if_success (fail_if_success (with_reducible show LCg.FinE _ _ _ _ _ _ _))); (with_reducible (((unfold LCg.FinE); intro D' h' tk' F' N' o1'; (with_reducible show CutL _ _ _ _ _ _ _ _); k_dflt (refine' CutL.fin (by assumption) (by assumption) (by walk_at "my_sfx") (by assumption) (by ((first | exact encI2 (by omega) | exact encI1 (by omega) (by omega) | exact encI0 (by omega) (by omega))))))))) | ((fail_if_success (fail_if_success (with_reducible show SrcM _ _ _ _ _ _ _ _ _ _ _ _ _ _))); (with_reducible ((k_here; k_dflt (refine SrcM.put (by rfl) (by k_asm) (by k_asm) (by walk_at "my_mem1") (by first | size_fits | exact Nat.le_of_ble_eq_true rfl) ?_; intro g'; lcg_lit))))) | ((fail_if_success (fail_if_success (with_reducible show SrcMT _ _ _ _ _ _ _ _ _ _ _ _ _ _ _))); (with_reducible ((k_here; (rename IntsAre _ (rowOf _ _ _ _) => hrw'); (rename (_ = (1 : Int) ∨ _ = (-1 : Int)) => hsd'); k_dflt (refine' filt_range hrw' hsd' (by rfl) (by k_asm) (by k_asm) (by assumption) ?_ ?_); (focus (intro g' k' t' ys' I' oI' C' oC' D' m' h' tk' E' hC' hx' F' N' off' ne'; (try simp only [LCg.Off3, and_true] at off'))); rotate_left; intro g' ys' hI'; rotate_left)))) | ((fail_if_success (fail_if_success (with_reducible show SrcMT _ _ _ _ _ _ _ _ _ _ _ _ _ _ _))); (with_reducible ((k_here; (rename IntsAre _ (rowOf _ _ _ _) => hrw'); (rename (_ = (1 : Int) ∨ _ = (-1 : Int)) => hsd'); k_dflt (refine' told_law hrw' hsd' (by rfl) (by k_asm) (by k_asm) (by assumption) (by assumption) ?_ ?_); (focus (intro g' k' t' ys' I' oI' C' oC' D' m' h' tk' E' hlo' hhi' hC' hx' F' N' off' ne'; (try simp only [LCg.Off3, and_true] at off'))); rotate_left; intro g' l' hl'; rotate_left)))) | walk1 | (dsimp only; first | ((fail_if_success (fail_if_success (with_reducible show wpAny _ _ (execs (_ :: _) _) _ _ _))); (with_reducible refine wpAny_execs_cons ?_); k_fold) | ((fail_if_success (fail_if_success (with_reducible show wpAny _ _ (exec _ _) _ _ _))); first | ((fail_if_success (fail_if_success (with_reducible show wpAny _ _ (exec (PySem.Stmt.For (PySem.Expr.Name _ _) (PySem.Expr.BinOp _ _ _ _) (_ :: _) [] _) _) _ _ _))); (with_reducible ((k_here; (rename Fr _ _ _ _ => lF'); (with_unfolding_all refine' For_turns lF' ?_; k_whole))))) | ((fail_if_success (fail_if_success (with_reducible show wpAny _ _ (exec (PySem.Stmt.For (PySem.Expr.Name _ _) (PySem.Expr.List _ _) (_ :: _) [] _) _) _ _ _))); (with_reducible ((k_here; (rename Fr _ _ _ _ => lF'); (with_unfolding_all refine' For_stop lF' ?_; k_whole))))) | ((with_reducible ((k_here; (with_reducible show wpAny _ _ (exec (PySem.Stmt.Assign [_] (PySem.Expr.ListComp _ [⟨_, PySem.Expr.Call _ _ _ _, [_], _⟩] _ _) _) _) _ _ _); k_dflt (refine comp_ownA (F₀ := by k_asm) (by rfl) (by with_unfolding_all rfl) (by with_unfolding_all rfl) (by decide) (by rfl) (by decide) (by rfl) (by rfl) (by rfl) ?_); k_whole)))) | ((with_reducible ((k_here; (with_reducible show wpAny _ _ (exec (PySem.Stmt.If (PySem.Expr.Compare (PySem.Expr.Call _ _ _ _) _ _ _) _ _ _) _) _ _ _); (fail_if_success (with_reducible show wpAny _ _ _ (CutN _ _ _ _ _) _ _)); k_dflt (refine' cutN (by k_asm) (by k_asm) ?_ (fun h' tk' F' N' => ?_); k_whole)))))) | ((fail_if_success (fail_if_success (with_reducible show wpAny _ _ (subscriptTail _ _ _ _) _ _ _))); first | ((with_reducible (((k_dflt (refine kba_turn (value' := PySem.Expr.Name (PySem.Str.ofString "_") ⟨0, 0, 0, 0⟩) (fun _ => rfl) ?_)); (k_here; (with_reducible show wpAny _ _ (subscriptTail _ (PySem.Expr.Slice (some _) none none _) (Value.ref _) (Value.ref _)) _ _ _); k_dflt (refine' my_from (by k_asm) (by k_asm) (by k_mem) (by walk_at "my_ints") (by (first | decide | omega)) (by (((try simp only [List.length_append, List.length_cons, List.length_nil, List.length_take, List.length_drop, sizeLine_eq]); omega))) ?_ (by with_unfolding_all rfl) (by kmk_pure); k_whole); intro D' zs' h' F' N' l1 hI'; (try k_lt l1); (try k_sweep)))))) | ((with_reducible ((k_here; (with_reducible show wpAny _ _ (subscriptTail _ _ (Value.ref _) (Value.int _ _)) _ _ _); k_dflt (refine' my_word (by k_asm) (by walk_at "my_mem1") (by omega) (by omega) ?_ (by with_unfolding_all rfl); k_whole); intro t'; (try dsimp only); (try k_unmd))))) | ((with_reducible ((k_here; (with_reducible show wpAny _ _ (subscriptTail _ (PySem.Expr.Slice none (some _) none _) (Value.ref _) (Value.ref _)) _ _ _); k_dflt (refine' my_upto3 (by k_asm) (by k_asm) (by walk_at "my_mem1") ?_ (by with_unfolding_all rfl) (by kmk_pure); k_whole); intro D' h' F' N' l1; (try k_lt l1); (try k_sweep)))))) | ((fail_if_success (fail_if_success (with_reducible show wpAny _ _ (binaryOp _ _ _) _ _ _))); first | ((fail_if_success (fail_if_success (with_reducible show wpAny _ _ (binaryOp _ (Value.ref _) (Value.ref _)) _ _ _))); (with_reducible ((k_here; k_dflt (refine' my_add4 (by k_asm) (by k_asm) (by k_mem) (by k_mem) (by (with_reducible assumption)) (by (with_reducible assumption)) (by with_reducible rfl) ?_; k_whole); intro D' n1' n2' n3' n4' t1' t2' t3' t4' h' F' N' l1; (try k_lt l1); (try k_sweep))))) | ((with_reducible ((first | with_reducible refine my_fdiv4096 ?_ | with_reducible refine my_fdiv64 ?_)))) | ((with_reducible ((with_reducible refine my_shl (by assumption) (by assumption) ?_)))) | ((with_reducible ((with_reducible refine my_mul (by assumption) ?_)))) | ((with_reducible ((first | with_reducible refine my_pow2 ?_ | with_reducible refine my_pow1 ?_)))) | ((fail_if_success (fail_if_success (with_reducible show wpAny _ _ (binaryOp _ (Value.ref _) (Value.ref _)) _ _ _))); (with_reducible ((k_here; k_dflt (refine' my_add (by k_asm) (by k_asm) (by k_mem) (by k_mem) (by walk_at "my_ints") (by walk_at "my_ints") (by (((try simp only [List.length_append, List.length_cons, List.length_nil, List.length_take, List.length_drop, sizeLine_eq]); omega))) ?_; k_whole); intro D' zs' h' F' N' l1 hI'; (try k_lt l1); (try k_sweep)))))) | ((fail_if_success (fail_if_success (with_reducible show wpAny _ _ (compareOp _ _ _) _ _ _))); first | ((with_reducible ((k_here; (with_reducible show wpAny _ _ (compareOp PySem.CmpOp.Eq (Value.ref _) (Value.ref _)) _ _ _); k_dflt (refine' eq_nil (by k_asm) (by walk_at "my_mem1") (by walk_at "my_mem1") (by units_room) (by assumption) ?_ ?_); (all_goals (intro q'; (try dsimp only); (try k_unmd))))))) | ((with_reducible ((first | with_reducible refine ne_same (by with_reducible rfl) ?_ | refine ne_same (by assumption) ?_))))) | ((fail_if_success (fail_if_success (with_reducible show wpAny _ _ (call _ _ _) _ _ _))); first | ((fail_if_success (fail_if_success (with_reducible show wpAny _ _ (call (Value.builtin "list.extend") _ _) _ _ _))); (with_reducible ((k_here; (with_reducible show wpAny _ _ (call (Value.builtin _) [Value.ref _, Value.ref _]) _ _ _); (rename IntsAre _ _ => lI'); (have hzl' := lI'.length); (simp only [List.length_append, List.length_cons, List.length_nil] at hzl'); k_dflt (refine' my_extend (by k_asm) (by k_asm) (by walk_at "my_mem1") (by omega) (by walk_at "my_upd") (by omega) ?_; k_whole); intro h' F' N'; (try k_sweep))))) | ((fail_if_success (fail_if_success (with_reducible show wpAny _ _ (call (Value.builtin "sorted") _ _) _ _ _))); (with_reducible ((k_here; (with_reducible show wpAny _ _ (call (Value.builtin "sorted") [Value.ref _]) _ _ _); k_dflt (refine' my_sorted (by k_asm) (by k_asm) (by walk_at "my_mem1") (by assumption) (by exact near_18 (by assumption) (by assumption)) ?_; k_whole); intro D' zs' e' ns' h' F' N' l1 hI' hp' hs' hl'; (try k_lt l1); (try k_sweep))))) | ((fail_if_success (fail_if_success (with_reducible show wpAny _ _ (call (Value.builtin "str.join") _ _) _ _ _))); (with_reducible ((k_here; (with_reducible show wpAny _ _ (call (Value.builtin _) [Value.str _ _, Value.ref _]) _ _ _); k_dflt (refine' join_told (by k_asm) (by walk_at "my_mem1") (by assumption) (by assumption) ?_ ?_); (all_goals (intro t' k' e1' e2' e3'; (try rw [e2']); (try dsimp only); (try k_unmd))))))) | ((with_reducible ((k_here; (with_reducible show wpAny _ _ (call (Value.ref 39) [Value.int _ _]) _ _ _); k_dflt (refine' call_flags (by k_asm) (by k_asm) (by k_asm) (by k_asm) (by k_asm) (by first | exact rfl | assumption) (by ktr_room) (by ktr_units) ?_ (by exact flags_law _ _ _ _ _ _ (by assumption) (by assumption)) ?_; (exact bitsL_len _ _ _ _ _ _); k_whole); intro t' h' tk' F' N'; (try k_sweep); (try dsimp only); (try k_unmd); (try k_fold))))) | ((with_reducible ((k_here; (with_reducible show wpAny _ _ (call (Value.ref 149) [Value.ref _, Value.int _ _, Value.int _ _]) _ _ _); k_dflt (refine' call_true (by k_asm) (by k_asm) (by k_asm) (by k_asm) (by k_asm) (by first | exact rfl | assumption) (by ktr_room) (by ktr_units) (by walk_at "my_mem1") (by exact meantIs_mono (by assumption) (fun p hp => by walk_at "my_mem1")) (by exact meantIs_mono (by assumption) (fun p hp => by walk_at "my_mem1")) (by exact meantIs_mono (by assumption) (fun p hp => by walk_at "my_mem1")) (by exact fm _ (by decide)) ?_; k_whole); intro h' tk' F' N'; (try k_sweep); (try dsimp only); (try k_unmd); (try k_fold))))) | ((with_reducible ((k_here; (with_reducible show wpAny _ _ (call (Value.ref 121) [Value.ref _, Value.ref _]) _ _ _); k_dflt (refine' call_held (by k_asm) (by k_asm) (by k_asm) (by k_asm) (by k_asm) (by first | exact rfl | assumption) (by ktr_room) (by ktr_units) (by walk_at "my_mem1") (by assumption) (by walk_at "my_mem1") (by assumption) (by (exact Nat.le_trans (row_len _ _ _ _) (by decide))) (by (first | (simp only [List.length_map, rangeKs_length]; omega) | omega)) (by exact fun x _ => ⟨_, run_row _ _ _ _ x⟩) ?_; k_whole); intro l' vs' c' h' tk' F' N' l1 hi'; (rw [held_row] at hi'); (try k_lt l1); (try k_sweep); (try dsimp only); (try k_unmd); (try k_fold))))) | ((with_reducible ((k_here; (with_reducible show wpAny _ _ (call (Value.ref 128) [Value.ref _, Value.int _ _]) _ _ _); (rename (_ = (1 : Int) ∨ _ = (-1 : Int)) => hsd'); k_dflt (refine' call_bounds (by k_asm) (by k_asm) (by k_asm) (by k_asm) (by k_asm) (by first | exact rfl | assumption) (by ktr_room) (by ktr_units) (by walk_at "my_mem1") (by assumption) (by (exact Nat.le_trans (row_len _ _ _ _) (by decide))) (by exact boundsOk_row _ _ _ _) ?_; k_whole); intro lt' l' vs' c' c1' t' h' tk' F' N' l1 l2 hi'; (have hmany' := many_of hsd' hi'); (try k_lt l1); (try k_lt2 l2); (try k_sweep); (try dsimp only); (try k_unmd); (try k_fold))))) | ((with_reducible ((k_here; (with_reducible show wpAny _ _ (call (Value.ref 116) [Value.ref _]) _ _ _); k_dflt (refine' call_read (by k_asm) (by k_asm) (by k_asm) (by k_asm) (by k_asm) (by first | exact rfl | assumption) (by ktr_room) (by ktr_units) (by k_mem) (by (assumption)) (by (exact row_range _ _ _ _)) (by (exact Nat.le_trans (row_len _ _ _ _) (by decide))) ?_; k_whole); intro l' vs' c' h' tk' F' N' l1 hi'; (try k_lt l1); (try k_sweep); (try dsimp only); (try k_unmd); (try k_fold))))) | ((with_reducible ((k_here; (with_reducible show wpAny _ _ (call (Value.ref 142) [Value.int _ _]) _ _ _); k_dflt (refine' call_meant (by k_asm) (by k_asm) (by k_asm) (by k_asm) (by k_asm) (by first | exact rfl | assumption) (by ktr_room) (by ktr_units) ?_; k_whole); intro l' lt' t1' t2' vs' c' c1' h' tk' F' N' l1 l2 hi'; (try k_lt l1); (try k_lt2 l2); (try k_sweep); (try dsimp only); (try k_unmd); (try k_fold))))) | ((with_reducible ((k_here; (with_reducible show wpAny _ _ (call (Value.ref 135) [Value.int _ _]) _ _ _); k_dflt (refine' call_sentence (by k_asm) (by k_asm) (by k_asm) (by k_asm) (by k_asm) (by first | exact rfl | assumption) (by ktr_room) (by ktr_units) ?_; k_whole); intro l' vs' c' h' tk' F' N' l1 hi'; (try k_lt l1); (try k_sweep); (have hlen' := sentLen _ hi'); (try dsimp only); (try k_unmd); (try k_fold)))))) | ((fail_if_success (fail_if_success (with_reducible show wpAny _ _ (eval (PySem.Expr.ListComp _ _ _ _) _) _ _ _))); first | ((with_reducible ((k_here; (with_reducible show wpAny _ _ (eval (PySem.Expr.ListComp (PySem.Expr.BinOp _ _ _ _) [⟨_, _, [_], _⟩] _ _) _) _ _ _); (fail_if_success (with_reducible show wpAny _ _ (eval (PySem.Expr.ListComp _ [⟨_, PySem.Expr.Tuple _ _ _, _, _⟩] _ _) _) _ _ _)); k_dflt (refine comp_ownT (F₀ := by k_asm) (by with_unfolding_all rfl) (by decide) (by rfl) (by decide) (by rfl) ?_); k_whole)))) | ((with_reducible ((k_here; (with_reducible show wpAny _ _ (eval (PySem.Expr.ListComp _ [_, _] _ _) _) _ _ _); k_dflt (refine comp2 (F₀ := by k_asm) (by with_unfolding_all rfl) (by decide) (by rfl) (by decide) (by rfl) (by rfl) (by decide) ?_); k_whole)))) | ((with_reducible ((k_here; (with_reducible show wpAny _ _ (eval (PySem.Expr.ListComp (PySem.Expr.BinOp _ PySem.Operator.LShift _ _) _ _ _) _) _ _ _); k_dflt (refine comp_own (F₀ := by k_asm) (by with_unfolding_all rfl) (by decide) (by rfl) (by decide) (by rfl) ?_); k_whole)))) | ((with_reducible ((k_here; (with_reducible show wpAny _ _ (eval (PySem.Expr.ListComp _ [⟨_, PySem.Expr.Subscript _ _ _, _, _⟩] _ _) _) _ _ _); (fail_if_success (with_reducible show wpAny _ _ (eval (PySem.Expr.ListComp _ [⟨_, PySem.Expr.Subscript _ _ _, _, _⟩] _ _) _) (CutM _ _ _ _ _ _ _ _) _ _)); (k_dflt (refine' cut_meant (by k_asm) (by k_asm) (by walk_at "my_mem1") ?_ (fun D' h' tk' l0' k0' l1' k1' l2' k2' c0' c1' c2' cc' e0' e1' e2' p0' p1' p2' q0' q1' q2' vs0' vs1' vs2' F' N' i0' i1' i2' o1' lx' g1' g2' g3' g4' g5' => ?_); k_whole); (rotate_left; (try simp only [LCg.Off1, and_true] at o1'); (try k_lt lx'); rotate_left)))))) | ((with_reducible ((k_here; (with_reducible show wpAny _ _ (eval (PySem.Expr.ListComp _ [⟨_, PySem.Expr.Subscript _ _ _, _, _⟩] _ _) _) (CutM _ _ _ _ _ _ _ _) _ _); k_dflt (refine comp_own (F₀ := by k_asm) (by with_unfolding_all rfl) (by decide) (by rfl) (by decide) (by rfl) ?_); k_whole)))) | ((with_reducible ((k_here; (with_reducible show wpAny _ _ (eval (PySem.Expr.ListComp _ [⟨_, PySem.Expr.Tuple _ _ _, _, _⟩] _ _) _) _ _ _); (fail_if_success (with_reducible show wpAny _ _ (eval (PySem.Expr.ListComp _ [⟨_, PySem.Expr.Tuple _ _ _, _, _⟩] _ _) _) (CutL _ _ _ _ _ _) _ _)); k_dflt (refine' cut_enc (by assumption) (by k_asm) (by k_asm) ?_ (fun D' zs' h' tk' F' N' o1' hI' hlen' => ?_); k_whole); (rotate_left; (try simp only [LCg.Off1, and_true] at o1'); rotate_left))))) | ((with_reducible ((k_here; (with_reducible show wpAny _ _ (eval (PySem.Expr.ListComp _ [⟨_, PySem.Expr.Tuple _ _ _, _, _⟩] _ _) _) (CutL _ _ _ _ _ _) _ _); k_dflt (refine comp_tup (F₀ := by k_asm) (by with_unfolding_all rfl) (by decide) (by rfl) (by decide) (by rfl) ?_); k_whole))))) | ((fail_if_success (fail_if_success (with_reducible show wpAny _ _ (eval (PySem.Expr.Name _ _) _) _ _ _))); first | ((with_reducible ((k_here; (rename Fr _ _ _ _ => lF'); k_dflt (refine' nameX_L lF' (by first | with_reducible assumption | exact rfl | assumption) ?_ (by rfl) (by rfl) (by decide); k_whole)))))) | ((fail_if_success (fail_if_success (with_reducible show wpAny _ _ (truthy _) _ _ _))); first | ((with_reducible ((with_reducible refine truthy_flag (bitsL_len _ _ _ _ _ _) ?_))))) | ((fail_if_success (fail_if_success (with_reducible show _ ∧ _))); (with_reducible ((exact ⟨rfl, _, rfl⟩)))) | ((fail_if_success (fail_if_success (with_reducible show LCg.CompEnd _ _ _ _ _ _ _ _ _ _ _ _ _ _))); (with_reducible ((k_dflt (refine' comp_end2 (by with_reducible assumption) (by with_reducible assumption) (by first | assumption | (simp only [LCg.Off3, and_true]; assumption)) (by exact ⟨by (exact ltN (by omega)), by (exact ltN (by omega)), by (exact ltN (by omega))⟩) (by with_reducible assumption) (by first | exact True.intro | lcg_src | exact Or.inr ⟨_, by walk_at "my_mem1", rfl, _, rfl⟩) ?_; k_whole))))) | ((fail_if_success (fail_if_success (with_reducible show CutEl _ _ _ _ _ _ _ _))); ((exact ⟨_, _, _, rfl, rfl, (by assumption), (by assumption)⟩))) | ((fail_if_success (fail_if_success (with_reducible show CutN _ _ _ _ _ _ _))); (with_reducible (((rename News _ _ _ _ => lN'); k_dflt (refine CutN.fin (by assumption) lN' (by walk_at "my_sfx")))))) | ((fail_if_success (fail_if_success (with_reducible show CutRg _ _ _ _ _ _ _ _))); ((exact ⟨_, _, _, _, _, _, rfl, rfl, (by assumption), (by assumption), (by assumption)⟩))) | ((fail_if_success (fail_if_success (with_reducible show LCg.FinE _ _ _ _ _ _ _))); (with_reducible (((unfold LCg.FinE); intro D' h' tk' F' N' o1'; (with_reducible show CutM _ _ _ _ _ _ _ _ _ _); k_dflt (refine' ⟨_, _, _, _, _, _, _, _, _, _, _, _, _, _, _, _, _, _, _, _, _, _, _, _, _, rfl, rfl, (by assumption), cb_drop N' (by walk_at "my_sub"), (by assumption), (by assumption), (by assumption), (by exact off1_sub o1' (by walk_at "my_sub")), (by walk_at "my_ltall"), (by (exact ltN (by omega))), (by (exact ltN (by omega))), (by (exact ltN (by omega))), (by (exact ltN (by omega))), (by (exact ltN (by omega)))⟩))))) | ((fail_if_success (fail_if_success (with_reducible show Src2 _ _ _ _ _ _ _ _ _ _ _ _ _ _ _ _))); (with_reducible ((k_here; (rename (_ = (1 : Int) ∨ _ = (-1 : Int)) => hsd'); k_dflt (refine' near_src hsd' (by rfl) (by k_asm) (by k_asm) (by walk_at "my_mem1") (by assumption) (by assumption) ?_ ?_ ?_); (focus (intro b' tb' h' tk' I' oI' C' oC' D' oD' m' hC' hx' F' N')); rotate_left; (focus (intro b' tb' j' tj' h' tk' J' oJ' I' oI' C' oC' D' oD' m' hC' hx' hy' F' N')); rotate_left; (intro D' ys' h' tk' hI' F' N' o1'; (try simp only [LCg.Off1, and_true] at o1')); rotate_left)))) | ((fail_if_success (fail_if_success (with_reducible show SrcM _ _ _ _ _ _ _ _ _ _ _ _ _ _))); (with_reducible ((k_here; (rename (_ = (1 : Int) ∨ _ = (-1 : Int)) => hsd'); k_dflt (refine' shift_law hsd' (by rfl) (by k_asm) (by k_asm) (by walk_at "my_mem1") (by assumption) (by omega) ?_ ?_); (focus (intro g' k' t' ys' I' oI' C' oC' D' m' h' tk' E' hlo' hhi' hC' hx' F' N' off' ne'; (try simp only [LCg.Off3, and_true] at off'))); rotate_left; intro g' ys' hI'; rotate_left)))) | ((fail_if_success (fail_if_success (with_reducible show SrcMT _ _ _ _ _ _ _ _ _ _ _ _ _ _ _))); (with_reducible ((k_here; (rename IntsAre _ (rowOf _ _ _ _) => hrw'); (rename (_ = (1 : Int) ∨ _ = (-1 : Int)) => hsd'); k_dflt (refine' filt_list hrw' hsd' (by rfl) (by k_asm) (by k_asm) (by walk_at "my_mem1") (by assumption) (by assumption) ?_ ?_); (focus (intro g' k' t' ys' I' oI' C' oC' D' m' h' tk' E' hC' hx' F' N' off' ne'; (try simp only [LCg.Off3, and_true] at off'))); rotate_left; intro g' ys' hI'; rotate_left)))) | ((fail_if_success (fail_if_success (with_reducible show SrcTup _ _ _ _ _ _ _ _ _ _ _ _ _ _ _))); (with_reducible ((k_here; k_dflt (refine SrcTup.put (by rfl) (by k_asm) (by k_asm) (by walk_at "my_mem1") (by first | size_fits | exact Nat.le_of_ble_eq_true rfl) ?_; intro g'; lct_lit))))) | ((fail_if_success (fail_if_success (with_reducible show LCg.CompEnd _ _ _ _ _ _ _ _ _ _ _ _ _ _))); (with_reducible ((k_dflt (refine' comp_end (by k_asm) (by k_asm) (by first | assumption | (simp only [LCg.Off3, and_true]; assumption)) (by first | exact True.intro | walk_at "my_mem1" | lcg_src) ?_; k_whole))))) | ((fail_if_success (fail_if_success (with_reducible show LCg.FinE _ _ _ _ _ _ _))); (with_reducible (((unfold LCg.FinE); intro D' h' tk' F' N' o1'; (with_reducible show CutL _ _ _ _ _ _ _ _); k_dflt (refine' CutL.fin (by assumption) (by assumption) (by walk_at "my_sfx") (by assumption) (by ((first | exact encI2 (by omega) | exact encI1 (by omega) (by omega) | exact encI0 (by omega) (by omega))))))))) | ((fail_if_success (fail_if_success (with_reducible show SrcM _ _ _ _ _ _ _ _ _ _ _ _ _ _))); (with_reducible ((k_here; k_dflt (refine SrcM.put (by rfl) (by k_asm) (by k_asm) (by walk_at "my_mem1") (by first | size_fits | exact Nat.le_of_ble_eq_true rfl) ?_; intro g'; lcg_lit))))) | ((fail_if_success (fail_if_success (with_reducible show SrcMT _ _ _ _ _ _ _ _ _ _ _ _ _ _ _))); (with_reducible ((k_here; (rename IntsAre _ (rowOf _ _ _ _) => hrw'); (rename (_ = (1 : Int) ∨ _ = (-1 : Int)) => hsd'); k_dflt (refine' filt_range hrw' hsd' (by rfl) (by k_asm) (by k_asm) (by assumption) ?_ ?_); (focus (intro g' k' t' ys' I' oI' C' oC' D' m' h' tk' E' hC' hx' F' N' off' ne'; (try simp only [LCg.Off3, and_true] at off'))); rotate_left; intro g' ys' hI'; rotate_left)))) | ((fail_if_success (fail_if_success (with_reducible show SrcMT _ _ _ _ _ _ _ _ _ _ _ _ _ _ _))); (with_reducible ((k_here; (rename IntsAre _ (rowOf _ _ _ _) => hrw'); (rename (_ = (1 : Int) ∨ _ = (-1 : Int)) => hsd'); k_dflt (refine' told_law hrw' hsd' (by rfl) (by k_asm) (by k_asm) (by assumption) (by assumption) ?_ ?_); (focus (intro g' k' t' ys' I' oI' C' oC' D' m' h' tk' E' hlo' hhi' hC' hx' F' N' off' ne'; (try simp only [LCg.Off3, and_true] at off'))); rotate_left; intro g' l' hl'; rotate_left)))) | walk1) | (leave1; (try dsimp only)) | fail "no step"))
    refine Stop.go ?_
    (rename Fr _ _ _ _ => lF)
    (rename News _ _ _ _ => lN)
    refine stage2 lF lN rfl (by walk_at "my_mem1") (by walk_at "my_mem1") (by walk_at "my_mem1") (by walk_at "my_mem1") (by walk_at "my_mem1") (by assumption) (by assumption) (by assumption) (by assumption) (by assumption) (by walk_at "my_mem1") (by walk_at "my_mem1") (by assumption) (by walk_at "my_mem1") (by walk_at "my_mem1") (by walk_at "my_mem1") (by walk_at "my_mem1") (by assumption) (by walk_at "my_mem1") (by walk_at "my_mem1") (by assumption) (by walk_at "my_mem1") (by walk_at "my_mem1") (by assumption) ?_
    (((repeat (rename (_ < _ ∧ _) => hx; clear hx)); (repeat (rename News _ _ _ _ => hx; clear hx)); (repeat (rename Fr _ _ _ _ => hx; clear hx)); (repeat (rename Obj.data _ = _ => hx; clear hx)); (repeat (rename IntsAre _ _ => hx; clear hx)); (repeat (rename (List.length _ ≤ _) => hx; clear hx)); (repeat (rename (∀ p ∈ _ :: _, p.1 ≠ _ → p.1 ≠ _ → p ∈ _) => hx; clear hx))))
    intro tl off1 off2 y1 y2 y4 yw yr yx yD M0 M1 M2 d1 d2 d4 d5 d6 hir F' N'
    refine loop_side rfl F' N' yx d5 d6 rfl (ltN (by omega)) ?_ ?_
    rotate_left
    · intro u oS oM h tk F' N'
      (repeat' (first | (k_unfold; (try dsimp only)) | (k_end; wrow_close) | ((fail_if_success (fail_if_success (with_reducible show wpAny _ _ (execs (_ :: _) _) _ _ _))); (with_reducible refine wpAny_execs_cons ?_); k_fold) | ((fail_if_success (fail_if_success (with_reducible show wpAny _ _ (exec _ _) _ _ _))); first | ((fail_if_success (fail_if_success (with_reducible show wpAny _ _ (exec (PySem.Stmt.For (PySem.Expr.Name _ _) (PySem.Expr.BinOp _ _ _ _) (_ :: _) [] _) _) _ _ _))); (with_reducible ((k_here; (rename Fr _ _ _ _ => lF'); (with_unfolding_all refine' For_turns lF' ?_; k_whole))))) | ((fail_if_success (fail_if_success (with_reducible show wpAny _ _ (exec (PySem.Stmt.For (PySem.Expr.Name _ _) (PySem.Expr.List _ _) (_ :: _) [] _) _) _ _ _))); (with_reducible ((k_here; (rename Fr _ _ _ _ => lF'); (with_unfolding_all refine' For_stop lF' ?_; k_whole))))) | ((with_reducible ((k_here; (with_reducible show wpAny _ _ (exec (PySem.Stmt.Assign [_] (PySem.Expr.ListComp _ [⟨_, PySem.Expr.Call _ _ _ _, [_], _⟩] _ _) _) _) _ _ _); k_dflt (refine comp_ownA (F₀ := by k_asm) (by rfl) (by with_unfolding_all rfl) (by with_unfolding_all rfl) (by decide) (by rfl) (by decide) (by rfl) (by rfl) (by rfl) ?_); k_whole)))) | ((with_reducible ((k_here; (with_reducible show wpAny _ _ (exec (PySem.Stmt.If (PySem.Expr.Compare (PySem.Expr.Call _ _ _ _) _ _ _) _ _ _) _) _ _ _); (fail_if_success (with_reducible show wpAny _ _ _ (CutN _ _ _ _ _) _ _)); k_dflt (refine' cutN (by k_asm) (by k_asm) ?_ (fun h' tk' F' N' => ?_); k_whole)))))) | ((fail_if_success (fail_if_success (with_reducible show wpAny _ _ (subscriptTail _ _ _ _) _ _ _))); first | ((with_reducible (((k_dflt (refine kba_turn (value' := PySem.Expr.Name (PySem.Str.ofString "_") ⟨0, 0, 0, 0⟩) (fun _ => rfl) ?_)); (k_here; (with_reducible show wpAny _ _ (subscriptTail _ (PySem.Expr.Slice (some _) none none _) (Value.ref _) (Value.ref _)) _ _ _); k_dflt (refine' my_from (by k_asm) (by k_asm) (by k_mem) (by walk_at "my_ints") (by (first | decide | omega)) (by (((try simp only [List.length_append, List.length_cons, List.length_nil, List.length_take, List.length_drop, sizeLine_eq]); omega))) ?_ (by with_unfolding_all rfl) (by kmk_pure); k_whole); intro D' zs' h' F' N' l1 hI'; (try k_lt l1); (try k_sweep)))))) | ((with_reducible ((k_here; (with_reducible show wpAny _ _ (subscriptTail _ _ (Value.ref _) (Value.int _ _)) _ _ _); k_dflt (refine' my_word (by k_asm) (by walk_at "my_mem1") (by omega) (by omega) ?_ (by with_unfolding_all rfl); k_whole); intro t'; (try dsimp only); (try k_unmd))))) | ((with_reducible ((k_here; (with_reducible show wpAny _ _ (subscriptTail _ (PySem.Expr.Slice none (some _) none _) (Value.ref _) (Value.ref _)) _ _ _); k_dflt (refine' my_upto3 (by k_asm) (by k_asm) (by walk_at "my_mem1") ?_ (by with_unfolding_all rfl) (by kmk_pure); k_whole); intro D' h' F' N' l1; (try k_lt l1); (try k_sweep)))))) | ((fail_if_success (fail_if_success (with_reducible show wpAny _ _ (binaryOp _ _ _) _ _ _))); first | ((fail_if_success (fail_if_success (with_reducible show wpAny _ _ (binaryOp _ (Value.ref _) (Value.ref _)) _ _ _))); (with_reducible ((k_here; k_dflt (refine' my_add4 (by k_asm) (by k_asm) (by k_mem) (by k_mem) (by (with_reducible assumption)) (by (with_reducible assumption)) (by with_reducible rfl) ?_; k_whole); intro D' n1' n2' n3' n4' t1' t2' t3' t4' h' F' N' l1; (try k_lt l1); (try k_sweep))))) | ((with_reducible ((first | with_reducible refine my_fdiv4096 ?_ | with_reducible refine my_fdiv64 ?_)))) | ((with_reducible ((with_reducible refine my_shl (by assumption) (by assumption) ?_)))) | ((with_reducible ((with_reducible refine my_mul (by assumption) ?_)))) | ((with_reducible ((first | with_reducible refine my_pow2 ?_ | with_reducible refine my_pow1 ?_)))) | ((fail_if_success (fail_if_success (with_reducible show wpAny _ _ (binaryOp _ (Value.ref _) (Value.ref _)) _ _ _))); (with_reducible ((k_here; k_dflt (refine' my_add (by k_asm) (by k_asm) (by k_mem) (by k_mem) (by walk_at "my_ints") (by walk_at "my_ints") (by (((try simp only [List.length_append, List.length_cons, List.length_nil, List.length_take, List.length_drop, sizeLine_eq]); omega))) ?_; k_whole); intro D' zs' h' F' N' l1 hI'; (try k_lt l1); (try k_sweep)))))) | ((fail_if_success (fail_if_success (with_reducible show wpAny _ _ (compareOp _ _ _) _ _ _))); first | ((with_reducible ((k_here; (with_reducible show wpAny _ _ (compareOp PySem.CmpOp.Eq (Value.ref _) (Value.ref _)) _ _ _); k_dflt (refine' eq_nil (by k_asm) (by walk_at "my_mem1") (by walk_at "my_mem1") (by units_room) (by assumption) ?_ ?_); (all_goals (intro q'; (try dsimp only); (try k_unmd))))))) | ((with_reducible ((first | with_reducible refine ne_same (by with_reducible rfl) ?_ | refine ne_same (by assumption) ?_))))) | ((fail_if_success (fail_if_success (with_reducible show wpAny _ _ (call _ _ _) _ _ _))); first | ((fail_if_success (fail_if_success (with_reducible show wpAny _ _ (call (Value.builtin "list.extend") _ _) _ _ _))); (with_reducible ((k_here; (with_reducible show wpAny _ _ (call (Value.builtin _) [Value.ref _, Value.ref _]) _ _ _); (rename IntsAre _ _ => lI'); (have hzl' := lI'.length); (simp only [List.length_append, List.length_cons, List.length_nil] at hzl'); k_dflt (refine' my_extend (by k_asm) (by k_asm) (by walk_at "my_mem1") (by omega) (by walk_at "my_upd") (by omega) ?_; k_whole); intro h' F' N'; (try k_sweep))))) | ((fail_if_success (fail_if_success (with_reducible show wpAny _ _ (call (Value.builtin "sorted") _ _) _ _ _))); (with_reducible ((k_here; (with_reducible show wpAny _ _ (call (Value.builtin "sorted") [Value.ref _]) _ _ _); k_dflt (refine' my_sorted (by k_asm) (by k_asm) (by walk_at "my_mem1") (by assumption) (by exact near_18 (by assumption) (by assumption)) ?_; k_whole); intro D' zs' e' ns' h' F' N' l1 hI' hp' hs' hl'; (try k_lt l1); (try k_sweep))))) | ((fail_if_success (fail_if_success (with_reducible show wpAny _ _ (call (Value.builtin "str.join") _ _) _ _ _))); (with_reducible ((k_here; (with_reducible show wpAny _ _ (call (Value.builtin _) [Value.str _ _, Value.ref _]) _ _ _); k_dflt (refine' join_told (by k_asm) (by walk_at "my_mem1") (by assumption) (by assumption) ?_ ?_); (all_goals (intro t' k' e1' e2' e3'; (try rw [e2']); (try dsimp only); (try k_unmd))))))) | ((with_reducible ((k_here; (with_reducible show wpAny _ _ (call (Value.ref 39) [Value.int _ _]) _ _ _); k_dflt (refine' call_flags (by k_asm) (by k_asm) (by k_asm) (by k_asm) (by k_asm) (by first | exact rfl | assumption) (by ktr_room) (by ktr_units) ?_ (by exact flags_law _ _ _ _ _ _ (by assumption) (by assumption)) ?_; (exact bitsL_len _ _ _ _ _ _); k_whole); intro t' h' tk' F' N'; (try k_sweep); (try dsimp only); (try k_unmd); (try k_fold))))) | ((with_reducible ((k_here; (with_reducible show wpAny _ _ (call (Value.ref 149) [Value.ref _, Value.int _ _, Value.int _ _]) _ _ _); k_dflt (refine' call_true (by k_asm) (by k_asm) (by k_asm) (by k_asm) (by k_asm) (by first | exact rfl | assumption) (by ktr_room) (by ktr_units) (by walk_at "my_mem1") (by exact meantIs_mono (by assumption) (fun p hp => by walk_at "my_mem1")) (by exact meantIs_mono (by assumption) (fun p hp => by walk_at "my_mem1")) (by exact meantIs_mono (by assumption) (fun p hp => by walk_at "my_mem1")) (by exact fm _ (by decide)) ?_; k_whole); intro h' tk' F' N'; (try k_sweep); (try dsimp only); (try k_unmd); (try k_fold))))) | ((with_reducible ((k_here; (with_reducible show wpAny _ _ (call (Value.ref 121) [Value.ref _, Value.ref _]) _ _ _); k_dflt (refine' call_held (by k_asm) (by k_asm) (by k_asm) (by k_asm) (by k_asm) (by first | exact rfl | assumption) (by ktr_room) (by ktr_units) (by walk_at "my_mem1") (by assumption) (by walk_at "my_mem1") (by assumption) (by (exact Nat.le_trans (row_len _ _ _ _) (by decide))) (by (first | (simp only [List.length_map, rangeKs_length]; omega) | omega)) (by exact fun x _ => ⟨_, run_row _ _ _ _ x⟩) ?_; k_whole); intro l' vs' c' h' tk' F' N' l1 hi'; (rw [held_row] at hi'); (try k_lt l1); (try k_sweep); (try dsimp only); (try k_unmd); (try k_fold))))) | ((with_reducible ((k_here; (with_reducible show wpAny _ _ (call (Value.ref 128) [Value.ref _, Value.int _ _]) _ _ _); (rename (_ = (1 : Int) ∨ _ = (-1 : Int)) => hsd'); k_dflt (refine' call_bounds (by k_asm) (by k_asm) (by k_asm) (by k_asm) (by k_asm) (by first | exact rfl | assumption) (by ktr_room) (by ktr_units) (by walk_at "my_mem1") (by assumption) (by (exact Nat.le_trans (row_len _ _ _ _) (by decide))) (by exact boundsOk_row _ _ _ _) ?_; k_whole); intro lt' l' vs' c' c1' t' h' tk' F' N' l1 l2 hi'; (have hmany' := many_of hsd' hi'); (try k_lt l1); (try k_lt2 l2); (try k_sweep); (try dsimp only); (try k_unmd); (try k_fold))))) | ((with_reducible ((k_here; (with_reducible show wpAny _ _ (call (Value.ref 116) [Value.ref _]) _ _ _); k_dflt (refine' call_read (by k_asm) (by k_asm) (by k_asm) (by k_asm) (by k_asm) (by first | exact rfl | assumption) (by ktr_room) (by ktr_units) (by k_mem) (by (assumption)) (by (exact row_range _ _ _ _)) (by (exact Nat.le_trans (row_len _ _ _ _) (by decide))) ?_; k_whole); intro l' vs' c' h' tk' F' N' l1 hi'; (try k_lt l1); (try k_sweep); (try dsimp only); (try k_unmd); (try k_fold))))) | ((with_reducible ((k_here; (with_reducible show wpAny _ _ (call (Value.ref 142) [Value.int _ _]) _ _ _); k_dflt (refine' call_meant (by k_asm) (by k_asm) (by k_asm) (by k_asm) (by k_asm) (by first | exact rfl | assumption) (by ktr_room) (by ktr_units) ?_; k_whole); intro l' lt' t1' t2' vs' c' c1' h' tk' F' N' l1 l2 hi'; (try k_lt l1); (try k_lt2 l2); (try k_sweep); (try dsimp only); (try k_unmd); (try k_fold))))) | ((with_reducible ((k_here; (with_reducible show wpAny _ _ (call (Value.ref 135) [Value.int _ _]) _ _ _); k_dflt (refine' call_sentence (by k_asm) (by k_asm) (by k_asm) (by k_asm) (by k_asm) (by first | exact rfl | assumption) (by ktr_room) (by ktr_units) ?_; k_whole); intro l' vs' c' h' tk' F' N' l1 hi'; (try k_lt l1); (try k_sweep); (have hlen' := sentLen _ hi'); (try dsimp only); (try k_unmd); (try k_fold)))))) | ((fail_if_success (fail_if_success (with_reducible show wpAny _ _ (eval (PySem.Expr.ListComp _ _ _ _) _) _ _ _))); first | ((with_reducible ((k_here; (with_reducible show wpAny _ _ (eval (PySem.Expr.ListComp (PySem.Expr.BinOp _ _ _ _) [⟨_, _, [_], _⟩] _ _) _) _ _ _); (fail_if_success (with_reducible show wpAny _ _ (eval (PySem.Expr.ListComp _ [⟨_, PySem.Expr.Tuple _ _ _, _, _⟩] _ _) _) _ _ _)); k_dflt (refine comp_ownT (F₀ := by k_asm) (by with_unfolding_all rfl) (by decide) (by rfl) (by decide) (by rfl) ?_); k_whole)))) | ((with_reducible ((k_here; (with_reducible show wpAny _ _ (eval (PySem.Expr.ListComp _ [_, _] _ _) _) _ _ _); k_dflt (refine comp2 (F₀ := by k_asm) (by with_unfolding_all rfl) (by decide) (by rfl) (by decide) (by rfl) (by rfl) (by decide) ?_); k_whole)))) | ((with_reducible ((k_here; (with_reducible show wpAny _ _ (eval (PySem.Expr.ListComp (PySem.Expr.BinOp _ PySem.Operator.LShift _ _) _ _ _) _) _ _ _); k_dflt (refine comp_own (F₀ := by k_asm) (by with_unfolding_all rfl) (by decide) (by rfl) (by decide) (by rfl) ?_); k_whole)))) | ((with_reducible ((k_here; (with_reducible show wpAny _ _ (eval (PySem.Expr.ListComp _ [⟨_, PySem.Expr.Subscript _ _ _, _, _⟩] _ _) _) _ _ _); (fail_if_success (with_reducible show wpAny _ _ (eval (PySem.Expr.ListComp _ [⟨_, PySem.Expr.Subscript _ _ _, _, _⟩] _ _) _) (CutM _ _ _ _ _ _ _ _) _ _)); (k_dflt (refine' cut_meant (by k_asm) (by k_asm) (by walk_at "my_mem1") ?_ (fun D' h' tk' l0' k0' l1' k1' l2' k2' c0' c1' c2' cc' e0' e1' e2' p0' p1' p2' q0' q1' q2' vs0' vs1' vs2' F' N' i0' i1' i2' o1' lx' g1' g2' g3' g4' g5' => ?_); k_whole); (rotate_left; (try simp only [LCg.Off1, and_true] at o1'); (try k_lt lx'); rotate_left)))))) | ((with_reducible ((k_here; (with_reducible show wpAny _ _ (eval (PySem.Expr.ListComp _ [⟨_, PySem.Expr.Subscript _ _ _, _, _⟩] _ _) _) (CutM _ _ _ _ _ _ _ _) _ _); k_dflt (refine comp_own (F₀ := by k_asm) (by with_unfolding_all rfl) (by decide) (by rfl) (by decide) (by rfl) ?_); k_whole)))) | ((with_reducible ((k_here; (with_reducible show wpAny _ _ (eval (PySem.Expr.ListComp _ [⟨_, PySem.Expr.Tuple _ _ _, _, _⟩] _ _) _) _ _ _); (fail_if_success (with_reducible show wpAny _ _ (eval (PySem.Expr.ListComp _ [⟨_, PySem.Expr.Tuple _ _ _, _, _⟩] _ _) _) (CutL _ _ _ _ _ _) _ _)); k_dflt (refine' cut_enc (by assumption) (by k_asm) (by k_asm) ?_ (fun D' zs' h' tk' F' N' o1' hI' hlen' => ?_); k_whole); (rotate_left; (try simp only [LCg.Off1, and_true] at o1'); rotate_left))))) | ((with_reducible ((k_here; (with_reducible show wpAny _ _ (eval (PySem.Expr.ListComp _ [⟨_, PySem.Expr.Tuple _ _ _, _, _⟩] _ _) _) (CutL _ _ _ _ _ _) _ _); k_dflt (refine comp_tup (F₀ := by k_asm) (by with_unfolding_all rfl) (by decide) (by rfl) (by decide) (by rfl) ?_); k_whole))))) | ((fail_if_success (fail_if_success (with_reducible show wpAny _ _ (eval (PySem.Expr.Name _ _) _) _ _ _))); first | ((with_reducible ((k_here; (rename Fr _ _ _ _ => lF'); k_dflt (refine' nameX_L lF' (by first | with_reducible assumption | exact rfl | assumption) ?_ (by rfl) (by rfl) (by decide); k_whole)))))) | ((fail_if_success (fail_if_success (with_reducible show wpAny _ _ (truthy _) _ _ _))); first | ((with_reducible ((with_reducible refine truthy_flag (bitsL_len _ _ _ _ _ _) ?_))))) | ((fail_if_success (fail_if_success (with_reducible show _ ∧ _))); (with_reducible ((exact ⟨rfl, _, rfl⟩)))) | ((fail_if_success (fail_if_success (with_reducible show LCg.CompEnd _ _ _ _ _ _ _ _ _ _ _ _ _ _))); (with_reducible ((k_dflt (refine' comp_end2 (by with_reducible assumption) (by with_reducible assumption) (by first | assumption | (simp only [LCg.Off3, and_true]; assumption)) (by exact ⟨by (exact ltN (by omega)), by (exact ltN (by omega)), by (exact ltN (by omega))⟩) (by with_reducible assumption) (by first | exact True.intro | lcg_src | exact Or.inr ⟨_, by walk_at "my_mem1", rfl, _, rfl⟩) ?_; k_whole))))) | ((fail_if_success (fail_if_success (with_reducible show CutEl _ _ _ _ _ _ _ _))); ((exact ⟨_, _, _, rfl, rfl, (by assumption), (by assumption)⟩))) | ((fail_if_success (fail_if_success (with_reducible show CutN _ _ _ _ _ _ _))); (with_reducible (((rename News _ _ _ _ => lN'); k_dflt (refine CutN.fin (by assumption) lN' (by walk_at "my_sfx")))))) | ((fail_if_success (fail_if_success (with_reducible show CutRg _ _ _ _ _ _ _ _))); ((exact ⟨_, _, _, _, _, _, rfl, rfl, (by assumption), (by assumption), (by assumption)⟩))) | ((fail_if_success (fail_if_success (with_reducible show LCg.FinE _ _ _ _ _ _ _))); (with_reducible (((unfold LCg.FinE); intro D' h' tk' F' N' o1'; (with_reducible show CutM _ _ _ _ _ _ _ _ _ _); k_dflt (refine' ⟨_, _, _, _, _, _, _, _, _, _, _, _, _, _, _, _, _, _, _, _, _, _, _, _, _, rfl, rfl, (by assumption), cb_drop N' (by walk_at "my_sub"), (by assumption), (by assumption), (by assumption), (by exact off1_sub o1' (by walk_at "my_sub")), (by walk_at "my_ltall"), (by (exact ltN (by omega))), (by (exact ltN (by omega))), (by (exact ltN (by omega))), (by (exact ltN (by omega))), (by (exact ltN (by omega)))⟩))))) | ((fail_if_success (fail_if_success (with_reducible show Src2 _ _ _ _ _ _ _ _ _ _ _ _ _ _ _ _))); (with_reducible ((k_here; (rename (_ = (1 : Int) ∨ _ = (-1 : Int)) => hsd'); k_dflt (refine' near_src hsd' (by rfl) (by k_asm) (by k_asm) (by walk_at "my_mem1") (by assumption) (by assumption) ?_ ?_ ?_); (focus (intro b' tb' h' tk' I' oI' C' oC' D' oD' m' hC' hx' F' N')); rotate_left; (focus (intro b' tb' j' tj' h' tk' J' oJ' I' oI' C' oC' D' oD' m' hC' hx' hy' F' N')); rotate_left; (intro D' ys' h' tk' hI' F' N' o1'; (try simp only [LCg.Off1, and_true] at o1')); rotate_left)))) | ((fail_if_success (fail_if_success (with_reducible show SrcM _ _ _ _ _ _ _ _ _ _ _ _ _ _))); (with_reducible ((k_here; (rename (_ = (1 : Int) ∨ _ = (-1 : Int)) => hsd'); k_dflt (refine' shift_law hsd' (by rfl) (by k_asm) (by k_asm) (by walk_at "my_mem1") (by assumption) (by omega) ?_ ?_); (focus (intro g' k' t' ys' I' oI' C' oC' D' m' h' tk' E' hlo' hhi' hC' hx' F' N' off' ne'; (try simp only [LCg.Off3, and_true] at off'))); rotate_left; intro g' ys' hI'; rotate_left)))) | ((fail_if_success (fail_if_success (with_reducible show SrcMT _ _ _ _ _ _ _ _ _ _ _ _ _ _ _))); (with_reducible ((k_here; (rename IntsAre _ (rowOf _ _ _ _) => hrw'); (rename (_ = (1 : Int) ∨ _ = (-1 : Int)) => hsd'); k_dflt (refine' filt_list hrw' hsd' (by rfl) (by k_asm) (by k_asm) (by walk_at "my_mem1") (by assumption) (by assumption) ?_ ?_); (focus (intro g' k' t' ys' I' oI' C' oC' D' m' h' tk' E' hC' hx' F' N' off' ne'; (try simp only [LCg.Off3, and_true] at off'))); rotate_left; intro g' ys' hI'; rotate_left)))) | ((fail_if_success (fail_if_success (with_reducible show SrcTup _ _ _ _ _ _ _ _ _ _ _ _ _ _ _))); (with_reducible ((k_here; k_dflt (refine SrcTup.put (by rfl) (by k_asm) (by k_asm) (by walk_at "my_mem1") (by first | size_fits | exact Nat.le_of_ble_eq_true rfl) ?_; intro g'; lct_lit))))) | ((fail_if_success (fail_if_success (with_reducible show LCg.CompEnd _ _ _ _ _ _ _ _ _ _ _ _ _ _))); (with_reducible ((k_dflt (refine' comp_end (by k_asm) (by k_asm) (by first | assumption | (simp only [LCg.Off3, and_true]; assumption)) (by first | exact True.intro | walk_at "my_mem1" | lcg_src) ?_; k_whole))))) | ((fail_if_success (fail_if_success (with_reducible show LCg.FinE _ _ _ _ _ _ _))); (with_reducible (((unfold LCg.FinE); intro D' h' tk' F' N' o1'; (with_reducible show CutL _ _ _ _ _ _ _ _); k_dflt (refine' CutL.fin (by assumption) (by assumption) (by walk_at "my_sfx") (by assumption) (by ((first | exact encI2 (by omega) | exact encI1 (by omega) (by omega) | exact encI0 (by omega) (by omega))))))))) | ((fail_if_success (fail_if_success (with_reducible show SrcM _ _ _ _ _ _ _ _ _ _ _ _ _ _))); (with_reducible ((k_here; k_dflt (refine SrcM.put (by rfl) (by k_asm) (by k_asm) (by walk_at "my_mem1") (by first | size_fits | exact Nat.le_of_ble_eq_true rfl) ?_; intro g'; lcg_lit))))) | ((fail_if_success (fail_if_success (with_reducible show SrcMT _ _ _ _ _ _ _ _ _ _ _ _ _ _ _))); (with_reducible ((k_here; (rename IntsAre _ (rowOf _ _ _ _) => hrw'); (rename (_ = (1 : Int) ∨ _ = (-1 : Int)) => hsd'); k_dflt (refine' filt_range hrw' hsd' (by rfl) (by k_asm) (by k_asm) (by assumption) ?_ ?_); (focus (intro g' k' t' ys' I' oI' C' oC' D' m' h' tk' E' hC' hx' F' N' off' ne'; (try simp only [LCg.Off3, and_true] at off'))); rotate_left; intro g' ys' hI'; rotate_left)))) | ((fail_if_success (fail_if_success (with_reducible show SrcMT _ _ _ _ _ _ _ _ _ _ _ _ _ _ _))); (with_reducible ((k_here; (rename IntsAre _ (rowOf _ _ _ _) => hrw'); (rename (_ = (1 : Int) ∨ _ = (-1 : Int)) => hsd'); k_dflt (refine' told_law hrw' hsd' (by rfl) (by k_asm) (by k_asm) (by assumption) (by assumption) ?_ ?_); (focus (intro g' k' t' ys' I' oI' C' oC' D' m' h' tk' E' hlo' hhi' hC' hx' F' N' off' ne'; (try simp only [LCg.Off3, and_true] at off'))); rotate_left; intro g' l' hl'; rotate_left)))) | walk1 | (dsimp only; first | ((fail_if_success (fail_if_success (with_reducible show wpAny _ _ (execs (_ :: _) _) _ _ _))); (with_reducible refine wpAny_execs_cons ?_); k_fold) | ((fail_if_success (fail_if_success (with_reducible show wpAny _ _ (exec _ _) _ _ _))); first | ((fail_if_success (fail_if_success (with_reducible show wpAny _ _ (exec (PySem.Stmt.For (PySem.Expr.Name _ _) (PySem.Expr.BinOp _ _ _ _) (_ :: _) [] _) _) _ _ _))); (with_reducible ((k_here; (rename Fr _ _ _ _ => lF'); (with_unfolding_all refine' For_turns lF' ?_; k_whole))))) | ((fail_if_success (fail_if_success (with_reducible show wpAny _ _ (exec (PySem.Stmt.For (PySem.Expr.Name _ _) (PySem.Expr.List _ _) (_ :: _) [] _) _) _ _ _))); (with_reducible ((k_here; (rename Fr _ _ _ _ => lF'); (with_unfolding_all refine' For_stop lF' ?_; k_whole))))) | ((with_reducible ((k_here; (with_reducible show wpAny _ _ (exec (PySem.Stmt.Assign [_] (PySem.Expr.ListComp _ [⟨_, PySem.Expr.Call _ _ _ _, [_], _⟩] _ _) _) _) _ _ _); k_dflt (refine comp_ownA (F₀ := by k_asm) (by rfl) (by with_unfolding_all rfl) (by with_unfolding_all rfl) (by decide) (by rfl) (by decide) (by rfl) (by rfl) (by rfl) ?_); k_whole)))) | ((with_reducible ((k_here; (with_reducible show wpAny _ _ (exec (PySem.Stmt.If (PySem.Expr.Compare (PySem.Expr.Call _ _ _ _) _ _ _) _ _ _) _) _ _ _); (fail_if_success (with_reducible show wpAny _ _ _ (CutN _ _ _ _ _) _ _)); k_dflt (refine' cutN (by k_asm) (by k_asm) ?_ (fun h' tk' F' N' => ?_); k_whole)))))) | ((fail_if_success (fail_if_success (with_reducible show wpAny _ _ (subscriptTail _ _ _ _) _ _ _))); first | ((with_reducible (((k_dflt (refine kba_turn (value' := PySem.Expr.Name (PySem.Str.ofString "_") ⟨0, 0, 0, 0⟩) (fun _ => rfl) ?_)); (k_here; (with_reducible show wpAny _ _ (subscriptTail _ (PySem.Expr.Slice (some _) none none _) (Value.ref _) (Value.ref _)) _ _ _); k_dflt (refine' my_from (by k_asm) (by k_asm) (by k_mem) (by walk_at "my_ints") (by (first | decide | omega)) (by (((try simp only [List.length_append, List.length_cons, List.length_nil, List.length_take, List.length_drop, sizeLine_eq]); omega))) ?_ (by with_unfolding_all rfl) (by kmk_pure); k_whole); intro D' zs' h' F' N' l1 hI'; (try k_lt l1); (try k_sweep)))))) | ((with_reducible ((k_here; (with_reducible show wpAny _ _ (subscriptTail _ _ (Value.ref _) (Value.int _ _)) _ _ _); k_dflt (refine' my_word (by k_asm) (by walk_at "my_mem1") (by omega) (by omega) ?_ (by with_unfolding_all rfl); k_whole); intro t'; (try dsimp only); (try k_unmd))))) | ((with_reducible ((k_here; (with_reducible show wpAny _ _ (subscriptTail _ (PySem.Expr.Slice none (some _) none _) (Value.ref _) (Value.ref _)) _ _ _); k_dflt (refine' my_upto3 (by k_asm) (by k_asm) (by walk_at "my_mem1") ?_ (by with_unfolding_all rfl) (by kmk_pure); k_whole); intro D' h' F' N' l1; (try k_lt l1); (try k_sweep)))))) | ((fail_if_success (fail_if_success (with_reducible show wpAny _ _ (binaryOp _ _ _) _ _ _))); first | ((fail_if_success (fail_if_success (with_reducible show wpAny _ _ (binaryOp _ (Value.ref _) (Value.ref _)) _ _ _))); (with_reducible ((k_here; k_dflt (refine' my_add4 (by k_asm) (by k_asm) (by k_mem) (by k_mem) (by (with_reducible assumption)) (by (with_reducible assumption)) (by with_reducible rfl) ?_; k_whole); intro D' n1' n2' n3' n4' t1' t2' t3' t4' h' F' N' l1; (try k_lt l1); (try k_sweep))))) | ((with_reducible ((first | with_reducible refine my_fdiv4096 ?_ | with_reducible refine my_fdiv64 ?_)))) | ((with_reducible ((with_reducible refine my_shl (by assumption) (by assumption) ?_)))) | ((with_reducible ((with_reducible refine my_mul (by assumption) ?_)))) | ((with_reducible ((first | with_reducible refine my_pow2 ?_ | with_reducible refine my_pow1 ?_)))) | ((fail_if_success (fail_if_success (with_reducible show wpAny _ _ (binaryOp _ (Value.ref _) (Value.ref _)) _ _ _))); (with_reducible ((k_here; k_dflt (refine' my_add (by k_asm) (by k_asm) (by k_mem) (by k_mem) (by walk_at "my_ints") (by walk_at "my_ints") (by (((try simp only [List.length_append, List.length_cons, List.length_nil, List.length_take, List.length_drop, sizeLine_eq]); omega))) ?_; k_whole); intro D' zs' h' F' N' l1 hI'; (try k_lt l1); (try k_sweep)))))) | ((fail_if_success (fail_if_success (with_reducible show wpAny _ _ (compareOp _ _ _) _ _ _))); first | ((with_reducible ((k_here; (with_reducible show wpAny _ _ (compareOp PySem.CmpOp.Eq (Value.ref _) (Value.ref _)) _ _ _); k_dflt (refine' eq_nil (by k_asm) (by walk_at "my_mem1") (by walk_at "my_mem1") (by units_room) (by assumption) ?_ ?_); (all_goals (intro q'; (try dsimp only); (try k_unmd))))))) | ((with_reducible ((first | with_reducible refine ne_same (by with_reducible rfl) ?_ | refine ne_same (by assumption) ?_))))) | ((fail_if_success (fail_if_success (with_reducible show wpAny _ _ (call _ _ _) _ _ _))); first | ((fail_if_success (fail_if_success (with_reducible show wpAny _ _ (call (Value.builtin "list.extend") _ _) _ _ _))); (with_reducible ((k_here; (with_reducible show wpAny _ _ (call (Value.builtin _) [Value.ref _, Value.ref _]) _ _ _); (rename IntsAre _ _ => lI'); (have hzl' := lI'.length); (simp only [List.length_append, List.length_cons, List.length_nil] at hzl'); k_dflt (refine' my_extend (by k_asm) (by k_asm) (by walk_at "my_mem1") (by omega) (by walk_at "my_upd") (by omega) ?_; k_whole); intro h' F' N'; (try k_sweep))))) | ((fail_if_success (fail_if_success (with_reducible show wpAny _ _ (call (Value.builtin "sorted") _ _) _ _ _))); (with_reducible ((k_here; (with_reducible show wpAny _ _ (call (Value.builtin "sorted") [Value.ref _]) _ _ _); k_dflt (refine' my_sorted (by k_asm) (by k_asm) (by walk_at "my_mem1") (by assumption) (by exact near_18 (by assumption) (by assumption)) ?_; k_whole); intro D' zs' e' ns' h' F' N' l1 hI' hp' hs' hl'; (try k_lt l1); (try k_sweep))))) | ((fail_if_success (fail_if_success (with_reducible show wpAny _ _ (call (Value.builtin "str.join") _ _) _ _ _))); (with_reducible ((k_here; (with_reducible show wpAny _ _ (call (Value.builtin _) [Value.str _ _, Value.ref _]) _ _ _); k_dflt (refine' join_told (by k_asm) (by walk_at "my_mem1") (by assumption) (by assumption) ?_ ?_); (all_goals (intro t' k' e1' e2' e3'; (try rw [e2']); (try dsimp only); (try k_unmd))))))) | ((with_reducible ((k_here; (with_reducible show wpAny _ _ (call (Value.ref 39) [Value.int _ _]) _ _ _); k_dflt (refine' call_flags (by k_asm) (by k_asm) (by k_asm) (by k_asm) (by k_asm) (by first | exact rfl | assumption) (by ktr_room) (by ktr_units) ?_ (by exact flags_law _ _ _ _ _ _ (by assumption) (by assumption)) ?_; (exact bitsL_len _ _ _ _ _ _); k_whole); intro t' h' tk' F' N'; (try k_sweep); (try dsimp only); (try k_unmd); (try k_fold))))) | ((with_reducible ((k_here; (with_reducible show wpAny _ _ (call (Value.ref 149) [Value.ref _, Value.int _ _, Value.int _ _]) _ _ _); k_dflt (refine' call_true (by k_asm) (by k_asm) (by k_asm) (by k_asm) (by k_asm) (by first | exact rfl | assumption) (by ktr_room) (by ktr_units) (by walk_at "my_mem1") (by exact meantIs_mono (by assumption) (fun p hp => by walk_at "my_mem1")) (by exact meantIs_mono (by assumption) (fun p hp => by walk_at "my_mem1")) (by exact meantIs_mono (by assumption) (fun p hp => by walk_at "my_mem1")) (by exact fm _ (by decide)) ?_; k_whole); intro h' tk' F' N'; (try k_sweep); (try dsimp only); (try k_unmd); (try k_fold))))) | ((with_reducible ((k_here; (with_reducible show wpAny _ _ (call (Value.ref 121) [Value.ref _, Value.ref _]) _ _ _); k_dflt (refine' call_held (by k_asm) (by k_asm) (by k_asm) (by k_asm) (by k_asm) (by first | exact rfl | assumption) (by ktr_room) (by ktr_units) (by walk_at "my_mem1") (by assumption) (by walk_at "my_mem1") (by assumption) (by (exact Nat.le_trans (row_len _ _ _ _) (by decide))) (by (first | (simp only [List.length_map, rangeKs_length]; omega) | omega)) (by exact fun x _ => ⟨_, run_row _ _ _ _ x⟩) ?_; k_whole); intro l' vs' c' h' tk' F' N' l1 hi'; (rw [held_row] at hi'); (try k_lt l1); (try k_sweep); (try dsimp only); (try k_unmd); (try k_fold))))) | ((with_reducible ((k_here; (with_reducible show wpAny _ _ (call (Value.ref 128) [Value.ref _, Value.int _ _]) _ _ _); (rename (_ = (1 : Int) ∨ _ = (-1 : Int)) => hsd'); k_dflt (refine' call_bounds (by k_asm) (by k_asm) (by k_asm) (by k_asm) (by k_asm) (by first | exact rfl | assumption) (by ktr_room) (by ktr_units) (by walk_at "my_mem1") (by assumption) (by (exact Nat.le_trans (row_len _ _ _ _) (by decide))) (by exact boundsOk_row _ _ _ _) ?_; k_whole); intro lt' l' vs' c' c1' t' h' tk' F' N' l1 l2 hi'; (have hmany' := many_of hsd' hi'); (try k_lt l1); (try k_lt2 l2); (try k_sweep); (try dsimp only); (try k_unmd); (try k_fold))))) | ((with_reducible ((k_here; (with_reducible show wpAny _ _ (call (Value.ref 116) [Value.ref _]) _ _ _); k_dflt (refine' call_read (by k_asm) (by k_asm) (by k_asm) (by k_asm) (by k_asm) (by first | exact rfl | assumption) (by ktr_room) (by ktr_units) (by k_mem) (by (assumption)) (by (exact row_range _ _ _ _)) (by (exact Nat.le_trans (row_len _ _ _ _) (by decide))) ?_; k_whole); intro l' vs' c' h' tk' F' N' l1 hi'; (try k_lt l1); (try k_sweep); (try dsimp only); (try k_unmd); (try k_fold))))) | ((with_reducible ((k_here; (with_reducible show wpAny _ _ (call (Value.ref 142) [Value.int _ _]) _ _ _); k_dflt (refine' call_meant (by k_asm) (by k_asm) (by k_asm) (by k_asm) (by k_asm) (by first | exact rfl | assumption) (by ktr_room) (by ktr_units) ?_; k_whole); intro l' lt' t1' t2' vs' c' c1' h' tk' F' N' l1 l2 hi'; (try k_lt l1); (try k_lt2 l2); (try k_sweep); (try dsimp only); (try k_unmd); (try k_fold))))) | ((with_reducible ((k_here; (with_reducible show wpAny _ _ (call (Value.ref 135) [Value.int _ _]) _ _ _); k_dflt (refine' call_sentence (by k_asm) (by k_asm) (by k_asm) (by k_asm) (by k_asm) (by first | exact rfl | assumption) (by ktr_room) (by ktr_units) ?_; k_whole); intro l' vs' c' h' tk' F' N' l1 hi'; (try k_lt l1); (try k_sweep); (have hlen' := sentLen _ hi'); (try dsimp only); (try k_unmd); (try k_fold)))))) | ((fail_if_success (fail_if_success (with_reducible show wpAny _ _ (eval (PySem.Expr.ListComp _ _ _ _) _) _ _ _))); first | ((with_reducible ((k_here; (with_reducible show wpAny _ _ (eval (PySem.Expr.ListComp (PySem.Expr.BinOp _ _ _ _) [⟨_, _, [_], _⟩] _ _) _) _ _ _); (fail_if_success (with_reducible show wpAny _ _ (eval (PySem.Expr.ListComp _ [⟨_, PySem.Expr.Tuple _ _ _, _, _⟩] _ _) _) _ _ _)); k_dflt (refine comp_ownT (F₀ := by k_asm) (by with_unfolding_all rfl) (by decide) (by rfl) (by decide) (by rfl) ?_); k_whole)))) | ((with_reducible ((k_here; (with_reducible show wpAny _ _ (eval (PySem.Expr.ListComp _ [_, _] _ _) _) _ _ _); k_dflt (refine comp2 (F₀ := by k_asm) (by with_unfolding_all rfl) (by decide) (by rfl) (by decide) (by rfl) (by rfl) (by decide) ?_); k_whole)))) | ((with_reducible ((k_here; (with_reducible show wpAny _ _ (eval (PySem.Expr.ListComp (PySem.Expr.BinOp _ PySem.Operator.LShift _ _) _ _ _) _) _ _ _); k_dflt (refine comp_own (F₀ := by k_asm) (by with_unfolding_all rfl) (by decide) (by rfl) (by decide) (by rfl) ?_); k_whole)))) | ((with_reducible ((k_here; (with_reducible show wpAny _ _ (eval (PySem.Expr.ListComp _ [⟨_, PySem.Expr.Subscript _ _ _, _, _⟩] _ _) _) _ _ _); (fail_if_success (with_reducible show wpAny _ _ (eval (PySem.Expr.ListComp _ [⟨_, PySem.Expr.Subscript _ _ _, _, _⟩] _ _) _) (CutM _ _ _ _ _ _ _ _) _ _)); (k_dflt (refine' cut_meant (by k_asm) (by k_asm) (by walk_at "my_mem1") ?_ (fun D' h' tk' l0' k0' l1' k1' l2' k2' c0' c1' c2' cc' e0' e1' e2' p0' p1' p2' q0' q1' q2' vs0' vs1' vs2' F' N' i0' i1' i2' o1' lx' g1' g2' g3' g4' g5' => ?_); k_whole); (rotate_left; (try simp only [LCg.Off1, and_true] at o1'); (try k_lt lx'); rotate_left)))))) | ((with_reducible ((k_here; (with_reducible show wpAny _ _ (eval (PySem.Expr.ListComp _ [⟨_, PySem.Expr.Subscript _ _ _, _, _⟩] _ _) _) (CutM _ _ _ _ _ _ _ _) _ _); k_dflt (refine comp_own (F₀ := by k_asm) (by with_unfolding_all rfl) (by decide) (by rfl) (by decide) (by rfl) ?_); k_whole)))) | ((with_reducible ((k_here; (with_reducible show wpAny _ _ (eval (PySem.Expr.ListComp _ [⟨_, PySem.Expr.Tuple _ _ _, _, _⟩] _ _) _) _ _ _); (fail_if_success (with_reducible show wpAny _ _ (eval (PySem.Expr.ListComp _ [⟨_, PySem.Expr.Tuple _ _ _, _, _⟩] _ _) _) (CutL _ _ _ _ _ _) _ _)); k_dflt (refine' cut_enc (by assumption) (by k_asm) (by k_asm) ?_ (fun D' zs' h' tk' F' N' o1' hI' hlen' => ?_); k_whole); (rotate_left; (try simp only [LCg.Off1, and_true] at o1'); rotate_left))))) | ((with_reducible ((k_here; (with_reducible show wpAny _ _ (eval (PySem.Expr.ListComp _ [⟨_, PySem.Expr.Tuple _ _ _, _, _⟩] _ _) _) (CutL _ _ _ _ _ _) _ _); k_dflt (refine comp_tup (F₀ := by k_asm) (by with_unfolding_all rfl) (by decide) (by rfl) (by decide) (by rfl) ?_); k_whole))))) | ((fail_if_success (fail_if_success (with_reducible show wpAny _ _ (eval (PySem.Expr.Name _ _) _) _ _ _))); first | ((with_reducible ((k_here; (rename Fr _ _ _ _ => lF'); k_dflt (refine' nameX_L lF' (by first | with_reducible assumption | exact rfl | assumption) ?_ (by rfl) (by rfl) (by decide); k_whole)))))) | ((fail_if_success (fail_if_success (with_reducible show wpAny _ _ (truthy _) _ _ _))); first | ((with_reducible ((with_reducible refine truthy_flag (bitsL_len _ _ _ _ _ _) ?_))))) | ((fail_if_success (fail_if_success (with_reducible show _ ∧ _))); (with_reducible ((exact ⟨rfl, _, rfl⟩)))) | ((fail_if_success (fail_if_success (with_reducible show LCg.CompEnd _ _ _ _ _ _ _ _ _ _ _ _ _ _))); (with_reducible ((k_dflt (refine' comp_end2 (by with_reducible assumption) (by with_reducible assumption) (by first | assumption | (simp only [LCg.Off3, and_true]; assumption)) (by exact ⟨by (exact ltN (by omega)), by (exact ltN (by omega)), by (exact ltN (by omega))⟩) (by with_reducible assumption) (by first | exact True.intro | lcg_src | exact Or.inr ⟨_, by walk_at "my_mem1", rfl, _, rfl⟩) ?_; k_whole))))) | ((fail_if_success (fail_if_success (with_reducible show CutEl _ _ _ _ _ _ _ _))); ((exact ⟨_, _, _, rfl, rfl, (by assumption), (by assumption)⟩))) | ((fail_if_success (fail_if_success (with_reducible show CutN _ _ _ _ _ _ _))); (with_reducible (((rename News _ _ _ _ => lN'); k_dflt (refine CutN.fin (by assumption) lN' (by walk_at "my_sfx")))))) | ((fail_if_success (fail_if_success (with_reducible show CutRg _ _ _ _ _ _ _ _))); ((exact ⟨_, _, _, _, _, _, rfl, rfl, (by assumption), (by assumption), (by assumption)⟩))) | ((fail_if_success (fail_if_success (with_reducible show LCg.FinE _ _ _ _ _ _ _))); (with_reducible (((unfold LCg.FinE); intro D' h' tk' F' N' o1'; (with_reducible show CutM _ _ _ _ _ _ _ _ _ _); k_dflt (refine' ⟨_, _, _, _, _, _, _, _, _, _, _, _, _, _, _, _, _, _, _, _, _, _, _, _, _, rfl, rfl, (by assumption), cb_drop N' (by walk_at "my_sub"), (by assumption), (by assumption), (by assumption), (by exact off1_sub o1' (by walk_at "my_sub")), (by walk_at "my_ltall"), (by (exact ltN (by omega))), (by (exact ltN (by omega))), (by (exact ltN (by omega))), (by (exact ltN (by omega))), (by (exact ltN (by omega)))⟩))))) | ((fail_if_success (fail_if_success (with_reducible show Src2 _ _ _ _ _ _ _ _ _ _ _ _ _ _ _ _))); (with_reducible ((k_here; (rename (_ = (1 : Int) ∨ _ = (-1 : Int)) => hsd'); k_dflt (refine' near_src hsd' (by rfl) (by k_asm) (by k_asm) (by walk_at "my_mem1") (by assumption) (by assumption) ?_ ?_ ?_); (focus (intro b' tb' h' tk' I' oI' C' oC' D' oD' m' hC' hx' F' N')); rotate_left; (focus (intro b' tb' j' tj' h' tk' J' oJ' I' oI' C' oC' D' oD' m' hC' hx' hy' F' N')); rotate_left; (intro D' ys' h' tk' hI' F' N' o1'; (try simp only [LCg.Off1, and_true] at o1')); rotate_left)))) | ((fail_if_success (fail_if_success (with_reducible show SrcM _ _ _ _ _ _ _ _ _ _ _ _ _ _))); (with_reducible ((k_here; (rename (_ = (1 : Int) ∨ _ = (-1 : Int)) => hsd'); k_dflt (refine' shift_law hsd' (by rfl) (by k_asm) (by k_asm) (by walk_at "my_mem1") (by assumption) (by omega) ?_ ?_); (focus (intro g' k' t' ys' I' oI' C' oC' D' m' h' tk' E' hlo' hhi' hC' hx' F' N' off' ne'; (try simp only [LCg.Off3, and_true] at off'))); rotate_left; intro g' ys' hI'; rotate_left)))) | ((fail_if_success (fail_if_success (with_reducible show SrcMT _ _ _ _ _ _ _ _ _ _ _ _ _ _ _))); (with_reducible ((k_here; (rename IntsAre _ (rowOf _ _ _ _) => hrw'); (rename (_ = (1 : Int) ∨ _ = (-1 : Int)) => hsd'); k_dflt (refine' filt_list hrw' hsd' (by rfl) (by k_asm) (by k_asm) (by walk_at "my_mem1") (by assumption) (by assumption) ?_ ?_); (focus (intro g' k' t' ys' I' oI' C' oC' D' m' h' tk' E' hC' hx' F' N' off' ne'; (try simp only [LCg.Off3, and_true] at off'))); rotate_left; intro g' ys' hI'; rotate_left)))) | ((fail_if_success (fail_if_success (with_reducible show SrcTup _ _ _ _ _ _ _ _ _ _ _ _ _ _ _))); (with_reducible ((k_here; k_dflt (refine SrcTup.put (by rfl) (by k_asm) (by k_asm) (by walk_at "my_mem1") (by first | size_fits | exact Nat.le_of_ble_eq_true rfl) ?_; intro g'; lct_lit))))) | ((fail_if_success (fail_if_success (with_reducible show LCg.CompEnd _ _ _ _ _ _ _ _ _ _ _ _ _ _))); (with_reducible ((k_dflt (refine' comp_end (by k_asm) (by k_asm) (by first | assumption | (simp only [LCg.Off3, and_true]; assumption)) (by first | exact True.intro | walk_at "my_mem1" | lcg_src) ?_; k_whole))))) | ((fail_if_success (fail_if_success (with_reducible show LCg.FinE _ _ _ _ _ _ _))); (with_reducible (((unfold LCg.FinE); intro D' h' tk' F' N' o1'; (with_reducible show CutL _ _ _ _ _ _ _ _); k_dflt (refine' CutL.fin (by assumption) (by assumption) (by walk_at "my_sfx") (by assumption) (by ((first | exact encI2 (by omega) | exact encI1 (by omega) (by omega) | exact encI0 (by omega) (by omega))))))))) | ((fail_if_success (fail_if_success (with_reducible show SrcM _ _ _ _ _ _ _ _ _ _ _ _ _ _))); (with_reducible ((k_here; k_dflt (refine SrcM.put (by rfl) (by k_asm) (by k_asm) (by walk_at "my_mem1") (by first | size_fits | exact Nat.le_of_ble_eq_true rfl) ?_; intro g'; lcg_lit))))) | ((fail_if_success (fail_if_success (with_reducible show SrcMT _ _ _ _ _ _ _ _ _ _ _ _ _ _ _))); (with_reducible ((k_here; (rename IntsAre _ (rowOf _ _ _ _) => hrw'); (rename (_ = (1 : Int) ∨ _ = (-1 : Int)) => hsd'); k_dflt (refine' filt_range hrw' hsd' (by rfl) (by k_asm) (by k_asm) (by assumption) ?_ ?_); (focus (intro g' k' t' ys' I' oI' C' oC' D' m' h' tk' E' hC' hx' F' N' off' ne'; (try simp only [LCg.Off3, and_true] at off'))); rotate_left; intro g' ys' hI'; rotate_left)))) | ((fail_if_success (fail_if_success (with_reducible show SrcMT _ _ _ _ _ _ _ _ _ _ _ _ _ _ _))); (with_reducible ((k_here; (rename IntsAre _ (rowOf _ _ _ _) => hrw'); (rename (_ = (1 : Int) ∨ _ = (-1 : Int)) => hsd'); k_dflt (refine' told_law hrw' hsd' (by rfl) (by k_asm) (by k_asm) (by assumption) (by assumption) ?_ ?_); (focus (intro g' k' t' ys' I' oI' C' oC' D' m' h' tk' E' hlo' hhi' hC' hx' F' N' off' ne'; (try simp only [LCg.Off3, and_true] at off'))); rotate_left; intro g' l' hl'; rotate_left)))) | walk1) | (leave1; (try dsimp only)) | fail "no step"))
    · clear F' N' d5 d6
      intro m₁ hread side st u oS oM vS vM h tk I o hside d5 d6 g1 g2 g3 g4 F' N'
      have off3 := ne_of_allLt (allLt_of g4)
      (repeat' (first | ((fail_if_success (fail_if_success (with_reducible show wpAny _ _ (subscriptTail _ (PySem.Expr.Slice none (some _) none _) (Value.ref _) (Value.ref _)) _ _ _))); (try ((fail_if_success (fail_if_success (with_reducible show wpAny _ _ (subscriptTail (PySem.Expr.ListComp _ _ _ _) _ _ _) _ _ _))); k_dflt (refine kba_turn (value' := PySem.Expr.Name (PySem.Str.ofString "_") ⟨0, 0, 0, 0⟩) (fun _ => rfl) ?_))); k_dflt (refine' my_upto (by k_asm) (by k_asm) (by walk_at "my_mem1") (by assumption) (by decide) (by first | exact sz_range | exact sz_held (by assumption)) ?_ (by with_unfolding_all rfl) (by kmk_pure)); k_whole; intro D' zs' h' F' N' l1 hI'; (replace hI' : IntsAre _ (List.take 1 _) := hI'); (try k_lt l1); (try k_sweep)) | (k_unfold; (try dsimp only)) | (k_end; wrow_close) | ((fail_if_success (fail_if_success (with_reducible show wpAny _ _ (execs (_ :: _) _) _ _ _))); (with_reducible refine wpAny_execs_cons ?_); k_fold) | ((fail_if_success (fail_if_success (with_reducible show wpAny _ _ (exec _ _) _ _ _))); first | ((fail_if_success (fail_if_success (with_reducible show wpAny _ _ (exec (PySem.Stmt.For (PySem.Expr.Name _ _) (PySem.Expr.BinOp _ _ _ _) (_ :: _) [] _) _) _ _ _))); (with_reducible ((k_here; (rename Fr _ _ _ _ => lF'); (with_unfolding_all refine' For_turns lF' ?_; k_whole))))) | ((fail_if_success (fail_if_success (with_reducible show wpAny _ _ (exec (PySem.Stmt.For (PySem.Expr.Name _ _) (PySem.Expr.List _ _) (_ :: _) [] _) _) _ _ _))); (with_reducible ((k_here; (rename Fr _ _ _ _ => lF'); (with_unfolding_all refine' For_stop lF' ?_; k_whole))))) | ((with_reducible ((k_here; (with_reducible show wpAny _ _ (exec (PySem.Stmt.Assign [_] (PySem.Expr.ListComp _ [⟨_, PySem.Expr.Call _ _ _ _, [_], _⟩] _ _) _) _) _ _ _); k_dflt (refine comp_ownA (F₀ := by k_asm) (by rfl) (by with_unfolding_all rfl) (by with_unfolding_all rfl) (by decide) (by rfl) (by decide) (by rfl) (by rfl) (by rfl) ?_); k_whole)))) | ((with_reducible ((k_here; (with_reducible show wpAny _ _ (exec (PySem.Stmt.If (PySem.Expr.Compare (PySem.Expr.Call _ _ _ _) _ _ _) _ _ _) _) _ _ _); (fail_if_success (with_reducible show wpAny _ _ _ (CutN _ _ _ _ _) _ _)); k_dflt (refine' cutN (by k_asm) (by k_asm) ?_ (fun h' tk' F' N' => ?_); k_whole)))))) | ((fail_if_success (fail_if_success (with_reducible show wpAny _ _ (subscriptTail _ _ _ _) _ _ _))); first | ((with_reducible (((k_dflt (refine kba_turn (value' := PySem.Expr.Name (PySem.Str.ofString "_") ⟨0, 0, 0, 0⟩) (fun _ => rfl) ?_)); (k_here; (with_reducible show wpAny _ _ (subscriptTail _ (PySem.Expr.Slice (some _) none none _) (Value.ref _) (Value.ref _)) _ _ _); k_dflt (refine' my_from (by k_asm) (by k_asm) (by k_mem) (by walk_at "my_ints") (by (first | decide | omega)) (by (((try simp only [List.length_append, List.length_cons, List.length_nil, List.length_take, List.length_drop, sizeLine_eq]); omega))) ?_ (by with_unfolding_all rfl) (by kmk_pure); k_whole); intro D' zs' h' F' N' l1 hI'; (try k_lt l1); (try k_sweep)))))) | ((with_reducible ((k_here; (with_reducible show wpAny _ _ (subscriptTail _ _ (Value.ref _) (Value.int _ _)) _ _ _); k_dflt (refine' my_word (by k_asm) (by walk_at "my_mem1") (by omega) (by omega) ?_ (by with_unfolding_all rfl); k_whole); intro t'; (try dsimp only); (try k_unmd))))) | ((with_reducible ((k_here; (with_reducible show wpAny _ _ (subscriptTail _ (PySem.Expr.Slice none (some _) none _) (Value.ref _) (Value.ref _)) _ _ _); k_dflt (refine' my_upto3 (by k_asm) (by k_asm) (by walk_at "my_mem1") ?_ (by with_unfolding_all rfl) (by kmk_pure); k_whole); intro D' h' F' N' l1; (try k_lt l1); (try k_sweep)))))) | ((fail_if_success (fail_if_success (with_reducible show wpAny _ _ (binaryOp _ _ _) _ _ _))); first | ((fail_if_success (fail_if_success (with_reducible show wpAny _ _ (binaryOp _ (Value.ref _) (Value.ref _)) _ _ _))); (with_reducible ((k_here; k_dflt (refine' my_add4 (by k_asm) (by k_asm) (by k_mem) (by k_mem) (by (with_reducible assumption)) (by (with_reducible assumption)) (by with_reducible rfl) ?_; k_whole); intro D' n1' n2' n3' n4' t1' t2' t3' t4' h' F' N' l1; (try k_lt l1); (try k_sweep))))) | ((with_reducible ((first | with_reducible refine my_fdiv4096 ?_ | with_reducible refine my_fdiv64 ?_)))) | ((with_reducible ((with_reducible refine my_shl (by assumption) (by assumption) ?_)))) | ((with_reducible ((with_reducible refine my_mul (by assumption) ?_)))) | ((with_reducible ((first | with_reducible refine my_pow2 ?_ | with_reducible refine my_pow1 ?_)))) | ((fail_if_success (fail_if_success (with_reducible show wpAny _ _ (binaryOp _ (Value.ref _) (Value.ref _)) _ _ _))); (with_reducible ((k_here; k_dflt (refine' my_add (by k_asm) (by k_asm) (by k_mem) (by k_mem) (by walk_at "my_ints") (by walk_at "my_ints") (by (((try simp only [List.length_append, List.length_cons, List.length_nil, List.length_take, List.length_drop, sizeLine_eq]); omega))) ?_; k_whole); intro D' zs' h' F' N' l1 hI'; (try k_lt l1); (try k_sweep)))))) | ((fail_if_success (fail_if_success (with_reducible show wpAny _ _ (compareOp _ _ _) _ _ _))); first | ((with_reducible ((k_here; (with_reducible show wpAny _ _ (compareOp PySem.CmpOp.Eq (Value.ref _) (Value.ref _)) _ _ _); k_dflt (refine' eq_nil (by k_asm) (by walk_at "my_mem1") (by walk_at "my_mem1") (by units_room) (by assumption) ?_ ?_); (all_goals (intro q'; (try dsimp only); (try k_unmd))))))) | ((with_reducible ((first | with_reducible refine ne_same (by with_reducible rfl) ?_ | refine ne_same (by assumption) ?_))))) | ((fail_if_success (fail_if_success (with_reducible show wpAny _ _ (call _ _ _) _ _ _))); first | ((fail_if_success (fail_if_success (with_reducible show wpAny _ _ (call (Value.builtin "list.extend") _ _) _ _ _))); (with_reducible ((k_here; (with_reducible show wpAny _ _ (call (Value.builtin _) [Value.ref _, Value.ref _]) _ _ _); (rename IntsAre _ _ => lI'); (have hzl' := lI'.length); (simp only [List.length_append, List.length_cons, List.length_nil] at hzl'); k_dflt (refine' my_extend (by k_asm) (by k_asm) (by walk_at "my_mem1") (by omega) (by walk_at "my_upd") (by omega) ?_; k_whole); intro h' F' N'; (try k_sweep))))) | ((fail_if_success (fail_if_success (with_reducible show wpAny _ _ (call (Value.builtin "sorted") _ _) _ _ _))); (with_reducible ((k_here; (with_reducible show wpAny _ _ (call (Value.builtin "sorted") [Value.ref _]) _ _ _); k_dflt (refine' my_sorted (by k_asm) (by k_asm) (by walk_at "my_mem1") (by assumption) (by exact near_18 (by assumption) (by assumption)) ?_; k_whole); intro D' zs' e' ns' h' F' N' l1 hI' hp' hs' hl'; (try k_lt l1); (try k_sweep))))) | ((fail_if_success (fail_if_success (with_reducible show wpAny _ _ (call (Value.builtin "str.join") _ _) _ _ _))); (with_reducible ((k_here; (with_reducible show wpAny _ _ (call (Value.builtin _) [Value.str _ _, Value.ref _]) _ _ _); k_dflt (refine' join_told (by k_asm) (by walk_at "my_mem1") (by assumption) (by assumption) ?_ ?_); (all_goals (intro t' k' e1' e2' e3'; (try rw [e2']); (try dsimp only); (try k_unmd))))))) | ((with_reducible ((k_here; (with_reducible show wpAny _ _ (call (Value.ref 39) [Value.int _ _]) _ _ _); k_dflt (refine' call_flags (by k_asm) (by k_asm) (by k_asm) (by k_asm) (by k_asm) (by first | exact rfl | assumption) (by ktr_room) (by ktr_units) ?_ (by exact flags_law _ _ _ _ _ _ (by assumption) (by assumption)) ?_; (exact bitsL_len _ _ _ _ _ _); k_whole); intro t' h' tk' F' N'; (try k_sweep); (try dsimp only); (try k_unmd); (try k_fold))))) | ((with_reducible ((k_here; (with_reducible show wpAny _ _ (call (Value.ref 149) [Value.ref _, Value.int _ _, Value.int _ _]) _ _ _); k_dflt (refine' call_true (by k_asm) (by k_asm) (by k_asm) (by k_asm) (by k_asm) (by first | exact rfl | assumption) (by ktr_room) (by ktr_units) (by walk_at "my_mem1") (by exact meantIs_mono (by assumption) (fun p hp => by walk_at "my_mem1")) (by exact meantIs_mono (by assumption) (fun p hp => by walk_at "my_mem1")) (by exact meantIs_mono (by assumption) (fun p hp => by walk_at "my_mem1")) (by exact fm _ (by decide)) ?_; k_whole); intro h' tk' F' N'; (try k_sweep); (try dsimp only); (try k_unmd); (try k_fold))))) | ((with_reducible ((k_here; (with_reducible show wpAny _ _ (call (Value.ref 121) [Value.ref _, Value.ref _]) _ _ _); k_dflt (refine' call_held (by k_asm) (by k_asm) (by k_asm) (by k_asm) (by k_asm) (by first | exact rfl | assumption) (by ktr_room) (by ktr_units) (by walk_at "my_mem1") (by assumption) (by walk_at "my_mem1") (by assumption) (by (exact Nat.le_trans (row_len _ _ _ _) (by decide))) (by (first | (simp only [List.length_map, rangeKs_length]; omega) | omega)) (by exact fun x _ => ⟨_, run_row _ _ _ _ x⟩) ?_; k_whole); intro l' vs' c' h' tk' F' N' l1 hi'; (rw [held_row] at hi'); (try k_lt l1); (try k_sweep); (try dsimp only); (try k_unmd); (try k_fold))))) | ((with_reducible ((k_here; (with_reducible show wpAny _ _ (call (Value.ref 128) [Value.ref _, Value.int _ _]) _ _ _); (rename (_ = (1 : Int) ∨ _ = (-1 : Int)) => hsd'); k_dflt (refine' call_bounds (by k_asm) (by k_asm) (by k_asm) (by k_asm) (by k_asm) (by first | exact rfl | assumption) (by ktr_room) (by ktr_units) (by walk_at "my_mem1") (by assumption) (by (exact Nat.le_trans (row_len _ _ _ _) (by decide))) (by exact boundsOk_row _ _ _ _) ?_; k_whole); intro lt' l' vs' c' c1' t' h' tk' F' N' l1 l2 hi'; (have hmany' := many_of hsd' hi'); (try k_lt l1); (try k_lt2 l2); (try k_sweep); (try dsimp only); (try k_unmd); (try k_fold))))) | ((with_reducible ((k_here; (with_reducible show wpAny _ _ (call (Value.ref 116) [Value.ref _]) _ _ _); k_dflt (refine' call_read (by k_asm) (by k_asm) (by k_asm) (by k_asm) (by k_asm) (by first | exact rfl | assumption) (by ktr_room) (by ktr_units) (by k_mem) (by (assumption)) (by (exact row_range _ _ _ _)) (by (exact Nat.le_trans (row_len _ _ _ _) (by decide))) ?_; k_whole); intro l' vs' c' h' tk' F' N' l1 hi'; (try k_lt l1); (try k_sweep); (try dsimp only); (try k_unmd); (try k_fold))))) | ((with_reducible ((k_here; (with_reducible show wpAny _ _ (call (Value.ref 142) [Value.int _ _]) _ _ _); k_dflt (refine' call_meant (by k_asm) (by k_asm) (by k_asm) (by k_asm) (by k_asm) (by first | exact rfl | assumption) (by ktr_room) (by ktr_units) ?_; k_whole); intro l' lt' t1' t2' vs' c' c1' h' tk' F' N' l1 l2 hi'; (try k_lt l1); (try k_lt2 l2); (try k_sweep); (try dsimp only); (try k_unmd); (try k_fold))))) | ((with_reducible ((k_here; (with_reducible show wpAny _ _ (call (Value.ref 135) [Value.int _ _]) _ _ _); k_dflt (refine' call_sentence (by k_asm) (by k_asm) (by k_asm) (by k_asm) (by k_asm) (by first | exact rfl | assumption) (by ktr_room) (by ktr_units) ?_; k_whole); intro l' vs' c' h' tk' F' N' l1 hi'; (try k_lt l1); (try k_sweep); (have hlen' := sentLen _ hi'); (try dsimp only); (try k_unmd); (try k_fold)))))) | ((fail_if_success (fail_if_success (with_reducible show wpAny _ _ (eval (PySem.Expr.ListComp _ _ _ _) _) _ _ _))); first | ((with_reducible ((k_here; (with_reducible show wpAny _ _ (eval (PySem.Expr.ListComp (PySem.Expr.BinOp _ _ _ _) [⟨_, _, [_], _⟩] _ _) _) _ _ _); (fail_if_success (with_reducible show wpAny _ _ (eval (PySem.Expr.ListComp _ [⟨_, PySem.Expr.Tuple _ _ _, _, _⟩] _ _) _) _ _ _)); k_dflt (refine comp_ownT (F₀ := by k_asm) (by with_unfolding_all rfl) (by decide) (by rfl) (by decide) (by rfl) ?_); k_whole)))) | ((with_reducible ((k_here; (with_reducible show wpAny _ _ (eval (PySem.Expr.ListComp _ [_, _] _ _) _) _ _ _); k_dflt (refine comp2 (F₀ := by k_asm) (by with_unfolding_all rfl) (by decide) (by rfl) (by decide) (by rfl) (by rfl) (by decide) ?_); k_whole)))) | ((with_reducible ((k_here; (with_reducible show wpAny _ _ (eval (PySem.Expr.ListComp (PySem.Expr.BinOp _ PySem.Operator.LShift _ _) _ _ _) _) _ _ _); k_dflt (refine comp_own (F₀ := by k_asm) (by with_unfolding_all rfl) (by decide) (by rfl) (by decide) (by rfl) ?_); k_whole)))) | ((with_reducible ((k_here; (with_reducible show wpAny _ _ (eval (PySem.Expr.ListComp _ [⟨_, PySem.Expr.Subscript _ _ _, _, _⟩] _ _) _) _ _ _); (fail_if_success (with_reducible show wpAny _ _ (eval (PySem.Expr.ListComp _ [⟨_, PySem.Expr.Subscript _ _ _, _, _⟩] _ _) _) (CutM _ _ _ _ _ _ _ _) _ _)); (k_dflt (refine' cut_meant (by k_asm) (by k_asm) (by walk_at "my_mem1") ?_ (fun D' h' tk' l0' k0' l1' k1' l2' k2' c0' c1' c2' cc' e0' e1' e2' p0' p1' p2' q0' q1' q2' vs0' vs1' vs2' F' N' i0' i1' i2' o1' lx' g1' g2' g3' g4' g5' => ?_); k_whole); (rotate_left; (try simp only [LCg.Off1, and_true] at o1'); (try k_lt lx'); rotate_left)))))) | ((with_reducible ((k_here; (with_reducible show wpAny _ _ (eval (PySem.Expr.ListComp _ [⟨_, PySem.Expr.Subscript _ _ _, _, _⟩] _ _) _) (CutM _ _ _ _ _ _ _ _) _ _); k_dflt (refine comp_own (F₀ := by k_asm) (by with_unfolding_all rfl) (by decide) (by rfl) (by decide) (by rfl) ?_); k_whole)))) | ((with_reducible ((k_here; (with_reducible show wpAny _ _ (eval (PySem.Expr.ListComp _ [⟨_, PySem.Expr.Tuple _ _ _, _, _⟩] _ _) _) _ _ _); (fail_if_success (with_reducible show wpAny _ _ (eval (PySem.Expr.ListComp _ [⟨_, PySem.Expr.Tuple _ _ _, _, _⟩] _ _) _) (CutL _ _ _ _ _ _) _ _)); k_dflt (refine' cut_enc (by assumption) (by k_asm) (by k_asm) ?_ (fun D' zs' h' tk' F' N' o1' hI' hlen' => ?_); k_whole); (rotate_left; (try simp only [LCg.Off1, and_true] at o1'); rotate_left))))) | ((with_reducible ((k_here; (with_reducible show wpAny _ _ (eval (PySem.Expr.ListComp _ [⟨_, PySem.Expr.Tuple _ _ _, _, _⟩] _ _) _) (CutL _ _ _ _ _ _) _ _); k_dflt (refine comp_tup (F₀ := by k_asm) (by with_unfolding_all rfl) (by decide) (by rfl) (by decide) (by rfl) ?_); k_whole))))) | ((fail_if_success (fail_if_success (with_reducible show wpAny _ _ (eval (PySem.Expr.Name _ _) _) _ _ _))); first | ((with_reducible ((k_here; (rename Fr _ _ _ _ => lF'); k_dflt (refine' nameX_L lF' (by first | with_reducible assumption | exact rfl | assumption) ?_ (by rfl) (by rfl) (by decide); k_whole)))))) | ((fail_if_success (fail_if_success (with_reducible show wpAny _ _ (truthy _) _ _ _))); first | ((with_reducible ((with_reducible refine truthy_flag (bitsL_len _ _ _ _ _ _) ?_))))) | ((fail_if_success (fail_if_success (with_reducible show _ ∧ _))); (with_reducible ((exact ⟨rfl, _, rfl⟩)))) | ((fail_if_success (fail_if_success (with_reducible show LCg.CompEnd _ _ _ _ _ _ _ _ _ _ _ _ _ _))); (with_reducible ((k_dflt (refine' comp_end2 (by with_reducible assumption) (by with_reducible assumption) (by first | assumption | (simp only [LCg.Off3, and_true]; assumption)) (by exact ⟨by (exact ltN (by omega)), by (exact ltN (by omega)), by (exact ltN (by omega))⟩) (by with_reducible assumption) (by first | exact True.intro | lcg_src | exact Or.inr ⟨_, by walk_at "my_mem1", rfl, _, rfl⟩) ?_; k_whole))))) | ((fail_if_success (fail_if_success (with_reducible show CutEl _ _ _ _ _ _ _ _))); ((exact ⟨_, _, _, rfl, rfl, (by assumption), (by assumption)⟩))) | ((fail_if_success (fail_if_success (with_reducible show CutN _ _ _ _ _ _ _))); (with_reducible (((rename News _ _ _ _ => lN'); k_dflt (refine CutN.fin (by assumption) lN' (by walk_at "my_sfx")))))) | ((fail_if_success (fail_if_success (with_reducible show CutRg _ _ _ _ _ _ _ _))); ((exact ⟨_, _, _, _, _, _, rfl, rfl, (by assumption), (by assumption), (by assumption)⟩))) | ((fail_if_success (fail_if_success (with_reducible show LCg.FinE _ _ _ _ _ _ _))); (with_reducible (((unfold LCg.FinE); intro D' h' tk' F' N' o1'; (with_reducible show CutM _ _ _ _ _ _ _ _ _ _); k_dflt (refine' ⟨_, _, _, _, _, _, _, _, _, _, _, _, _, _, _, _, _, _, _, _, _, _, _, _, _, rfl, rfl, (by assumption), cb_drop N' (by walk_at "my_sub"), (by assumption), (by assumption), (by assumption), (by exact off1_sub o1' (by walk_at "my_sub")), (by walk_at "my_ltall"), (by (exact ltN (by omega))), (by (exact ltN (by omega))), (by (exact ltN (by omega))), (by (exact ltN (by omega))), (by (exact ltN (by omega)))⟩))))) | ((fail_if_success (fail_if_success (with_reducible show Src2 _ _ _ _ _ _ _ _ _ _ _ _ _ _ _ _))); (with_reducible ((k_here; (rename (_ = (1 : Int) ∨ _ = (-1 : Int)) => hsd'); k_dflt (refine' near_src hsd' (by rfl) (by k_asm) (by k_asm) (by walk_at "my_mem1") (by assumption) (by assumption) ?_ ?_ ?_); (focus (intro b' tb' h' tk' I' oI' C' oC' D' oD' m' hC' hx' F' N')); rotate_left; (focus (intro b' tb' j' tj' h' tk' J' oJ' I' oI' C' oC' D' oD' m' hC' hx' hy' F' N')); rotate_left; (intro D' ys' h' tk' hI' F' N' o1'; (try simp only [LCg.Off1, and_true] at o1')); rotate_left)))) | ((fail_if_success (fail_if_success (with_reducible show SrcM _ _ _ _ _ _ _ _ _ _ _ _ _ _))); (with_reducible ((k_here; (rename (_ = (1 : Int) ∨ _ = (-1 : Int)) => hsd'); k_dflt (refine' shift_law hsd' (by rfl) (by k_asm) (by k_asm) (by walk_at "my_mem1") (by assumption) (by omega) ?_ ?_); (focus (intro g' k' t' ys' I' oI' C' oC' D' m' h' tk' E' hlo' hhi' hC' hx' F' N' off' ne'; (try simp only [LCg.Off3, and_true] at off'))); rotate_left; intro g' ys' hI'; rotate_left)))) | ((fail_if_success (fail_if_success (with_reducible show SrcMT _ _ _ _ _ _ _ _ _ _ _ _ _ _ _))); (with_reducible ((k_here; (rename IntsAre _ (rowOf _ _ _ _) => hrw'); (rename (_ = (1 : Int) ∨ _ = (-1 : Int)) => hsd'); k_dflt (refine' filt_list hrw' hsd' (by rfl) (by k_asm) (by k_asm) (by walk_at "my_mem1") (by assumption) (by assumption) ?_ ?_); (focus (intro g' k' t' ys' I' oI' C' oC' D' m' h' tk' E' hC' hx' F' N' off' ne'; (try simp only [LCg.Off3, and_true] at off'))); rotate_left; intro g' ys' hI'; rotate_left)))) | ((fail_if_success (fail_if_success (with_reducible show SrcTup _ _ _ _ _ _ _ _ _ _ _ _ _ _ _))); (with_reducible ((k_here; k_dflt (refine SrcTup.put (by rfl) (by k_asm) (by k_asm) (by walk_at "my_mem1") (by first | size_fits | exact Nat.le_of_ble_eq_true rfl) ?_; intro g'; lct_lit))))) | ((fail_if_success (fail_if_success (with_reducible show LCg.CompEnd _ _ _ _ _ _ _ _ _ _ _ _ _ _))); (with_reducible ((k_dflt (refine' comp_end (by k_asm) (by k_asm) (by first | assumption | (simp only [LCg.Off3, and_true]; assumption)) (by first | exact True.intro | walk_at "my_mem1" | lcg_src) ?_; k_whole))))) | ((fail_if_success (fail_if_success (with_reducible show LCg.FinE _ _ _ _ _ _ _))); (with_reducible (((unfold LCg.FinE); intro D' h' tk' F' N' o1'; (with_reducible show CutL _ _ _ _ _ _ _ _); k_dflt (refine' CutL.fin (by assumption) (by assumption) (by walk_at "my_sfx") (by assumption) (by ((first | exact encI2 (by omega) | exact encI1 (by omega) (by omega) | exact encI0 (by omega) (by omega))))))))) | ((fail_if_success (fail_if_success (with_reducible show SrcM _ _ _ _ _ _ _ _ _ _ _ _ _ _))); (with_reducible ((k_here; k_dflt (refine SrcM.put (by rfl) (by k_asm) (by k_asm) (by walk_at "my_mem1") (by first | size_fits | exact Nat.le_of_ble_eq_true rfl) ?_; intro g'; lcg_lit))))) | ((fail_if_success (fail_if_success (with_reducible show SrcMT _ _ _ _ _ _ _ _ _ _ _ _ _ _ _))); (with_reducible ((k_here; (rename IntsAre _ (rowOf _ _ _ _) => hrw'); (rename (_ = (1 : Int) ∨ _ = (-1 : Int)) => hsd'); k_dflt (refine' filt_range hrw' hsd' (by rfl) (by k_asm) (by k_asm) (by assumption) ?_ ?_); (focus (intro g' k' t' ys' I' oI' C' oC' D' m' h' tk' E' hC' hx' F' N' off' ne'; (try simp only [LCg.Off3, and_true] at off'))); rotate_left; intro g' ys' hI'; rotate_left)))) | ((fail_if_success (fail_if_success (with_reducible show SrcMT _ _ _ _ _ _ _ _ _ _ _ _ _ _ _))); (with_reducible ((k_here; (rename IntsAre _ (rowOf _ _ _ _) => hrw'); (rename (_ = (1 : Int) ∨ _ = (-1 : Int)) => hsd'); k_dflt (refine' told_law hrw' hsd' (by rfl) (by k_asm) (by k_asm) (by assumption) (by assumption) ?_ ?_); (focus (intro g' k' t' ys' I' oI' C' oC' D' m' h' tk' E' hlo' hhi' hC' hx' F' N' off' ne'; (try simp only [LCg.Off3, and_true] at off'))); rotate_left; intro g' l' hl'; rotate_left)))) | walk1 | (dsimp only; first | ((fail_if_success (fail_if_success (with_reducible show wpAny _ _ (execs (_ :: _) _) _ _ _))); (with_reducible refine wpAny_execs_cons ?_); k_fold) | ((fail_if_success (fail_if_success (with_reducible show wpAny _ _ (exec _ _) _ _ _))); first | ((fail_if_success (fail_if_success (with_reducible show wpAny _ _ (exec (PySem.Stmt.For (PySem.Expr.Name _ _) (PySem.Expr.BinOp _ _ _ _) (_ :: _) [] _) _) _ _ _))); (with_reducible ((k_here; (rename Fr _ _ _ _ => lF'); (with_unfolding_all refine' For_turns lF' ?_; k_whole))))) | ((fail_if_success (fail_if_success (with_reducible show wpAny _ _ (exec (PySem.Stmt.For (PySem.Expr.Name _ _) (PySem.Expr.List _ _) (_ :: _) [] _) _) _ _ _))); (with_reducible ((k_here; (rename Fr _ _ _ _ => lF'); (with_unfolding_all refine' For_stop lF' ?_; k_whole))))) | ((with_reducible ((k_here; (with_reducible show wpAny _ _ (exec (PySem.Stmt.Assign [_] (PySem.Expr.ListComp _ [⟨_, PySem.Expr.Call _ _ _ _, [_], _⟩] _ _) _) _) _ _ _); k_dflt (refine comp_ownA (F₀ := by k_asm) (by rfl) (by with_unfolding_all rfl) (by with_unfolding_all rfl) (by decide) (by rfl) (by decide) (by rfl) (by rfl) (by rfl) ?_); k_whole)))) | ((with_reducible ((k_here; (with_reducible show wpAny _ _ (exec (PySem.Stmt.If (PySem.Expr.Compare (PySem.Expr.Call _ _ _ _) _ _ _) _ _ _) _) _ _ _); (fail_if_success (with_reducible show wpAny _ _ _ (CutN _ _ _ _ _) _ _)); k_dflt (refine' cutN (by k_asm) (by k_asm) ?_ (fun h' tk' F' N' => ?_); k_whole)))))) | ((fail_if_success (fail_if_success (with_reducible show wpAny _ _ (subscriptTail _ _ _ _) _ _ _))); first | ((with_reducible (((k_dflt (refine kba_turn (value' := PySem.Expr.Name (PySem.Str.ofString "_") ⟨0, 0, 0, 0⟩) (fun _ => rfl) ?_)); (k_here; (with_reducible show wpAny _ _ (subscriptTail _ (PySem.Expr.Slice (some _) none none _) (Value.ref _) (Value.ref _)) _ _ _); k_dflt (refine' my_from (by k_asm) (by k_asm) (by k_mem) (by walk_at "my_ints") (by (first | decide | omega)) (by (((try simp only [List.length_append, List.length_cons, List.length_nil, List.length_take, List.length_drop, sizeLine_eq]); omega))) ?_ (by with_unfolding_all rfl) (by kmk_pure); k_whole); intro D' zs' h' F' N' l1 hI'; (try k_lt l1); (try k_sweep)))))) | ((with_reducible ((k_here; (with_reducible show wpAny _ _ (subscriptTail _ _ (Value.ref _) (Value.int _ _)) _ _ _); k_dflt (refine' my_word (by k_asm) (by walk_at "my_mem1") (by omega) (by omega) ?_ (by with_unfolding_all rfl); k_whole); intro t'; (try dsimp only); (try k_unmd))))) | ((with_reducible ((k_here; (with_reducible show wpAny _ _ (subscriptTail _ (PySem.Expr.Slice none (some _) none _) (Value.ref _) (Value.ref _)) _ _ _); k_dflt (refine' my_upto3 (by k_asm) (by k_asm) (by walk_at "my_mem1") ?_ (by with_unfolding_all rfl) (by kmk_pure); k_whole); intro D' h' F' N' l1; (try k_lt l1); (try k_sweep)))))) | ((fail_if_success (fail_if_success (with_reducible show wpAny _ _ (binaryOp _ _ _) _ _ _))); first | ((fail_if_success (fail_if_success (with_reducible show wpAny _ _ (binaryOp _ (Value.ref _) (Value.ref _)) _ _ _))); (with_reducible ((k_here; k_dflt (refine' my_add4 (by k_asm) (by k_asm) (by k_mem) (by k_mem) (by (with_reducible assumption)) (by (with_reducible assumption)) (by with_reducible rfl) ?_; k_whole); intro D' n1' n2' n3' n4' t1' t2' t3' t4' h' F' N' l1; (try k_lt l1); (try k_sweep))))) | ((with_reducible ((first | with_reducible refine my_fdiv4096 ?_ | with_reducible refine my_fdiv64 ?_)))) | ((with_reducible ((with_reducible refine my_shl (by assumption) (by assumption) ?_)))) | ((with_reducible ((with_reducible refine my_mul (by assumption) ?_)))) | ((with_reducible ((first | with_reducible refine my_pow2 ?_ | with_reducible refine my_pow1 ?_)))) | ((fail_if_success (fail_if_success (with_reducible show wpAny _ _ (binaryOp _ (Value.ref _) (Value.ref _)) _ _ _))); (with_reducible ((k_here; k_dflt (refine' my_add (by k_asm) (by k_asm) (by k_mem) (by k_mem) (by walk_at "my_ints") (by walk_at "my_ints") (by (((try simp only [List.length_append, List.length_cons, List.length_nil, List.length_take, List.length_drop, sizeLine_eq]); omega))) ?_; k_whole); intro D' zs' h' F' N' l1 hI'; (try k_lt l1); (try k_sweep)))))) | ((fail_if_success (fail_if_success (with_reducible show wpAny _ _ (compareOp _ _ _) _ _ _))); first | ((with_reducible ((k_here; (with_reducible show wpAny _ _ (compareOp PySem.CmpOp.Eq (Value.ref _) (Value.ref _)) _ _ _); k_dflt (refine' eq_nil (by k_asm) (by walk_at "my_mem1") (by walk_at "my_mem1") (by units_room) (by assumption) ?_ ?_); (all_goals (intro q'; (try dsimp only); (try k_unmd))))))) | ((with_reducible ((first | with_reducible refine ne_same (by with_reducible rfl) ?_ | refine ne_same (by assumption) ?_))))) | ((fail_if_success (fail_if_success (with_reducible show wpAny _ _ (call _ _ _) _ _ _))); first | ((fail_if_success (fail_if_success (with_reducible show wpAny _ _ (call (Value.builtin "list.extend") _ _) _ _ _))); (with_reducible ((k_here; (with_reducible show wpAny _ _ (call (Value.builtin _) [Value.ref _, Value.ref _]) _ _ _); (rename IntsAre _ _ => lI'); (have hzl' := lI'.length); (simp only [List.length_append, List.length_cons, List.length_nil] at hzl'); k_dflt (refine' my_extend (by k_asm) (by k_asm) (by walk_at "my_mem1") (by omega) (by walk_at "my_upd") (by omega) ?_; k_whole); intro h' F' N'; (try k_sweep))))) | ((fail_if_success (fail_if_success (with_reducible show wpAny _ _ (call (Value.builtin "sorted") _ _) _ _ _))); (with_reducible ((k_here; (with_reducible show wpAny _ _ (call (Value.builtin "sorted") [Value.ref _]) _ _ _); k_dflt (refine' my_sorted (by k_asm) (by k_asm) (by walk_at "my_mem1") (by assumption) (by exact near_18 (by assumption) (by assumption)) ?_; k_whole); intro D' zs' e' ns' h' F' N' l1 hI' hp' hs' hl'; (try k_lt l1); (try k_sweep))))) | ((fail_if_success (fail_if_success (with_reducible show wpAny _ _ (call (Value.builtin "str.join") _ _) _ _ _))); (with_reducible ((k_here; (with_reducible show wpAny _ _ (call (Value.builtin _) [Value.str _ _, Value.ref _]) _ _ _); k_dflt (refine' join_told (by k_asm) (by walk_at "my_mem1") (by assumption) (by assumption) ?_ ?_); (all_goals (intro t' k' e1' e2' e3'; (try rw [e2']); (try dsimp only); (try k_unmd))))))) | ((with_reducible ((k_here; (with_reducible show wpAny _ _ (call (Value.ref 39) [Value.int _ _]) _ _ _); k_dflt (refine' call_flags (by k_asm) (by k_asm) (by k_asm) (by k_asm) (by k_asm) (by first | exact rfl | assumption) (by ktr_room) (by ktr_units) ?_ (by exact flags_law _ _ _ _ _ _ (by assumption) (by assumption)) ?_; (exact bitsL_len _ _ _ _ _ _); k_whole); intro t' h' tk' F' N'; (try k_sweep); (try dsimp only); (try k_unmd); (try k_fold))))) | ((with_reducible ((k_here; (with_reducible show wpAny _ _ (call (Value.ref 149) [Value.ref _, Value.int _ _, Value.int _ _]) _ _ _); k_dflt (refine' call_true (by k_asm) (by k_asm) (by k_asm) (by k_asm) (by k_asm) (by first | exact rfl | assumption) (by ktr_room) (by ktr_units) (by walk_at "my_mem1") (by exact meantIs_mono (by assumption) (fun p hp => by walk_at "my_mem1")) (by exact meantIs_mono (by assumption) (fun p hp => by walk_at "my_mem1")) (by exact meantIs_mono (by assumption) (fun p hp => by walk_at "my_mem1")) (by exact fm _ (by decide)) ?_; k_whole); intro h' tk' F' N'; (try k_sweep); (try dsimp only); (try k_unmd); (try k_fold))))) | ((with_reducible ((k_here; (with_reducible show wpAny _ _ (call (Value.ref 121) [Value.ref _, Value.ref _]) _ _ _); k_dflt (refine' call_held (by k_asm) (by k_asm) (by k_asm) (by k_asm) (by k_asm) (by first | exact rfl | assumption) (by ktr_room) (by ktr_units) (by walk_at "my_mem1") (by assumption) (by walk_at "my_mem1") (by assumption) (by (exact Nat.le_trans (row_len _ _ _ _) (by decide))) (by (first | (simp only [List.length_map, rangeKs_length]; omega) | omega)) (by exact fun x _ => ⟨_, run_row _ _ _ _ x⟩) ?_; k_whole); intro l' vs' c' h' tk' F' N' l1 hi'; (rw [held_row] at hi'); (try k_lt l1); (try k_sweep); (try dsimp only); (try k_unmd); (try k_fold))))) | ((with_reducible ((k_here; (with_reducible show wpAny _ _ (call (Value.ref 128) [Value.ref _, Value.int _ _]) _ _ _); (rename (_ = (1 : Int) ∨ _ = (-1 : Int)) => hsd'); k_dflt (refine' call_bounds (by k_asm) (by k_asm) (by k_asm) (by k_asm) (by k_asm) (by first | exact rfl | assumption) (by ktr_room) (by ktr_units) (by walk_at "my_mem1") (by assumption) (by (exact Nat.le_trans (row_len _ _ _ _) (by decide))) (by exact boundsOk_row _ _ _ _) ?_; k_whole); intro lt' l' vs' c' c1' t' h' tk' F' N' l1 l2 hi'; (have hmany' := many_of hsd' hi'); (try k_lt l1); (try k_lt2 l2); (try k_sweep); (try dsimp only); (try k_unmd); (try k_fold))))) | ((with_reducible ((k_here; (with_reducible show wpAny _ _ (call (Value.ref 116) [Value.ref _]) _ _ _); k_dflt (refine' call_read (by k_asm) (by k_asm) (by k_asm) (by k_asm) (by k_asm) (by first | exact rfl | assumption) (by ktr_room) (by ktr_units) (by k_mem) (by (assumption)) (by (exact row_range _ _ _ _)) (by (exact Nat.le_trans (row_len _ _ _ _) (by decide))) ?_; k_whole); intro l' vs' c' h' tk' F' N' l1 hi'; (try k_lt l1); (try k_sweep); (try dsimp only); (try k_unmd); (try k_fold))))) | ((with_reducible ((k_here; (with_reducible show wpAny _ _ (call (Value.ref 142) [Value.int _ _]) _ _ _); k_dflt (refine' call_meant (by k_asm) (by k_asm) (by k_asm) (by k_asm) (by k_asm) (by first | exact rfl | assumption) (by ktr_room) (by ktr_units) ?_; k_whole); intro l' lt' t1' t2' vs' c' c1' h' tk' F' N' l1 l2 hi'; (try k_lt l1); (try k_lt2 l2); (try k_sweep); (try dsimp only); (try k_unmd); (try k_fold))))) | ((with_reducible ((k_here; (with_reducible show wpAny _ _ (call (Value.ref 135) [Value.int _ _]) _ _ _); k_dflt (refine' call_sentence (by k_asm) (by k_asm) (by k_asm) (by k_asm) (by k_asm) (by first | exact rfl | assumption) (by ktr_room) (by ktr_units) ?_; k_whole); intro l' vs' c' h' tk' F' N' l1 hi'; (try k_lt l1); (try k_sweep); (have hlen' := sentLen _ hi'); (try dsimp only); (try k_unmd); (try k_fold)))))) | ((fail_if_success (fail_if_success (with_reducible show wpAny _ _ (eval (PySem.Expr.ListComp _ _ _ _) _) _ _ _))); first | ((with_reducible ((k_here; (with_reducible show wpAny _ _ (eval (PySem.Expr.ListComp (PySem.Expr.BinOp _ _ _ _) [⟨_, _, [_], _⟩] _ _) _) _ _ _); (fail_if_success (with_reducible show wpAny _ _ (eval (PySem.Expr.ListComp _ [⟨_, PySem.Expr.Tuple _ _ _, _, _⟩] _ _) _) _ _ _)); k_dflt (refine comp_ownT (F₀ := by k_asm) (by with_unfolding_all rfl) (by decide) (by rfl) (by decide) (by rfl) ?_); k_whole)))) | ((with_reducible ((k_here; (with_reducible show wpAny _ _ (eval (PySem.Expr.ListComp _ [_, _] _ _) _) _ _ _); k_dflt (refine comp2 (F₀ := by k_asm) (by with_unfolding_all rfl) (by decide) (by rfl) (by decide) (by rfl) (by rfl) (by decide) ?_); k_whole)))) | ((with_reducible ((k_here; (with_reducible show wpAny _ _ (eval (PySem.Expr.ListComp (PySem.Expr.BinOp _ PySem.Operator.LShift _ _) _ _ _) _) _ _ _); k_dflt (refine comp_own (F₀ := by k_asm) (by with_unfolding_all rfl) (by decide) (by rfl) (by decide) (by rfl) ?_); k_whole)))) | ((with_reducible ((k_here; (with_reducible show wpAny _ _ (eval (PySem.Expr.ListComp _ [⟨_, PySem.Expr.Subscript _ _ _, _, _⟩] _ _) _) _ _ _); (fail_if_success (with_reducible show wpAny _ _ (eval (PySem.Expr.ListComp _ [⟨_, PySem.Expr.Subscript _ _ _, _, _⟩] _ _) _) (CutM _ _ _ _ _ _ _ _) _ _)); (k_dflt (refine' cut_meant (by k_asm) (by k_asm) (by walk_at "my_mem1") ?_ (fun D' h' tk' l0' k0' l1' k1' l2' k2' c0' c1' c2' cc' e0' e1' e2' p0' p1' p2' q0' q1' q2' vs0' vs1' vs2' F' N' i0' i1' i2' o1' lx' g1' g2' g3' g4' g5' => ?_); k_whole); (rotate_left; (try simp only [LCg.Off1, and_true] at o1'); (try k_lt lx'); rotate_left)))))) | ((with_reducible ((k_here; (with_reducible show wpAny _ _ (eval (PySem.Expr.ListComp _ [⟨_, PySem.Expr.Subscript _ _ _, _, _⟩] _ _) _) (CutM _ _ _ _ _ _ _ _) _ _); k_dflt (refine comp_own (F₀ := by k_asm) (by with_unfolding_all rfl) (by decide) (by rfl) (by decide) (by rfl) ?_); k_whole)))) | ((with_reducible ((k_here; (with_reducible show wpAny _ _ (eval (PySem.Expr.ListComp _ [⟨_, PySem.Expr.Tuple _ _ _, _, _⟩] _ _) _) _ _ _); (fail_if_success (with_reducible show wpAny _ _ (eval (PySem.Expr.ListComp _ [⟨_, PySem.Expr.Tuple _ _ _, _, _⟩] _ _) _) (CutL _ _ _ _ _ _) _ _)); k_dflt (refine' cut_enc (by assumption) (by k_asm) (by k_asm) ?_ (fun D' zs' h' tk' F' N' o1' hI' hlen' => ?_); k_whole); (rotate_left; (try simp only [LCg.Off1, and_true] at o1'); rotate_left))))) | ((with_reducible ((k_here; (with_reducible show wpAny _ _ (eval (PySem.Expr.ListComp _ [⟨_, PySem.Expr.Tuple _ _ _, _, _⟩] _ _) _) (CutL _ _ _ _ _ _) _ _); k_dflt (refine comp_tup (F₀ := by k_asm) (by with_unfolding_all rfl) (by decide) (by rfl) (by decide) (by rfl) ?_); k_whole))))) | ((fail_if_success (fail_if_success (with_reducible show wpAny _ _ (eval (PySem.Expr.Name _ _) _) _ _ _))); first | ((with_reducible ((k_here; (rename Fr _ _ _ _ => lF'); k_dflt (refine' nameX_L lF' (by first | with_reducible assumption | exact rfl | assumption) ?_ (by rfl) (by rfl) (by decide); k_whole)))))) | ((fail_if_success (fail_if_success (with_reducible show wpAny _ _ (truthy _) _ _ _))); first | ((with_reducible ((with_reducible refine truthy_flag (bitsL_len _ _ _ _ _ _) ?_))))) | ((fail_if_success (fail_if_success (with_reducible show _ ∧ _))); (with_reducible ((exact ⟨rfl, _, rfl⟩)))) | ((fail_if_success (fail_if_success (with_reducible show LCg.CompEnd _ _ _ _ _ _ _ _ _ _ _ _ _ _))); (with_reducible ((k_dflt (refine' comp_end2 (by with_reducible assumption) (by with_reducible assumption) (by first | assumption | (simp only [LCg.Off3, and_true]; assumption)) (by exact ⟨by (exact ltN (by omega)), by (exact ltN (by omega)), by (exact ltN (by omega))⟩) (by with_reducible assumption) (by first | exact True.intro | lcg_src | exact Or.inr ⟨_, by walk_at "my_mem1", rfl, _, rfl⟩) ?_; k_whole))))) | ((fail_if_success (fail_if_success (with_reducible show CutEl _ _ _ _ _ _ _ _))); ((exact ⟨_, _, _, rfl, rfl, (by assumption), (by assumption)⟩))) | ((fail_if_success (fail_if_success (with_reducible show CutN _ _ _ _ _ _ _))); (with_reducible (((rename News _ _ _ _ => lN'); k_dflt (refine CutN.fin (by assumption) lN' (by walk_at "my_sfx")))))) | ((fail_if_success (fail_if_success (with_reducible show CutRg _ _ _ _ _ _ _ _))); ((exact ⟨_, _, _, _, _, _, rfl, rfl, (by assumption), (by assumption), (by assumption)⟩))) | ((fail_if_success (fail_if_success (with_reducible show LCg.FinE _ _ _ _ _ _ _))); (with_reducible (((unfold LCg.FinE); intro D' h' tk' F' N' o1'; (with_reducible show CutM _ _ _ _ _ _ _ _ _ _); k_dflt (refine' ⟨_, _, _, _, _, _, _, _, _, _, _, _, _, _, _, _, _, _, _, _, _, _, _, _, _, rfl, rfl, (by assumption), cb_drop N' (by walk_at "my_sub"), (by assumption), (by assumption), (by assumption), (by exact off1_sub o1' (by walk_at "my_sub")), (by walk_at "my_ltall"), (by (exact ltN (by omega))), (by (exact ltN (by omega))), (by (exact ltN (by omega))), (by (exact ltN (by omega))), (by (exact ltN (by omega)))⟩))))) | ((fail_if_success (fail_if_success (with_reducible show Src2 _ _ _ _ _ _ _ _ _ _ _ _ _ _ _ _))); (with_reducible ((k_here; (rename (_ = (1 : Int) ∨ _ = (-1 : Int)) => hsd'); k_dflt (refine' near_src hsd' (by rfl) (by k_asm) (by k_asm) (by walk_at "my_mem1") (by assumption) (by assumption) ?_ ?_ ?_); (focus (intro b' tb' h' tk' I' oI' C' oC' D' oD' m' hC' hx' F' N')); rotate_left; (focus (intro b' tb' j' tj' h' tk' J' oJ' I' oI' C' oC' D' oD' m' hC' hx' hy' F' N')); rotate_left; (intro D' ys' h' tk' hI' F' N' o1'; (try simp only [LCg.Off1, and_true] at o1')); rotate_left)))) | ((fail_if_success (fail_if_success (with_reducible show SrcM _ _ _ _ _ _ _ _ _ _ _ _ _ _))); (with_reducible ((k_here; (rename (_ = (1 : Int) ∨ _ = (-1 : Int)) => hsd'); k_dflt (refine' shift_law hsd' (by rfl) (by k_asm) (by k_asm) (by walk_at "my_mem1") (by assumption) (by omega) ?_ ?_); (focus (intro g' k' t' ys' I' oI' C' oC' D' m' h' tk' E' hlo' hhi' hC' hx' F' N' off' ne'; (try simp only [LCg.Off3, and_true] at off'))); rotate_left; intro g' ys' hI'; rotate_left)))) | ((fail_if_success (fail_if_success (with_reducible show SrcMT _ _ _ _ _ _ _ _ _ _ _ _ _ _ _))); (with_reducible ((k_here; (rename IntsAre _ (rowOf _ _ _ _) => hrw'); (rename (_ = (1 : Int) ∨ _ = (-1 : Int)) => hsd'); k_dflt (refine' filt_list hrw' hsd' (by rfl) (by k_asm) (by k_asm) (by walk_at "my_mem1") (by assumption) (by assumption) ?_ ?_); (focus (intro g' k' t' ys' I' oI' C' oC' D' m' h' tk' E' hC' hx' F' N' off' ne'; (try simp only [LCg.Off3, and_true] at off'))); rotate_left; intro g' ys' hI'; rotate_left)))) | ((fail_if_success (fail_if_success (with_reducible show SrcTup _ _ _ _ _ _ _ _ _ _ _ _ _ _ _))); (with_reducible ((k_here; k_dflt (refine SrcTup.put (by rfl) (by k_asm) (by k_asm) (by walk_at "my_mem1") (by first | size_fits | exact Nat.le_of_ble_eq_true rfl) ?_; intro g'; lct_lit))))) | ((fail_if_success (fail_if_success (with_reducible show LCg.CompEnd _ _ _ _ _ _ _ _ _ _ _ _ _ _))); (with_reducible ((k_dflt (refine' comp_end (by k_asm) (by k_asm) (by first | assumption | (simp only [LCg.Off3, and_true]; assumption)) (by first | exact True.intro | walk_at "my_mem1" | lcg_src) ?_; k_whole))))) | ((fail_if_success (fail_if_success (with_reducible show LCg.FinE _ _ _ _ _ _ _))); (with_reducible (((unfold LCg.FinE); intro D' h' tk' F' N' o1'; (with_reducible show CutL _ _ _ _ _ _ _ _); k_dflt (refine' CutL.fin (by assumption) (by assumption) (by walk_at "my_sfx") (by assumption) (by ((first | exact encI2 (by omega) | exact encI1 (by omega) (by omega) | exact encI0 (by omega) (by omega))))))))) | ((fail_if_success (fail_if_success (with_reducible show SrcM _ _ _ _ _ _ _ _ _ _ _ _ _ _))); (with_reducible ((k_here; k_dflt (refine SrcM.put (by rfl) (by k_asm) (by k_asm) (by walk_at "my_mem1") (by first | size_fits | exact Nat.le_of_ble_eq_true rfl) ?_; intro g'; lcg_lit))))) | ((fail_if_success (fail_if_success (with_reducible show SrcMT _ _ _ _ _ _ _ _ _ _ _ _ _ _ _))); (with_reducible ((k_here; (rename IntsAre _ (rowOf _ _ _ _) => hrw'); (rename (_ = (1 : Int) ∨ _ = (-1 : Int)) => hsd'); k_dflt (refine' filt_range hrw' hsd' (by rfl) (by k_asm) (by k_asm) (by assumption) ?_ ?_); (focus (intro g' k' t' ys' I' oI' C' oC' D' m' h' tk' E' hC' hx' F' N' off' ne'; (try simp only [LCg.Off3, and_true] at off'))); rotate_left; intro g' ys' hI'; rotate_left)))) | ((fail_if_success (fail_if_success (with_reducible show SrcMT _ _ _ _ _ _ _ _ _ _ _ _ _ _ _))); (with_reducible ((k_here; (rename IntsAre _ (rowOf _ _ _ _) => hrw'); (rename (_ = (1 : Int) ∨ _ = (-1 : Int)) => hsd'); k_dflt (refine' told_law hrw' hsd' (by rfl) (by k_asm) (by k_asm) (by assumption) (by assumption) ?_ ?_); (focus (intro g' k' t' ys' I' oI' C' oC' D' m' h' tk' E' hlo' hhi' hC' hx' F' N' off' ne'; (try simp only [LCg.Off3, and_true] at off'))); rotate_left; intro g' l' hl'; rotate_left)))) | walk1) | (leave1; (try dsimp only)) | fail "no step"))
      all_goals first | walk_at "fin_W" | (first | exact absurd law_F3 (by assumption) | exact absurd (law_F2 (by assumption) (by assumption) (by assumption) (by assumption) (by assumption)) (by assumption)))
end
end Mine
theorem PySem.Challenge.cw_wj0027_01_holds : PySem.Challenge.rw_wj0027_01.Holds :=
  Mine.law_holds

import PyProof.Rows.All
import Wide.All
import OpenK.AllK
import Wide.FinOn
import Flt.RegL
import KE.KRevIter
import KE.KSetDisp
import KE.KDictIter
import KE.KUnpack
import KE.KNestM
import PyProof.StrLawsIn
import Lean
import PySem.Challenge.RW_sn0087_01
set_option Elab.async false
set_option linter.unusedVariables false
set_option linter.unusedSimpArgs false
set_option maxRecDepth 100000
set_option genSizeOf false
section
open PySem PySem.W PyProof.Rows
namespace Mine
/-- a statement of the text's main module, by its place -/
noncomputable def stT (i : Nat) : Stmt := match PySem.Challenge.pw_sn0087_01.main.body[i]? with | some s => s | none => .Pass default
/-- a statement of a class -/
noncomputable def stM (i j : Nat) : Stmt := match stT i with | .ClassDef _ _ _ b _ _ _ _ _ _ _ => (match b[j]? with | some s => s | none => .Pass default) | _ => .Pass default
noncomputable def fbo : Stmt → FuncBody | .FunctionDef _ _ b _ _ _ _ _ _ _ => .stmts b | _ => .stmts []
noncomputable def fpa : Stmt → Arguments | .FunctionDef _ a _ _ _ _ _ _ _ _ => a | _ => default
noncomputable def fsc : Stmt → Scope | .FunctionDef _ _ _ _ _ _ s _ _ _ => s | _ => default
set_option maxHeartbeats 2000000 in
/-- the objects behind the top that the law can come to -/
noncomputable def K0 (P : Params) : Frag :=
  [(2, Obj.mk Value.none (Option.none) (Data.dict #[] 0) #[]),
   (3, Obj.mk (Value.type "dict") (Option.none) (Data.dict #[DictEntry.mk (PyData.keyHash P (Str.ofString "__name__")) (Value.str (Str.ofString "__name__") 165) (Value.str (Str.ofString "law_sn0087_01") 459), DictEntry.mk (PyData.keyHash P (Str.ofString "__doc__")) (Value.str (Str.ofString "__doc__") 166) Value.none, DictEntry.mk (PyData.keyHash P (Str.ofString "__package__")) (Value.str (Str.ofString "__package__") 167) Value.none, DictEntry.mk (PyData.keyHash P (Str.ofString "__loader__")) (Value.str (Str.ofString "__loader__") 168) (Value.builtin "__main__.__loader__#opaque"), DictEntry.mk (PyData.keyHash P (Str.ofString "__spec__")) (Value.str (Str.ofString "__spec__") 169) Value.none, DictEntry.mk (PyData.keyHash P (Str.ofString "__annotations__")) (Value.str (Str.ofString "__annotations__") 170) (Value.ref 6), DictEntry.mk (PyData.keyHash P (Str.ofString "__builtins__")) (Value.str (Str.ofString "__builtins__") 171) (Value.ref 4), DictEntry.mk (PyData.keyHash P (Str.ofString "__file__")) (Value.str (Str.ofString "__file__") 173) (Value.str (Str.ofString "/claim/cut.py") 172), DictEntry.mk (PyData.keyHash P (Str.ofString "__cached__")) (Value.str (Str.ofString "__cached__") 174) Value.none, DictEntry.mk (PyData.keyHash P (Str.ofString "_wall")) (Value.str (Str.ofString "_wall") 193) (Value.ref 21), DictEntry.mk (PyData.keyHash P (Str.ofString "compute_powers")) (Value.str (Str.ofString "compute_powers") 215) (Value.ref 29), DictEntry.mk (PyData.keyHash P (Str.ofString "_DIV_LIMIT")) (Value.str (Str.ofString "_DIV_LIMIT") 217) (Value.int 4000 216), DictEntry.mk (PyData.keyHash P (Str.ofString "_div2n1n")) (Value.str (Str.ofString "_div2n1n") 234) (Value.ref 36), DictEntry.mk (PyData.keyHash P (Str.ofString "_div3n2n")) (Value.str (Str.ofString "_div3n2n") 248) (Value.ref 43), DictEntry.mk (PyData.keyHash P (Str.ofString "_int2digits")) (Value.str (Str.ofString "_int2digits") 259) (Value.ref 50), DictEntry.mk (PyData.keyHash P (Str.ofString "_digits2int")) (Value.str (Str.ofString "_digits2int") 270) (Value.ref 57), DictEntry.mk (PyData.keyHash P (Str.ofString "_divmod_pos")) (Value.str (Str.ofString "_divmod_pos") 285) (Value.ref 64), DictEntry.mk (PyData.keyHash P (Str.ofString "int_divmod")) (Value.str (Str.ofString "int_divmod") 295) (Value.ref 71), DictEntry.mk (PyData.keyHash P (Str.ofString "ONE_THIRD")) (Value.str (Str.ofString "ONE_THIRD") 301) (Value.float 4599676419421066581 300), DictEntry.mk (PyData.keyHash P (Str.ofString "ONE_SIXTH")) (Value.str (Str.ofString "ONE_SIXTH") 305) (Value.float 4595172819793696085 304), DictEntry.mk (PyData.keyHash P (Str.ofString "TWO_THIRD")) (Value.str (Str.ofString "TWO_THIRD") 309) (Value.float 4604180019048437077 308), DictEntry.mk (PyData.keyHash P (Str.ofString "rgb_to_hls")) (Value.str (Str.ofString "rgb_to_hls") 328) (Value.ref 78), DictEntry.mk (PyData.keyHash P (Str.ofString "hls_to_rgb")) (Value.str (Str.ofString "hls_to_rgb") 339) (Value.ref 85), DictEntry.mk (PyData.keyHash P (Str.ofString "_v")) (Value.str (Str.ofString "_v") 348) (Value.ref 92), DictEntry.mk (PyData.keyHash P (Str.ofString "ELLIPSIS_MARKER")) (Value.str (Str.ofString "ELLIPSIS_MARKER") 352) (Value.str (Str.ofString "...") 351), DictEntry.mk (PyData.keyHash P (Str.ofString "_ellipsis_match")) (Value.str (Str.ofString "_ellipsis_match") 364) (Value.ref 99), DictEntry.mk (PyData.keyHash P (Str.ofString "Whitespace")) (Value.str (Str.ofString "Whitespace") 458) (Value.ref 161), DictEntry.mk (PyData.keyHash P (Str.ofString "_law_squares")) (Value.str (Str.ofString "_law_squares") 472) (Value.ref 172), DictEntry.mk (PyData.keyHash P (Str.ofString "_law_reduced")) (Value.str (Str.ofString "_law_reduced") 484) (Value.ref 179), DictEntry.mk (PyData.keyHash P (Str.ofString "_law_forms")) (Value.str (Str.ofString "_law_forms") 496) (Value.ref 186), DictEntry.mk (PyData.keyHash P (Str.ofString "_law_river")) (Value.str (Str.ofString "_law_river") 508) (Value.ref 193), DictEntry.mk (PyData.keyHash P (Str.ofString "_law_rivers")) (Value.str (Str.ofString "_law_rivers") 514) (Value.ref 198), DictEntry.mk (PyData.keyHash P (Str.ofString "_law_sign")) (Value.str (Str.ofString "_law_sign") 530) (Value.ref 205), DictEntry.mk (PyData.keyHash P (Str.ofString "_law_back")) (Value.str (Str.ofString "_law_back") 536) (Value.ref 210), DictEntry.mk (PyData.keyHash P (Str.ofString "_law_runs")) (Value.str (Str.ofString "_law_runs") 549) (Value.ref 217), DictEntry.mk (PyData.keyHash P (Str.ofString "law")) (Value.str (Str.ofString "law") 555) (Value.ref 222)] 36) #[]),
   (15, Obj.mk (Value.type "tuple") (Option.none) (Data.seq #[] 0) #[]),
   (17, Obj.mk (Value.type "tuple") (Option.none) (Data.seq #[Value.str (Str.ofString "k") 190] 0) #[]),
   (18, Obj.mk (Value.type "tuple") (Option.none) (Data.seq #[] 0) #[]),
   (20, Obj.mk (Value.type "code") (Option.none) (Data.fields #[Value.str (Str.ofString "_wall") 187, Value.str (Str.ofString "_wall") 188, Value.str (Str.ofString "/claim/cut.py") 189, Value.int 1 0, Value.int 1 0, Value.int 0 0, Value.int 0 0, Value.int 3 0, Value.ref 15, Value.bool Bool.true, Value.int 181 0, Value.ref 16, Value.none, Value.ref 17, Value.ref 18, Value.ref 19, Value.int 191 0, Value.int 1 0, Value.str (Str.ofString "/claim/cut.py") 192]) #[]),
   (21, Obj.mk (Value.type "function") (Option.none) (Data.func (FuncData.mk (Str.ofString "_wall") (Str.ofString "_wall") (fpa (stT 0)) (fbo (stT 0)) (fsc (stT 0)) 3 [] Value.none Value.none Value.none (Value.str (Str.ofString "__main__") 164) (Option.none) (Value.ref 20) Value.none 0)) #[]),
   (22, Obj.mk (Value.type "tuple") (Option.none) (Data.seq #[Value.bool Bool.false] 0) #[]),
   (23, Obj.mk (Value.type "tuple") (Option.none) (Data.seq #[] 0) #[]),
   (25, Obj.mk (Value.type "tuple") (Option.none) (Data.seq #[Value.str (Str.ofString "w") 199, Value.str (Str.ofString "base") 200, Value.str (Str.ofString "more_than") 201, Value.str (Str.ofString "show") 202, Value.str (Str.ofString "seen") 203, Value.str (Str.ofString "need") 204, Value.str (Str.ofString "ws") 205, Value.str (Str.ofString "lo") 206, Value.str (Str.ofString "d") 207, Value.str (Str.ofString "it") 208, Value.str (Str.ofString "first") 209, Value.str (Str.ofString "this") 210, Value.str (Str.ofString "hi") 211, Value.str (Str.ofString "sq") 212] 0) #[]),
   (26, Obj.mk (Value.type "tuple") (Option.none) (Data.seq #[] 0) #[]),
   (28, Obj.mk (Value.type "code") (Option.none) (Data.fields #[Value.str (Str.ofString "compute_powers") 196, Value.str (Str.ofString "compute_powers") 197, Value.str (Str.ofString "/claim/cut.py") 198, Value.int 5 0, Value.int 4 0, Value.int 0 0, Value.int 0 0, Value.int 3 0, Value.ref 23, Value.bool Bool.true, Value.int 181 0, Value.ref 24, Value.none, Value.ref 25, Value.ref 26, Value.ref 27, Value.int 213 0, Value.int 5 0, Value.str (Str.ofString "/claim/cut.py") 214]) #[]),
   (29, Obj.mk (Value.type "function") (Option.none) (Data.func (FuncData.mk (Str.ofString "compute_powers") (Str.ofString "compute_powers") (fpa (stT 2)) (fbo (stT 2)) (fsc (stT 2)) 3 [] (Value.ref 22) Value.none Value.none (Value.str (Str.ofString "cpy313._pylong") 194) (Option.none) (Value.ref 28) Value.none 0)) #[]),
   (30, Obj.mk (Value.type "tuple") (Option.none) (Data.seq #[] 0) #[]),
   (32, Obj.mk (Value.type "tuple") (Option.none) (Data.seq #[Value.str (Str.ofString "a") 221, Value.str (Str.ofString "b") 222, Value.str (Str.ofString "n") 223, Value.str (Str.ofString "pad") 224, Value.str (Str.ofString "half_n") 225, Value.str (Str.ofString "mask") 226, Value.str (Str.ofString "b1") 227, Value.str (Str.ofString "b2") 228, Value.str (Str.ofString "q1") 229, Value.str (Str.ofString "r") 230, Value.str (Str.ofString "q2") 231] 0) #[]),
   (33, Obj.mk (Value.type "tuple") (Option.none) (Data.seq #[] 0) #[]),
   (35, Obj.mk (Value.type "code") (Option.none) (Data.fields #[Value.str (Str.ofString "_div2n1n") 218, Value.str (Str.ofString "_div2n1n") 219, Value.str (Str.ofString "/claim/cut.py") 220, Value.int 47 0, Value.int 3 0, Value.int 0 0, Value.int 0 0, Value.int 3 0, Value.ref 30, Value.bool Bool.true, Value.int 181 0, Value.ref 31, Value.none, Value.ref 32, Value.ref 33, Value.ref 34, Value.int 232 0, Value.int 47 0, Value.str (Str.ofString "/claim/cut.py") 233]) #[]),
   (36, Obj.mk (Value.type "function") (Option.none) (Data.func (FuncData.mk (Str.ofString "_div2n1n") (Str.ofString "_div2n1n") (fpa (stT 4)) (fbo (stT 4)) (fsc (stT 4)) 3 [] Value.none Value.none Value.none (Value.str (Str.ofString "cpy313._pylong") 194) (Option.none) (Value.ref 35) Value.none 0)) #[]),
   (37, Obj.mk (Value.type "tuple") (Option.none) (Data.seq #[] 0) #[]),
   (39, Obj.mk (Value.type "tuple") (Option.none) (Data.seq #[Value.str (Str.ofString "a12") 238, Value.str (Str.ofString "a3") 239, Value.str (Str.ofString "b") 240, Value.str (Str.ofString "b1") 241, Value.str (Str.ofString "b2") 242, Value.str (Str.ofString "n") 243, Value.str (Str.ofString "q") 244, Value.str (Str.ofString "r") 245] 0) #[]),
   (40, Obj.mk (Value.type "tuple") (Option.none) (Data.seq #[] 0) #[]),
   (42, Obj.mk (Value.type "code") (Option.none) (Data.fields #[Value.str (Str.ofString "_div3n2n") 235, Value.str (Str.ofString "_div3n2n") 236, Value.str (Str.ofString "/claim/cut.py") 237, Value.int 63 0, Value.int 6 0, Value.int 0 0, Value.int 0 0, Value.int 3 0, Value.ref 37, Value.bool Bool.true, Value.int 181 0, Value.ref 38, Value.none, Value.ref 39, Value.ref 40, Value.ref 41, Value.int 246 0, Value.int 63 0, Value.str (Str.ofString "/claim/cut.py") 247]) #[]),
   (43, Obj.mk (Value.type "function") (Option.none) (Data.func (FuncData.mk (Str.ofString "_div3n2n") (Str.ofString "_div3n2n") (fpa (stT 5)) (fbo (stT 5)) (fsc (stT 5)) 3 [] Value.none Value.none Value.none (Value.str (Str.ofString "cpy313._pylong") 194) (Option.none) (Value.ref 42) Value.none 0)) #[]),
   (44, Obj.mk (Value.type "tuple") (Option.none) (Data.seq #[] 0) #[]),
   (46, Obj.mk (Value.type "tuple") (Option.none) (Data.seq #[Value.str (Str.ofString "a") 252, Value.str (Str.ofString "n") 253] 0) #[]),
   (47, Obj.mk (Value.type "tuple") (Option.none) (Data.seq #[Value.str (Str.ofString "n") 254, Value.str (Str.ofString "a_digits") 255, Value.str (Str.ofString "inner") 256] 0) #[]),
   (49, Obj.mk (Value.type "code") (Option.none) (Data.fields #[Value.str (Str.ofString "_int2digits") 249, Value.str (Str.ofString "_int2digits") 250, Value.str (Str.ofString "/claim/cut.py") 251, Value.int 73 0, Value.int 2 0, Value.int 0 0, Value.int 0 0, Value.int 3 0, Value.ref 44, Value.bool Bool.true, Value.int 181 0, Value.ref 45, Value.none, Value.ref 46, Value.ref 47, Value.ref 48, Value.int 257 0, Value.int 73 0, Value.str (Str.ofString "/claim/cut.py") 258]) #[]),
   (50, Obj.mk (Value.type "function") (Option.none) (Data.func (FuncData.mk (Str.ofString "_int2digits") (Str.ofString "_int2digits") (fpa (stT 6)) (fbo (stT 6)) (fsc (stT 6)) 3 [] Value.none Value.none Value.none (Value.str (Str.ofString "cpy313._pylong") 194) (Option.none) (Value.ref 49) Value.none 0)) #[]),
   (51, Obj.mk (Value.type "tuple") (Option.none) (Data.seq #[] 0) #[]),
   (53, Obj.mk (Value.type "tuple") (Option.none) (Data.seq #[Value.str (Str.ofString "digits") 263, Value.str (Str.ofString "n") 264] 0) #[]),
   (54, Obj.mk (Value.type "tuple") (Option.none) (Data.seq #[Value.str (Str.ofString "digits") 265, Value.str (Str.ofString "n") 266, Value.str (Str.ofString "inner") 267] 0) #[]),
   (56, Obj.mk (Value.type "code") (Option.none) (Data.fields #[Value.str (Str.ofString "_digits2int") 260, Value.str (Str.ofString "_digits2int") 261, Value.str (Str.ofString "/claim/cut.py") 262, Value.int 89 0, Value.int 2 0, Value.int 0 0, Value.int 0 0, Value.int 3 0, Value.ref 51, Value.bool Bool.true, Value.int 181 0, Value.ref 52, Value.none, Value.ref 53, Value.ref 54, Value.ref 55, Value.int 268 0, Value.int 89 0, Value.str (Str.ofString "/claim/cut.py") 269]) #[]),
   (57, Obj.mk (Value.type "function") (Option.none) (Data.func (FuncData.mk (Str.ofString "_digits2int") (Str.ofString "_digits2int") (fpa (stT 7)) (fbo (stT 7)) (fsc (stT 7)) 3 [] Value.none Value.none Value.none (Value.str (Str.ofString "cpy313._pylong") 194) (Option.none) (Value.ref 56) Value.none 0)) #[]),
   (58, Obj.mk (Value.type "tuple") (Option.none) (Data.seq #[] 0) #[]),
   (60, Obj.mk (Value.type "tuple") (Option.none) (Data.seq #[Value.str (Str.ofString "a") 274, Value.str (Str.ofString "b") 275, Value.str (Str.ofString "n") 276, Value.str (Str.ofString "a_digits") 277, Value.str (Str.ofString "r") 278, Value.str (Str.ofString "q_digits") 279, Value.str (Str.ofString "a_digit") 280, Value.str (Str.ofString "q_digit") 281, Value.str (Str.ofString "q") 282] 0) #[]),
   (61, Obj.mk (Value.type "tuple") (Option.none) (Data.seq #[] 0) #[]),
   (63, Obj.mk (Value.type "code") (Option.none) (Data.fields #[Value.str (Str.ofString "_divmod_pos") 271, Value.str (Str.ofString "_divmod_pos") 272, Value.str (Str.ofString "/claim/cut.py") 273, Value.int 98 0, Value.int 2 0, Value.int 0 0, Value.int 0 0, Value.int 3 0, Value.ref 58, Value.bool Bool.true, Value.int 181 0, Value.ref 59, Value.none, Value.ref 60, Value.ref 61, Value.ref 62, Value.int 283 0, Value.int 98 0, Value.str (Str.ofString "/claim/cut.py") 284]) #[]),
   (64, Obj.mk (Value.type "function") (Option.none) (Data.func (FuncData.mk (Str.ofString "_divmod_pos") (Str.ofString "_divmod_pos") (fpa (stT 8)) (fbo (stT 8)) (fsc (stT 8)) 3 [] Value.none Value.none Value.none (Value.str (Str.ofString "cpy313._pylong") 194) (Option.none) (Value.ref 63) Value.none 0)) #[]),
   (65, Obj.mk (Value.type "tuple") (Option.none) (Data.seq #[] 0) #[]),
   (67, Obj.mk (Value.type "tuple") (Option.none) (Data.seq #[Value.str (Str.ofString "a") 289, Value.str (Str.ofString "b") 290, Value.str (Str.ofString "q") 291, Value.str (Str.ofString "r") 292] 0) #[]),
   (68, Obj.mk (Value.type "tuple") (Option.none) (Data.seq #[] 0) #[]),
   (70, Obj.mk (Value.type "code") (Option.none) (Data.fields #[Value.str (Str.ofString "int_divmod") 286, Value.str (Str.ofString "int_divmod") 287, Value.str (Str.ofString "/claim/cut.py") 288, Value.int 109 0, Value.int 2 0, Value.int 0 0, Value.int 0 0, Value.int 3 0, Value.ref 65, Value.bool Bool.true, Value.int 181 0, Value.ref 66, Value.none, Value.ref 67, Value.ref 68, Value.ref 69, Value.int 293 0, Value.int 109 0, Value.str (Str.ofString "/claim/cut.py") 294]) #[]),
   (71, Obj.mk (Value.type "function") (Option.none) (Data.func (FuncData.mk (Str.ofString "int_divmod") (Str.ofString "int_divmod") (fpa (stT 9)) (fbo (stT 9)) (fsc (stT 9)) 3 [] Value.none Value.none Value.none (Value.str (Str.ofString "cpy313._pylong") 194) (Option.none) (Value.ref 70) Value.none 0)) #[]),
   (72, Obj.mk (Value.type "tuple") (Option.none) (Data.seq #[] 0) #[]),
   (74, Obj.mk (Value.type "tuple") (Option.none) (Data.seq #[Value.str (Str.ofString "r") 313, Value.str (Str.ofString "g") 314, Value.str (Str.ofString "b") 315, Value.str (Str.ofString "maxc") 316, Value.str (Str.ofString "minc") 317, Value.str (Str.ofString "sumc") 318, Value.str (Str.ofString "rangec") 319, Value.str (Str.ofString "l") 320, Value.str (Str.ofString "s") 321, Value.str (Str.ofString "rc") 322, Value.str (Str.ofString "gc") 323, Value.str (Str.ofString "bc") 324, Value.str (Str.ofString "h") 325] 0) #[]),
   (75, Obj.mk (Value.type "tuple") (Option.none) (Data.seq #[] 0) #[]),
   (77, Obj.mk (Value.type "code") (Option.none) (Data.fields #[Value.str (Str.ofString "rgb_to_hls") 310, Value.str (Str.ofString "rgb_to_hls") 311, Value.str (Str.ofString "/claim/cut.py") 312, Value.int 124 0, Value.int 3 0, Value.int 0 0, Value.int 0 0, Value.int 3 0, Value.ref 72, Value.bool Bool.true, Value.int 181 0, Value.ref 73, Value.none, Value.ref 74, Value.ref 75, Value.ref 76, Value.int 326 0, Value.int 124 0, Value.str (Str.ofString "/claim/cut.py") 327]) #[]),
   (78, Obj.mk (Value.type "function") (Option.none) (Data.func (FuncData.mk (Str.ofString "rgb_to_hls") (Str.ofString "rgb_to_hls") (fpa (stT 14)) (fbo (stT 14)) (fsc (stT 14)) 3 [] Value.none Value.none Value.none (Value.str (Str.ofString "cpy313.colorsys") 296) (Option.none) (Value.ref 77) Value.none 0)) #[]),
   (79, Obj.mk (Value.type "tuple") (Option.none) (Data.seq #[] 0) #[]),
   (81, Obj.mk (Value.type "tuple") (Option.none) (Data.seq #[Value.str (Str.ofString "h") 332, Value.str (Str.ofString "l") 333, Value.str (Str.ofString "s") 334, Value.str (Str.ofString "m2") 335, Value.str (Str.ofString "m1") 336] 0) #[]),
   (82, Obj.mk (Value.type "tuple") (Option.none) (Data.seq #[] 0) #[]),
   (84, Obj.mk (Value.type "code") (Option.none) (Data.fields #[Value.str (Str.ofString "hls_to_rgb") 329, Value.str (Str.ofString "hls_to_rgb") 330, Value.str (Str.ofString "/claim/cut.py") 331, Value.int 147 0, Value.int 3 0, Value.int 0 0, Value.int 0 0, Value.int 3 0, Value.ref 79, Value.bool Bool.true, Value.int 181 0, Value.ref 80, Value.none, Value.ref 81, Value.ref 82, Value.ref 83, Value.int 337 0, Value.int 147 0, Value.str (Str.ofString "/claim/cut.py") 338]) #[]),
   (85, Obj.mk (Value.type "function") (Option.none) (Data.func (FuncData.mk (Str.ofString "hls_to_rgb") (Str.ofString "hls_to_rgb") (fpa (stT 15)) (fbo (stT 15)) (fsc (stT 15)) 3 [] Value.none Value.none Value.none (Value.str (Str.ofString "cpy313.colorsys") 296) (Option.none) (Value.ref 84) Value.none 0)) #[]),
   (86, Obj.mk (Value.type "tuple") (Option.none) (Data.seq #[] 0) #[]),
   (88, Obj.mk (Value.type "tuple") (Option.none) (Data.seq #[Value.str (Str.ofString "m1") 343, Value.str (Str.ofString "m2") 344, Value.str (Str.ofString "hue") 345] 0) #[]),
   (89, Obj.mk (Value.type "tuple") (Option.none) (Data.seq #[] 0) #[]),
   (91, Obj.mk (Value.type "code") (Option.none) (Data.fields #[Value.str (Str.ofString "_v") 340, Value.str (Str.ofString "_v") 341, Value.str (Str.ofString "/claim/cut.py") 342, Value.int 156 0, Value.int 3 0, Value.int 0 0, Value.int 0 0, Value.int 3 0, Value.ref 86, Value.bool Bool.true, Value.int 181 0, Value.ref 87, Value.none, Value.ref 88, Value.ref 89, Value.ref 90, Value.int 346 0, Value.int 156 0, Value.str (Str.ofString "/claim/cut.py") 347]) #[]),
   (92, Obj.mk (Value.type "function") (Option.none) (Data.func (FuncData.mk (Str.ofString "_v") (Str.ofString "_v") (fpa (stT 16)) (fbo (stT 16)) (fsc (stT 16)) 3 [] Value.none Value.none Value.none (Value.str (Str.ofString "cpy313.colorsys") 296) (Option.none) (Value.ref 91) Value.none 0)) #[]),
   (93, Obj.mk (Value.type "tuple") (Option.none) (Data.seq #[] 0) #[]),
   (95, Obj.mk (Value.type "tuple") (Option.none) (Data.seq #[Value.str (Str.ofString "want") 356, Value.str (Str.ofString "got") 357, Value.str (Str.ofString "ws") 358, Value.str (Str.ofString "startpos") 359, Value.str (Str.ofString "endpos") 360, Value.str (Str.ofString "w") 361] 0) #[]),
   (96, Obj.mk (Value.type "tuple") (Option.none) (Data.seq #[] 0) #[]),
   (98, Obj.mk (Value.type "code") (Option.none) (Data.fields #[Value.str (Str.ofString "_ellipsis_match") 353, Value.str (Str.ofString "_ellipsis_match") 354, Value.str (Str.ofString "/claim/cut.py") 355, Value.int 167 0, Value.int 2 0, Value.int 0 0, Value.int 0 0, Value.int 3 0, Value.ref 93, Value.bool Bool.true, Value.int 181 0, Value.ref 94, Value.none, Value.ref 95, Value.ref 96, Value.ref 97, Value.int 362 0, Value.int 167 0, Value.str (Str.ofString "/claim/cut.py") 363]) #[]),
   (99, Obj.mk (Value.type "function") (Option.none) (Data.func (FuncData.mk (Str.ofString "_ellipsis_match") (Str.ofString "_ellipsis_match") (fpa (stT 19)) (fbo (stT 19)) (fsc (stT 19)) 3 [] Value.none Value.none Value.none (Value.str (Str.ofString "cpy313.doctest") 349) (Option.none) (Value.ref 98) Value.none 0)) #[]),
   (110, Obj.mk (Value.type "tuple") (Option.none) (Data.seq #[] 0) #[]),
   (112, Obj.mk (Value.type "tuple") (Option.none) (Data.seq #[Value.str (Str.ofString "self") 387, Value.str (Str.ofString "ws") 388, Value.str (Str.ofString "S") 389, Value.str (Str.ofString "T") 390, Value.str (Str.ofString "count") 391, Value.str (Str.ofString "b") 392, Value.str (Str.ofString "n") 393, Value.str (Str.ofString "nt") 394, Value.str (Str.ofString "ch") 395] 0) #[]),
   (113, Obj.mk (Value.type "tuple") (Option.none) (Data.seq #[] 0) #[]),
   (115, Obj.mk (Value.type "code") (Option.none) (Data.fields #[Value.str (Str.ofString "__init__") 384, Value.str (Str.ofString "Whitespace.__init__") 385, Value.str (Str.ofString "/claim/cut.py") 386, Value.int 199 0, Value.int 2 0, Value.int 0 0, Value.int 0 0, Value.int 3 0, Value.ref 110, Value.bool Bool.true, Value.int 181 0, Value.ref 111, Value.none, Value.ref 112, Value.ref 113, Value.ref 114, Value.int 396 0, Value.int 199 0, Value.str (Str.ofString "/claim/cut.py") 397]) #[]),
   (116, Obj.mk (Value.type "function") (Option.none) (Data.func (FuncData.mk (Str.ofString "__init__") (Str.ofString "Whitespace.__init__") (fpa (stM 21 1)) (fbo (stM 21 1)) (fsc (stM 21 1)) 3 [] Value.none Value.none Value.none (Value.str (Str.ofString "cpy313.tabnanny") 365) (Option.none) (Value.ref 115) Value.none 0)) #[]),
   (117, Obj.mk (Value.type "tuple") (Option.none) (Data.seq #[] 0) #[]),
   (119, Obj.mk (Value.type "tuple") (Option.none) (Data.seq #[Value.str (Str.ofString "self") 402] 0) #[]),
   (120, Obj.mk (Value.type "tuple") (Option.none) (Data.seq #[] 0) #[]),
   (122, Obj.mk (Value.type "code") (Option.none) (Data.fields #[Value.str (Str.ofString "longest_run_of_spaces") 399, Value.str (Str.ofString "Whitespace.longest_run_of_spaces") 400, Value.str (Str.ofString "/claim/cut.py") 401, Value.int 222 0, Value.int 1 0, Value.int 0 0, Value.int 0 0, Value.int 3 0, Value.ref 117, Value.bool Bool.true, Value.int 181 0, Value.ref 118, Value.none, Value.ref 119, Value.ref 120, Value.ref 121, Value.int 403 0, Value.int 222 0, Value.str (Str.ofString "/claim/cut.py") 404]) #[]),
   (123, Obj.mk (Value.type "function") (Option.none) (Data.func (FuncData.mk (Str.ofString "longest_run_of_spaces") (Str.ofString "Whitespace.longest_run_of_spaces") (fpa (stM 21 2)) (fbo (stM 21 2)) (fsc (stM 21 2)) 3 [] Value.none Value.none Value.none (Value.str (Str.ofString "cpy313.tabnanny") 365) (Option.none) (Value.ref 122) Value.none 0)) #[]),
   (124, Obj.mk (Value.type "tuple") (Option.none) (Data.seq #[] 0) #[]),
   (126, Obj.mk (Value.type "tuple") (Option.none) (Data.seq #[Value.str (Str.ofString "self") 409, Value.str (Str.ofString "tabsize") 410] 0) #[]),
   (127, Obj.mk (Value.type "tuple") (Option.none) (Data.seq #[] 0) #[]),
   (129, Obj.mk (Value.type "code") (Option.none) (Data.fields #[Value.str (Str.ofString "indent_level") 406, Value.str (Str.ofString "Whitespace.indent_level") 407, Value.str (Str.ofString "/claim/cut.py") 408, Value.int 225 0, Value.int 2 0, Value.int 0 0, Value.int 0 0, Value.int 3 0, Value.ref 124, Value.bool Bool.true, Value.int 181 0, Value.ref 125, Value.none, Value.ref 126, Value.ref 127, Value.ref 128, Value.int 411 0, Value.int 225 0, Value.str (Str.ofString "/claim/cut.py") 412]) #[]),
   (130, Obj.mk (Value.type "function") (Option.none) (Data.func (FuncData.mk (Str.ofString "indent_level") (Str.ofString "Whitespace.indent_level") (fpa (stM 21 3)) (fbo (stM 21 3)) (fsc (stM 21 3)) 3 [] Value.none Value.none Value.none (Value.str (Str.ofString "cpy313.tabnanny") 365) (Option.none) (Value.ref 129) Value.none 0)) #[]),
   (131, Obj.mk (Value.type "tuple") (Option.none) (Data.seq #[] 0) #[]),
   (133, Obj.mk (Value.type "tuple") (Option.none) (Data.seq #[Value.str (Str.ofString "self") 417, Value.str (Str.ofString "other") 418] 0) #[]),
   (134, Obj.mk (Value.type "tuple") (Option.none) (Data.seq #[] 0) #[]),
   (136, Obj.mk (Value.type "code") (Option.none) (Data.fields #[Value.str (Str.ofString "equal") 414, Value.str (Str.ofString "Whitespace.equal") 415, Value.str (Str.ofString "/claim/cut.py") 416, Value.int 228 0, Value.int 2 0, Value.int 0 0, Value.int 0 0, Value.int 3 0, Value.ref 131, Value.bool Bool.true, Value.int 181 0, Value.ref 132, Value.none, Value.ref 133, Value.ref 134, Value.ref 135, Value.int 419 0, Value.int 228 0, Value.str (Str.ofString "/claim/cut.py") 420]) #[]),
   (137, Obj.mk (Value.type "function") (Option.none) (Data.func (FuncData.mk (Str.ofString "equal") (Str.ofString "Whitespace.equal") (fpa (stM 21 4)) (fbo (stM 21 4)) (fsc (stM 21 4)) 3 [] Value.none Value.none Value.none (Value.str (Str.ofString "cpy313.tabnanny") 365) (Option.none) (Value.ref 136) Value.none 0)) #[]),
   (138, Obj.mk (Value.type "tuple") (Option.none) (Data.seq #[] 0) #[]),
   (140, Obj.mk (Value.type "tuple") (Option.none) (Data.seq #[Value.str (Str.ofString "self") 425, Value.str (Str.ofString "other") 426] 0) #[]),
   (141, Obj.mk (Value.type "tuple") (Option.none) (Data.seq #[] 0) #[]),
   (143, Obj.mk (Value.type "code") (Option.none) (Data.fields #[Value.str (Str.ofString "not_equal_witness") 422, Value.str (Str.ofString "Whitespace.not_equal_witness") 423, Value.str (Str.ofString "/claim/cut.py") 424, Value.int 231 0, Value.int 2 0, Value.int 0 0, Value.int 0 0, Value.int 3 0, Value.ref 138, Value.bool Bool.true, Value.int 181 0, Value.ref 139, Value.none, Value.ref 140, Value.ref 141, Value.ref 142, Value.int 427 0, Value.int 231 0, Value.str (Str.ofString "/claim/cut.py") 428]) #[]),
   (144, Obj.mk (Value.type "function") (Option.none) (Data.func (FuncData.mk (Str.ofString "not_equal_witness") (Str.ofString "Whitespace.not_equal_witness") (fpa (stM 21 5)) (fbo (stM 21 5)) (fsc (stM 21 5)) 3 [] Value.none Value.none Value.none (Value.str (Str.ofString "cpy313.tabnanny") 365) (Option.none) (Value.ref 143) Value.none 0)) #[]),
   (145, Obj.mk (Value.type "tuple") (Option.none) (Data.seq #[] 0) #[]),
   (147, Obj.mk (Value.type "tuple") (Option.none) (Data.seq #[Value.str (Str.ofString "self") 433, Value.str (Str.ofString "other") 434] 0) #[]),
   (148, Obj.mk (Value.type "tuple") (Option.none) (Data.seq #[] 0) #[]),
   (150, Obj.mk (Value.type "code") (Option.none) (Data.fields #[Value.str (Str.ofString "less") 430, Value.str (Str.ofString "Whitespace.less") 431, Value.str (Str.ofString "/claim/cut.py") 432, Value.int 234 0, Value.int 2 0, Value.int 0 0, Value.int 0 0, Value.int 3 0, Value.ref 145, Value.bool Bool.true, Value.int 181 0, Value.ref 146, Value.none, Value.ref 147, Value.ref 148, Value.ref 149, Value.int 435 0, Value.int 234 0, Value.str (Str.ofString "/claim/cut.py") 436]) #[]),
   (151, Obj.mk (Value.type "function") (Option.none) (Data.func (FuncData.mk (Str.ofString "less") (Str.ofString "Whitespace.less") (fpa (stM 21 6)) (fbo (stM 21 6)) (fsc (stM 21 6)) 3 [] Value.none Value.none Value.none (Value.str (Str.ofString "cpy313.tabnanny") 365) (Option.none) (Value.ref 150) Value.none 0)) #[]),
   (152, Obj.mk (Value.type "tuple") (Option.none) (Data.seq #[] 0) #[]),
   (154, Obj.mk (Value.type "tuple") (Option.none) (Data.seq #[Value.str (Str.ofString "self") 441, Value.str (Str.ofString "other") 442] 0) #[]),
   (155, Obj.mk (Value.type "tuple") (Option.none) (Data.seq #[] 0) #[]),
   (157, Obj.mk (Value.type "code") (Option.none) (Data.fields #[Value.str (Str.ofString "not_less_witness") 438, Value.str (Str.ofString "Whitespace.not_less_witness") 439, Value.str (Str.ofString "/claim/cut.py") 440, Value.int 237 0, Value.int 2 0, Value.int 0 0, Value.int 0 0, Value.int 3 0, Value.ref 152, Value.bool Bool.true, Value.int 181 0, Value.ref 153, Value.none, Value.ref 154, Value.ref 155, Value.ref 156, Value.int 443 0, Value.int 237 0, Value.str (Str.ofString "/claim/cut.py") 444]) #[]),
   (158, Obj.mk (Value.type "function") (Option.none) (Data.func (FuncData.mk (Str.ofString "not_less_witness") (Str.ofString "Whitespace.not_less_witness") (fpa (stM 21 7)) (fbo (stM 21 7)) (fsc (stM 21 7)) 3 [] Value.none Value.none Value.none (Value.str (Str.ofString "cpy313.tabnanny") 365) (Option.none) (Value.ref 157) Value.none 0)) #[]),
   (159, Obj.mk (Value.type "tuple") (Option.none) (Data.seq #[Value.str (Str.ofString "is_simple") 446, Value.str (Str.ofString "n") 447, Value.str (Str.ofString "norm") 448, Value.str (Str.ofString "nt") 449, Value.str (Str.ofString "raw") 450] 0) #[]),
   (160, Obj.mk (Value.type "dict") (Option.none) (Data.dict #[DictEntry.mk (PyData.keyHash P (Str.ofString "__module__")) (Value.str (Str.ofString "__module__") 374) (Value.str (Str.ofString "cpy313.tabnanny") 365), DictEntry.mk (PyData.keyHash P (Str.ofString "__firstlineno__")) (Value.str (Str.ofString "__firstlineno__") 378) (Value.int 196 377), DictEntry.mk (PyData.keyHash P (Str.ofString "S")) (Value.str (Str.ofString "S") 382) (Value.str (Str.ofString " ") 380), DictEntry.mk (PyData.keyHash P (Str.ofString "T")) (Value.str (Str.ofString "T") 383) (Value.str (Str.ofString "\t") 381), DictEntry.mk (PyData.keyHash P (Str.ofString "__init__")) (Value.str (Str.ofString "__init__") 398) (Value.ref 116), DictEntry.mk (PyData.keyHash P (Str.ofString "longest_run_of_spaces")) (Value.str (Str.ofString "longest_run_of_spaces") 405) (Value.ref 123), DictEntry.mk (PyData.keyHash P (Str.ofString "indent_level")) (Value.str (Str.ofString "indent_level") 413) (Value.ref 130), DictEntry.mk (PyData.keyHash P (Str.ofString "equal")) (Value.str (Str.ofString "equal") 421) (Value.ref 137), DictEntry.mk (PyData.keyHash P (Str.ofString "not_equal_witness")) (Value.str (Str.ofString "not_equal_witness") 429) (Value.ref 144), DictEntry.mk (PyData.keyHash P (Str.ofString "less")) (Value.str (Str.ofString "less") 437) (Value.ref 151), DictEntry.mk (PyData.keyHash P (Str.ofString "not_less_witness")) (Value.str (Str.ofString "not_less_witness") 445) (Value.ref 158), DictEntry.mk (PyData.keyHash P (Str.ofString "__static_attributes__")) (Value.str (Str.ofString "__static_attributes__") 451) (Value.ref 159), DictEntry.mk (PyData.keyHash P (Str.ofString "__dict__")) (Value.str (Str.ofString "__dict__") 453) (Value.ref 162), DictEntry.mk (PyData.keyHash P (Str.ofString "__weakref__")) (Value.str (Str.ofString "__weakref__") 455) (Value.ref 163), DictEntry.mk (PyData.keyHash P (Str.ofString "__doc__")) (Value.str (Str.ofString "__doc__") 456) Value.none] 4) #[]),
   (161, Obj.mk (Value.type "type") (Option.none) (Data.cls (ClassData.mk (Str.ofString "Whitespace") [Value.type "object"] [Value.ref 161, Value.type "object"] 160 (Str.ofString "Whitespace") Bool.true [] [] Bool.false (Option.none) Bool.false)) #[Option.none, Option.none, Option.some (Value.str (Str.ofString "Whitespace") 367), Option.some (Value.str (Str.ofString "Whitespace") 375), Option.some (Value.builtin "object.__new__"), Option.some (Value.bool Bool.true)]),
   (162, Obj.mk (Value.type "getset_descriptor") (Option.none) (Data.fields #[Value.str (Str.ofString "__dict__") 452, Value.ref 161, Value.builtin "function.__dict__", Value.builtin "function.__dict__#set"]) #[]),
   (163, Obj.mk (Value.type "getset_descriptor") (Option.none) (Data.fields #[Value.str (Str.ofString "__weakref__") 454, Value.ref 161, Value.builtin "ExceptionGroup.__weakref__", Value.none]) #[]),
   (166, Obj.mk (Value.type "tuple") (Option.none) (Data.seq #[] 0) #[]),
   (168, Obj.mk (Value.type "tuple") (Option.none) (Data.seq #[Value.str (Str.ofString "prime") 464, Value.str (Str.ofString "places") 465, Value.str (Str.ofString "k") 466, Value.str (Str.ofString "red") 467, Value.str (Str.ofString "green") 468, Value.str (Str.ofString "blue") 469] 0) #[]),
   (169, Obj.mk (Value.type "tuple") (Option.none) (Data.seq #[] 0) #[]),
   (171, Obj.mk (Value.type "code") (Option.none) (Data.fields #[Value.str (Str.ofString "_law_squares") 461, Value.str (Str.ofString "_law_squares") 462, Value.str (Str.ofString "/claim/cut.py") 463, Value.int 240 0, Value.int 1 0, Value.int 0 0, Value.int 0 0, Value.int 3 0, Value.ref 166, Value.bool Bool.true, Value.int 181 0, Value.ref 167, Value.none, Value.ref 168, Value.ref 169, Value.ref 170, Value.int 470 0, Value.int 240 0, Value.str (Str.ofString "/claim/cut.py") 471]) #[]),
   (172, Obj.mk (Value.type "function") (Option.none) (Data.func (FuncData.mk (Str.ofString "_law_squares") (Str.ofString "_law_squares") (fpa (stT 23)) (fbo (stT 23)) (fsc (stT 23)) 3 [] Value.none Value.none Value.none (Value.str (Str.ofString "law_sn0087_01") 459) (Option.none) (Value.ref 171) Value.none 0)) #[]),
   (173, Obj.mk (Value.type "tuple") (Option.none) (Data.seq #[] 0) #[]),
   (175, Obj.mk (Value.type "tuple") (Option.none) (Data.seq #[Value.str (Str.ofString "prime") 476, Value.str (Str.ofString "count") 477, Value.str (Str.ofString "a") 478, Value.str (Str.ofString "b") 479, Value.str (Str.ofString "c") 480, Value.str (Str.ofString "rest") 481] 0) #[]),
   (176, Obj.mk (Value.type "tuple") (Option.none) (Data.seq #[] 0) #[]),
   (178, Obj.mk (Value.type "code") (Option.none) (Data.fields #[Value.str (Str.ofString "_law_reduced") 473, Value.str (Str.ofString "_law_reduced") 474, Value.str (Str.ofString "/claim/cut.py") 475, Value.int 246 0, Value.int 1 0, Value.int 0 0, Value.int 0 0, Value.int 3 0, Value.ref 173, Value.bool Bool.true, Value.int 181 0, Value.ref 174, Value.none, Value.ref 175, Value.ref 176, Value.ref 177, Value.int 482 0, Value.int 246 0, Value.str (Str.ofString "/claim/cut.py") 483]) #[]),
   (179, Obj.mk (Value.type "function") (Option.none) (Data.func (FuncData.mk (Str.ofString "_law_reduced") (Str.ofString "_law_reduced") (fpa (stT 24)) (fbo (stT 24)) (fsc (stT 24)) 3 [] Value.none Value.none Value.none (Value.str (Str.ofString "law_sn0087_01") 459) (Option.none) (Value.ref 178) Value.none 0)) #[]),
   (180, Obj.mk (Value.type "tuple") (Option.none) (Data.seq #[] 0) #[]),
   (182, Obj.mk (Value.type "tuple") (Option.none) (Data.seq #[Value.str (Str.ofString "product") 488, Value.str (Str.ofString "forms") 489, Value.str (Str.ofString "b") 490, Value.str (Str.ofString "n") 491, Value.str (Str.ofString "a") 492, Value.str (Str.ofString "x") 493] 0) #[]),
   (183, Obj.mk (Value.type "tuple") (Option.none) (Data.seq #[] 0) #[]),
   (185, Obj.mk (Value.type "code") (Option.none) (Data.fields #[Value.str (Str.ofString "_law_forms") 485, Value.str (Str.ofString "_law_forms") 486, Value.str (Str.ofString "/claim/cut.py") 487, Value.int 254 0, Value.int 1 0, Value.int 0 0, Value.int 0 0, Value.int 3 0, Value.ref 180, Value.bool Bool.true, Value.int 181 0, Value.ref 181, Value.none, Value.ref 182, Value.ref 183, Value.ref 184, Value.int 494 0, Value.int 254 0, Value.str (Str.ofString "/claim/cut.py") 495]) #[]),
   (186, Obj.mk (Value.type "function") (Option.none) (Data.func (FuncData.mk (Str.ofString "_law_forms") (Str.ofString "_law_forms") (fpa (stT 25)) (fbo (stT 25)) (fsc (stT 25)) 3 [] Value.none Value.none Value.none (Value.str (Str.ofString "law_sn0087_01") 459) (Option.none) (Value.ref 185) Value.none 0)) #[]),
   (187, Obj.mk (Value.type "tuple") (Option.none) (Data.seq #[] 0) #[]),
   (189, Obj.mk (Value.type "tuple") (Option.none) (Data.seq #[Value.str (Str.ofString "form") 500, Value.str (Str.ofString "a") 501, Value.str (Str.ofString "b") 502, Value.str (Str.ofString "c") 503, Value.str (Str.ofString "text") 504, Value.str (Str.ofString "met") 505] 0) #[]),
   (190, Obj.mk (Value.type "tuple") (Option.none) (Data.seq #[] 0) #[]),
   (192, Obj.mk (Value.type "code") (Option.none) (Data.fields #[Value.str (Str.ofString "_law_river") 497, Value.str (Str.ofString "_law_river") 498, Value.str (Str.ofString "/claim/cut.py") 499, Value.int 264 0, Value.int 1 0, Value.int 0 0, Value.int 0 0, Value.int 3 0, Value.ref 187, Value.bool Bool.true, Value.int 181 0, Value.ref 188, Value.none, Value.ref 189, Value.ref 190, Value.ref 191, Value.int 506 0, Value.int 264 0, Value.str (Str.ofString "/claim/cut.py") 507]) #[]),
   (193, Obj.mk (Value.type "function") (Option.none) (Data.func (FuncData.mk (Str.ofString "_law_river") (Str.ofString "_law_river") (fpa (stT 26)) (fbo (stT 26)) (fsc (stT 26)) 3 [] Value.none Value.none Value.none (Value.str (Str.ofString "law_sn0087_01") 459) (Option.none) (Value.ref 192) Value.none 0)) #[]),
   (194, Obj.mk (Value.type "tuple") (Option.none) (Data.seq #[] 0) #[]),
   (197, Obj.mk (Value.type "code") (Option.none) (Data.fields #[Value.str (Str.ofString "_law_rivers") 509, Value.str (Str.ofString "_law_rivers") 510, Value.str (Str.ofString "/claim/cut.py") 511, Value.int 277 0, Value.int 1 0, Value.int 0 0, Value.int 0 0, Value.int 3 0, Value.ref 194, Value.bool Bool.true, Value.int 181 0, Value.ref 195, Value.none, Value.none, Value.none, Value.ref 196, Value.int 512 0, Value.int 277 0, Value.str (Str.ofString "/claim/cut.py") 513]) #[]),
   (198, Obj.mk (Value.type "function") (Option.none) (Data.func (FuncData.mk (Str.ofString "_law_rivers") (Str.ofString "_law_rivers") (fpa (stT 27)) (fbo (stT 27)) (fsc (stT 27)) 3 [] Value.none Value.none Value.none (Value.str (Str.ofString "law_sn0087_01") 459) (Option.none) (Value.ref 197) Value.none 0)) #[]),
   (199, Obj.mk (Value.type "tuple") (Option.none) (Data.seq #[] 0) #[]),
   (201, Obj.mk (Value.type "tuple") (Option.none) (Data.seq #[Value.str (Str.ofString "met") 518, Value.str (Str.ofString "primes") 519, Value.str (Str.ofString "places") 520, Value.str (Str.ofString "told") 521, Value.str (Str.ofString "form") 522, Value.str (Str.ofString "k") 523, Value.str (Str.ofString "prime") 524, Value.str (Str.ofString "power") 525, Value.str (Str.ofString "rest") 526, Value.str (Str.ofString "sign") 527] 0) #[]),
   (202, Obj.mk (Value.type "tuple") (Option.none) (Data.seq #[] 0) #[]),
   (204, Obj.mk (Value.type "code") (Option.none) (Data.fields #[Value.str (Str.ofString "_law_sign") 515, Value.str (Str.ofString "_law_sign") 516, Value.str (Str.ofString "/claim/cut.py") 517, Value.int 286 0, Value.int 3 0, Value.int 0 0, Value.int 0 0, Value.int 3 0, Value.ref 199, Value.bool Bool.true, Value.int 181 0, Value.ref 200, Value.none, Value.ref 201, Value.ref 202, Value.ref 203, Value.int 528 0, Value.int 286 0, Value.str (Str.ofString "/claim/cut.py") 529]) #[]),
   (205, Obj.mk (Value.type "function") (Option.none) (Data.func (FuncData.mk (Str.ofString "_law_sign") (Str.ofString "_law_sign") (fpa (stT 28)) (fbo (stT 28)) (fsc (stT 28)) 3 [] Value.none Value.none Value.none (Value.str (Str.ofString "law_sn0087_01") 459) (Option.none) (Value.ref 204) Value.none 0)) #[]),
   (206, Obj.mk (Value.type "tuple") (Option.none) (Data.seq #[] 0) #[]),
   (209, Obj.mk (Value.type "code") (Option.none) (Data.fields #[Value.str (Str.ofString "_law_back") 531, Value.str (Str.ofString "_law_back") 532, Value.str (Str.ofString "/claim/cut.py") 533, Value.int 296 0, Value.int 1 0, Value.int 0 0, Value.int 0 0, Value.int 3 0, Value.ref 206, Value.bool Bool.true, Value.int 181 0, Value.ref 207, Value.none, Value.none, Value.none, Value.ref 208, Value.int 534 0, Value.int 296 0, Value.str (Str.ofString "/claim/cut.py") 535]) #[]),
   (210, Obj.mk (Value.type "function") (Option.none) (Data.func (FuncData.mk (Str.ofString "_law_back") (Str.ofString "_law_back") (fpa (stT 29)) (fbo (stT 29)) (fsc (stT 29)) 3 [] Value.none Value.none Value.none (Value.str (Str.ofString "law_sn0087_01") 459) (Option.none) (Value.ref 209) Value.none 0)) #[]),
   (211, Obj.mk (Value.type "tuple") (Option.none) (Data.seq #[] 0) #[]),
   (213, Obj.mk (Value.type "tuple") (Option.none) (Data.seq #[Value.str (Str.ofString "form") 540, Value.str (Str.ofString "root") 541, Value.str (Str.ofString "a") 542, Value.str (Str.ofString "b") 543, Value.str (Str.ofString "c") 544, Value.str (Str.ofString "runs") 545, Value.str (Str.ofString "run") 546] 0) #[]),
   (214, Obj.mk (Value.type "tuple") (Option.none) (Data.seq #[] 0) #[]),
   (216, Obj.mk (Value.type "code") (Option.none) (Data.fields #[Value.str (Str.ofString "_law_runs") 537, Value.str (Str.ofString "_law_runs") 538, Value.str (Str.ofString "/claim/cut.py") 539, Value.int 308 0, Value.int 2 0, Value.int 0 0, Value.int 0 0, Value.int 3 0, Value.ref 211, Value.bool Bool.true, Value.int 181 0, Value.ref 212, Value.none, Value.ref 213, Value.ref 214, Value.ref 215, Value.int 547 0, Value.int 308 0, Value.str (Str.ofString "/claim/cut.py") 548]) #[]),
   (217, Obj.mk (Value.type "function") (Option.none) (Data.func (FuncData.mk (Str.ofString "_law_runs") (Str.ofString "_law_runs") (fpa (stT 30)) (fbo (stT 30)) (fsc (stT 30)) 3 [] Value.none Value.none Value.none (Value.str (Str.ofString "law_sn0087_01") 459) (Option.none) (Value.ref 216) Value.none 0)) #[]),
   (218, Obj.mk (Value.type "tuple") (Option.none) (Data.seq #[] 0) #[]),
   (221, Obj.mk (Value.type "code") (Option.none) (Data.fields #[Value.str (Str.ofString "law") 550, Value.str (Str.ofString "law") 551, Value.str (Str.ofString "/claim/cut.py") 552, Value.int 317 0, Value.int 1 0, Value.int 0 0, Value.int 0 0, Value.int 3 0, Value.ref 218, Value.bool Bool.true, Value.int 181 0, Value.ref 219, Value.none, Value.none, Value.none, Value.ref 220, Value.int 553 0, Value.int 317 0, Value.str (Str.ofString "/claim/cut.py") 554]) #[]),
   (222, Obj.mk (Value.type "function") (Option.none) (Data.func (FuncData.mk (Str.ofString "law") (Str.ofString "law") (fpa (stT 31)) (fbo (stT 31)) (fsc (stT 31)) 3 [] Value.none Value.none Value.none (Value.str (Str.ofString "law_sn0087_01") 459) (Option.none) (Value.ref 221) Value.none 0)) #[])]
end Mine
end
section
open PySem PySem.W PyProof.Rows
namespace Mine

/-- plain data -/
inductive D where
  | none
  | bool (b : Bool)
  | int (i : Int)
  | flt (x : UInt64)
  | str (s : Str)
  | tup (l : List D)
  | lst (l : List D)
  | obj (C : Nat) (l : List (Str × D))
  | fn (a : Nat) (fd : FuncData)
  | dct (l : List (Int × Int))
  | adr (a : Addr)
  deriving Inhabited

noncomputable abbrev Zn := Addr → Option Obj
noncomputable abbrev Tk := Nat × Drawn

mutual
noncomputable def Has (Z : Zn) : D → Value → Prop
  | .none, v => v = .none
  | .bool b, v => v = .bool b
  | .int i, v => ∃ t, v = .int i t
  | .flt x, v => ∃ t, v = .float x t
  | .str x, v => ∃ t, v = .str x t
  | .adr a, v => v = .ref a
  | .tup l, v => ∃ a o vs n, v = .ref a ∧ Z a = some o ∧ o.cls = .type "tuple" ∧ o.data = .seq vs n ∧ HasL Z l vs.toList
  | .lst l, v => ∃ a o vs n, v = .ref a ∧ Z a = some o ∧ o.cls = .type "list" ∧ o.dict = none ∧ o.data = .seq vs n ∧ HasL Z l vs.toList
  | .fn a fd, v => v = .ref a ∧ ∃ ob, Z a = some ob ∧ ob.data = .func fd ∧ ∃ c oc vs t, fd.code = .ref c ∧ Z c = some oc ∧ oc.data = .fields vs ∧ vs[1]? = some (.str fd.qualname t)
  | .dct l, v => ∃ a o es ep, v = .ref a ∧ Z a = some o ∧ o.cls = .type "dict" ∧ o.data = .dict es ep ∧ (∀ e ∈ es, ∃ k t, e.key = .int k t ∧ e.hash = hashInt k) ∧ ∀ k x, l.lookup k = some x → ∃ t, findBy Value.isInt es k = some (.int x t)
  | .obj C l, v => ∃ a dx es n, v = .ref a ∧ Z a = some (instObj C dx) ∧ Z dx = some (dictOf es n) ∧ HasF Z l es
noncomputable def HasL (Z : Zn) : List D → List Value → Prop
  | [], vs => vs = []
  | d :: ds, vs => ∃ v r, vs = v :: r ∧ Has Z d v ∧ HasL Z ds r
noncomputable def HasF (Z : Zn) : List (Str × D) → List DictEntry → Prop
  | [], es => es = []
  | (x, d) :: ds, es => ∃ e r, es = e :: r ∧ (∃ t, e.key = .str x t) ∧ Has Z d e.val ∧ HasF Z ds r
end

mutual
theorem Has.mono {Z Z' : Zn} (h : ∀ a o, Z a = some o → Z' a = some o) : ∀ {d : D} {v : Value}, Has Z d v → Has Z' d v
  | .none, _, x => x
  | .bool _, _, x => x
  | .int _, _, x => x
  | .flt _, _, x => x
  | .str _, _, x => x
  | .adr _, _, x => x
  | .fn a fd, v, x => by
    unfold Has at x ⊢
    obtain ⟨e, ob, e1, e2, c, oc, vs, t, e3, e4, e5⟩ := x
    exact ⟨e, ob, h _ _ e1, e2, c, oc, vs, t, e3, h _ _ e4, e5⟩
  | .dct l, v, x => by
    unfold Has at x ⊢
    obtain ⟨a, o, es, ep, e, z, r⟩ := x
    exact ⟨a, o, es, ep, e, h _ _ z, r⟩
  | .tup l, v, x => by
    unfold Has at x ⊢
    obtain ⟨a, o, vs, n, e, z, c, d, r⟩ := x
    exact ⟨a, o, vs, n, e, h _ _ z, c, d, HasL.mono h r⟩
  | .lst l, v, x => by
    unfold Has at x ⊢
    obtain ⟨a, o, vs, n, e, z, c, dn, d, r⟩ := x
    exact ⟨a, o, vs, n, e, h _ _ z, c, dn, d, HasL.mono h r⟩
  | .obj C l, v, x => by
    unfold Has at x ⊢
    obtain ⟨a, dx, es, n, e, z, z2, r⟩ := x
    exact ⟨a, dx, es, n, e, h _ _ z, h _ _ z2, HasF.mono h r⟩
theorem HasL.mono {Z Z' : Zn} (h : ∀ a o, Z a = some o → Z' a = some o) : ∀ {l : List D} {vs : List Value}, HasL Z l vs → HasL Z' l vs
  | [], _, x => x
  | d :: ds, vs, x => by
    unfold HasL at x ⊢
    obtain ⟨v, r, e, x1, x2⟩ := x
    exact ⟨v, r, e, Has.mono h x1, HasL.mono h x2⟩
theorem HasF.mono {Z Z' : Zn} (h : ∀ a o, Z a = some o → Z' a = some o) : ∀ {l : List (Str × D)} {es : List DictEntry}, HasF Z l es → HasF Z' l es
  | [], _, x => x
  | (y, d) :: ds, es, x => by
    unfold HasF at x ⊢
    obtain ⟨e, r, q, k, x1, x2⟩ := x
    exact ⟨e, r, q, k, Has.mono h x1, HasF.mono h x2⟩
end

theorem hasL_nil {Z : Zn} : HasL Z [] [] := by unfold HasL; rfl
theorem hasL_cons {Z : Zn} {d : D} {ds : List D} {v : Value} {vs : List Value} (h : Has Z d v) (hs : HasL Z ds vs) : HasL Z (d :: ds) (v :: vs) := by
  unfold HasL; exact ⟨v, vs, rfl, h, hs⟩
theorem HasL.length {Z : Zn} : ∀ {l : List D} {vs : List Value}, HasL Z l vs → vs.length = l.length
  | [], _, x => by unfold HasL at x; subst x; rfl
  | d :: ds, vs, x => by
    unfold HasL at x
    obtain ⟨v, r, rfl, _, x2⟩ := x
    simp [HasL.length x2]
theorem HasL.get {Z : Zn} : ∀ {l : List D} {vs : List Value} (i : Nat) {d : D}, HasL Z l vs → l[i]? = some d → ∃ v, vs[i]? = some v ∧ Has Z d v
  | [], _, _, _, _, e => by simp at e
  | d :: ds, vs, 0, d', x, e => by
    unfold HasL at x
    obtain ⟨v, r, rfl, x1, x2⟩ := x
    simp at e; subst e
    exact ⟨v, rfl, x1⟩
  | d :: ds, vs, i + 1, d', x, e => by
    unfold HasL at x
    obtain ⟨v, r, rfl, x1, x2⟩ := x
    simpa using HasL.get (vs := r) i x2 (by simpa using e)
theorem HasL.append {Z : Zn} : ∀ {l l' : List D} {vs vs' : List Value}, HasL Z l vs → HasL Z l' vs' → HasL Z (l ++ l') (vs ++ vs')
  | [], _, _, _, x, y => by unfold HasL at x; subst x; exact y
  | d :: ds, l', vs, vs', x, y => by
    unfold HasL at x
    obtain ⟨v, r, rfl, x1, x2⟩ := x
    exact hasL_cons x1 (HasL.append x2 y)
theorem HasL.snoc {Z : Zn} {l : List D} {vs : List Value} {d : D} {v : Value} (h : HasL Z l vs) (h' : Has Z d v) : HasL Z (l ++ [d]) (vs ++ [v]) := h.append (hasL_cons h' hasL_nil)

/-- the two code tables of the nested defs -/
noncomputable def isTab (a : Addr) : Bool := a == 45 || a == 52

/-- what is frozen grows by objects above N alone -/
noncomputable def ZLe (N : Nat) (Z Z' : Zn) : Prop := (∀ a o, Z a = some o → Z' a = some o) ∧ ∀ a o, Z' a = some o → Z a = some o ∨ N ≤ a
theorem ZLe.refl (N : Nat) (Z : Zn) : ZLe N Z Z := ⟨fun _ _ e => e, fun _ _ e => .inl e⟩
theorem ZLe.trans {N N' : Nat} {Z Z' Z'' : Zn} (x : ZLe N Z Z') (y : ZLe N' Z' Z'') (h : N ≤ N') : ZLe N Z Z'' :=
  ⟨fun a o e => y.1 a o (x.1 a o e), fun a o e => (y.2 a o e).elim (x.2 a o) fun l => .inr (Nat.le_trans h l)⟩
theorem ZLe.tr {N : Nat} {Z Z' Z'' : Zn} (x : ZLe N Z Z') (y : ZLe N Z' Z'') : ZLe N Z Z'' := x.trans y (Nat.le_refl _)
theorem ZLe.of_le {N N' : Nat} {Z Z' : Zn} (x : ZLe N' Z Z') (h : N ≤ N') : ZLe N Z Z' := ⟨x.1, fun a o e => (x.2 a o e).imp id (Nat.le_trans h)⟩

noncomputable def Zins (Z : Zn) (a : Addr) (o : Obj) : Zn := fun b => if b = a then some o else Z b

/-- a table of a nested def's code: empty, or with the one code -/
noncomputable def TabAt (Z : Zn) (h : Heap) (P : Addr) (line col : Nat) (qual : Str) : Prop := ∃ ps, h.get? P = some (tabObj ps) ∧
  (ps = #[] ∨ ∃ c oc vs t, ps = #[rawInt line, rawInt col, .ref c] ∧ Z c = some oc ∧ oc.data = .fields vs ∧ vs[1]? = some (.str qual t))
structure TabsOk (Z : Zn) (h : Heap) : Prop where
  a : TabAt Z h 45 76 4 "_int2digits.<locals>.inner"
  b : TabAt Z h 52 91 4 "_digits2int.<locals>.inner"
theorem TabAt.mono {Z Z' : Zn} {h h' : Heap} {P : Addr} {l c : Nat} {q : Str} (x : TabAt Z h P l c q) (hz : ∀ a o, Z a = some o → Z' a = some o) (hk : ∀ o, h.get? P = some o → h'.get? P = some o) : TabAt Z' h' P l c q := by
  obtain ⟨ps, e, r⟩ := x
  exact ⟨ps, hk _ e, r.imp id fun ⟨c, oc, vs, t, e1, e2, e3, e4⟩ => ⟨c, oc, vs, t, e1, hz _ _ e2, e3, e4⟩⟩
theorem TabsOk.mono {Z Z' : Zn} {h h' : Heap} (x : TabsOk Z h) (hz : ∀ a o, Z a = some o → Z' a = some o) (hk : ∀ b o, isTab b = true → h.get? b = some o → h'.get? b = some o) : TabsOk Z' h' :=
  ⟨x.a.mono hz (hk _ · rfl), x.b.mono hz (hk _ · rfl)⟩

structure St (hB : Heap) (env : Env) (m : Str → Option Value) (Z : Zn) (own : List (Addr × Obj)) (h : Heap) : Prop where
  fr : ∃ ml, Fr hB env.locals h ml ∧ ∀ x, env.kindOf x = some .local → ml x = m x
  cel : ∀ x c, env.cells.lookup x = some c → h.IsCell c (m x)
  zin : ∀ a o, Z a = some o → h.get? a = some o
  zhi : ∀ a o, Z a = some o → isTab a = false
  zL : Z env.locals = none
  zc : ∀ x c, env.cells.lookup x = some c → Z c = none
  oin : ∀ p ∈ own, h.get? p.1 = some p.2
  oZ : ∀ p ∈ own, Z p.1 = none
  oB : ∀ p ∈ own, hB.get? p.1 = none
  oL : ∀ p ∈ own, p.1 ≠ env.locals
  oc : ∀ p ∈ own, ∀ x c, env.cells.lookup x = some c → c ≠ p.1
  ohi : ∀ p ∈ own, isTab p.1 = false
  ond : (own.map (·.1)).Nodup
  Lhi : isTab env.locals = false
  chi : ∀ x c, env.cells.lookup x = some c → isTab c = false
  cL : ∀ x c, env.cells.lookup x = some c → c ≠ env.locals
  tB : ∀ a, isTab a = true → hB.get? a = none
  tab : TabsOk Z h

section
variable {hB : Heap} {env : Env} {m : Str → Option Value} {Z : Zn} {own : List (Addr × Obj)} {h h' : Heap}

theorem isCell_at {h h' : Heap} {c : Addr} {v : Option Value} (x : h.IsCell c v) (hk : ∀ o, h.get? c = some o → h'.get? c = some o) : h'.IsCell c v :=
  let ⟨o, ho, hd⟩ := x; ⟨o, hk o ho, hd⟩

/-- an address of no standing part of the state -/
structure Free (hB : Heap) (env : Env) (Z : Zn) (own : List (Addr × Obj)) (a : Addr) : Prop where
  B : hB.get? a = none
  L : a ≠ env.locals
  c : ∀ x c, env.cells.lookup x = some c → c ≠ a
  z : Z a = none
  o : ∀ p ∈ own, p.1 ≠ a
  hi : isTab a = false

theorem St.sizeB (S : St hB env m Z own h) : hB.objs.size ≤ env.locals := let ⟨_, F, _⟩ := S.fr; F.above
theorem St.keep (S : St hB env m Z own h) : ∀ b o, hB.get? b = some o → h.get? b = some o := let ⟨_, F, _⟩ := S.fr; F.keep
theorem St.ltL (S : St hB env m Z own h) : env.locals < h.objs.size := let ⟨_, F, _⟩ := S.fr; F.ns.lt
theorem St.leB (S : St hB env m Z own h) : hB.objs.size ≤ h.objs.size := Nat.le_trans S.sizeB (Nat.le_of_lt S.ltL)
theorem St.noTab (S : St hB env m Z own h) {a : Addr} (ha : h.get? a = none) : isTab a = false := by
  cases q : isTab a with
  | false => rfl
  | true =>
    unfold isTab at q
    simp only [Bool.or_eq_true, beq_iff_eq] at q
    rcases q with rfl | rfl
    · obtain ⟨ps, e, _⟩ := S.tab.a; rw [ha] at e; cases e
    · obtain ⟨ps, e, _⟩ := S.tab.b; rw [ha] at e; cases e

theorem St.free_new (S : St hB env m Z own h) {a : Addr} (ha : h.objs.size ≤ a) : Free hB env Z own a where
  B := by
    cases e : hB.get? a with
    | none => rfl
    | some o => exact absurd (Heap.lt_size (S.keep _ _ e)) (Nat.not_lt.mpr ha)
  L := Nat.ne_of_gt (Nat.lt_of_lt_of_le S.ltL ha)
  c := fun x c e => Nat.ne_of_lt (Nat.lt_of_lt_of_le (S.cel x c e).lt ha)
  z := by
    cases e : Z a with
    | none => rfl
    | some o => exact absurd (Heap.lt_size (S.zin _ _ e)) (Nat.not_lt.mpr ha)
  o := fun p hp => Nat.ne_of_lt (Nat.lt_of_lt_of_le (Heap.lt_size (S.oin p hp)) ha)
  hi := S.noTab (by
    cases e : h.get? a with
    | none => rfl
    | some o => exact absurd (Heap.lt_size e) (Nat.not_lt.mpr ha))

/-- a change at free places alone, the tables' facts kept -/
theorem St.ext (S : St hB env m Z own h) (X : Addr → Prop) (hX : ∀ a, X a → Free hB env Z own a) (hk : ∀ b o, ¬ X b → h.get? b = some o → h'.get? b = some o) : St hB env m Z own h' where
  fr := by
    obtain ⟨ml, F, e⟩ := S.fr
    exact ⟨ml, ⟨F.ns.at' fun o q => hk _ o (fun x => (hX _ x).L rfl) q, fun b o q => hk b o (fun x => by rw [(hX _ x).B] at q; cases q) (F.keep b o q), F.above⟩, e⟩
  cel := fun x c e => isCell_at (S.cel x c e) fun o q => hk c o (fun y => (hX _ y).c x c e rfl) q
  zin := fun a o e => hk a o (fun y => by rw [(hX _ y).z] at e; cases e) (S.zin a o e)
  zhi := S.zhi
  zL := S.zL
  zc := S.zc
  oin := fun p hp => hk _ _ (fun y => (hX _ y).o p hp rfl) (S.oin p hp)
  oZ := S.oZ
  oB := S.oB
  oL := S.oL
  oc := S.oc
  ohi := S.ohi
  ond := S.ond
  Lhi := S.Lhi
  chi := S.chi
  cL := S.cL
  tB := S.tB
  tab := S.tab.mono (fun _ _ e => e) fun b o l e => hk b o (fun x => by rw [(hX _ x).hi] at l; cases l) e

theorem St.ext0 (S : St hB env m Z own h) (hk : ∀ b o, h.get? b = some o → h'.get? b = some o) : St hB env m Z own h' :=
  S.ext (fun _ => False) (fun _ x => x.elim) (fun b o _ e => hk b o e)

/-- freezing an object at a place that is free (or freshly laid) -/
theorem St.freeze (S : St hB env m Z own h) {a : Addr} {o : Obj} (hf : Free hB env Z own a) (ho : h.get? a = some o) : St hB env m (Zins Z a o) own h where
  fr := S.fr
  cel := S.cel
  zin := fun b o' e => by
    unfold Zins at e
    by_cases q : b = a
    · subst q; rw [if_pos rfl] at e; cases e; exact ho
    · rw [if_neg q] at e; exact S.zin b o' e
  zhi := fun b o' e => by
    unfold Zins at e
    by_cases q : b = a
    · subst q; exact hf.hi
    · rw [if_neg q] at e; exact S.zhi b o' e
  zL := by unfold Zins; rw [if_neg (Ne.symm hf.L)]; exact S.zL
  zc := fun x c e => by unfold Zins; rw [if_neg (hf.c x c e)]; exact S.zc x c e
  oin := S.oin
  oZ := fun p hp => by unfold Zins; rw [if_neg (hf.o p hp)]; exact S.oZ p hp
  oB := S.oB
  oL := S.oL
  oc := S.oc
  ohi := S.ohi
  ond := S.ond
  Lhi := S.Lhi
  chi := S.chi
  cL := S.cL
  tB := S.tB
  tab := S.tab.mono (fun b o' e => by unfold Zins; rw [if_neg (fun q => by rw [q, hf.z] at e; cases e)]; exact e) fun _ _ _ e => e

theorem ZLe.ins {N : Nat} {Z : Zn} {a : Addr} {o : Obj} (hz : Z a = none) (ha : N ≤ a) : ZLe N Z (Zins Z a o) :=
  ⟨fun b o' e => by unfold Zins; rw [if_neg (fun q => by rw [q, hz] at e; cases e)]; exact e, fun b o' e => by
    unfold Zins at e
    by_cases q : b = a
    · subst q; exact .inr ha
    · rw [if_neg q] at e; exact .inl e⟩
theorem Zins_self {Z : Zn} {a : Addr} {o : Obj} : Zins Z a o a = some o := by unfold Zins; rw [if_pos rfl]

/-- laying an own object -/
theorem St.takeOwn (S : St hB env m Z own h) {a : Addr} {o : Obj} (hf : Free hB env Z own a) (ho : h.get? a = some o) : St hB env m Z ((a, o) :: own) h where
  fr := S.fr
  cel := S.cel
  zin := S.zin
  zhi := S.zhi
  zL := S.zL
  zc := S.zc
  oin := fun p hp => by rcases List.mem_cons.mp hp with rfl | hp; exact ho; exact S.oin p hp
  oZ := fun p hp => by rcases List.mem_cons.mp hp with rfl | hp; exact hf.z; exact S.oZ p hp
  oB := fun p hp => by rcases List.mem_cons.mp hp with rfl | hp; exact hf.B; exact S.oB p hp
  oL := fun p hp => by rcases List.mem_cons.mp hp with rfl | hp; exact hf.L; exact S.oL p hp
  oc := fun p hp => by rcases List.mem_cons.mp hp with rfl | hp; exact hf.c; exact S.oc p hp
  ohi := fun p hp => by rcases List.mem_cons.mp hp with rfl | hp; exact hf.hi; exact S.ohi p hp
  ond := by
    rw [List.map_cons]
    refine List.nodup_cons.mpr ⟨fun hm => ?_, S.ond⟩
    obtain ⟨p, hp, e⟩ := List.mem_map.mp hm
    exact hf.o p hp e
  Lhi := S.Lhi
  chi := S.chi
  cL := S.cL
  tB := S.tB
  tab := S.tab

/-- forgetting own objects -/
theorem St.dropOwn {own' : List (Addr × Obj)} (S : St hB env m Z own h) (hs : own'.Sublist own) : St hB env m Z own' h where
  fr := S.fr
  cel := S.cel
  zin := S.zin
  zhi := S.zhi
  zL := S.zL
  zc := S.zc
  oin := fun p hp => S.oin p (hs.subset hp)
  oZ := fun p hp => S.oZ p (hs.subset hp)
  oB := fun p hp => S.oB p (hs.subset hp)
  oL := fun p hp => S.oL p (hs.subset hp)
  oc := fun p hp => S.oc p (hs.subset hp)
  ohi := fun p hp => S.ohi p (hs.subset hp)
  ond := (hs.map _).nodup S.ond
  Lhi := S.Lhi
  chi := S.chi
  cL := S.cL
  tB := S.tB
  tab := S.tab
end
end Mine
end
section
open PySem PySem.W PyProof.Rows PySem.Flt
namespace Mine

noncomputable def sm (a : Int) : Bool := decide (a.natAbs < 18446744073709551616)
theorem sm_lt {a : Int} (h : sm a = true) : a.natAbs < 2 ^ 64 := by
  have := of_decide_eq_true h
  simpa using this
theorem sm_bits {a : Int} (h : sm a = true) : Builtin.Int.intBits a ≤ 64 := by
  have := sm_lt h
  exact intBits_le_64 (by omega) (by omega)

/-! the operations on data -/
noncomputable def szOk {α : Type} (l : List α) : Bool := decide (l.length ≤ 100000)

noncomputable def binI (op : Operator) (a b : Int) : Option D := match op with
  | .Add => some (.int (a + b))
  | .Sub => some (.int (a - b))
  | .Mult => if sm a then some (.int (a * b)) else none
  | .FloorDiv => if b ≠ 0 ∧ sm b = true then some (.int (a.fdiv b)) else none
  | .Mod => if b ≠ 0 then some (.int (a.fmod b)) else none
  | .RShift => if 0 ≤ b then some (.int (a.fdiv (2 ^ b.toNat))) else none
  | .LShift => if 0 ≤ b ∧ b ≤ 1000000 ∧ sm a = true then some (.int (a * 2 ^ b.toNat)) else none
  | .Pow => if 0 ≤ b ∧ b ≤ 1000000 ∧ sm a = true then some (.int (a ^ b.toNat)) else none
  | .BitAnd => some (.int (Builtin.bitAnd a b))
  | .BitOr => some (.int (Builtin.bitOr a b))
  | .BitXor => some (.int (Builtin.bitXor a b))
  | .Div => if b ≠ 0 ∧ sm a = true ∧ Float64.isInf (Float64.ofFrac (decide (a < 0) != decide (b < 0)) a.natAbs b.natAbs) = false then some (.flt (Float64.ofFrac (decide (a < 0) != decide (b < 0)) a.natAbs b.natAbs)) else none
  | _ => none
noncomputable def binFl (op : Operator) (a b : UInt64) : Option D := match op with
  | .Add => some (.flt (Float64.add a b))
  | .Sub => some (.flt (Float64.sub a b))
  | .Mult => some (.flt (Float64.mul a b))
  | .Div => if Float64.isZero b = false then some (.flt (Float64.div a b)) else none
  | .Mod => if Float64.isZero b = false then some (.flt (Float64.divmod a b).2) else none
  | _ => none
noncomputable def binFI (op : Operator) (a : UInt64) (b : Int) : Option D := match op with
  | .Mult => if sm b then some (.flt (Float64.mul a (Float64.ofInt b))) else none
  | _ => none
noncomputable def binS (op : Operator) (a b : Str) : Option D := match op with
  | .Add => if a.length + b.length ≤ 100000 then some (.str (a ++ b)) else none
  | _ => none
noncomputable def binD (op : Operator) (x y : D) : Option D := match x with
  | .int a => (match y with | .int b => binI op a b | _ => none)
  | .flt a => (match y with | .flt b => binFl op a b | .int b => binFI op a b | _ => none)
  | .str a => (match y with | .str b => binS op a b | _ => none)
  | _ => none

noncomputable def unD : UnaryOp → D → Option D
  | .USub, .int a => some (.int (-a))
  | .Invert, .int a => some (.int (Builtin.bitNot a))
  | _, _ => none

mutual
noncomputable def D.py : D → Option PyData
  | .none => some .none
  | .bool b => some (.bool b)
  | .int i => some (.int i)
  | .tup l => (pyL l).map .tuple
  | .lst l => (pyL l).map .list
  | _ => Option.none
noncomputable def pyL : List D → Option (List PyData)
  | [] => some []
  | d :: r => match d.py, pyL r with
    | some p, some q => some (p :: q)
    | _, _ => Option.none
end

noncomputable def eqD (a b : D) : Option Bool := match a, b with
  | .int x, .int y => some (x == y)
  | .str x, .str y => some (x == y)
  | .flt x, .flt y => some (Float64.cmp x y == some Ordering.eq)
  | .bool x, .bool y => some (x == y)
  | .tup _, _ | .lst _, _ => (match a.py, b.py with
    | some p, some q => if SeqAt.shaped p && SeqAt.shaped q then some (PyData.eqv p q) else Option.none
    | _, _ => Option.none)
  | _, _ => Option.none

noncomputable def inD (x c : D) : Option Bool := match c with
  | .lst l => (match x.py, pyL l with
    | some p, some q => if SeqAt.shaped p && SeqAt.shaped (.list q) then some (q.any fun y => PyData.eqv y p) else Option.none
    | _, _ => Option.none)
  | _ => Option.none

noncomputable def noFS : D → Bool
  | .flt _ | .str _ => false
  | _ => true

noncomputable def cmpI (op : CmpOp) (a b : Int) : Option Bool := match op with
  | .Lt => some (decide (a < b))
  | .LtE => some (decide (a ≤ b))
  | .Gt => some (decide (b < a))
  | .GtE => some (decide (b ≤ a))
  | _ => Option.none
noncomputable def cmpFl (op : CmpOp) (a b : UInt64) : Option Bool := match op with
  | .Lt => some (Float64.cmp a b == some Ordering.lt)
  | .LtE => some (Float64.cmp a b == some Ordering.lt || Float64.cmp a b == some Ordering.eq)
  | _ => Option.none
noncomputable def cmpO (op : CmpOp) (x y : D) : Option Bool := match x with
  | .int a => (match y with | .int b => cmpI op a b | _ => Option.none)
  | .flt a => (match y with | .flt b => cmpFl op a b | _ => Option.none)
  | _ => Option.none
noncomputable def cmpD (op : CmpOp) (a b : D) : Option Bool := match op with
  | .Eq => eqD a b
  | .NotEq => if noFS a then (eqD a b).map not else Option.none
  | .In => inD a b
  | .NotIn => (inD a b).map not
  | op => cmpO op a b

noncomputable def truD : D → Option Bool
  | .bool b => some b
  | .int i => some (i != 0)
  | .none => some false
  | .lst l => if szOk l then some (!l.isEmpty) else Option.none
  | _ => Option.none

section
variable {prog : Program} {w : World} {A : Around} {E : Value → Shared → Prop} {s : Shared} {Z : Zn}

theorem has_int {i : Int} {v : Value} (h : Has Z (.int i) v) : ∃ t, v = .int i t := by unfold Has at h; exact h
theorem has_flt {i : UInt64} {v : Value} (h : Has Z (.flt i) v) : ∃ t, v = .float i t := by unfold Has at h; exact h
theorem has_str {i : Str} {v : Value} (h : Has Z (.str i) v) : ∃ t, v = .str i t := by unfold Has at h; exact h
theorem has_bool {i : Bool} {v : Value} (h : Has Z (.bool i) v) : v = .bool i := by unfold Has at h; exact h
theorem has_none {v : Value} (h : Has Z .none v) : v = .none := by unfold Has at h; exact h
theorem mkI (i : Int) (t : Tok) : Has Z (.int i) (.int i t) := by unfold Has; exact ⟨t, rfl⟩
theorem mkF (i : UInt64) (t : Tok) : Has Z (.flt i) (.float i t) := by unfold Has; exact ⟨t, rfl⟩
theorem mkS (i : Str) (t : Tok) : Has Z (.str i) (.str i t) := by unfold Has; exact ⟨t, rfl⟩
theorem mkB (i : Bool) : Has Z (.bool i) (.bool i) := by unfold Has; rfl
theorem mkN : Has Z .none .none := by unfold Has; rfl

set_option exponentiation.threshold 2000 in
theorem binI_sound {op : Operator} {a b : Int} {t u : Nat} {d : D} {Q : Value → Shared → Prop} (hh : A.handled = none) (h : binI op a b = some d)
    (hq : ∀ v tk, Has Z d v → Q v { s with toks := tk }) : wpAny (model prog w) A (binaryOp op (.int a t) (.int b u)) Q E s := by
  unfold binI at h
  split at h
  · cases h; exact add_int (hq _ _ (mkI _ _))
  · cases h; exact sub_int (hq _ _ (mkI _ _))
  · split at h
    · cases h; rename_i q; exact mul_int (hq _ _ (mkI _ _)) (IntMulOk.of_left (sm_bits q))
    · cases h
  · split at h
    · cases h; rename_i q
      refine floordiv_int q.1 (hq _ _ (mkI _ _)) (.inl (PyProof.noPylong_of_log2 ?_))
      have := sm_lt q.2
      exact Nat.lt_trans (PySem.W.ZRun.log2_lt64 _ (by simpa using this)) (by decide)
    · cases h
  · split at h
    · cases h; rename_i q; exact mod_int' q (hq _ _ (mkI _ _))
    · cases h
  · split at h
    · cases h; rename_i q; exact rshift_int q (hq _ _ (mkI _ _))
    · cases h
  · split at h
    · cases h; rename_i q; exact lshift_int_small q.1 q.2.1 (sm_lt q.2.2) (hq _ _ (mkI _ _))
    · cases h
  · split at h
    · cases h; rename_i q; exact pow_int_small q.1 q.2.1 (sm_lt q.2.2) (hq _ _ (mkI _ _))
    · cases h
  · cases h; exact and_int (hq _ _ (mkI _ _))
  · cases h; exact or_int (hq _ _ (mkI _ _))
  · cases h; exact xor_int (hq _ _ (mkI _ _))
  · split at h
    · cases h; rename_i q
      exact div_ii hh (fun e => absurd e q.1) (fun _ e => by rw [q.2.2] at e; cases e) (fun _ _ => hq _ _ (mkF _ _))
    · cases h
  · cases h
theorem binFl_sound {op : Operator} {a b : UInt64} {t u : Nat} {d : D} {Q : Value → Shared → Prop} (hh : A.handled = none) (h : binFl op a b = some d)
    (hq : ∀ v tk, Has Z d v → Q v { s with toks := tk }) : wpAny (model prog w) A (binaryOp op (.float a t) (.float b u)) Q E s := by
  unfold binFl at h
  split at h
  · cases h; exact add_float (hq _ _ (mkF _ _))
  · cases h; exact sub_float (hq _ _ (mkF _ _))
  · cases h; exact mul_float (hq _ _ (mkF _ _))
  · split at h
    · cases h; rename_i q
      exact truediv_float_or hh (fun e => by rw [q] at e; cases e) (fun _ => hq _ _ (mkF _ _))
    · cases h
  · split at h
    · cases h; rename_i q
      exact mod_ff hh (fun e => by rw [q] at e; cases e) (fun _ => hq _ _ (mkF _ _))
    · cases h
  · cases h
set_option exponentiation.threshold 2000 in
theorem binFI_sound {op : Operator} {a : UInt64} {b : Int} {t u : Nat} {d : D} {Q : Value → Shared → Prop} (h : binFI op a b = some d)
    (hq : ∀ v tk, Has Z d v → Q v { s with toks := tk }) : wpAny (model prog w) A (binaryOp op (.float a t) (.int b u)) Q E s := by
  unfold binFI at h
  split at h
  · split at h
    · rename_i q
      have e := Option.some.inj h
      subst e
      exact mul_fi_fits (Nat.lt_trans (sm_lt q) (Nat.pow_lt_pow_right (by decide) (by decide))) (hq _ _ (mkF _ _))
    · cases h
  · cases h
theorem binS_sound {op : Operator} {a b : Str} {t u : Nat} {d : D} {Q : Value → Shared → Prop} (h : binS op a b = some d)
    (hq : ∀ v tk, Has Z d v → Q v { s with toks := tk }) : wpAny (model prog w) A (binaryOp op (.str a t) (.str b u)) Q E s := by
  unfold binS at h
  split at h
  · split at h
    · cases h; rename_i q
      exact SB.add (fun _ _ => hq _ _ (mkS _ _)) (Nat.le_trans q (by decide))
    · cases h
  · cases h
theorem none_ne {α : Type} {d : α} {P : Prop} (h : (none : Option α) = some d) : P := nomatch h
theorem binD_sound {op : Operator} {a b d : D} {va vb : Value} {Q : Value → Shared → Prop} (hh : A.handled = none) (h : binD op a b = some d) (ha : Has Z a va) (hb : Has Z b vb)
    (hq : ∀ v tk, Has Z d v → Q v { s with toks := tk }) : wpAny (model prog w) A (binaryOp op va vb) Q E s := by
  cases a with
  | int x => cases b with
    | int y =>
      obtain ⟨t, rfl⟩ := has_int ha; obtain ⟨u, rfl⟩ := has_int hb
      unfold binD at h
      dsimp only at h
      exact (binI_sound (prog := prog) (w := w) (A := A) (E := E) (s := s) (Q := Q) (t := t) (u := u) hh h hq :)
    | _ => exact none_ne h
  | flt x => cases b with
    | flt y =>
      obtain ⟨t, rfl⟩ := has_flt ha; obtain ⟨u, rfl⟩ := has_flt hb
      unfold binD at h
      dsimp only at h
      exact (binFl_sound (prog := prog) (w := w) (A := A) (E := E) (s := s) (Q := Q) (t := t) (u := u) hh h hq :)
    | int y =>
      obtain ⟨t, rfl⟩ := has_flt ha; obtain ⟨u, rfl⟩ := has_int hb
      unfold binD at h
      dsimp only at h
      exact (binFI_sound (prog := prog) (w := w) (A := A) (E := E) (s := s) (Q := Q) (t := t) (u := u) h hq :)
    | _ => exact none_ne h
  | str x => cases b with
    | str y =>
      obtain ⟨t, rfl⟩ := has_str ha; obtain ⟨u, rfl⟩ := has_str hb
      unfold binD at h
      dsimp only at h
      exact (binS_sound (prog := prog) (w := w) (A := A) (E := E) (s := s) (Q := Q) (t := t) (u := u) h hq :)
    | _ => exact none_ne h
  | _ => exact none_ne h

theorem unD_sound {op : UnaryOp} {a d : D} {va : Value} {Q : Value → Shared → Prop} (h : unD op a = some d) (ha : Has Z a va)
    (hq : ∀ v tk, Has Z d v → Q v { s with toks := tk }) : wpAny (model prog w) A (unaryOp op va) Q E s := by
  unfold unD at h
  split at h
  · obtain ⟨t, rfl⟩ := has_int ha; cases h; exact neg_int (hq _ _ (mkI _ _))
  · obtain ⟨t, rfl⟩ := has_int ha; cases h; exact invert_int (hq _ _ (mkI _ _))
  · cases h
end
end Mine
end
section
open PySem PySem.W PyProof.Rows PySem.Flt
namespace Mine

section
variable {Z : Zn} {h : Heap}
mutual
theorem has_reads (hz : ∀ a o, Z a = some o → h.get? a = some o) : ∀ {d : D} {v : Value} {p : PyData}, Has Z d v → d.py = some p → ∃ as, Reads h v p as
  | .none, v, p, x, e => by unfold D.py at e; cases e; have := has_none x; subst this; exact ⟨_, .none⟩
  | .bool b, v, p, x, e => by unfold D.py at e; cases e; have := has_bool x; subst this; exact ⟨_, .bool b⟩
  | .int i, v, p, x, e => by unfold D.py at e; cases e; obtain ⟨t, rfl⟩ := has_int x; exact ⟨_, .int i t⟩
  | .flt _, _, _, _, e => by unfold D.py at e; cases e
  | .str _, _, _, _, e => by unfold D.py at e; cases e
  | .obj _ _, _, _, _, e => by unfold D.py at e; cases e
  | .fn _ _, _, _, _, e => by unfold D.py at e; cases e
  | .dct _, _, _, _, e => by unfold D.py at e; cases e
  | .adr _, _, _, _, e => by unfold D.py at e; cases e
  | .tup l, v, p, x, e => by
    unfold D.py at e
    obtain ⟨q, e1, rfl⟩ := Option.map_eq_some_iff.mp e
    unfold Has at x
    obtain ⟨a, o, vs, n, rfl, z, c, dt, r⟩ := x
    obtain ⟨as, ra⟩ := has_readsL hz r e1
    exact ⟨_, Reads.tuple (hz _ _ z) c dt ra⟩
  | .lst l, v, p, x, e => by
    unfold D.py at e
    obtain ⟨q, e1, rfl⟩ := Option.map_eq_some_iff.mp e
    unfold Has at x
    obtain ⟨a, o, vs, n, rfl, z, c, dn, dt, r⟩ := x
    obtain ⟨as, ra⟩ := has_readsL hz r e1
    exact ⟨_, Reads.list (hz _ _ z) c dt ra⟩
theorem has_readsL (hz : ∀ a o, Z a = some o → h.get? a = some o) : ∀ {l : List D} {vs : List Value} {p : List PyData}, HasL Z l vs → pyL l = some p → ∃ as, ReadsAll h vs p as
  | [], vs, p, x, e => by unfold pyL at e; cases e; unfold HasL at x; subst x; exact ⟨_, .nil⟩
  | d :: r, vs, p, x, e => by
    unfold pyL at e
    unfold HasL at x
    obtain ⟨v, r', rfl, x1, x2⟩ := x
    split at e
    · rename_i p1 p2 e1 e2
      cases e
      obtain ⟨as, ra⟩ := has_reads hz x1 e1
      obtain ⟨bs, rb⟩ := has_readsL hz x2 e2
      exact ⟨_, .cons ra rb⟩
    · cases e
end
end

section
variable {prog : Program} {w : World} {A : Around} {E : Value → Shared → Prop} {s : Shared} {Z : Zn}

theorem eqD_sound {a b : D} {va vb : Value} {c : Bool} {Q : Value → Shared → Prop} (hu : A.units + 100 < cLine) (hz : ∀ a o, Z a = some o → s.heap.get? a = some o) (h : eqD a b = some c) (ha : Has Z a va) (hb : Has Z b vb)
    (hq : Q (.bool c) s) : wpAny (model prog w) A (compareOp .Eq va vb) Q E s := by
  unfold eqD at h
  split at h
  · obtain ⟨t, rfl⟩ := has_int ha; obtain ⟨u, rfl⟩ := has_int hb; cases h; exact eq_int hq
  · obtain ⟨t, rfl⟩ := has_str ha; obtain ⟨u, rfl⟩ := has_str hb; cases h; exact PyProof.Rows.eq_str hq
  · obtain ⟨t, rfl⟩ := has_flt ha; obtain ⟨u, rfl⟩ := has_flt hb; cases h; exact AutoFloatOps.eq_0 hq
  · have := has_bool ha; subst this; have := has_bool hb; subst this; cases h; exact eq_bool hq
  all_goals first
    | (split at h
       · rename_i p q e1 e2
         split at h
         · rename_i e3
           cases h
           obtain ⟨as, ra⟩ := has_reads hz ha e1
           obtain ⟨bs, rb⟩ := has_reads hz hb e2
           have e4 := Bool.and_eq_true_iff.mp e3
           exact eq_dataH ra rb e4.1 e4.2 (by omega) hq
         · cases h
       · cases h)
    | cases h

theorem neD_sound {a b : D} {va vb : Value} {c : Bool} {Q : Value → Shared → Prop} (hu : A.units + 100 < cLine) (hz : ∀ a o, Z a = some o → s.heap.get? a = some o) (h : eqD a b = some c) (hf : ∀ x, a ≠ .flt x) (hs : ∀ x, a ≠ .str x) (ha : Has Z a va) (hb : Has Z b vb)
    (hq : Q (.bool (!c)) s) : wpAny (model prog w) A (compareOp .NotEq va vb) Q E s := by
  unfold eqD at h
  split at h
  · obtain ⟨t, rfl⟩ := has_int ha; obtain ⟨u, rfl⟩ := has_int hb; cases h; exact ne_int hq
  · exact absurd rfl (hs _)
  · exact absurd rfl (hf _)
  · have := has_bool ha; subst this; have := has_bool hb; subst this; cases h; exact ne_bool hq
  all_goals first
    | (split at h
       · rename_i p q e1 e2
         split at h
         · rename_i e3
           cases h
           obtain ⟨as, ra⟩ := has_reads hz ha e1
           obtain ⟨bs, rb⟩ := has_reads hz hb e2
           have e4 := Bool.and_eq_true_iff.mp e3
           exact ne_dataH ra rb e4.1 e4.2 (by omega) hq
         · cases h
       · cases h)
    | cases h

theorem inD_sound {a b : D} {va vb : Value} {c : Bool} {Q : Value → Shared → Prop} (hu : A.units + 100 < cLine) (hz : ∀ a o, Z a = some o → s.heap.get? a = some o) (h : inD a b = some c) (ha : Has Z a va) (hb : Has Z b vb) :
    (Q (.bool c) s → wpAny (model prog w) A (compareOp .In va vb) Q E s) ∧ (Q (.bool (!c)) s → wpAny (model prog w) A (compareOp .NotIn va vb) Q E s) := by
  unfold inD at h
  split at h
  · rename_i l
    split at h
    · rename_i p q e1 e2
      split at h
      · rename_i e3
        cases h
        obtain ⟨as, ra⟩ := has_reads hz ha e1
        have e5 : (D.lst l).py = some (.list q) := by unfold D.py; rw [e2]; rfl
        obtain ⟨bs, rb⟩ := has_reads hz hb e5
        have e4 := Bool.and_eq_true_iff.mp e3
        have d1 := SeqAt.canLay_of_shaped e4.1
        have d2 := SeqAt.canLay_of_shaped e4.2
        have d3 := SeqAt.depth_of_shaped e4.1
        have hu' : A.units + 1 + min (PyData.depthAll q) p.depth < cLine := by
          have := Nat.min_le_right (PyData.depthAll q) p.depth
          omega
        exact ⟨fun hq => SeqAt.in_list_reads rb ra d2 d1 hu' hq, fun hq => SeqAt.notIn_list_reads rb ra d2 d1 hu' hq⟩
      · cases h
    · cases h
  · cases h

theorem cmpD_sound {op : CmpOp} {a b : D} {va vb : Value} {c : Bool} {Q : Value → Shared → Prop} (hu : A.units + 100 < cLine) (hz : ∀ a o, Z a = some o → s.heap.get? a = some o) (h : cmpD op a b = some c) (ha : Has Z a va) (hb : Has Z b vb)
    (hq : Q (.bool c) s) : wpAny (model prog w) A (compareOp op va vb) Q E s := by
  unfold cmpD at h
  split at h
  · exact eqD_sound hu hz h ha hb hq
  · split at h
    · rename_i x1
      obtain ⟨c', e, rfl⟩ := Option.map_eq_some_iff.mp h
      exact neD_sound hu hz e (fun x e => by rw [e] at x1; cases x1) (fun x e => by rw [e] at x1; cases x1) ha hb hq
    · cases h
  · exact (inD_sound hu hz h ha hb).1 hq
  · obtain ⟨c', e, rfl⟩ := Option.map_eq_some_iff.mp h
    exact (inD_sound hu hz e ha hb).2 hq
  · unfold cmpO at h
    split at h
    · split at h
      · obtain ⟨t, rfl⟩ := has_int ha; obtain ⟨u, rfl⟩ := has_int hb
        unfold cmpI at h
        split at h
        · cases h; exact lt_int hq
        · cases h; exact le_int hq
        · cases h; exact gt_int hq
        · cases h; exact ge_int hq
        · cases h
      · cases h
    · split at h
      · obtain ⟨t, rfl⟩ := has_flt ha; obtain ⟨u, rfl⟩ := has_flt hb
        unfold cmpFl at h
        split at h
        · cases h; exact AutoFloatOps.lt_0 hq
        · cases h; exact AutoFloatOps.le_0 hq
        · cases h
      · cases h
    · cases h

theorem truD_sound {a : D} {va : Value} {c : Bool} {Q : Bool → Shared → Prop} (hz : ∀ a o, Z a = some o → s.heap.get? a = some o) (h : truD a = some c) (ha : Has Z a va)
    (hq : ∀ tk, Q c { s with toks := tk }) : wpAny (model prog w) A (truthy va) Q E s := by
  unfold truD at h
  split at h
  · have := has_bool ha; subst this; cases h; exact wpAny_truthy_bool (hq s.toks)
  · obtain ⟨t, rfl⟩ := has_int ha; cases h; exact truthy_int (hq s.toks)
  · have := has_none ha; subst this; cases h; exact truthy_none (hq s.toks)
  · split at h
    · rename_i l e
      cases h
      unfold Has at ha
      obtain ⟨a, o, vs, n, rfl, z, cc, dn, dt, r⟩ := ha
      have el := r.length
      have e' := of_decide_eq_true e
      have es : vs.toList.length = vs.size := by simp
      refine wpAny_truthy_list ⟨_, hz _ _ z, cc, n, dt⟩ (by omega) ?_
      have : (!vs.isEmpty) = !l.isEmpty := by
        unfold Array.isEmpty
        cases l with
        | nil => simp at el; simp [el]
        | cons x y =>
          have : vs.size ≠ 0 := by rw [← es, el]; simp
          simp [this]
      rw [this]
      exact hq _
    · cases h
  · cases h
end
end Mine
end
section
open PySem PySem.W PyProof.Rows PySem.Flt
namespace Mine

/-- a local's content: a frozen value, or an object that this frame alone holds -/
inductive Vr where
  | val (d : D)
  | lst (l : List D)
  | bor (l : List D)
  | raw (P : Obj → Prop)
  | itr (l : List D) (i : Nat)

noncomputable abbrev Loc := List (Str × Vr)

noncomputable def OwnIs (Z : Zn) : Vr → Obj → Prop
  | .val _, _ => False
  | .lst l, o => ∃ vs n, o.cls = .type "list" ∧ o.dict = none ∧ o.data = .seq vs n ∧ HasL Z l vs.toList
  | .bor l, o => ∃ vs n, o.cls = .type "list" ∧ o.dict = none ∧ o.data = .seq vs n ∧ HasL Z l vs.toList
  | .raw P, o => P o
  | .itr l i, o => ∃ a lo vs n, o.cls = .type "list_iterator" ∧ o.data = .fields #[.ref a, .int i 0] ∧ Z a = some lo ∧ lo.cls = .type "list" ∧ lo.data = .seq vs n ∧ HasL Z l vs.toList
theorem OwnIs.mono {Z Z' : Zn} (h : ∀ a o, Z a = some o → Z' a = some o) {v : Vr} {o : Obj} (x : OwnIs Z v o) : OwnIs Z' v o := by
  cases v with
  | val d => exact x
  | lst l => obtain ⟨vs, n, e, e2, e3, r⟩ := x; exact ⟨vs, n, e, e2, e3, r.mono h⟩
  | bor l => obtain ⟨vs, n, e, e2, e3, r⟩ := x; exact ⟨vs, n, e, e2, e3, r.mono h⟩
  | raw P => exact x
  | itr l i => obtain ⟨a, lo, vs, n, e1, e2, e3, e4, e5, e6⟩ := x; exact ⟨a, lo, vs, n, e1, e2, h _ _ e3, e4, e5, e6.mono h⟩
noncomputable def isOwn : Vr → Bool
  | .val _ => false
  | _ => true

noncomputable def isBor : Vr → Bool
  | .bor _ => true
  | _ => false

/-- what the locals hold; an own object that is not borrowed stands at lo or above -/
structure LocOk (lo : Nat) (m : Str → Option Value) (Z : Zn) (own : List (Addr × Obj)) (L : Loc) : Prop where
  v : ∀ x d, L.lookup x = some (.val d) → ∃ v, m x = some v ∧ Has Z d v
  o : ∀ x r, L.lookup x = some r → isOwn r = true → ∃ a ob, m x = some (.ref a) ∧ (a, ob) ∈ own ∧ OwnIs Z r ob
  b : ∀ x r a, L.lookup x = some r → isOwn r = true → isBor r = false → m x = some (.ref a) → lo ≤ a
  i : ∀ x y r r' a, L.lookup x = some r → isOwn r = true → L.lookup y = some r' → isOwn r' = true → m x = some (.ref a) → m y = some (.ref a) → x = y
theorem LocOk.mono {lo : Nat} {m : Str → Option Value} {Z Z' : Zn} {own : List (Addr × Obj)} {L : Loc} (R : LocOk lo m Z own L) (h : ∀ a o, Z a = some o → Z' a = some o) : LocOk lo m Z' own L :=
  ⟨fun x d e => let ⟨v, a, b⟩ := R.v x d e; ⟨v, a, b.mono h⟩, fun x r e q => let ⟨a, ob, e1, e2, e3⟩ := R.o x r e q; ⟨a, ob, e1, e2, e3.mono h⟩, R.b, R.i⟩
theorem LocOk.more {lo : Nat} {m : Str → Option Value} {Z : Zn} {own own' : List (Addr × Obj)} {L : Loc} (R : LocOk lo m Z own L) (h : ∀ p ∈ own, p ∈ own') : LocOk lo m Z own' L :=
  ⟨R.v, fun x r e q => let ⟨a, ob, e1, e2, e3⟩ := R.o x r e q; ⟨a, ob, e1, h _ e2, e3⟩, R.b, R.i⟩

structure Wd (K : Frag) (hB : Heap) : Prop where
  k : K.In hB
  t : ∃ p loose mean mg mb, Top p loose mean mg mb hB
  c1 : CodeHd hB 49 45
  c2 : CodeHd hB 56 52

theorem Wd.keeps {K : Frag} {h h' : Heap} (W : Wd K h) (hk : ∀ b o, h.get? b = some o → h'.get? b = some o) : Wd K h' :=
  ⟨W.k.keeps hk, let ⟨p, l, me, mg, mb, T⟩ := W.t; ⟨p, l, me, mg, mb, T.keeps hk⟩, W.c1.keeps hk, W.c2.keeps hk⟩

structure Rm (k : Nat) (A : Around) : Prop where
  h : A.handled = none
  d : A.depth + 10 * k + 10 ≤ 800
  u : A.units + 100 * k + 300 ≤ 9000

theorem Rm.room {k : Nat} {A : Around} (R : Rm k A) : A.depth < recursionLimit := by have := R.d; unfold recursionLimit; omega
theorem Rm.units {k : Nat} {A : Around} (R : Rm k A) : A.units + 100 < cLine := by have := R.u; unfold cLine; omega
theorem Rm.mono {k k' : Nat} {A : Around} (R : Rm k A) (h : k' ≤ k) : Rm k' A := ⟨R.h, by have := R.d; omega, by have := R.u; omega⟩

structure EnvOk (env : Env) (sc : Scope) : Prop where
  kind : env.scope.kind = .function
  glo : env.globals = mainGlobals
  bui : env.builtins = builtinsNs
  kg : ∀ x, sc.names.lookup x = some .globalImplicit → env.kindOf x = some .globalImplicit
  kl : ∀ x, sc.names.lookup x = some .local → env.kindOf x = some .local
  kc : ∀ x, sc.names.lookup x = some .cell → env.kindOf x = some .cell ∧ ∃ c, env.cells.lookup x = some c ∧ env.locals < c
  kf : ∀ x, sc.names.lookup x = some .free → (env.kindOf x = some .free ∨ env.kindOf x = some .cell) ∧ (env.cells.lookup x).isSome = true
  lc : ∀ x, sc.names.lookup x = some .local → env.cells.lookup x = none
  ci : ∀ x y c, env.cells.lookup x = some c → env.cells.lookup y = some c → x = y
  mo : ∀ x (n : Nat), sc.more.lookup x = some (.int n) → (x == Str.ofString "#code") = false → env.cells.lookup x = some n
  co : ∀ n : Nat, sc.more.lookup (Str.ofString "#code") = some (.int n) → env.code = .ref n
  qu : ∀ x, sc.more.lookup (Str.ofString "#qual") = some (.str x) → env.qual = x
  nd : sc.names.lookup ("__debug__" : Str) = none
  nc : sc.names.lookup ("__classdict__" : Str) = none


/-- what an evaluation hands on -/
noncomputable abbrev Post (hB : Heap) (env : Env) (m : Str → Option Value) (Z : Zn) (own : List (Addr × Obj)) (s : Shared) (d : D) (Q : Value → Shared → Prop) : Prop :=
  ∀ v Z' h' (tk' : Tk), ZLe hB.objs.size Z Z' → St hB env m Z' own h' → Has Z' d v → Q v { s with heap := h', toks := tk'.1, drawn := tk'.2 }
noncomputable abbrev PostL (hB : Heap) (env : Env) (m : Str → Option Value) (Z : Zn) (own : List (Addr × Obj)) (s : Shared) (ds : List D) (Q : List Value → Shared → Prop) : Prop :=
  ∀ vs Z' h' (tk' : Tk), ZLe hB.objs.size Z Z' → St hB env m Z' own h' → HasL Z' ds vs → Q vs { s with heap := h', toks := tk'.1, drawn := tk'.2 }
noncomputable abbrev PostB (hB : Heap) (env : Env) (m : Str → Option Value) (Z : Zn) (own : List (Addr × Obj)) (s : Shared) (b : Bool) (Q : Bool → Shared → Prop) : Prop :=
  ∀ Z' h' (tk' : Tk), ZLe hB.objs.size Z Z' → St hB env m Z' own h' → Q b { s with heap := h', toks := tk'.1, drawn := tk'.2 }

section
variable (prog : Program) (w : World) (K : Frag) (k : Nat)
/-- a tree gives a datum, whatever the state -/
noncomputable def TrS (sc : Scope) (ρ : Loc) (t : Env → Sem Value) (d : D) : Prop := ∀ env, EnvOk env sc → ∀ A hB m Z own s (Q E : Value → Shared → Prop), Rm k A → Wd K hB → St hB env m Z own s.heap → LocOk hB.objs.size m Z own ρ → Post hB env m Z own s d Q →
  wpAny (model prog w) A (t env) Q E s
noncomputable def TrL (sc : Scope) (ρ : Loc) (t : Env → Sem (List Value)) (ds : List D) : Prop := ∀ env, EnvOk env sc → ∀ A hB m Z own s (Q : List Value → Shared → Prop) (E : Value → Shared → Prop), Rm k A → Wd K hB → St hB env m Z own s.heap → LocOk hB.objs.size m Z own ρ → PostL hB env m Z own s ds Q →
  wpAny (model prog w) A (t env) Q E s
noncomputable def TrB (sc : Scope) (ρ : Loc) (t : Env → Sem Bool) (b : Bool) : Prop := ∀ env, EnvOk env sc → ∀ A hB m Z own s (Q : Bool → Shared → Prop) (E : Value → Shared → Prop), Rm k A → Wd K hB → St hB env m Z own s.heap → LocOk hB.objs.size m Z own ρ → PostB hB env m Z own s b Q →
  wpAny (model prog w) A (t env) Q E s
noncomputable abbrev EvS (sc : Scope) (ρ : Loc) (e : Expr) (d : D) : Prop := TrS prog w K k sc ρ (fun env => eval e env) d
noncomputable abbrev EvB (sc : Scope) (ρ : Loc) (e : Expr) (b : Bool) : Prop := TrB prog w K k sc ρ (fun env => isTrue e env (eval e env)) b

/-- a def (or class) as a function of data -/
noncomputable def FSpec (f : Addr) (ds : List D) (d : D) : Prop := ∀ env, env.scope.kind = .function → ∀ A hB m Z own s vs (Q E : Value → Shared → Prop), Rm k A → Wd K hB → St hB env m Z own s.heap → HasL Z ds vs → Post hB env m Z own s d Q →
  wpAny (model prog w) A (call (.ref f) vs) Q E s
end

noncomputable def glob (K : Frag) (x : Str) : Option Value := match nsIn K mainGlobals x with
  | some (some v) => some v
  | some none => if x == "__name__" then none else bootBuiltins x
  | none => none

section
variable {prog : Program} {w : World} {K : Frag} {k : Nat} {sc : Scope} {ρ : Loc}

theorem post_same {hB : Heap} {env : Env} {m : Str → Option Value} {Z : Zn} {own : List (Addr × Obj)} {s : Shared} {d : D} {Q : Value → Shared → Prop} (S : St hB env m Z own s.heap) (P : Post hB env m Z own s d Q) {v : Value} {tk : Nat} (h : Has Z d v) :
    Q v { s with toks := tk } := P v Z s.heap (tk, s.drawn) (ZLe.refl _ _) S h

theorem evGlob {M : Model} {A : Around} {E : Value → Shared → Prop} {s : Shared} {env : Env} {sc : Scope} {K : Frag} {hB : Heap} {x : Str} {pos : Pos} {v : Value} {Q : Value → Shared → Prop} (O : EnvOk env sc) (W : Wd K hB)
    (hk : ∀ b o, hB.get? b = some o → s.heap.get? b = some o) (hx : sc.names.lookup x = some .globalImplicit) (hv : glob K x = some v) (h : Q v s) : wpAny M A (eval (.Name x pos) env) Q E s := by
  obtain ⟨p, loose, mean, mg, mb, T⟩ := W.t
  have hnd : (x == ("__debug__" : Str)) = false := by
    cases q : (x == ("__debug__" : Str)) with
    | false => rfl
    | true => rw [beq_iff_eq.mp q, O.nd] at hx; cases hx
  refine Calls.Name_function_global O.kind (O.kg x hx) ?_ hnd
  unfold glob at hv
  have hg : s.heap.Ns env.globals mg := by rw [O.glo]; exact T.g.keeps hk
  have hb : s.heap.Ns env.builtins mb := by rw [O.bui]; exact T.b.keeps hk
  split at hv
  · rename_i u e
    cases hv
    exact Calls.loadGlobal_global hg (mg_of W.k T.g e) h
  · rename_i e
    split at hv
    · cases hv
    · rename_i q
      exact Calls.loadGlobal_builtin hg (mg_none_of W.k T.g e) hb ((T.builtins x (fun e => q (by rw [e]; rfl))).trans hv) h
  · cases hv

theorem evName {x : Str} {pos : Pos} {d : D} (hk : sc.names.lookup x = some .local ∨ sc.names.lookup x = some .cell ∨ sc.names.lookup x = some .free) (h : ρ.lookup x = some (.val d)) : EvS prog w K k sc ρ (.Name x pos) d := by
  intro env O A hB m Z own s Q E R W S ro P
  have hnd : (x == ("__debug__" : Str)) = false := by
    cases q : (x == ("__debug__" : Str)) with
    | false => rfl
    | true => rw [beq_iff_eq.mp q, O.nd] at hk; rcases hk with h | h | h <;> cases h
  have hnc : (x == ("__classdict__" : Str)) = false := by
    cases q : (x == ("__classdict__" : Str)) with
    | false => rfl
    | true => rw [beq_iff_eq.mp q, O.nc] at hk; rcases hk with h | h | h <;> cases h
  obtain ⟨v, hm, hv⟩ := ro.v x d h
  have fin : Q v s := post_same (tk := s.toks) S P hv
  refine wpAny_Name ?_ hnd
  rcases hk with hk | hk | hk
  · obtain ⟨ml, F, e⟩ := S.fr
    exact wpAny_loadName_local O.kind (O.kl x hk) F.ns ((e x (O.kl x hk)).trans hm) fin
  · obtain ⟨e1, c, hc, _⟩ := O.kc x hk
    exact wpAny_loadName_cell O.kind e1 hc (hm ▸ S.cel x c hc) fin
  · obtain ⟨e1, e2⟩ := O.kf x hk
    obtain ⟨c, hc⟩ := Option.isSome_iff_exists.mp e2
    rcases e1 with e1 | e1
    · exact wpAny_loadName_free O.kind e1 hc (hm ▸ S.cel x c hc) fin hnc
    · exact wpAny_loadName_cell O.kind e1 hc (hm ▸ S.cel x c hc) fin

theorem evGc {x : Str} {pos : Pos} {d : D} {v : Value} (hk : sc.names.lookup x = some .globalImplicit) (hv : glob K x = some v) (hd : ∀ Z, Has Z d v) : EvS prog w K k sc ρ (.Name x pos) d := by
  intro env O A hB m Z own s Q E R W S ro P
  exact evGlob O W S.keep hk hv (post_same (tk := s.toks) S P (hd Z))

noncomputable def constD : Const → Option D
  | .none => some .none
  | .bool b => some (.bool b)
  | .int i => some (.int i)
  | .float x => some (.flt x)
  | .str s => some (.str s)
  | _ => none

theorem evConst {c : Const} {j : Nat} {pos : Pos} {d : D} (h : constD c = some d) : EvS prog w K k sc ρ (.Constant c j pos) d := by
  intro env O A hB m Z own s Q E R W S ro P
  unfold constD at h
  split at h <;> first | cases h | skip
  · exact wpAny_Constant_none (post_same (tk := s.toks) S P mkN)
  · exact wpAny_Constant_bool (post_same (tk := s.toks) S P (mkB _))
  · exact wpAny_Constant_int (post_same S P (mkI _ _))
  · exact PySem.AutoFloatOps.wpAny_Constant_float (post_same S P (mkF _ _))
  · exact wpAny_Constant_str (post_same S P (mkS _ _))

theorem Post.then1 {hB : Heap} {env : Env} {m : Str → Option Value} {Z Z₁ : Zn} {own : List (Addr × Obj)} {s : Shared} {h₁ : Heap} {tk₁ : Tk} {d : D} {Q : Value → Shared → Prop} (P : Post hB env m Z own s d Q) (z : ZLe hB.objs.size Z Z₁) :
    Post hB env m Z₁ own { s with heap := h₁, toks := tk₁.1, drawn := tk₁.2 } d Q := fun v Z' h' tk' z' S' hv => P v Z' h' tk' (z.tr z') S' hv
theorem PostB.then1 {hB : Heap} {env : Env} {m : Str → Option Value} {Z Z₁ : Zn} {own : List (Addr × Obj)} {s : Shared} {h₁ : Heap} {tk₁ : Tk} {d : Bool} {Q : Bool → Shared → Prop} (P : PostB hB env m Z own s d Q) (z : ZLe hB.objs.size Z Z₁) :
    PostB hB env m Z₁ own { s with heap := h₁, toks := tk₁.1, drawn := tk₁.2 } d Q := fun Z' h' tk' z' S' => P Z' h' tk' (z.tr z') S'

theorem evBin {op : Operator} {l r : Expr} {pos : Pos} {a b d : D} (hl : EvS prog w K k sc ρ l a) (hr : EvS prog w K k sc ρ r b) (h : binD op a b = some d) : EvS prog w K k sc ρ (.BinOp l op r pos) d := by
  intro env O A hB m Z own s Q E R W S ro P
  refine wpAny_BinOp (hl env O A hB m Z own s _ E R W S ro fun va Z₁ h₁ tk₁ z₁ S₁ ha => ?_)
  refine hr env O A hB m Z₁ own _ _ E R W S₁ (ro.mono z₁.1) fun vb Z₂ h₂ tk₂ z₂ S₂ hb => ?_
  exact binD_sound R.h h (ha.mono z₂.1) hb fun v tk hv => (P.then1 (h₁ := h₁) (tk₁ := tk₁) z₁) v Z₂ h₂ (tk, tk₂.2) z₂ S₂ hv

theorem evUn {op : UnaryOp} {x : Expr} {pos : Pos} {a d : D} (hx : EvS prog w K k sc ρ x a) (h : unD op a = some d) : EvS prog w K k sc ρ (.UnaryOp op x pos) d := by
  intro env O A hB m Z own s Q E R W S ro P
  refine wpAny_UnaryOp (hx env O A hB m Z own s _ E R W S ro fun va Z₁ h₁ tk₁ z₁ S₁ ha => ?_)
  exact unD_sound h ha fun v tk hv => P v Z₁ h₁ (tk, tk₁.2) z₁ S₁ hv

theorem evCmp {op : CmpOp} {l r : Expr} {pos : Pos} {a b : D} {c : Bool} (hl : EvS prog w K k sc ρ l a) (hr : EvS prog w K k sc ρ r b) (h : cmpD op a b = some c) (hm : behindInMarks op r = false) : EvS prog w K k sc ρ (.Compare l [op] [r] pos) (.bool c) := by
  intro env O A hB m Z own s Q E R W S ro P
  refine wpAny_Compare1 (hl env O A hB m Z own s _ E R W S ro fun va Z₁ h₁ tk₁ z₁ S₁ ha => ?_) hm
  refine hr env O A hB m Z₁ own _ _ E R W S₁ (ro.mono z₁.1) fun vb Z₂ h₂ tk₂ z₂ S₂ hb => ?_
  exact cmpD_sound R.units S₂.zin h (ha.mono z₂.1) hb ((P.then1 (h₁ := h₁) (tk₁ := tk₁) z₁) _ Z₂ h₂ tk₂ z₂ S₂ (mkB _))

theorem evCmpB {op : CmpOp} {l r : Expr} {pos : Pos} {a b : D} {c : Bool} (hl : EvS prog w K k sc ρ l a) (hr : EvS prog w K k sc ρ r b) (h : cmpD op a b = some c) (hm : behindInMarks op r = false) : EvB prog w K k sc ρ (.Compare l [op] [r] pos) c := by
  intro env O A hB m Z own s Q E R W S ro P
  refine wpAny_isTrue_Compare1 (hl env O A hB m Z own s _ E R W S ro fun va Z₁ h₁ tk₁ z₁ S₁ ha => ?_) hm
  refine hr env O A hB m Z₁ own _ _ E R W S₁ (ro.mono z₁.1) fun vb Z₂ h₂ tk₂ z₂ S₂ hb => ?_
  refine cmpD_sound R.units S₂.zin h (ha.mono z₂.1) hb (wpAny_truthy_bool ?_)
  exact (P.then1 (h₁ := h₁) (tk₁ := tk₁) z₁) Z₂ h₂ tk₂ z₂ S₂

theorem evIf {t b o : Expr} {pos : Pos} {c : Bool} {d : D} (ht : EvB prog w K k sc ρ t c) (h : EvS prog w K k sc ρ (if c then b else o) d) : EvS prog w K k sc ρ (.IfExp t b o pos) d := by
  intro env O A hB m Z own s Q E R W S ro P
  refine wpAny_IfExp (ht env O A hB m Z own s _ E R W S ro fun Z₁ h₁ tk₁ z₁ S₁ => ?_)
  have x := h env O A hB m Z₁ own { s with heap := h₁, toks := tk₁.1, drawn := tk₁.2 } Q E R W S₁ (ro.mono z₁.1) (P.then1 z₁)
  cases c <;> exact x
end
end Mine
end
section
open PySem PySem.W PyProof.Rows PySem.Flt
namespace Mine

section
variable {hB : Heap} {env : Env} {m : Str → Option Value} {Z : Zn} {own : List (Addr × Obj)} {h : Heap}
theorem St.push (S : St hB env m Z own h) (o : Obj) : St hB env m Z own (h.push o) := S.ext0 fun _ _ e => Heap.get?_push_of_some _ e
theorem Zins_le (S : St hB env m Z own h) (o : Obj) : ZLe h.objs.size Z (Zins Z h.objs.size o) := ZLe.ins (S.free_new (Nat.le_refl _)).z (Nat.le_refl _)
theorem St.pushZ (S : St hB env m Z own h) (o : Obj) (hf : o.isFreed = false) : St hB env m (Zins Z h.objs.size o) own (h.push o) :=
  (S.push o).freeze (S.free_new (Nat.le_refl _)) (Heap.get?_push_size _ hf)
theorem size_szOk {l : List D} {vs : List Value} (hs : HasL Z l vs) (e : szOk l = true) : vs.length ≤ sizeLine := by
  rw [hs.length]
  exact Nat.le_trans (of_decide_eq_true e) (by decide)
end

/-- an expression that is no starred one -/
noncomputable def noStar : Expr → Bool
  | .Starred _ _ => false
  | _ => true
theorem starEach_cons {e : Expr} {r : List Expr} {env : Env} (h : noStar e = true) : starEach (e :: r) env = (false, eval e env) :: starEach r env := by
  cases e <;> first | rfl | cases h

section
variable {prog : Program} {w : World} {K : Frag} {k : Nat} {sc : Scope} {ρ : Loc}

/-- a list of expressions gives a list of data -/
inductive EvL (prog : Program) (w : World) (K : Frag) (k : Nat) (sc : Scope) (ρ : Loc) : List Expr → List D → Prop
  | nil : EvL prog w K k sc ρ [] []
  | cons {e es d ds} : noStar e = true → EvS prog w K k sc ρ e d → EvL prog w K k sc ρ es ds → EvL prog w K k sc ρ (e :: es) (d :: ds)

theorem EvL.spliced {es : List Expr} {ds : List D} (L : EvL prog w K k sc ρ es ds) (pos : Pos) : TrL prog w K k sc ρ (fun env => spliced (backTo pos (starEach es env))) ds := by
  induction L with
  | nil =>
    intro env O A hB m Z own s Q E R W S ro P
    exact Calls.spliced_nil (P [] Z s.heap (s.toks, s.drawn) (ZLe.refl _ _) S hasL_nil)
  | cons hn he _ ih =>
    intro env O A hB m Z own s Q E R W S ro P
    dsimp only
    rw [starEach_cons hn]
    refine Calls.spliced_cons (he env O A hB m Z own s _ E R W S ro fun v Z₁ h₁ tk₁ z₁ S₁ hv => ?_)
    refine ih env O A hB m Z₁ own _ _ E R W S₁ (ro.mono z₁.1) fun vs Z₂ h₂ tk₂ z₂ S₂ hvs => ?_
    exact P (v :: vs) Z₂ h₂ tk₂ (z₁.tr z₂) S₂ (hasL_cons (hv.mono z₂.1) hvs)

theorem EvL.plain {es : List Expr} {ds : List D} (L : EvL prog w K k sc ρ es ds) (pos : Pos) (env : Env) : (backTo pos (starEach es env)).any (·.1) = false := by
  induction L with
  | nil => rfl
  | cons hn _ _ ih =>
    rw [starEach_cons hn]
    show (false || (backTo pos (starEach _ env)).any (·.1)) = false
    rw [ih]; rfl

theorem has_tupZ {Z : Zn} {a : Addr} {l : List D} {vs : List Value} (h : HasL (Zins Z a { cls := .type "tuple", data := .seq vs.toArray }) l vs) : Has (Zins Z a { cls := .type "tuple", data := .seq vs.toArray }) (.tup l) (.ref a) := by
  unfold Has
  exact ⟨a, _, vs.toArray, 0, rfl, Zins_self, rfl, rfl, by simpa using h⟩
theorem has_lstZ {Z : Zn} {a : Addr} {l : List D} {vs : List Value} (h : HasL (Zins Z a { cls := .type "list", data := .seq vs.toArray }) l vs) : Has (Zins Z a { cls := .type "list", data := .seq vs.toArray }) (.lst l) (.ref a) := by
  unfold Has
  exact ⟨a, _, vs.toArray, 0, rfl, Zins_self, rfl, rfl, rfl, by simpa using h⟩

theorem evTup {es : List Expr} {ds : List D} {j : Nat} {pos : Pos} (L : EvL prog w K k sc ρ es ds) (hz : szOk ds = true) : EvS prog w K k sc ρ (.Tuple es j pos) (.tup ds) := by
  intro env O A hB m Z own s Q E R W S ro P
  refine wpAny_Tuple (L.spliced pos env O A hB m Z own s _ E R W S ro fun vs Z₁ h₁ tk₁ z₁ S₁ hvs => ⟨size_szOk hvs hz, ?_⟩)
  have zz := Zins_le S₁ { cls := .type "tuple", data := .seq vs.toArray }
  exact P _ _ _ tk₁ (z₁.tr (zz.of_le S₁.leB)) (S₁.pushZ _ rfl) (has_tupZ (hvs.mono zz.1))

theorem evLst {es : List Expr} {ds : List D} {pos : Pos} (L : EvL prog w K k sc ρ es ds) (hz : szOk ds = true) : EvS prog w K k sc ρ (.List es pos) (.lst ds) := by
  intro env O A hB m Z own s Q E R W S ro P
  refine wpAny_List (L.spliced pos env O A hB m Z own s _ E R W S ro fun vs Z₁ h₁ tk₁ z₁ S₁ hvs => ⟨size_szOk hvs hz, ?_⟩)
  have zz := Zins_le S₁ { cls := .type "list", data := .seq vs.toArray }
  exact P _ _ _ tk₁ (z₁.tr (zz.of_le S₁.leB)) (S₁.pushZ _ rfl) (has_lstZ (hvs.mono zz.1))

/-! truth -/
noncomputable def plainB : Expr → Bool
  | .UnaryOp .Not _ _ => false
  | .BoolOp _ _ _ => false
  | .IfExp _ _ _ _ => false
  | .Compare _ _ _ _ => false
  | _ => true
theorem isTrue_of_plainB {e : Expr} {env : Env} {whole : Sem Value} (h : plainB e = true) : isTrue e env whole = (do let v ← whole; standAt e.pos; holding [v] (truthy v)) := by
  cases e <;> first | rfl | cases h | skip
  case UnaryOp op x p => cases op <;> first | rfl | cases h

theorem evTruB {e : Expr} {d : D} {c : Bool} (he : EvS prog w K k sc ρ e d) (h : truD d = some c) (hp : plainB e = true) : EvB prog w K k sc ρ e c := by
  intro env O A hB m Z own s Q E R W S ro P
  refine isTrue_plain (he env O A hB m Z own s _ E R W S ro fun v Z₁ h₁ tk₁ z₁ S₁ hv => ?_) (isTrue_of_plainB hp)
  exact truD_sound S₁.zin h hv fun tk => P Z₁ h₁ (tk, tk₁.2) z₁ S₁

theorem evNotB {x : Expr} {pos : Pos} {c : Bool} (he : EvB prog w K k sc ρ x c) : EvB prog w K k sc ρ (.UnaryOp .Not x pos) (!c) := by
  intro env O A hB m Z own s Q E R W S ro P
  exact isTrue_not (he env O A hB m Z own s _ E R W S ro fun Z₁ h₁ tk₁ z₁ S₁ => P Z₁ h₁ tk₁ z₁ S₁)

/-- the truth of a row of tests -/
theorem evAllNil {op : BoolOp} : TrB prog w K k sc ρ (fun env => allTrue op [] env) (op == .And) := by
  intro env O A hB m Z own s Q E R W S ro P
  exact wpAny_pure (P Z s.heap (s.toks, s.drawn) (ZLe.refl _ _) S)
theorem evAndStop {x : Expr} {r : List Expr} (hx : EvB prog w K k sc ρ x false) : TrB prog w K k sc ρ (fun env => allTrue .And (x :: r) env) false := by
  intro env O A hB m Z own s Q E R W S ro P
  show wpAny _ _ (do let b ← isTrue x env (eval x env); match BoolOp.And, b with | .And, false => pure false | .Or, true => pure true | _, _ => allTrue .And r env) _ _ _
  exact wpAny_bind (hx env O A hB m Z own s _ E R W S ro fun Z₁ h₁ tk₁ z₁ S₁ => wpAny_pure (P Z₁ h₁ tk₁ z₁ S₁))
theorem evOrStop {x : Expr} {r : List Expr} (hx : EvB prog w K k sc ρ x true) : TrB prog w K k sc ρ (fun env => allTrue .Or (x :: r) env) true := by
  intro env O A hB m Z own s Q E R W S ro P
  show wpAny _ _ (do let b ← isTrue x env (eval x env); match BoolOp.Or, b with | .And, false => pure false | .Or, true => pure true | _, _ => allTrue .Or r env) _ _ _
  exact wpAny_bind (hx env O A hB m Z own s _ E R W S ro fun Z₁ h₁ tk₁ z₁ S₁ => wpAny_pure (P Z₁ h₁ tk₁ z₁ S₁))
theorem evAndOn {x : Expr} {r : List Expr} {c : Bool} (hx : EvB prog w K k sc ρ x true) (hr : TrB prog w K k sc ρ (fun env => allTrue .And r env) c) : TrB prog w K k sc ρ (fun env => allTrue .And (x :: r) env) c := by
  intro env O A hB m Z own s Q E R W S ro P
  show wpAny _ _ (do let b ← isTrue x env (eval x env); match BoolOp.And, b with | .And, false => pure false | .Or, true => pure true | _, _ => allTrue .And r env) _ _ _
  exact wpAny_bind (hx env O A hB m Z own s _ E R W S ro fun Z₁ h₁ tk₁ z₁ S₁ => hr env O A hB m Z₁ own _ Q E R W S₁ (ro.mono z₁.1) (P.then1 z₁))
theorem evOrOn {x : Expr} {r : List Expr} {c : Bool} (hx : EvB prog w K k sc ρ x false) (hr : TrB prog w K k sc ρ (fun env => allTrue .Or r env) c) : TrB prog w K k sc ρ (fun env => allTrue .Or (x :: r) env) c := by
  intro env O A hB m Z own s Q E R W S ro P
  show wpAny _ _ (do let b ← isTrue x env (eval x env); match BoolOp.Or, b with | .And, false => pure false | .Or, true => pure true | _, _ => allTrue .Or r env) _ _ _
  exact wpAny_bind (hx env O A hB m Z own s _ E R W S ro fun Z₁ h₁ tk₁ z₁ S₁ => hr env O A hB m Z₁ own _ Q E R W S₁ (ro.mono z₁.1) (P.then1 z₁))
theorem evBoolB {op : BoolOp} {es : List Expr} {pos : Pos} {c : Bool} (h : TrB prog w K k sc ρ (fun env => allTrue op es env) c) : EvB prog w K k sc ρ (.BoolOp op es pos) c := by
  intro env O A hB m Z own s Q E R W S ro P
  exact h env O A hB m Z own s Q E R W S ro P

/-- two operands, as a value -/
theorem evBool2 {op : BoolOp} {x y : Expr} {pos : Pos} {a d : D} {c : Bool} (hx : EvS prog w K k sc ρ x a) (ht : truD a = some c) (h : if (op == .And) = c then EvS prog w K k sc ρ y d else d = a) : EvS prog w K k sc ρ (.BoolOp op [x, y] pos) d := by
  intro env O A hB m Z own s Q E R W S ro P
  show wpAny _ _ (do let v ← eval x env; standAt pos; let t ← holding [v] (truthy v); match op, t with | .And, false | .Or, true => pure v | _, _ => eval y env) _ _ _
  refine wpAny_bind (hx env O A hB m Z own s _ E R W S ro fun v Z₁ h₁ tk₁ z₁ S₁ hv => wpAny_bind (wpAny_standAt (wpAny_bind (wpAny_holding (truD_sound S₁.zin ht hv fun tk => ?_)))))
  cases op <;> cases c
  · cases (show d = a from h); exact wpAny_pure (P v Z₁ h₁ (tk, tk₁.2) z₁ S₁ hv)
  · exact (show EvS prog w K k sc ρ y d from h) env O A hB m Z₁ own _ Q E R W S₁ (ro.mono z₁.1) (P.then1 (h₁ := h₁) (tk₁ := (tk, tk₁.2)) z₁)
  · exact (show EvS prog w K k sc ρ y d from h) env O A hB m Z₁ own _ Q E R W S₁ (ro.mono z₁.1) (P.then1 (h₁ := h₁) (tk₁ := (tk, tk₁.2)) z₁)
  · cases (show d = a from h); exact wpAny_pure (P v Z₁ h₁ (tk, tk₁.2) z₁ S₁ hv)
end
end Mine
end
section
open PySem PySem.W PyProof.Rows PySem.Flt
namespace Mine

section
variable (prog : Program) (w : World) (K : Frag) (k : Nat)
/-- a callee as a function of data -/
noncomputable def VSpec (f : Value) (ds : List D) (d : D) : Prop := ∀ env, env.scope.kind = .function → ∀ A hB m Z own s vs (Q E : Value → Shared → Prop), Rm k A → Wd K hB → St hB env m Z own s.heap → HasL Z ds vs → Post hB env m Z own s d Q →
  wpAny (model prog w) A (call f vs) Q E s
/-- what calls of it hold on to -/
noncomputable def KeepOk (f : Value) : Prop := ∀ h, K.In h → ∃ kk, (kk = Keeper.frame ∨ kk = Keeper.machine ∨ kk = Keeper.boundFrame) ∧ Looks (model prog w) h (keeperOf f) kk
end

section
variable {prog : Program} {w : World} {K : Frag} {k : Nat} {sc : Scope} {ρ : Loc}

theorem keep_builtin (id : String) : KeepOk prog w K (.builtin id) := fun _ _ => ⟨.machine, .inr (.inl rfl), .of_pure rfl⟩
theorem keep_type (T : String) : KeepOk prog w K (.type T) := fun _ _ => ⟨.machine, .inr (.inl rfl), .of_pure rfl⟩
theorem keep_fn {a : Addr} (h : fnIn K a = true) : KeepOk prog w K (.ref a) := fun hp X => by
  unfold fnIn at h
  split at h
  · rename_i c d fd sl e
    exact ⟨.frame, .inl rfl, (Looks.ld (part := none) (X _ _ e)).andThen .now⟩
  · cases h

theorem evCall {f : Str} {np pos : Pos} {es : List Expr} {ds : List D} {d : D} {fv : Value} (hk : sc.names.lookup f = some .globalImplicit) (hv : glob K f = some fv) (kp : KeepOk prog w K fv) (L : EvL prog w K k sc ρ es ds) (hne : es ≠ [])
    (h : VSpec prog w K k fv ds d) : EvS prog w K k sc ρ (.Call (.Name f np) es [] pos) d := by
  intro env O A hB m Z own s Q E R W S ro P
  refine wpAny_Call_NameR (evGlob O W S.keep hk hv ?_)
  have hp := L.plain pos env
  refine callWith_of (P := K.In) (by rw [hp]; rfl) kp ?_
  cases L with
  | nil => exact absurd rfl hne
  | cons hn he L' =>
    have q := (EvL.cons hn he L').spliced pos env O A hB m Z own s
    dsimp only at q
    rw [starEach_cons hn] at q ⊢
    refine Calls.evalArgs_plain (q _ E R W S ro fun vs Z₁ h₁ tk₁ z₁ S₁ hvs => ⟨W.k.keeps S₁.keep, ?_⟩)
    exact h env O.kind A hB m Z₁ own _ _ Q E R W S₁ hvs (P.then1 z₁)

/-! places of a tuple or list -/
noncomputable def itemD (c : D) (i : D) : Option D := match c, i with
  | .tup l, .int n => if sm n && decide (-(2 ^ 63) ≤ n) && decide (n < 2 ^ 63) then (seqIndex? n l.length).bind (l[·]?) else none
  | .lst l, .int n => if decide (0 ≤ n) && decide (n < 2 ^ 63) then l[n.toNat]? else none
  | _, _ => none

noncomputable def notSlice : Expr → Bool
  | .Slice .. => false
  | _ => true
theorem subscripted_of {e : Expr} (h : notSlice e = true) (o i : Value) : subscripted e false o i = operate [o, i] (getItem o i) := by
  cases e <;> first | rfl | cases h

theorem tail_item {s : Shared} {A : Around} {E : Value → Shared → Prop} {Z : Zn} {value slice : Expr} {c i d : D} {vc vi : Value} {Q : Value → Shared → Prop} (hz : ∀ a o, Z a = some o → s.heap.get? a = some o) (h : itemD c i = some d) (hc : Has Z c vc) (hi : Has Z i vi) (hs : notSlice slice = true)
    (hq : ∀ v, Has Z d v → Q v s) : wpAny (model prog w) A (subscriptTail value slice vc vi) Q E s := by
  unfold itemD at h
  split at h
  · obtain ⟨t, rfl⟩ := has_int hi
    unfold Has at hc
    obtain ⟨a, o, vs, n, rfl, z, cc, dt, r⟩ := hc
    split at h
    · rename_i e
      simp only [Bool.and_eq_true, decide_eq_true_eq] at e
      obtain ⟨j, e1, e2⟩ := Option.bind_eq_some_iff.mp h
      obtain ⟨v, e3, hv⟩ := r.get j e2
      refine item_tupleT (l := vs.toList) ⟨_, hz _ _ z, cc, n, by simpa using dt⟩ e.1.2 e.2 (j := j) (by rw [r.length]; exact e1) e3 (hq v hv) (subscripted_of hs _ _)
    · cases h
  · obtain ⟨t, rfl⟩ := has_int hi
    unfold Has at hc
    obtain ⟨a, o, vs, n, rfl, z, cc, dn, dt, r⟩ := hc
    split at h
    · rename_i e
      simp only [Bool.and_eq_true, decide_eq_true_eq] at e
      obtain ⟨v, e3, hv⟩ := r.get _ h
      have hl : s.heap.IsList a vs := ⟨_, hz _ _ z, cc, n, dt⟩
      exact tail_any hl.typeIs slot_list_getitem.lookup (wpAny_getItem_list hl e.1 e.2 (by simpa using e3) (hq v hv)) (subscripted_of hs _ _)
    · cases h
  · cases h

theorem evItem {value slice : Expr} {pos : Pos} {c i d : D} (hc : EvS prog w K k sc ρ value c) (hi : EvS prog w K k sc ρ slice i) (h : itemD c i = some d) (hs : notSlice slice = true) : EvS prog w K k sc ρ (.Subscript value slice pos) d := by
  intro env O A hB m Z own s Q E R W S ro P
  refine Subscript_ (hc env O A hB m Z own s _ E R W S ro fun vc Z₁ h₁ tk₁ z₁ S₁ hvc => ?_)
  refine hi env O A hB m Z₁ own _ _ E R W S₁ (ro.mono z₁.1) fun vi Z₂ h₂ tk₂ z₂ S₂ hvi => ?_
  exact tail_item S₂.zin h (hvc.mono z₂.1) hvi hs fun v hv => (P.then1 (h₁ := h₁) (tk₁ := tk₁) z₁) v Z₂ h₂ tk₂ z₂ S₂ hv
end
end Mine
end
section
open PySem PySem.W PyProof.Rows PySem.Flt
namespace Mine

/-! a change of one local -/
noncomputable def upd (m : Str → Option Value) (x : Str) (v : Value) : Str → Option Value := fun y => if y = x then some v else m y
noncomputable def setL : Loc → Str → Vr → Loc
  | [], x, v => [(x, v)]
  | p :: r, x, v => if x == p.1 then (x, v) :: r else p :: setL r x v
theorem beqF {x y : Str} (h : ¬y = x) : (y == x) = false := by
  cases q : (y == x) with
  | false => rfl
  | true => exact absurd (beq_iff_eq.mp q) h
theorem beqT (x : Str) : (x == x) = true := beq_iff_eq.mpr rfl
theorem lookup_setL (L : Loc) (x : Str) (v : Vr) (y : Str) : (setL L x v).lookup y = if y = x then some v else L.lookup y := by
  induction L with
  | nil =>
    show List.lookup y [(x, v)] = _
    by_cases h : y = x
    · subst h; rw [if_pos rfl, List.lookup_cons, beqT]
    · rw [if_neg h, List.lookup_cons, beqF h]; try rfl
  | cons p r ih =>
    obtain ⟨k, w⟩ := p
    unfold setL
    by_cases hx : x = k
    · subst hx
      rw [if_pos (beqT _)]
      by_cases h : y = x
      · subst h; rw [if_pos rfl, List.lookup_cons, beqT]
      · rw [if_neg h, List.lookup_cons, List.lookup_cons, beqF h]
    · rw [if_neg (by rw [beqF hx]; exact Bool.false_ne_true), List.lookup_cons, List.lookup_cons, ih]
      by_cases h : y = k
      · subst h; rw [beqT]; exact (if_neg (fun q => hx q.symm)).symm
      · rw [beqF h]

section
variable {hB : Heap} {env : Env} {m : Str → Option Value} {Z : Zn} {own : List (Addr × Obj)} {h h' : Heap} {L : Loc} {sc : Scope}

theorem St.storeLocal (S : St hB env m Z own h) (O : EnvOk env sc) {x : Str} {v : Value} {ml : Str → Option Value} (F : Fr hB env.locals h ml) (e : ∀ x, env.kindOf x = some .local → ml x = m x) (hx : sc.names.lookup x = some .local)
    (hn : h'.Ns env.locals fun y => if y = x then some v else ml y) (hs : Heap.SameBut env.locals h h') : St hB env (upd m x v) Z own h' where
  fr := ⟨_, F.set hn hs, fun y hy => by
    unfold upd
    by_cases q : y = x
    · rw [if_pos q, if_pos q]
    · rw [if_neg q, if_neg q]; exact e y hy⟩
  cel := fun y c hc => by
    have hy : y ≠ x := fun q => by rw [q, O.lc x hx] at hc; cases hc
    have := isCell_at (h' := h') (S.cel y c hc) fun o q => (hs.2 c (S.cL y c hc)).trans q
    unfold upd; rw [if_neg hy]; exact this
  zin := fun a o q => (hs.2 a (fun w => by rw [w, S.zL] at q; cases q)).trans (S.zin a o q)
  zhi := S.zhi
  zL := S.zL
  zc := S.zc
  oin := fun p hp => (hs.2 _ (S.oL p hp)).trans (S.oin p hp)
  oZ := S.oZ
  oB := S.oB
  oL := S.oL
  oc := S.oc
  ohi := S.ohi
  ond := S.ond
  Lhi := S.Lhi
  chi := S.chi
  cL := S.cL
  tB := S.tB
  tab := S.tab.mono (fun _ _ q => q) fun b o l q => (hs.2 b (fun w => by rw [w, S.Lhi] at l; cases l)).trans q

theorem St.storeCell (S : St hB env m Z own h) (O : EnvOk env sc) {x : Str} {v : Value} {c : Addr} (hx : env.kindOf x = some .cell) (hc : env.cells.lookup x = some c) (hl : env.locals < c)
    (hv : h'.IsCell c (some v)) (hs : Heap.SameBut c h h') : St hB env (upd m x v) Z own h' where
  fr := by
    obtain ⟨ml, F, e⟩ := S.fr
    refine ⟨ml, ⟨F.ns.at' fun o q => (hs.2 _ (Nat.ne_of_lt hl)).trans q, fun b o q => (hs.2 b (fun w => ?_)).trans (F.keep b o q), F.above⟩, fun y hy => ?_⟩
    · have := Heap.lt_size q
      exact Nat.lt_irrefl _ (Nat.lt_of_lt_of_le (w ▸ this) (Nat.le_trans F.above (Nat.le_of_lt hl)))
    · unfold upd
      rw [if_neg (fun q => by rw [q, hx] at hy; cases hy)]
      exact e y hy
  cel := fun y d hd => by
    unfold upd
    by_cases q : y = x
    · subst q; rw [hc] at hd; cases hd; rw [if_pos rfl]; exact hv
    · rw [if_neg q]
      exact isCell_at (S.cel y d hd) fun o w => (hs.2 d (fun u => q (O.ci y x c (u ▸ hd) hc))).trans w
  zin := fun a o q => (hs.2 a (fun w => by rw [w, S.zc x c hc] at q; cases q)).trans (S.zin a o q)
  zhi := S.zhi
  zL := S.zL
  zc := S.zc
  oin := fun p hp => (hs.2 _ (fun w => S.oc p hp x c hc w.symm)).trans (S.oin p hp)
  oZ := S.oZ
  oB := S.oB
  oL := S.oL
  oc := S.oc
  ohi := S.ohi
  ond := S.ond
  Lhi := S.Lhi
  chi := S.chi
  cL := S.cL
  tB := S.tB
  tab := S.tab.mono (fun _ _ q => q) fun b o l q => (hs.2 b (fun w => by rw [w, S.chi x c hc] at l; cases l)).trans q

theorem store_local_ok {M : Model} {A : Around} {E : Value → Shared → Prop} {s : Shared} {x : Str} {v : Value} {Q : Unit → Shared → Prop} (O : EnvOk env sc) (hx : sc.names.lookup x = some .local ∨ sc.names.lookup x = some .cell) (S : St hB env m Z own s.heap)
    (h : ∀ h' (tk : Tk), h'.objs.size = s.heap.objs.size → St hB env (upd m x v) Z own h' → Q () { s with heap := h', toks := tk.1, drawn := tk.2 }) : wpAny M A (storeName env x v) Q E s := by
  rcases hx with hx | hx
  · obtain ⟨ml, F, e⟩ := S.fr
    exact wpAny_storeName_local (O.kl x hx) F.ns (fun h' hn hs => h h' ⟨_, _⟩ hs.1 (S.storeLocal O F e hx hn hs)) (by rw [O.kind]; rfl)
  · obtain ⟨e1, c, hc, hl⟩ := O.kc x hx
    exact wpAny_storeName_cell O.kind e1 hc (S.cel x c hc) fun h' hv hs => h h' (s.toks, s.drawn) hs.1 (S.storeCell O e1 hc hl hv hs)

theorem LocOk.setVal {lo : Nat} (R : LocOk lo m Z own L) {x : Str} {v : Value} {d : D} (h : Has Z d v) : LocOk lo (upd m x v) Z own (setL L x (.val d)) where
  v := fun y d' e => by
    rw [lookup_setL] at e
    unfold upd
    by_cases q : y = x
    · rw [if_pos q] at e; cases e; exact ⟨v, if_pos q, h⟩
    · rw [if_neg q] at e; rw [if_neg q]; exact R.v y d' e
  o := fun y r e t => by
    rw [lookup_setL] at e
    unfold upd
    by_cases q : y = x
    · rw [if_pos q] at e; cases e; cases t
    · rw [if_neg q] at e; rw [if_neg q]; exact R.o y r e t
  b := fun y r a e t nb u => by
    rw [lookup_setL] at e
    unfold upd at u
    by_cases q : y = x
    · rw [if_pos q] at e; cases e; cases t
    · rw [if_neg q] at e u; exact R.b y r a e t nb u
  i := fun y y' r r' a e t e' t' u u' => by
    rw [lookup_setL] at e e'
    unfold upd at u u'
    by_cases q : y = x
    · rw [if_pos q] at e; cases e; cases t
    · by_cases q' : y' = x
      · rw [if_pos q'] at e'; cases e'; cases t'
      · rw [if_neg q] at e u; rw [if_neg q'] at e' u'; exact R.i y y' r r' a e t e' t' u u'

theorem LocOk.setNew {lo : Nat} (R : LocOk lo m Z own L) {x : Str} {a : Addr} {ob : Obj} {r : Vr} (hf : ∀ p ∈ own, p.1 ≠ a) (hr : OwnIs Z r ob) (hi : isOwn r = true) (hlo : lo ≤ a) : LocOk lo (upd m x (.ref a)) Z ((a, ob) :: own) (setL L x r) where
  v := fun y d' e => by
    rw [lookup_setL] at e
    unfold upd
    by_cases q : y = x
    · rw [if_pos q] at e; cases e; cases hi
    · rw [if_neg q] at e; rw [if_neg q]; exact R.v y d' e
  o := fun y r' e t => by
    rw [lookup_setL] at e
    unfold upd
    by_cases q : y = x
    · rw [if_pos q] at e; cases e; exact ⟨a, ob, if_pos q, .head _, hr⟩
    · rw [if_neg q] at e; rw [if_neg q]
      obtain ⟨b, o', e1, e2, e3⟩ := R.o y r' e t
      exact ⟨b, o', e1, .tail _ e2, e3⟩
  b := fun y r' c e t nb u => by
    rw [lookup_setL] at e
    unfold upd at u
    by_cases q : y = x
    · rw [if_pos q] at u; cases u; exact hlo
    · rw [if_neg q] at e u; exact R.b y r' c e t nb u
  i := fun y y' r r' b e t e' t' u u' => by
    rw [lookup_setL] at e e'
    unfold upd at u u'
    have key : ∀ z r'', z ≠ x → L.lookup z = some r'' → isOwn r'' = true → m z = some (.ref b) → b ≠ a := fun z r'' _ e t u => by
      obtain ⟨c, o', e1, e2, _⟩ := R.o z r'' e t
      rw [u] at e1; cases e1
      exact hf _ e2
    by_cases q : y = x
    · by_cases q' : y' = x
      · rw [q, q']
      · rw [if_neg q'] at e' u'; rw [if_pos q] at u; cases u; exact absurd rfl (key y' r' q' e' t' u')
    · by_cases q' : y' = x
      · rw [if_neg q] at e u; rw [if_pos q'] at u'; cases u'; exact absurd rfl (key y r q e t u)
      · rw [if_neg q] at e u; rw [if_neg q'] at e' u'; exact R.i y y' r r' b e t e' t' u u'

/-! a change of an own object -/
noncomputable def updO (own : List (Addr × Obj)) (a : Addr) (o : Obj) : List (Addr × Obj) := own.map fun p => if p.1 = a then (a, o) else p
theorem updO_map (own : List (Addr × Obj)) (a : Addr) (o : Obj) : (updO own a o).map (·.1) = own.map (·.1) := by
  unfold updO
  rw [List.map_map]
  exact List.map_congr_left fun p _ => by
    show (if p.1 = a then (a, o) else p).1 = p.1
    by_cases q : p.1 = a
    · rw [if_pos q]; exact q.symm
    · rw [if_neg q]
theorem updO_id {own : List (Addr × Obj)} {a : Addr} {o : Obj} (h : ∀ p ∈ own, p.1 ≠ a) : updO own a o = own := by
  unfold updO
  conv => rhs; rw [← List.map_id own]
  exact List.map_congr_left fun p hp => if_neg (h p hp)
theorem updO_append (own hid : List (Addr × Obj)) (a : Addr) (o : Obj) : updO (own ++ hid) a o = updO own a o ++ updO hid a o := List.map_append
theorem updO_mem {own : List (Addr × Obj)} {a : Addr} {o : Obj} {p : Addr × Obj} (h : p ∈ updO own a o) : p = (a, o) ∨ (p.1 ≠ a ∧ p ∈ own) := by
  obtain ⟨q, hq, e⟩ := List.mem_map.mp h
  by_cases w : q.1 = a
  · rw [if_pos w] at e; exact .inl e.symm
  · rw [if_neg w] at e; subst e; exact .inr ⟨w, hq⟩
theorem mem_updO {own : List (Addr × Obj)} {a : Addr} {o : Obj} {p : Addr × Obj} (h : p ∈ own) (hn : p.1 ≠ a) : p ∈ updO own a o := List.mem_map.mpr ⟨p, h, if_neg hn⟩
theorem mem_updO_self {own : List (Addr × Obj)} {a : Addr} {o ob : Obj} (h : (a, ob) ∈ own) : (a, o) ∈ updO own a o := List.mem_map.mpr ⟨_, h, if_pos rfl⟩

theorem St.freeOfOwn (S : St hB env m Z own h) {own' : List (Addr × Obj)} {a : Addr} {ob : Obj} (ha : (a, ob) ∈ own) (hs : ∀ p ∈ own', p ∈ own ∧ p.1 ≠ a) : Free hB env Z own' a where
  B := S.oB _ ha
  L := S.oL _ ha
  c := S.oc _ ha
  z := S.oZ _ ha
  o := fun p hp => (hs p hp).2
  hi := S.ohi _ ha

theorem St.setOwn (S : St hB env m Z own h) {a : Addr} {ob ob' : Obj} (ha : (a, ob) ∈ own) (hn : h'.get? a = some ob') (hk : ∀ b o, b ≠ a → h.get? b = some o → h'.get? b = some o) : St hB env m Z (updO own a ob') h' := by
  have hd : (own.filter fun p => decide (p.1 ≠ a)).Sublist own := List.filter_sublist
  have S1 := (S.dropOwn hd).ext (h' := h') (fun b => b = a) (fun b q => by
    subst q
    exact S.freeOfOwn ha fun p hp => ⟨(List.mem_filter.mp hp).1, by simpa using (List.mem_filter.mp hp).2⟩) hk
  exact { S1 with
    oin := fun p hp => by
      rcases updO_mem hp with rfl | ⟨q, hp⟩
      · exact hn
      · exact hk _ _ q (S.oin p hp)
    oZ := fun p hp => by
      rcases updO_mem hp with rfl | ⟨q, hp⟩
      · exact S.oZ (a, ob) ha
      · exact S.oZ p hp
    oB := fun p hp => by
      rcases updO_mem hp with rfl | ⟨q, hp⟩
      · exact S.oB (a, ob) ha
      · exact S.oB p hp
    oL := fun p hp => by
      rcases updO_mem hp with rfl | ⟨q, hp⟩
      · exact S.oL (a, ob) ha
      · exact S.oL p hp
    oc := fun p hp => by
      rcases updO_mem hp with rfl | ⟨q, hp⟩
      · exact S.oc (a, ob) ha
      · exact S.oc p hp
    ohi := fun p hp => by
      rcases updO_mem hp with rfl | ⟨q, hp⟩
      · exact S.ohi (a, ob) ha
      · exact S.ohi p hp
    ond := by rw [updO_map]; exact S.ond }

theorem LocOk.setOwn {lo : Nat} (R : LocOk lo m Z own L) {x : Str} {a : Addr} {ob ob' : Obj} {r r' : Vr} (hx : L.lookup x = some r) (hi : isOwn r = true) (hm : m x = some (.ref a)) (ha : (a, ob) ∈ own) (hr : OwnIs Z r' ob') (hi' : isOwn r' = true) (hbb : isBor r' = false → isBor r = false) : LocOk lo m Z (updO own a ob') (setL L x r') where
  v := fun y d' e => by
    rw [lookup_setL] at e
    by_cases q : y = x
    · rw [if_pos q] at e; cases e; cases hi'
    · rw [if_neg q] at e; exact R.v y d' e
  o := fun y r'' e t => by
    rw [lookup_setL] at e
    by_cases q : y = x
    · rw [if_pos q] at e; cases e; exact ⟨a, ob', q ▸ hm, mem_updO_self ha, hr⟩
    · rw [if_neg q] at e
      obtain ⟨b, o', e1, e2, e3⟩ := R.o y r'' e t
      refine ⟨b, o', e1, mem_updO e2 (fun w => q ?_), e3⟩
      have w : b = a := w
      subst w
      exact R.i y x r'' r b e t hx hi e1 hm
  b := fun y r'' c e t nb u => by
    rw [lookup_setL] at e
    by_cases q : y = x
    · rw [if_pos q] at e; cases e; subst q; exact R.b y r c hx hi (hbb nb) u
    · rw [if_neg q] at e; exact R.b y r'' c e t nb u
  i := fun y y' s s' b e t e' t' u u' => by
    rw [lookup_setL] at e e'
    have nm : ∀ z s, (if z = x then some r' else L.lookup z) = some s → isOwn s = true → ∃ s', L.lookup z = some s' ∧ isOwn s' = true := fun z s e t => by
      by_cases q : z = x
      · exact ⟨r, q ▸ hx, hi⟩
      · rw [if_neg q] at e; exact ⟨s, e, t⟩
    obtain ⟨s1, e1, t1⟩ := nm y s e t
    obtain ⟨s2, e2, t2⟩ := nm y' s' e' t'
    exact R.i y y' s1 s2 b e1 t1 e2 t2 u u'
end
end Mine
end
section
open PySem PySem.W PyProof.Rows PySem.Flt
namespace Mine

/-- how a piece of code ends -/
inductive Out where
  | go (L : Loc)
  | brk (L : Loc)
  | cont (L : Loc)
  | ret (d : D)
  | retL (d : D) (L : Loc)

noncomputable def PostF (hB : Heap) (env : Env) (Z : Zn) (hid : List (Addr × Obj)) (s : Shared) (o : Out) (Q : Flow → Shared → Prop) : Prop := match o with
  | .go L => ∀ m' Z' own' h' (tk' : Tk), ZLe hB.objs.size Z Z' → St hB env m' Z' (own' ++ hid) h' → LocOk hB.objs.size m' Z' own' L → Q .next { s with heap := h', toks := tk'.1, drawn := tk'.2 }
  | .brk L => ∀ m' Z' own' h' (tk' : Tk), ZLe hB.objs.size Z Z' → St hB env m' Z' (own' ++ hid) h' → LocOk hB.objs.size m' Z' own' L → Q .brk { s with heap := h', toks := tk'.1, drawn := tk'.2 }
  | .cont L => ∀ m' Z' own' h' (tk' : Tk), ZLe hB.objs.size Z Z' → St hB env m' Z' (own' ++ hid) h' → LocOk hB.objs.size m' Z' own' L → Q .cont { s with heap := h', toks := tk'.1, drawn := tk'.2 }
  | .ret d => ∀ v m' Z' own' h' (tk' : Tk), ZLe hB.objs.size Z Z' → St hB env m' Z' (own' ++ hid) h' → Has Z' d v → Q (.ret v) { s with heap := h', toks := tk'.1, drawn := tk'.2 }
  | .retL d L => ∀ v m' Z' own' h' (tk' : Tk), ZLe hB.objs.size Z Z' → St hB env m' Z' (own' ++ hid) h' → LocOk hB.objs.size m' Z' own' L → Has Z' d v → Q (.ret v) { s with heap := h', toks := tk'.1, drawn := tk'.2 }

theorem PostF.then1 {hB : Heap} {env : Env} {Z Z₁ : Zn} {hid : List (Addr × Obj)} {s : Shared} {h₁ : Heap} {tk₁ : Tk} {o : Out} {Q : Flow → Shared → Prop} (P : PostF hB env Z hid s o Q) (z : ZLe hB.objs.size Z Z₁) :
    PostF hB env Z₁ hid { s with heap := h₁, toks := tk₁.1, drawn := tk₁.2 } o Q := by
  cases o with
  | go L => exact fun m' Z' own' h' tk' z' S' R' => P m' Z' own' h' tk' (z.tr z') S' R'
  | brk L => exact fun m' Z' own' h' tk' z' S' R' => P m' Z' own' h' tk' (z.tr z') S' R'
  | cont L => exact fun m' Z' own' h' tk' z' S' R' => P m' Z' own' h' tk' (z.tr z') S' R'
  | ret d => exact fun v m' Z' own' h' tk' z' S' R' => P v m' Z' own' h' tk' (z.tr z') S' R'
  | retL d L => exact fun v m' Z' own' h' tk' z' S' R' hv => P v m' Z' own' h' tk' (z.tr z') S' R' hv

section
variable (prog : Program) (w : World) (K : Frag) (k : Nat)
noncomputable def CoT (sc : Scope) (ρ : Loc) (t : Env → Sem Flow) (o : Out) : Prop := ∀ env, EnvOk env sc → ∀ A hB m Z own hid s (Q : Flow → Shared → Prop) (E : Value → Shared → Prop), Rm k A → Wd K hB → St hB env m Z (own ++ hid) s.heap → LocOk hB.objs.size m Z own ρ → PostF hB env Z hid s o Q →
  wpAny (model prog w) A (t env) Q E s
noncomputable abbrev Co (sc : Scope) (ρ : Loc) (st : Stmt) (o : Out) : Prop := CoT prog w K k sc ρ (fun env => exec st env) o
noncomputable abbrev Cos (sc : Scope) (ρ : Loc) (b : List Stmt) (o : Out) : Prop := CoT prog w K k sc ρ (fun env => execs b env) o
end

section
variable {prog : Program} {w : World} {K : Frag} {k : Nat} {sc : Scope} {ρ ρ' : Loc}

theorem LocOk.weak {lo : Nat} {m : Str → Option Value} {Z : Zn} {own own' : List (Addr × Obj)} (R : LocOk lo m Z own ρ) : LocOk lo m Z (own ++ own') ρ := R.more fun _ h => List.mem_append_left _ h

theorem coNil : Cos prog w K k sc ρ [] (.go ρ) := fun env O A hB m Z own hid s Q E R W S ro P =>
  wpAny_execs_nil (P m Z own s.heap (s.toks, s.drawn) (ZLe.refl _ _) S ro)

theorem coCons {st : Stmt} {rest : List Stmt} {ρ₁ : Loc} {o : Out} (h : Co prog w K k sc ρ st (.go ρ₁)) (h' : Cos prog w K k sc ρ₁ rest o) : Cos prog w K k sc ρ (st :: rest) o :=
  fun env O A hB m Z own hid s Q E R W S ro P =>
  wpAny_execs_cons (h env O A hB m Z own hid s _ E R W S ro fun m₁ Z₁ own₁ h₁ tk₁ z₁ S₁ ro₁ => h' env O A hB m₁ Z₁ own₁ hid _ Q E R W S₁ ro₁ (P.then1 z₁))

noncomputable def Out.stops : Out → Bool
  | .go _ => false
  | _ => true
theorem coStop {st : Stmt} {rest : List Stmt} {o : Out} (h : Co prog w K k sc ρ st o) (ho : o.stops = true) : Cos prog w K k sc ρ (st :: rest) o :=
  fun env O A hB m Z own hid s Q E R W S ro P => by
  refine wpAny_execs_cons (h env O A hB m Z own hid s _ E R W S ro ?_)
  cases o with
  | go L => cases ho
  | brk L => exact P
  | cont L => exact P
  | ret d => exact P
  | retL d L => exact P

theorem coPass {pos : Pos} : Co prog w K k sc ρ (.Pass pos) (.go ρ) := fun env O A hB m Z own hid s Q E R W S ro P =>
  wpAny_Pass (P m Z own s.heap (s.toks, s.drawn) (ZLe.refl _ _) S ro)
theorem coBrk {pos : Pos} : Co prog w K k sc ρ (.Break pos) (.brk ρ) := fun env O A hB m Z own hid s Q E R W S ro P =>
  wpAny_Break (P m Z own s.heap (s.toks, s.drawn) (ZLe.refl _ _) S ro)
theorem coCont {pos : Pos} : Co prog w K k sc ρ (.Continue pos) (.cont ρ) := fun env O A hB m Z own hid s Q E R W S ro P =>
  wpAny_Continue (P m Z own s.heap (s.toks, s.drawn) (ZLe.refl _ _) S ro)
theorem coRet0 {pos : Pos} : Co prog w K k sc ρ (.Return none pos) (.ret .none) := fun env O A hB m Z own hid s Q E R W S ro P =>
  wpAny_Return_none (P .none m Z own s.heap (s.toks, s.drawn) (ZLe.refl _ _) S mkN)
theorem coRet {e : Expr} {pos : Pos} {d : D} (h : EvS prog w K k sc ρ e d) : Co prog w K k sc ρ (.Return (some e) pos) (.ret d) := fun env O A hB m Z own hid s Q E R W S ro P =>
  wpAny_Return_some (h env O A hB m Z (own ++ hid) s _ E R W S ro.weak fun v Z₁ h₁ tk₁ z₁ S₁ hv => P v m Z₁ own h₁ tk₁ z₁ S₁ hv)

theorem coRet0L {pos : Pos} : Co prog w K k sc ρ (.Return none pos) (.retL .none ρ) := fun env O A hB m Z own hid s Q E R W S ro P =>
  wpAny_Return_none (P .none m Z own s.heap (s.toks, s.drawn) (ZLe.refl _ _) S ro mkN)

theorem coIf {test : Expr} {body orelse : List Stmt} {pos : Pos} {c : Bool} {o : Out} (ht : EvB prog w K k sc ρ test c) (h : Cos prog w K k sc ρ (if c then body else orelse) o) : Co prog w K k sc ρ (.If test body orelse pos) o :=
  fun env O A hB m Z own hid s Q E R W S ro P => by
  refine wpAny_If (ht env O A hB m Z (own ++ hid) s _ E R W S ro.weak fun Z₁ h₁ tk₁ z₁ S₁ => ?_)
  have x := h env O A hB m Z₁ own hid { s with heap := h₁, toks := tk₁.1, drawn := tk₁.2 } Q E R W S₁ (ro.mono z₁.1) (P.then1 z₁)
  cases c <;> exact x

theorem coAssert {test : Expr} {msg : Option Expr} {pos : Pos} (ht : EvB prog w K k sc ρ test true) : Co prog w K k sc ρ (.Assert test msg pos) (.go ρ) :=
  fun env O A hB m Z own hid s Q E R W S ro P =>
  wpAny_Assert_holds (ht env O A hB m Z (own ++ hid) s _ E R W S ro.weak fun Z₁ h₁ tk₁ z₁ S₁ => ⟨rfl, P m Z₁ own h₁ tk₁ z₁ S₁ (ro.mono z₁.1)⟩)

/-- a sure local or cell of the scope -/
noncomputable def isVar (sc : Scope) (x : Str) : Bool := match sc.names.lookup x with
  | some .local | some .cell => true
  | _ => false
theorem isVar_or {x : Str} (h : isVar sc x = true) : sc.names.lookup x = some .local ∨ sc.names.lookup x = some .cell := by
  unfold isVar at h
  split at h
  · exact .inl ‹_›
  · exact .inr ‹_›
  · cases h

/-- storing a value -/
theorem storeV {env : Env} {A : Around} {hB : Heap} {m : Str → Option Value} {Z : Zn} {own hid : List (Addr × Obj)} {s : Shared} {Q : Unit → Shared → Prop} {E : Value → Shared → Prop} {x : Str} {v : Value} {d : D}
    (O : EnvOk env sc) (hx : isVar sc x = true) (S : St hB env m Z (own ++ hid) s.heap) (ro : LocOk hB.objs.size m Z own ρ) (hv : Has Z d v)
    (h : ∀ h' (tk : Tk), h'.objs.size = s.heap.objs.size → St hB env (upd m x v) Z (own ++ hid) h' → LocOk hB.objs.size (upd m x v) Z own (setL ρ x (.val d)) → Q () { s with heap := h', toks := tk.1, drawn := tk.2 }) :
    wpAny (model prog w) A (storeName env x v) Q E s :=
  store_local_ok O (isVar_or hx) S fun h' tk n S' => h h' tk n S' (ro.setVal hv)

theorem coAssign {x : Str} {p' p : Pos} {e : Expr} {d : D} (h : EvS prog w K k sc ρ e d) (hx : isVar sc x = true) (hs : ∀ env, EnvOk env sc → swapsWith e (some (.Name x p')) p.line env = pure false) : Co prog w K k sc ρ (.Assign [.Name x p'] e p) (.go (setL ρ x (.val d))) :=
  fun env O A hB m Z own hid s Q E R W S ro P =>
  wpAny_Assign_Name (h env O A hB m Z (own ++ hid) s _ E R W S ro.weak fun v Z₁ h₁ tk₁ z₁ S₁ hv =>
    storeV O hx S₁ (ro.mono z₁.1) hv fun h₂ tk₂ n₂ S₂ ro₂ => P _ Z₁ own h₂ tk₂ z₁ S₂ ro₂) (hs env O)

/-- the operations in place -/
noncomputable def augI (op : Operator) (a b : Int) : Option D := match op with
  | .Add => some (.int (a + b))
  | .Sub => some (.int (a - b))
  | .Mult => if sm a then some (.int (a * b)) else none
  | _ => none
noncomputable def augT (op : Operator) (a b : Str) : Option D := match op with
  | .Add => if a.length + b.length ≤ 100000 then some (.str (a ++ b)) else none
  | _ => none
noncomputable def augD (op : Operator) (x y : D) : Option D := match x with
  | .int a => (match y with | .int b => augI op a b | _ => none)
  | .str a => (match y with | .str b => augT op a b | _ => none)
  | _ => none
theorem augD_sound {A : Around} {E : Value → Shared → Prop} {s : Shared} {Z : Zn} {op : Operator} {a b d : D} {va vb : Value} {Q : Value → Shared → Prop} (h : augD op a b = some d) (ha : Has Z a va) (hb : Has Z b vb)
    (hq : ∀ v tk, Has Z d v → Q v { s with toks := tk }) : wpAny (model prog w) A (inplaceOp op va vb) Q E s := by
  cases a with
  | int x => cases b with
    | int y =>
      obtain ⟨t, rfl⟩ := has_int ha; obtain ⟨u, rfl⟩ := has_int hb
      unfold augD at h
      dsimp only at h
      unfold augI at h
      split at h
      · cases h; exact iadd_int (hq _ _ (mkI _ _))
      · cases h; exact isub_int (hq _ _ (mkI _ _))
      · split at h
        · cases h; rename_i q; exact imul_int (hq _ _ (mkI _ _)) (IntMulOk.of_left (sm_bits q))
        · cases h
      · cases h
    | _ => exact none_ne h
  | str x => cases b with
    | str y =>
      obtain ⟨t, rfl⟩ := has_str ha; obtain ⟨u, rfl⟩ := has_str hb
      unfold augD at h
      dsimp only at h
      unfold augT at h
      split at h
      · split at h
        · cases h; rename_i q
          exact SB.iadd (fun _ _ => hq _ _ (mkS _ _)) (Nat.le_trans q (by decide))
        · cases h
      · cases h
    | _ => exact none_ne h
  | _ => exact none_ne h

theorem load_ok {A : Around} {E : Value → Shared → Prop} {s : Shared} {env : Env} {hB : Heap} {m : Str → Option Value} {Z : Zn} {own : List (Addr × Obj)} {Q : Value → Shared → Prop} {x : Str} {v : Value} (O : EnvOk env sc) (hx : isVar sc x = true) (S : St hB env m Z own s.heap) (hm : m x = some v) (h : Q v s) :
    wpAny (model prog w) A (loadName env x) Q E s := by
  rcases isVar_or hx with hk | hk
  · obtain ⟨ml, F, e⟩ := S.fr
    exact wpAny_loadName_local O.kind (O.kl x hk) F.ns ((e x (O.kl x hk)).trans hm) h
  · obtain ⟨e1, c, hc, _⟩ := O.kc x hk
    exact wpAny_loadName_cell O.kind e1 hc (hm ▸ S.cel x c hc) h

theorem coAug {x : Str} {op : Operator} {p' p : Pos} {e : Expr} {a b d : D} (ha : ρ.lookup x = some (.val a)) (hb : EvS prog w K k sc ρ e b) (hd : augD op a b = some d) (hx : isVar sc x = true) : Co prog w K k sc ρ (.AugAssign (.Name x p') op e p) (.go (setL ρ x (.val d))) :=
  fun env O A hB m Z own hid s Q E R W S ro P => by
  obtain ⟨v, hm, hv⟩ := ro.v x a ha
  refine wpAny_AugAssign_Name (load_ok O hx S hm (hb env O A hB m Z (own ++ hid) s _ E R W S ro.weak fun u Z₁ h₁ tk₁ z₁ S₁ hu => ?_))
  refine augD_sound hd (hv.mono z₁.1) hu fun r tk hr => ?_
  exact storeV O hx (s := { s with heap := h₁, toks := tk, drawn := tk₁.2 }) S₁ (ro.mono z₁.1) hr fun h₂ tk₂ n₂ S₂ ro₂ => P _ Z₁ own h₂ tk₂ z₁ S₂ ro₂

/-! several names at once -/
noncomputable def setLs : Loc → List Str → List D → Loc
  | ρ, x :: xs, d :: ds => setLs (setL ρ x (.val d)) xs ds
  | ρ, _, _ => ρ
noncomputable def IsStores (env : Env) : List Str → List (Value → Sem Unit) → Prop
  | [], [] => True
  | x :: xs, t :: ts => (∀ {M : Model} {A : Around} {v : Value} {Q : Unit → Shared → Prop} {E : Value → Shared → Prop} {s : Shared}, wpAny M A (storeName env x v) Q E s → wpAny M A (t v) Q E s) ∧ IsStores env xs ts
  | _, _ => False
theorem storesV {env : Env} {A : Around} {hB : Heap} {hid : List (Addr × Obj)} {Q : Unit → Shared → Prop} {E : Value → Shared → Prop} (O : EnvOk env sc) : ∀ {xs : List Str} {ts : List (Value → Sem Unit)} {vs : List Value} {ds : List D} {m : Str → Option Value} {Z : Zn} {own : List (Addr × Obj)} {s : Shared} {ρ : Loc},
    IsStores env xs ts → xs.all (isVar sc) = true → HasL Z ds vs → vs.length = xs.length → St hB env m Z (own ++ hid) s.heap → LocOk hB.objs.size m Z own ρ →
    (∀ m' h' (tk : Tk), h'.objs.size = s.heap.objs.size → St hB env m' Z (own ++ hid) h' → LocOk hB.objs.size m' Z own (setLs ρ xs ds) → Q () { s with heap := h', toks := tk.1, drawn := tk.2 }) → wpAny (model prog w) A (assignInOrder ts vs) Q E s
  | [], [], vs, ds, m, Z, own, s, ρ, _, _, hv, hl, S, ro, h => by
    cases vs with
    | nil => unfold setLs at h; exact wpAny_assignInOrder_none (h m s.heap (s.toks, s.drawn) rfl S ro)
    | cons v r => cases hl
  | [], _ :: _, _, _, _, _, _, _, _, x, _, _, _, _, _, _ => x.elim
  | _ :: _, [], _, _, _, _, _, _, _, x, _, _, _, _, _, _ => x.elim
  | x :: xs, t :: ts, vs, ds, m, Z, own, s, ρ, ht, ha, hv, hl, S, ro, h => by
    cases vs with
    | nil => cases hl
    | cons v r =>
      cases ds with
      | nil => unfold HasL at hv; cases hv
      | cons d ds =>
        unfold HasL at hv
        obtain ⟨v', r', e, h1, h2⟩ := hv
        cases e
        rw [List.all_cons, Bool.and_eq_true] at ha
        refine wpAny_assignInOrder_more (ht.1 (storeV O ha.1 S ro h1 fun h₂ tk₂ n₂ S₂ ro₂ => ?_))
        refine storesV O ht.2 ha.2 h2 (by simpa using hl) S₂ ro₂ fun m' h' tk n S' ro' => ?_
        exact h m' h' tk (n.trans n₂) S' (by unfold setLs; exact ro')

noncomputable def nameOf : Expr → Option Str
  | .Name x _ => some x
  | _ => none
theorem assignEach_names {env : Env} : ∀ {es : List Expr} {xs : List Str}, es.map nameOf = xs.map some → IsStores env xs ((assignEach es env).map (·.2)) ∧ (assignEach es env).length = xs.length ∧ (assignEach es env).findIdx? (fun x => x.1) = none
  | [], [], _ => ⟨trivial, rfl, rfl⟩
  | [], _ :: _, h => by cases h
  | _ :: _, [], h => by cases h
  | e :: es, x :: xs, h => by
    rw [List.map_cons, List.map_cons, List.cons.injEq] at h
    cases e <;> first | (exact absurd (show (none : Option Str) = some x from h.1) (by intro q; cases q)) | skip
    rename_i y p
    have hy : y = x := Option.some.inj h.1
    subst hy
    obtain ⟨i1, i2, i3⟩ := assignEach_names (env := env) h.2
    refine ⟨⟨fun h => wpAny_assign_Name h, i1⟩, ?_, ?_⟩
    · show (_ :: assignEach es env).length = _
      rw [List.length_cons, i2, List.length_cons]
    · show List.findIdx? _ ((false, assign (.Name y p) env) :: assignEach es env) = none
      rw [List.findIdx?_cons, i3]; rfl

theorem coUnpackT {elts : List Expr} {j : Nat} {p' p : Pos} {e : Expr} {xs : List Str} {ds : List D} (h : EvS prog w K k sc ρ e (.tup ds)) (hn : elts.map nameOf = xs.map some) (hx : xs.all (isVar sc) = true) (hl : ds.length = xs.length)
    (hs : ∀ env, swapsWithSole [.Tuple elts j p'] e p.line env = pure false) (hs' : ∀ env, EnvOk env sc → swappedStores [.Tuple elts j p'] e env = pure none) : Co prog w K k sc ρ (.Assign [.Tuple elts j p'] e p) (.go (setLs ρ xs ds)) :=
  fun env O A hB m Z own hid s Q E R W S ro P => by
  refine Assign_Tuple (h env O A hB m Z (own ++ hid) s _ E R W S ro.weak fun v Z₁ h₁ tk₁ z₁ S₁ hv => ?_) (hs env) (hs' env O)
  unfold Has at hv
  obtain ⟨a, o, vs, n, rfl, z, cc, dt, r⟩ := hv
  obtain ⟨i1, i2, i3⟩ := assignEach_names (env := env) hn
  refine wpAny_assign_Tuple R.h ⟨_, S₁.zin _ _ z, cc, n, dt⟩ ?_ i3 fun h' hk => ?_
  · rw [i2, ← hl, ← r.length]; simp
  · have S₂ : St hB env m Z₁ (own ++ hid) h' := S₁.ext (fun b => b = h₁.objs.size) (fun b q => S₁.free_new (Nat.le_of_eq q.symm)) fun b o q e => hk b o q e
    refine storesV O (s := { s with heap := h', toks := tk₁.1, drawn := tk₁.2 }) i1 hx r (by rw [r.length, hl]) S₂ (ro.mono z₁.1) fun m' h₂ tk₂ n₂ S₃ ro₃ => ?_
    exact P m' Z₁ own h₂ tk₂ z₁ S₃ ro₃
end
end Mine
end
section
open PySem PySem.W PyProof.Rows PySem.Flt
namespace Mine

/-! the heap without the two tables -/
noncomputable def gh (h : Heap) : Heap := hideAll h [45, 52]
theorem gh_get {h : Heap} {b : Addr} {o : Obj} (e : h.get? b = some o) (hn : isTab b = false) : (gh h).get? b = some o :=
  hideAll_get _ e fun q => by
    unfold isTab at hn
    simp only [Bool.or_eq_false_iff, beq_eq_false_iff_ne] at hn
    rcases List.mem_cons.mp q with rfl | q
    · exact hn.1 rfl
    · rcases List.mem_cons.mp q with rfl | q
      · exact hn.2 rfl
      · cases q
theorem of_gh {h : Heap} {b : Addr} {o : Obj} (e : (gh h).get? b = some o) : h.get? b = some o := of_hideAll _ e
theorem gh_tab {h : Heap} {b : Addr} (hn : isTab b = true) : (gh h).get? b = none := hideAll_none _ (by
    unfold isTab at hn
    simp only [Bool.or_eq_true, beq_iff_eq] at hn
    rcases hn with rfl | rfl
    · exact .head _
    · exact .tail _ (.head _))
theorem gh_size (h : Heap) : (gh h).objs.size = h.objs.size := hideAll_size _ _
theorem notTab_of_hi {b : Addr} (h : isTab b = false) : isTab b = false := h

section
variable {hB : Heap} {env env' : Env} {m m' : Str → Option Value} {Z Z' : Zn} {own own' : List (Addr × Obj)} {h h₁ h' : Heap}

theorem St.ghB (S : St hB env m Z own h) : ∀ b o, hB.get? b = some o → (gh h).get? b = some o := fun b o e =>
  gh_get (S.keep b o e) (by
    cases q : isTab b with
    | false => rfl
    | true => rw [S.tB b q] at e; cases e)

/-- entering a frame -/
theorem St.enter (S : St hB env m Z own h) {ml : Str → Option Value} (hk : ∀ b o, h.get? b = some o → h₁.get? b = some o) (F : h₁.Ns env'.locals ml) (hm : ∀ x, env'.kindOf x = some .local → ml x = m' x) (hl : h.objs.size ≤ env'.locals)
    (hc : ∀ x c, env'.cells.lookup x = some c → h₁.IsCell c (m' x)) (hc2 : ∀ x c, env'.cells.lookup x = some c → c ≠ env'.locals ∧ (h.objs.size ≤ c ∨ ∃ y, env.cells.lookup y = some c)) : St (gh h) env' m' Z [] h₁ where
  fr := ⟨ml, ⟨F, fun b o e => hk b o (of_gh e), by rw [gh_size]; exact hl⟩, hm⟩
  cel := hc
  zin := fun a o e => hk a o (S.zin a o e)
  zhi := S.zhi
  zL := (S.free_new hl).z
  zc := fun x c e => by
    rcases (hc2 x c e).2 with l | ⟨y, l⟩
    · exact (S.free_new l).z
    · exact S.zc y c l
  oin := fun p hp => by cases hp
  oZ := fun p hp => by cases hp
  oB := fun p hp => by cases hp
  oL := fun p hp => by cases hp
  oc := fun p hp => by cases hp
  ohi := fun p hp => by cases hp
  ond := List.nodup_nil
  Lhi := (S.free_new hl).hi
  chi := fun x c e => by
    rcases (hc2 x c e).2 with l | ⟨y, l⟩
    · exact (S.free_new l).hi
    · exact S.chi y c l
  cL := fun x c e => (hc2 x c e).1
  tB := fun a e => gh_tab e
  tab := S.tab.mono (fun _ _ e => e) fun b o _ e => hk b o e

/-- back in the frame that called -/
theorem St.back (S : St hB env m Z own h) (S' : St (gh h) env' m' Z' own' h') (z : ZLe (gh h).objs.size Z Z') : St hB env m Z' own h' := by
  have kp : ∀ b o, isTab b = false → h.get? b = some o → h'.get? b = some o := fun b o n e => S'.keep b o (gh_get e n)
  have nz : ∀ b, Z b = none → b < h.objs.size → Z' b = none := fun b e l => by
    cases q : Z' b with
    | none => rfl
    | some o =>
      rcases z.2 b o q with w | w
      · rw [e] at w; cases w
      · rw [gh_size] at w; exact absurd l (Nat.not_lt.mpr w)
  exact {
    fr := by
      obtain ⟨ml, F, e⟩ := S.fr
      refine ⟨ml, ⟨F.ns.at' fun o q => kp _ o (notTab_of_hi S.Lhi) q, fun b o q => ?_, F.above⟩, e⟩
      exact S'.keep b o (S.ghB b o q)
    cel := fun x c e => isCell_at (S.cel x c e) fun o q => kp c o (notTab_of_hi (S.chi x c e)) q
    zin := S'.zin
    zhi := S'.zhi
    zL := nz _ S.zL S.ltL
    zc := fun x c e => nz _ (S.zc x c e) (S.cel x c e).lt
    oin := fun p hp => kp _ _ (notTab_of_hi (S.ohi p hp)) (S.oin p hp)
    oZ := fun p hp => nz _ (S.oZ p hp) (Heap.lt_size (S.oin p hp))
    oB := S.oB
    oL := S.oL
    oc := S.oc
    ohi := S.ohi
    ond := S.ond
    Lhi := S.Lhi
    chi := S.chi
    cL := S.cL
    tB := S.tB
    tab := S'.tab }
end

/-! the bound arguments -/
theorem bindL_miss {kd : Str → Option NameKind} {x : Str} : ∀ {bs : List (Str × Value)} {m : Str → Option Value}, (∀ p ∈ bs, p.1 ≠ x) → bindL kd bs m x = m x
  | [], _, _ => rfl
  | (n, v) :: r, m, h => by
    unfold bindL
    rw [bindL_miss fun p hp => h p (.tail _ hp)]
    by_cases q : kd n = some .local
    · rw [if_pos q]; show (if x = n then some v else m x) = _; rw [if_neg (Ne.symm (h _ (.head _)))]
    · rw [if_neg q]
theorem bindC_miss {kd : Str → Option NameKind} {x : Str} : ∀ {bs : List (Str × Value)} {m : Str → Option Value}, (∀ p ∈ bs, p.1 ≠ x) → bindC kd bs m x = m x
  | [], _, _ => rfl
  | (n, v) :: r, m, h => by
    unfold bindC
    rw [bindC_miss fun p hp => h p (.tail _ hp)]
    by_cases q : kd n = some .local
    · rw [if_pos q]
    · rw [if_neg q]; show (if x = n then some v else m x) = _; rw [if_neg (Ne.symm (h _ (.head _)))]
theorem bindL_hit {kd : Str → Option NameKind} {x : Str} {v : Value} (hx : kd x = some .local) : ∀ {bs : List (Str × Value)} {m : Str → Option Value}, (bs.map (·.1)).Nodup → (x, v) ∈ bs → bindL kd bs m x = some v
  | (n, u) :: r, m, hn, h => by
    unfold bindL
    rw [List.map_cons, List.nodup_cons] at hn
    rcases List.mem_cons.mp h with e | h
    · cases e
      rw [bindL_miss fun p hp q => hn.1 (List.mem_map.mpr ⟨p, hp, q⟩), if_pos hx]
      exact if_pos rfl
    · exact bindL_hit hx hn.2 h
theorem bindC_hit {kd : Str → Option NameKind} {x : Str} {v : Value} (hx : kd x ≠ some .local) : ∀ {bs : List (Str × Value)} {m : Str → Option Value}, (bs.map (·.1)).Nodup → (x, v) ∈ bs → bindC kd bs m x = some v
  | (n, u) :: r, m, hn, h => by
    unfold bindC
    rw [List.map_cons, List.nodup_cons] at hn
    rcases List.mem_cons.mp h with e | h
    · cases e
      rw [bindC_miss fun p hp q => hn.1 (List.mem_map.mpr ⟨p, hp, q⟩), if_neg hx]
      exact if_pos rfl
    · exact bindC_hit hx hn.2 h
theorem lookup_mem {α : Type} {x : Str} {v : α} : ∀ {l : List (Str × α)}, l.lookup x = some v → (x, v) ∈ l
  | (n, u) :: r, h => by
    rw [List.lookup_cons] at h
    cases q : (x == n) with
    | true => rw [q] at h; cases h; rw [beq_iff_eq.mp q]; exact .head _
    | false => rw [q] at h; exact .tail _ (lookup_mem h)
theorem mem_lookup {α : Type} {x : Str} {v : α} : ∀ {l : List (Str × α)}, (l.map (·.1)).Nodup → (x, v) ∈ l → l.lookup x = some v
  | (n, u) :: r, hn, h => by
    rw [List.map_cons, List.nodup_cons] at hn
    rw [List.lookup_cons]
    rcases List.mem_cons.mp h with e | h
    · cases e; rw [beqT]
    · rw [beqF (fun q => hn.1 (List.mem_map.mpr ⟨_, h, q⟩))]
      exact mem_lookup hn.2 h
theorem mem_lookup_some {α : Type} {x : Str} {v : α} : ∀ {l : List (Str × α)}, (x, v) ∈ l → ∃ u, l.lookup x = some u
  | (n, u) :: r, h => by
    rw [List.lookup_cons]
    cases q : (x == n) with
    | true => exact ⟨u, rfl⟩
    | false =>
      rcases List.mem_cons.mp h with e | h
      · cases e; rw [beqT] at q; cases q
      · exact mem_lookup_some h

noncomputable def locsOf : List Str → List D → Loc
  | x :: xs, d :: ds => (x, .val d) :: locsOf xs ds
  | _, _ => []
theorem locs_has {Z : Zn} {x : Str} {r : Vr} : ∀ {xs : List Str} {ds : List D} {vs : List Value}, HasL Z ds vs → (locsOf xs ds).lookup x = some r → ∃ d v, r = .val d ∧ (x, v) ∈ xs.zip vs ∧ Has Z d v
  | [], _, _, _, h => by unfold locsOf at h; cases h
  | _ :: _, [], _, _, h => by unfold locsOf at h; cases h
  | y :: xs, d :: ds, vs, hv, h => by
    unfold HasL at hv
    obtain ⟨v, vs', rfl, h1, h2⟩ := hv
    unfold locsOf at h
    rw [List.lookup_cons] at h
    cases q : (x == y) with
    | true =>
      rw [q] at h; cases h
      exact ⟨d, v, rfl, by rw [beq_iff_eq.mp q]; exact .head _, h1⟩
    | false =>
      rw [q] at h
      obtain ⟨d', v', e1, e2, e3⟩ := locs_has h2 h
      exact ⟨d', v', e1, .tail _ e2, e3⟩
theorem zip_keys {xs : List Str} : ∀ {vs : List Value}, vs.length = xs.length → (xs.zip vs).map (·.1) = xs := fun h => List.map_fst_zip (Nat.le_of_eq h.symm)

theorem LocOk.ofVals {lo : Nat} {m : Str → Option Value} {Z : Zn} {own : List (Addr × Obj)} {L : Loc} (h : ∀ x r, L.lookup x = some r → ∃ d v, r = .val d ∧ m x = some v ∧ Has Z d v) : LocOk lo m Z own L where
  v := fun x d e => by obtain ⟨d', v, e1, e2, e3⟩ := h x _ e; cases e1; exact ⟨v, e2, e3⟩
  o := fun x r e t => by obtain ⟨d', v, e1, e2, e3⟩ := h x _ e; subst e1; cases t
  b := fun x r a e t _ _ => by obtain ⟨d', v, e1, e2, e3⟩ := h x _ e; subst e1; cases t
  i := fun x y r r' a e t _ _ _ _ => by obtain ⟨d', v, e1, e2, e3⟩ := h x _ e; subst e1; cases t

/-! cells -/
theorem cf_mem {x : Str} {c : Addr} : ∀ {names : List (Str × NameKind)} {n : Nat} {acc : List (Str × Addr)}, (x, c) ∈ cellsFrom n names acc → (x, c) ∈ acc ∨ ((x, .cell) ∈ names ∧ n ≤ c)
  | [], _, _, h => .inl h
  | (y, kd) :: r, n, acc, h => by
    unfold cellsFrom at h
    by_cases q : (kd == NameKind.cell) = true
    · rw [if_pos q] at h
      rcases cf_mem h with h | ⟨h1, h2⟩
      · rcases List.mem_cons.mp h with e | h
        · cases e
          have : kd = .cell := by cases kd <;> first | rfl | cases q
          subst this
          exact .inr ⟨.head _, Nat.le_refl _⟩
        · exact .inl h
      · exact .inr ⟨.tail _ h1, Nat.le_of_succ_le h2⟩
    · rw [if_neg q] at h
      rcases cf_mem h with h | ⟨h1, h2⟩
      · exact .inl h
      · exact .inr ⟨.tail _ h1, h2⟩
theorem cf_acc {p : Str × Addr} : ∀ {names : List (Str × NameKind)} {n : Nat} {acc : List (Str × Addr)}, p ∈ acc → p ∈ cellsFrom n names acc
  | [], _, _, h => h
  | (y, kd) :: r, n, acc, h => by
    unfold cellsFrom
    by_cases q : (kd == NameKind.cell) = true
    · rw [if_pos q]; exact cf_acc (.tail _ h)
    · rw [if_neg q]; exact cf_acc h
theorem cf_has {x : Str} : ∀ {names : List (Str × NameKind)} {n : Nat} {acc : List (Str × Addr)}, (x, .cell) ∈ names → ∃ c, (x, c) ∈ cellsFrom n names acc
  | (y, kd) :: r, n, acc, h => by
    unfold cellsFrom
    rcases List.mem_cons.mp h with e | h
    · cases e
      exact ⟨n, cf_acc (.head _)⟩
    · by_cases q : (kd == NameKind.cell) = true
      · rw [if_pos q]; exact cf_has h
      · rw [if_neg q]; exact cf_has h

noncomputable def noFree (sc : Scope) : Bool := sc.names.all fun p => p.2 != .free
noncomputable def fastMore (l : List (Str × Const)) : Bool := l.all fun p => (p.1 == Str.ofString "fast") && (match p.2 with | .str _ => true | _ => false)
noncomputable def okScope (sc : Scope) : Bool := fastMore sc.more && decide ((sc.names.map (·.1)).Nodup) && noFree sc && (sc.names.lookup ("__debug__" : Str)).isNone && (sc.names.lookup ("__classdict__" : Str)).isNone && decide (sc.kind = .function) && !sc.isCoroutine && !sc.isGenerator

theorem noMore {sc : Scope} (h : fastMore sc.more = true) {x : Str} {n : Int} : sc.more.lookup x ≠ some (.int n) := fun e => by
  have := List.all_eq_true.mp h _ (lookup_mem e)
  simp at this
theorem noMoreQ {sc : Scope} (h : fastMore sc.more = true) {c : Const} : sc.more.lookup (Str.ofString "#qual") ≠ some c := fun e => by
  have := List.all_eq_true.mp h _ (lookup_mem e)
  rw [Bool.and_eq_true] at this
  exact absurd (show (Str.ofString "#qual" == Str.ofString "fast") = true from this.1) (by decide)
theorem envOk_call {fd : FuncData} {L a : Addr} (hs : okScope fd.scope = true) (hg : fd.globals = mainGlobals) (hb : fd.builtins = builtinsNs) (ap : List.Pairwise (fun x y : Str × Addr => x.2 ≠ y.2) (cellsFrom (L + 1) fd.scope.names [])) : EnvOk (callEnvC fd L a) fd.scope := by
  unfold okScope at hs
  simp only [Bool.and_eq_true, decide_eq_true_eq, Option.isNone_iff_eq_none] at hs
  obtain ⟨⟨⟨⟨⟨⟨⟨h0, h1⟩, h2⟩, h3⟩, h4⟩, h5⟩, h6⟩, h7⟩ := hs
  refine { kind := h5, glo := hg, bui := hb, kg := fun x e => e, kl := fun x e => e, kc := fun x e => ⟨e, ?_⟩, kf := fun x e => ?_, lc := fun x e => ?_, ci := fun x y c e e' => ?_, mo := fun x n e => absurd e (noMore h0), co := fun n e => absurd e (noMore h0), qu := fun x e => absurd e (noMoreQ h0), nd := h3, nc := h4 }
  · obtain ⟨c, hc⟩ := cf_has (n := L + 1) (acc := []) (lookup_mem e)
    obtain ⟨c', hc'⟩ := mem_lookup_some hc
    refine ⟨c', hc', ?_⟩
    rcases cf_mem (lookup_mem hc') with q | ⟨_, q⟩
    · cases q
    · exact q
  · unfold noFree at h2
    have := List.all_eq_true.mp h2 _ (lookup_mem e)
    cases this
  · show (cellsFrom (L + 1) fd.scope.names []).lookup x = none
    cases q : (cellsFrom (L + 1) fd.scope.names []).lookup x with
    | none => rfl
    | some c =>
      rcases cf_mem (lookup_mem q) with w | ⟨w, _⟩
      · cases w
      · rw [mem_lookup h1 w] at e; cases e
  · exact name_of_addr ap (lookup_mem e) (lookup_mem e')

noncomputable def retOf : Out → Option D
  | .ret d => some d
  | .retL d _ => some d
  | .go _ => some .none
  | _ => none

section
variable {prog : Program} {w : World} {K : Frag} {k : Nat}

theorem body_run {sc : Scope} {ρ : Loc} {body : List Stmt} {o : Out} {d : D} (h : Cos prog w K k sc ρ body o) (ho : retOf o = some d) {env' : Env} {A : Around} {hG : Heap} {m' : Str → Option Value} {Z : Zn} {s : Shared} {E : Value → Shared → Prop} {R : Result → Shared → Prop}
    (O : EnvOk env' sc) (r : Rm k A) (W : Wd K hG) (S : St hG env' m' Z [] s.heap) (ro : LocOk hG.objs.size m' Z [] ρ)
    (hR : ∀ v m'' Z' own' h' (tk' : Tk), ZLe hG.objs.size Z Z' → St hG env' m'' Z' own' h' → Has Z' d v → R (.ok (.ret v)) { s with heap := h', toks := tk'.1, drawn := tk'.2 }) :
    wpAny (model prog w) A (execs body env') (fun f s' => R (.ok (.ret (match f with | .ret v => v | _ => .none))) s') E s := by
  refine h env' O A hG m' Z [] [] s _ E r W S ro ?_
  cases o with
  | ret d' => cases ho; exact fun v m'' Z' own' h' tk' z S' hv => hR v m'' Z' _ h' tk' z S' hv
  | retL d' L => cases ho; exact fun v m'' Z' own' h' tk' z S' _ hv => hR v m'' Z' _ h' tk' z S' hv
  | go L => cases ho; exact fun m'' Z' own' h' tk' z S' _ => hR .none m'' Z' _ h' tk' z S' mkN
  | brk L => cases ho
  | cont L => cases ho

theorem Rm.deeper {A : Around} (r : Rm (k + 1) A) (env : Env) : Rm k (A.deeper env) :=
  ⟨r.h, by have := r.d; show A.depth + 1 + 10 * k + 10 ≤ 800; omega, by have := r.u; show A.units + 3 + 100 * k + 300 ≤ 9000; omega⟩

theorem Wd.gh {hB : Heap} (W : Wd K hB) {env : Env} {m : Str → Option Value} {Z : Zn} {own : List (Addr × Obj)} {h : Heap} (S : St hB env m Z own h) : Wd K (gh h) := W.keeps S.ghB

/-- a plain def (cells or none), as a function of data -/
theorem vspecX {sc' : Scope} {f : Addr} {oc dV kV doc pm cdv ct : Value} {od an : Option Addr} {osl : Array (Option Value)} {name qual : Str} {params : Arguments} {body : List Stmt} {sc : Scope} {ds : List D} {d : D} {o : Out} {xs : List Str}
    (ho : K.lookup f = some ⟨oc, od, .func (fnOf name qual params body sc dV kV doc pm an cdv ct), osl⟩) (hcd : codeIn K cdv qual = true)
    (hb : ∀ vs : List Value, vs.length = xs.length → bindArgs (fnOf name qual params body sc dV kV doc pm an cdv ct) ⟨vs, []⟩ = pure (xs.zip vs)) (hs : okScope sc = true) (hx : xs.all (isVar sc) = true) (hn : xs.Nodup) (hl : ds.length = xs.length)
    (hr : retOf o = some d) (hsc : ∀ L, EnvOk (callEnvC (fnOf name qual params body sc dV kV doc pm an cdv ct) L f) sc → EnvOk (callEnvC (fnOf name qual params body sc dV kV doc pm an cdv ct) L f) sc') (h : Cos prog w K k sc' (locsOf xs ds) body o) : VSpec prog w K (k + 1) (.ref f) ds d := by
  intro env hke A hB m Z own s vs Q E R W S hv P
  have hs' := hs
  unfold okScope at hs'
  simp only [Bool.and_eq_true, decide_eq_true_eq, Option.isNone_iff_eq_none, Bool.not_eq_true'] at hs'
  obtain ⟨⟨⟨⟨⟨⟨⟨h0, h1⟩, h2⟩, h3⟩, h4⟩, h5⟩, h6⟩, h7⟩ := hs'
  have X : K.In s.heap := W.k.keeps S.keep
  obtain ⟨p, loose, mean, mg, mb, T⟩ := W.t
  have hvl : vs.length = xs.length := by rw [hv.length, hl]
  refine wpAny_call (codeAny_call_cells (fd := fnOf name qual params body sc dV kV doc pm an cdv ct) R.room (X _ _ ho) rfl (T.nolimit.keeps S.keep) (codeRec_of X hcd) rfl (hb vs hvl) rfl (fun x hx' => ?_) (fun s₁ I => ?_) h6 h7 h5)
  · have hxk : x.1 ∈ xs := (List.of_mem_zip (show (x.1, x.2) ∈ xs.zip vs from hx')).1
    rcases isVar_or (List.all_eq_true.mp hx _ hxk) with q | q
    · exact .inl q
    · obtain ⟨c, hc⟩ := cf_has (n := s.heap.objs.size + 1) (acc := []) (lookup_mem q)
      obtain ⟨c', hc'⟩ := mem_lookup_some hc
      exact .inr ⟨q, by show (List.lookup x.1 (cellsFrom _ sc.names [])).isSome = true; rw [hc']; rfl⟩
  · obtain ⟨h₁, tk, rfl⟩ := I.toInCall.same
    have O := envOk_call (fd := fnOf name qual params body sc dV kV doc pm an cdv ct) (L := s.heap.objs.size) (a := f) hs rfl rfl I.apart
    let env' := callEnvC (fnOf name qual params body sc dV kV doc pm an cdv ct) s.heap.objs.size f
    let m' : Str → Option Value := fun x => if sc.names.lookup x = some .local then bindL env'.kindOf (xs.zip vs) (fun _ => none) x else bindC env'.kindOf (xs.zip vs) (fun _ => none) x
    have S' : St (gh s.heap) env' m' Z [] h₁ := S.enter (ml := bindL env'.kindOf (xs.zip vs) (fun _ => none)) I.toInCall.keep I.toInCall.ns (fun x e => (if_pos e).symm) (Nat.le_refl _) (fun x c e => by
        show h₁.IsCell c (if sc.names.lookup x = some .local then _ else _)
        rw [if_neg (fun q => by rw [show env'.cells.lookup x = none from O.lc x q] at e; cases e)]
        exact I.cell x c e) (fun x c e => by
        have l := I.above x c (lookup_mem e)
        exact ⟨Nat.ne_of_gt l, .inl (Nat.le_of_lt l)⟩)
    have ro : LocOk (gh s.heap).objs.size m' Z [] (locsOf xs ds) := LocOk.ofVals fun x r e => by
      obtain ⟨d', v, e1, e2, e3⟩ := locs_has hv e
      refine ⟨d', v, e1, ?_, e3⟩
      show (if sc.names.lookup x = some .local then _ else _) = _
      by_cases q : sc.names.lookup x = some .local
      · rw [if_pos q]; exact bindL_hit q (by rw [zip_keys hvl]; exact hn) e2
      · rw [if_neg q]; exact bindC_hit q (by rw [zip_keys hvl]; exact hn) e2
    refine body_run (s := { s with heap := h₁, toks := tk }) (R := fun r s' => match r with | .ok (.ret v) => Q v s' | .ok _ => False | .error e => E e s') h hr (hsc _ O) (R.deeper _) (W.gh S) S' ro fun v m'' Z' own' h' tk' z S'' hv' => ?_
    exact P v Z' h' tk' (z.of_le (by rw [gh_size]; exact S.leB)) (S.back S'' z) hv'

/-- the same, with no more said of the scope -/
theorem vspecC {f : Addr} {oc dV kV doc pm cdv ct : Value} {od an : Option Addr} {osl : Array (Option Value)} {name qual : Str} {params : Arguments} {body : List Stmt} {sc : Scope} {ds : List D} {d : D} {o : Out} {xs : List Str}
    (ho : K.lookup f = some ⟨oc, od, .func (fnOf name qual params body sc dV kV doc pm an cdv ct), osl⟩) (hcd : codeIn K cdv qual = true)
    (hb : ∀ vs : List Value, vs.length = xs.length → bindArgs (fnOf name qual params body sc dV kV doc pm an cdv ct) ⟨vs, []⟩ = pure (xs.zip vs)) (hs : okScope sc = true) (hx : xs.all (isVar sc) = true) (hn : xs.Nodup) (hl : ds.length = xs.length)
    (hr : retOf o = some d) (h : Cos prog w K k sc (locsOf xs ds) body o) : VSpec prog w K (k + 1) (.ref f) ds d := vspecX ho hcd hb hs hx hn hl hr (fun _ O => O) h

/-- the same, with the def's code and name said -/
noncomputable def sayCode (sc : Scope) (c : Nat) (q : Str) : Scope := { sc with more := [(Str.ofString "#code", .int c), (Str.ofString "#qual", .str q)] }
theorem vspecN {f c : Addr} {oc dV kV doc pm ct : Value} {od an : Option Addr} {osl : Array (Option Value)} {name qual : Str} {params : Arguments} {body : List Stmt} {sc : Scope} {ds : List D} {d : D} {o : Out} {xs : List Str}
    (ho : K.lookup f = some ⟨oc, od, .func (fnOf name qual params body sc dV kV doc pm an (.ref c) ct), osl⟩) (hcd : codeIn K (.ref c) qual = true)
    (hb : ∀ vs : List Value, vs.length = xs.length → bindArgs (fnOf name qual params body sc dV kV doc pm an (.ref c) ct) ⟨vs, []⟩ = pure (xs.zip vs)) (hs : okScope sc = true) (hx : xs.all (isVar sc) = true) (hn : xs.Nodup) (hl : ds.length = xs.length)
    (hr : retOf o = some d) (h : Cos prog w K k (sayCode sc c (qual ++ Str.ofString ".<locals>.")) (locsOf xs ds) body o) : VSpec prog w K (k + 1) (.ref f) ds d :=
  vspecX (sc' := sayCode sc c (qual ++ Str.ofString ".<locals>.")) ho hcd hb hs hx hn hl hr (fun _ O => { O with
    mo := fun x n e q => by
      have e : List.lookup x [(Str.ofString "#code", Const.int c), (Str.ofString "#qual", Const.str (qual ++ Str.ofString ".<locals>."))] = some (Const.int n) := e
      rw [List.lookup_cons, q] at e
      dsimp only at e
      rw [List.lookup_cons] at e
      cases q2 : (x == Str.ofString "#qual") with
      | true => rw [q2] at e; cases e
      | false => rw [q2] at e; cases e
    co := fun n e => by
      have e : List.lookup (Str.ofString "#code") [(Str.ofString "#code", Const.int c), (Str.ofString "#qual", Const.str (qual ++ Str.ofString ".<locals>."))] = some (Const.int n) := e
      rw [List.lookup_cons, beqT] at e
      injection e with e; injection e with e; injection e with e
      subst e; rfl
    qu := fun x e => by
      have e : List.lookup (Str.ofString "#qual") [(Str.ofString "#code", Const.int c), (Str.ofString "#qual", Const.str (qual ++ Str.ofString ".<locals>."))] = some (Const.str x) := e
      rw [List.lookup_cons, show (Str.ofString "#qual" == Str.ofString "#code") = false from rfl, List.lookup_cons, beqT] at e
      cases e; rfl }) h

/-- a def with defaults, and no cells -/
theorem vspecD {f c : Addr} {oc dV kV doc pm ct : Value} {od an : Option Addr} {osl : Array (Option Value)} {name qual : Str} {params : Arguments} {body : List Stmt} {sc : Scope} {ds ds' : List D} {d : D} {o : Out} {xs : List Str}
    (ho : K.lookup f = some ⟨oc, od, .func (fnOf name qual params body sc dV kV doc pm an (.ref c) ct), osl⟩) (hcd : codeIn K (.ref c) qual = true)
    (hb : ∀ (s : Shared) (Z : Zn) (vs : List Value), K.In s.heap → HasL Z ds vs → ∃ us : List Value, us.length = xs.length ∧ HasL Z ds' us ∧ BindsTo s (fnOf name qual params body sc dV kV doc pm an (.ref c) ct) ⟨vs, []⟩ (xs.zip us))
    (hs : okScope sc = true) (hcell : (sc.names.all fun p => p.2 != .cell) = true) (hx : xs.all (isVar sc) = true) (hn : xs.Nodup)
    (hr : retOf o = some d) (h : Cos prog w K k (sayCode sc c (qual ++ Str.ofString ".<locals>.")) (locsOf xs ds') body o) : VSpec prog w K (k + 1) (.ref f) ds d := by
  intro env hke A hB m Z own s vs Q E R W S hv P
  have hs' := hs
  unfold okScope at hs'
  simp only [Bool.and_eq_true, decide_eq_true_eq, Option.isNone_iff_eq_none, Bool.not_eq_true'] at hs'
  obtain ⟨⟨⟨⟨⟨⟨⟨h0, h1⟩, h2⟩, h3⟩, h4⟩, h5⟩, h6⟩, h7⟩ := hs'
  have X : K.In s.heap := W.k.keeps S.keep
  obtain ⟨p, loose, mean, mg, mb, T⟩ := W.t
  obtain ⟨us, hul, hu, hbt⟩ := hb s Z vs X hv
  have nocell : ∀ x ∈ sc.names, x.2 ≠ .cell := fun x hx' q => by
    have := List.all_eq_true.mp hcell x hx'
    rw [q] at this; cases this
  have hloc : ∀ x ∈ xs.zip us, sc.names.lookup x.1 = some .local := fun x hx' => by
    have hxk : x.1 ∈ xs := (List.of_mem_zip (show (x.1, x.2) ∈ xs.zip us from hx')).1
    rcases isVar_or (List.all_eq_true.mp hx _ hxk) with q | q
    · exact q
    · exact absurd rfl (nocell _ (lookup_mem q))
  refine wpAny_call (codeAny_call_def (fd := fnOf name qual params body sc dV kV doc pm an (.ref c) ct) R.room (X _ _ ho) rfl (T.nolimit.keeps S.keep) (codeRec_of X hcd) rfl hbt nocell hloc (fun h₁ hns hk => ?_) h6 h7 h5)
  have noc : ∀ x c, ([] : List (Str × Addr)).lookup x ≠ some c := fun x c e => by cases e
  let env' := callEnv (fnOf name qual params body sc dV kV doc pm an (.ref c) ct) s.heap.objs.size f
  have nofree : ∀ x, sc.names.lookup x ≠ some .free := fun x e => by
    unfold noFree at h2
    have := List.all_eq_true.mp h2 _ (lookup_mem e)
    cases this
  have O : EnvOk env' sc := { kind := h5, glo := rfl, bui := rfl, kg := fun x e => e, kl := fun x e => e, kc := fun x e => absurd rfl (nocell _ (lookup_mem e)), kf := fun x e => absurd e (nofree x), lc := fun x e => rfl, ci := fun x y c e => absurd e (noc x c), mo := fun x n e => absurd e (noMore h0), co := fun n e => absurd e (noMore h0), qu := fun x e => absurd e (noMoreQ h0), nd := h3, nc := h4 }
  have O' : EnvOk env' (sayCode sc c (qual ++ Str.ofString ".<locals>.")) := { O with
    mo := fun x n e q => by
      have e : List.lookup x [(Str.ofString "#code", Const.int c), (Str.ofString "#qual", Const.str (qual ++ Str.ofString ".<locals>."))] = some (Const.int n) := e
      rw [List.lookup_cons, q] at e
      dsimp only at e
      rw [List.lookup_cons] at e
      cases q2 : (x == Str.ofString "#qual") with
      | true => rw [q2] at e; cases e
      | false => rw [q2] at e; cases e
    co := fun n e => by
      have e : List.lookup (Str.ofString "#code") [(Str.ofString "#code", Const.int c), (Str.ofString "#qual", Const.str (qual ++ Str.ofString ".<locals>."))] = some (Const.int n) := e
      rw [List.lookup_cons, beqT] at e
      injection e with e; injection e with e; injection e with e
      subst e; rfl
    qu := fun x e => by
      have e : List.lookup (Str.ofString "#qual") [(Str.ofString "#code", Const.int c), (Str.ofString "#qual", Const.str (qual ++ Str.ofString ".<locals>."))] = some (Const.str x) := e
      rw [List.lookup_cons, show (Str.ofString "#qual" == Str.ofString "#code") = false from rfl, List.lookup_cons, beqT] at e
      cases e; rfl }
  let m' : Str → Option Value := fun x => (xs.zip us).reverse.lookup x
  have S' : St (gh s.heap) env' m' Z [] h₁ := S.enter (ml := m') hk hns (fun x e => rfl) (Nat.le_refl _) (fun x c e => absurd e (noc x c)) (fun x c e => absurd e (noc x c))
  have ro : LocOk (gh s.heap).objs.size m' Z [] (locsOf xs ds') := LocOk.ofVals fun x r e => by
    obtain ⟨d', v, e1, e2, e3⟩ := locs_has hu e
    refine ⟨d', v, e1, mem_lookup ?_ (List.mem_reverse.mpr e2), e3⟩
    rw [List.map_reverse, zip_keys hul]
    exact (List.reverse_perm xs).nodup_iff.mpr hn
  refine body_run (s := { s with heap := h₁, toks := s.toks + (xs.zip us).length }) (R := fun r s' => match r with | .ok (.ret v) => Q v s' | .ok _ => False | .error e => E e s') h hr O' (R.deeper _) (W.gh S) S' ro fun v m'' Z' own' h' tk' z S'' hv' => ?_
  exact P v Z' h' tk' (z.of_le (by rw [gh_size]; exact S.leB)) (S.back S'' z) hv'
end
end Mine
end
section
open PySem PySem.W PyProof.Rows PySem.Flt
namespace Mine

section
variable {prog : Program} {w : World} {K : Frag} {k : Nat} {sc : Scope} {ρ ρ' : Loc}

/-! own lists -/
theorem LocOk.getL {lo : Nat} {m : Str → Option Value} {Z : Zn} {own : List (Addr × Obj)} (R : LocOk lo m Z own ρ) {x : Str} {l : List D} (h : ρ.lookup x = some (.lst l)) : ∃ a ob vs n, m x = some (.ref a) ∧ (a, ob) ∈ own ∧ ob.cls = .type "list" ∧ ob.dict = none ∧ ob.data = .seq vs n ∧ HasL Z l vs.toList := by
  obtain ⟨a, ob, e1, e2, vs, n, e3, e4, e5, e6⟩ := R.o x _ h rfl
  exact ⟨a, ob, vs, n, e1, e2, e3, e4, e5, e6⟩

/-- storing a fresh object of one's own -/
theorem storeO {env : Env} {A : Around} {hB : Heap} {m : Str → Option Value} {Z : Zn} {own hid : List (Addr × Obj)} {s : Shared} {Q : Unit → Shared → Prop} {E : Value → Shared → Prop} {x : Str} {a : Addr} {ob : Obj} {r : Vr}
    (O : EnvOk env sc) (hx : isVar sc x = true) (S : St hB env m Z (own ++ hid) s.heap) (F : Free hB env Z (own ++ hid) a) (ha : s.heap.get? a = some ob) (hlo : hB.objs.size ≤ a) (ro : LocOk hB.objs.size m Z own ρ) (hr : OwnIs Z r ob) (hi : isOwn r = true)
    (h : ∀ h' (tk : Tk), St hB env (upd m x (.ref a)) Z (((a, ob) :: own) ++ hid) h' → LocOk hB.objs.size (upd m x (.ref a)) Z ((a, ob) :: own) (setL ρ x r) → Q () { s with heap := h', toks := tk.1, drawn := tk.2 }) :
    wpAny (model prog w) A (storeName env x (.ref a)) Q E s :=
  store_local_ok O (isVar_or hx) (S.takeOwn F ha) fun h' tk n S' => h h' tk S' (ro.setNew (fun p hp => F.o p (List.mem_append_left _ hp)) hr hi hlo)

theorem coNew {x : Str} {p' p p2 : Pos} (hx : isVar sc x = true) : Co prog w K k sc ρ (.Assign [.Name x p'] (.List [] p2) p) (.go (setL ρ x (.lst []))) :=
  fun env O A hB m Z own hid s Q E R W S ro P => by
  refine wpAny_Assign_Name (wpAny_List (Calls.spliced_nil ⟨Nat.zero_le _, ?_⟩)) rfl
  exact storeO O hx (S.push _) (S.free_new (Nat.le_refl _)) (Heap.get?_push_size _ rfl) S.leB ro (r := .lst []) ⟨#[], 0, rfl, rfl, rfl, hasL_nil⟩ rfl fun h₂ tk₂ S₂ ro₂ => P _ Z _ h₂ tk₂ (ZLe.refl _ _) S₂ ro₂

theorem coAppend {x : Str} {p0 p1 p2 p3 : Pos} {e : Expr} {l : List D} {d : D} (hx : isVar sc x = true) (hl : ρ.lookup x = some (.lst l)) (hz : szOk l = true) (hn : noStar e = true) (hp : (p1.endLine == p2.line) = true) (hs : ∀ env, swapsWith (.Call (.Attribute (.Name x p0) ("append" : Str) p1) [e] [] p2) none p3.line env = pure false)
    (hd : (x == ("__debug__" : Str)) = false) (h : EvS prog w K k sc ρ e d) : Co prog w K k sc ρ (.Expr (.Call (.Attribute (.Name x p0) ("append" : Str) p1) [e] [] p2) p3) (.go (setL ρ x (.lst (l ++ [d])))) :=
  fun env O A hB m Z own hid s Q E R W S ro P => by
  obtain ⟨a, ob, vs, n, hm, ha, c1, c2, c3, hv⟩ := ro.getL hl
  have hst : starEach [e] env = [(false, eval e env)] := starEach_cons hn
  have hbt : backTo p2 (starEach [e] env) = [(false, eval e env)] := by rw [hst]; rfl
  refine wpAny_Expr_any (wpAny_Call_append rfl (by rw [hbt]; rfl) hp hbt (wpAny_Name (load_ok O hx S hm ?_) hd)) (by unfold interactive; rw [O.kind]; rfl) (hs env)
  have hob : s.heap.get? a = some ob := S.oin _ (List.mem_append_left _ ha)
  refine ⟨a, vs, rfl, ⟨ob, n, hob, c1, c2, c3⟩, h env O A hB m Z (own ++ hid) s _ E R W S ro.weak fun v Z₁ h₁ tk₁ z₁ S₁ hv₁ => ?_⟩
  have hob₁ : h₁.get? a = some ob := S₁.oin _ (List.mem_append_left _ ha)
  have hsz : vs.size ≤ sizeLine := by
    have := hv.length
    rw [Array.length_toList] at this
    rw [this]
    exact Nat.le_trans (of_decide_eq_true hz) (by decide)
  refine list_append_plainL (l := a) (its := vs) ⟨ob, n, hob₁, c1, c2, c3⟩ (fun h' hp' hsb => ?_) hsz
  obtain ⟨o', n', e1, e2, e3, e4⟩ := hp'
  have S₂ := S₁.setOwn (List.mem_append_left _ ha) e1 fun b o q e => (hsb.2 b q).trans e
  have nh : ∀ p ∈ hid, p.1 ≠ a := fun p hp' q => by
    have := S.ond
    rw [List.map_append] at this
    exact (List.nodup_append.mp this).2.2 a (List.mem_map.mpr ⟨_, ha, rfl⟩) a (List.mem_map.mpr ⟨p, hp', q⟩) rfl
  rw [updO_append, updO_id nh] at S₂
  exact P m Z₁ _ h' tk₁ z₁ S₂ ((ro.mono z₁.1).setOwn hl rfl hm ha ⟨_, n', e2, e3, e4, by simpa using (hv.mono z₁.1).snoc hv₁⟩ rfl id)

/-- an own list is read as a value from now on -/
theorem coFreeze {t : Env → Sem Flow} {x : Str} {l : List D} {o : Out} (hl : ρ.lookup x = some (.lst l)) (h : CoT prog w K k sc (setL ρ x (.val (.lst l))) t o) : CoT prog w K k sc ρ t o :=
  fun env O A hB m Z own hid s Q E R W S ro P => by
  obtain ⟨a, ob, vs, n, hm, ha, c1, c2, c3, hv⟩ := ro.getL hl
  let own' := own.filter fun p => decide (p.1 ≠ a)
  have nh : ∀ p ∈ hid, p.1 ≠ a := fun p hp' q => by
    have := S.ond
    rw [List.map_append] at this
    exact (List.nodup_append.mp this).2.2 a (List.mem_map.mpr ⟨_, ha, rfl⟩) a (List.mem_map.mpr ⟨p, hp', q⟩) rfl
  have sub : (own' ++ hid).Sublist (own ++ hid) := List.filter_sublist.append (List.Sublist.refl _)
  have F : Free hB env Z (own' ++ hid) a := S.freeOfOwn (ob := ob) (List.mem_append_left _ ha) fun p hp => by
    rcases List.mem_append.mp hp with hp | hp
    · exact ⟨List.mem_append_left _ (List.mem_filter.mp hp).1, by simpa using (List.mem_filter.mp hp).2⟩
    · exact ⟨List.mem_append_right _ hp, nh p hp⟩
  have S₁ : St hB env m (Zins Z a ob) (own' ++ hid) s.heap := (S.dropOwn sub).freeze F (S.oin _ (List.mem_append_left _ ha))
  have z : ZLe hB.objs.size Z (Zins Z a ob) := ZLe.ins F.z (ro.b x _ a hl rfl rfl hm)
  refine h env O A hB m (Zins Z a ob) own' hid s Q E R W S₁ ?_ (P.then1 (h₁ := s.heap) (tk₁ := (s.toks, s.drawn)) z)
  exact {
    v := fun y d e => by
      rw [lookup_setL] at e
      by_cases q : y = x
      · rw [if_pos q] at e; cases e
        refine ⟨.ref a, q ▸ hm, ?_⟩
        unfold Has
        exact ⟨a, ob, vs, n, rfl, Zins_self, c1, c2, c3, hv.mono z.1⟩
      · rw [if_neg q] at e
        obtain ⟨v, e1, e2⟩ := ro.v y d e
        exact ⟨v, e1, e2.mono z.1⟩
    o := fun y r e t => by
      rw [lookup_setL] at e
      by_cases q : y = x
      · rw [if_pos q] at e; cases e; cases t
      · rw [if_neg q] at e
        obtain ⟨b, o', e1, e2, e3⟩ := ro.o y r e t
        refine ⟨b, o', e1, List.mem_filter.mpr ⟨e2, by simpa using fun w : b = a => q (ro.i y x r _ a e t hl rfl (w ▸ e1) hm)⟩, e3.mono z.1⟩
    b := fun y r b e t nb u => by
      rw [lookup_setL] at e
      by_cases q : y = x
      · rw [if_pos q] at e; cases e; cases t
      · rw [if_neg q] at e; exact ro.b y r b e t nb u
    i := fun y y' r r' b e t e' t' u u' => by
      rw [lookup_setL] at e e'
      by_cases q : y = x
      · rw [if_pos q] at e; cases e; cases t
      · by_cases q' : y' = x
        · rw [if_pos q'] at e'; cases e'; cases t'
        · rw [if_neg q] at e; rw [if_neg q'] at e'; exact ro.i y y' r r' b e t e' t' u u' }

/-! loops -/
inductive WhN (prog : Program) (w : World) (K : Frag) (k : Nat) (sc : Scope) (test : Expr) (body : List Stmt) : Nat → Loc → Out → Prop
  | stop {n L} : EvB prog w K k sc L test false → WhN prog w K k sc test body n L (.go L)
  | step {n L L₁ o} : EvB prog w K k sc L test true → Cos prog w K k sc L body (.go L₁) → WhN prog w K k sc test body n L₁ o → WhN prog w K k sc test body (n + 1) L o
  | cont {n L L₁ o} : EvB prog w K k sc L test true → Cos prog w K k sc L body (.cont L₁) → WhN prog w K k sc test body n L₁ o → WhN prog w K k sc test body (n + 1) L o
  | brk {n L L₁} : EvB prog w K k sc L test true → Cos prog w K k sc L body (.brk L₁) → WhN prog w K k sc test body n L (.go L₁)
  | ret {n L d} : EvB prog w K k sc L test true → Cos prog w K k sc L body (.ret d) → WhN prog w K k sc test body n L (.ret d)

theorem coWhile {test : Expr} {body : List Stmt} {pos : Pos} {n : Nat} {o : Out} (h : WhN prog w K k sc test body n ρ o) : Co prog w K k sc ρ (.While test body [] pos) o :=
  fun env O A hB m Z own hid s Q E R W S ro P => by
  refine wpAny_While (codeAny_whileLoop (fun n s' => ∃ ρ' m' Z' own' h' tk', s' = { s with heap := h', toks := (tk' : Tk).1, drawn := tk'.2 } ∧ ZLe hB.objs.size Z Z' ∧ St hB env m' Z' (own' ++ hid) h' ∧ LocOk hB.objs.size m' Z' own' ρ' ∧ WhN prog w K k sc test body n ρ' o) ?_ n ⟨ρ, m, Z, own, s.heap, (s.toks, s.drawn), rfl, ZLe.refl _ _, S, ro, h⟩)
  rintro n s' ⟨ρ', m', Z', own', h', tk', rfl, z, S', ro', hw⟩
  cases hw with
  | stop ht =>
    refine ht env O A hB m' Z' (own' ++ hid) _ _ _ R W S' ro'.weak fun Z₁ h₁ tk₁ z₁ S₁ => ?_
    exact wpAny_execs_nil ((P.then1 (h₁ := h₁) (tk₁ := tk₁) (z.tr z₁)) m' Z₁ own' h₁ tk₁ (ZLe.refl _ _) S₁ (ro'.mono z₁.1))
  | step ht hb hr =>
    refine ht env O A hB m' Z' (own' ++ hid) _ _ _ R W S' ro'.weak fun Z₁ h₁ tk₁ z₁ S₁ => ?_
    refine hb env O A hB m' Z₁ own' hid _ _ _ R W S₁ (ro'.mono z₁.1) fun m₂ Z₂ own₂ h₂ tk₂ z₂ S₂ ro₂ => ?_
    exact ⟨_, Nat.lt_succ_self _, _, m₂, Z₂, own₂, h₂, tk₂, rfl, (z.tr z₁).tr z₂, S₂, ro₂, hr⟩
  | cont ht hb hr =>
    refine ht env O A hB m' Z' (own' ++ hid) _ _ _ R W S' ro'.weak fun Z₁ h₁ tk₁ z₁ S₁ => ?_
    refine hb env O A hB m' Z₁ own' hid _ _ _ R W S₁ (ro'.mono z₁.1) fun m₂ Z₂ own₂ h₂ tk₂ z₂ S₂ ro₂ => ?_
    exact ⟨_, Nat.lt_succ_self _, _, m₂, Z₂, own₂, h₂, tk₂, rfl, (z.tr z₁).tr z₂, S₂, ro₂, hr⟩
  | brk ht hb =>
    refine ht env O A hB m' Z' (own' ++ hid) _ _ _ R W S' ro'.weak fun Z₁ h₁ tk₁ z₁ S₁ => ?_
    refine hb env O A hB m' Z₁ own' hid _ _ _ R W S₁ (ro'.mono z₁.1) fun m₂ Z₂ own₂ h₂ tk₂ z₂ S₂ ro₂ => ?_
    exact P m₂ Z₂ own₂ h₂ tk₂ ((z.tr z₁).tr z₂) S₂ ro₂
  | ret ht hb =>
    refine ht env O A hB m' Z' (own' ++ hid) _ _ _ R W S' ro'.weak fun Z₁ h₁ tk₁ z₁ S₁ => ?_
    refine hb env O A hB m' Z₁ own' hid _ _ _ R W S₁ (ro'.mono z₁.1) fun v m₂ Z₂ own₂ h₂ tk₂ z₂ S₂ hv₂ => ?_
    exact P v m₂ Z₂ own₂ h₂ tk₂ ((z.tr z₁).tr z₂) S₂ hv₂

inductive ForR (prog : Program) (w : World) (K : Frag) (k : Nat) (sc : Scope) (x : Str) (body : List Stmt) : List D → Loc → Out → Prop
  | stop {L} : ForR prog w K k sc x body [] L (.go L)
  | step {d ds L L₁ o} : Cos prog w K k sc (setL L x (.val d)) body (.go L₁) → ForR prog w K k sc x body ds L₁ o → ForR prog w K k sc x body (d :: ds) L o
  | cont {d ds L L₁ o} : Cos prog w K k sc (setL L x (.val d)) body (.cont L₁) → ForR prog w K k sc x body ds L₁ o → ForR prog w K k sc x body (d :: ds) L o
  | brk {d ds L L₁} : Cos prog w K k sc (setL L x (.val d)) body (.brk L₁) → ForR prog w K k sc x body (d :: ds) L (.go L₁)
  | ret {d d' ds L} : Cos prog w K k sc (setL L x (.val d)) body (.ret d') → ForR prog w K k sc x body (d :: ds) L (.ret d')

/-- what a loop over an iterator goes through -/
structure Iter (prog : Program) (w : World) (A : Around) (Z : Zn) (I : Addr) (ds : List D) (T : Nat → Heap → Prop) : Prop where
  w : ∃ fp P, Walks prog w A I fp [I] ds.length P T ∧ (∀ b ∈ fp, b = I ∨ (Z b).isSome = true) ∧ ∀ i v d, P i v → ds[i]? = some d → Has Z d v
  at_ : ∀ i h, T i h → ∃ o, h.get? I = some o

theorem Iter.mono {A : Around} {Z Z' : Zn} {I : Addr} {ds : List D} {T : Nat → Heap → Prop} (X : Iter prog w A Z I ds T) (h : ∀ a o, Z a = some o → Z' a = some o) : Iter prog w A Z' I ds T where
  w := by
    obtain ⟨fp, P, W, f, p⟩ := X.w
    refine ⟨fp, P, W, fun b hb => (f b hb).imp id fun q => ?_, fun i v d e e' => (p i v d e e').mono h⟩
    obtain ⟨o, ho⟩ := Option.isSome_iff_exists.mp q
    rw [h _ _ ho]; rfl
  at_ := X.at_

/-- the loop itself, over an iterator that this frame has laid -/
theorem forLoop_ok {x : Str} {px : Pos} {body : List Stmt} {o : Out} {env : Env} {A : Around} {hB : Heap} {m : Str → Option Value} {Z : Zn} {own hid : List (Addr × Obj)} {s : Shared} {R : Result → Shared → Prop} {I : Addr} {iob : Obj} {ds : List D} {T : Nat → Heap → Prop}
    (O : EnvOk env sc) (r : Rm k A) (W : Wd K hB) (hx : isVar sc x = true) (h : ForR prog w K k sc x body ds ρ o)
    (S : St hB env m Z (own ++ ((I, iob) :: hid)) s.heap) (ro : LocOk hB.objs.size m Z own ρ) (X : Iter prog w A Z I ds T) (hT : T 0 s.heap)
    (P : PostF hB env Z hid s o fun f s' => R (.ok f) s') : codeAny (model prog w) A (.forLoop (.Name x px) (.ref I) body [] env) R s := by
  refine codeAny_forLoop (fun n s' => ∃ ρ' m' Z' own' h' tk' iob' i, s' = { s with heap := h', toks := (tk' : Tk).1, drawn := tk'.2 } ∧ ZLe hB.objs.size Z Z' ∧ St hB env m' Z' (own' ++ ((I, iob') :: hid)) h' ∧ LocOk hB.objs.size m' Z' own' ρ' ∧ T i h' ∧ n = (ds.drop i).length ∧ i ≤ ds.length ∧ ForR prog w K k sc x body (ds.drop i) ρ' o) ?_ _ ⟨ρ, m, Z, own, s.heap, (s.toks, s.drawn), iob, 0, rfl, ZLe.refl _ _, S, ro, hT, rfl, Nat.zero_le _, h⟩
  rintro n s' ⟨ρ', m', Z', own', h', tk', iob', i, rfl, z, S', ro', hT', hn, hi, hf⟩
  obtain ⟨fp, PP, WW, hfp, hP⟩ := (X.mono z.1).w
  have hmemI : (I, iob') ∈ own' ++ ((I, iob') :: hid) := List.mem_append_right _ (.head _)
  have nI : ∀ p ∈ own', p.1 ≠ I := fun p hp q => by
    have := S'.ond
    rw [List.map_append] at this
    exact (List.nodup_append.mp this).2.2 p.1 (List.mem_map_of_mem hp) I (List.mem_map.mpr ⟨_, .head _, rfl⟩) q
  have nI2 : ∀ p ∈ hid, p.1 ≠ I := fun p hp q => by
    have := S'.ond
    rw [List.map_append] at this
    have := (List.nodup_append.mp this).2.1
    rw [List.map_cons, List.nodup_cons] at this
    exact this.1 (List.mem_map.mpr ⟨p, hp, q⟩)
  cases hds : ds.drop i with
  | nil =>
    rw [hds] at hf
    have hlen : ds.length ≤ i := by
      have := congrArg List.length hds
      rw [List.length_drop] at this
      simp at this; omega
    have hi' : i = ds.length := Nat.le_antisymm hi hlen
    subst hi'
    cases hf
    refine WW.done _ _ _ hT' fun h'' tk hk => ?_
    have sub : (own' ++ hid).Sublist (own' ++ ((I, iob') :: hid)) := (List.Sublist.refl _).append (List.sublist_cons_self _ _)
    have F : Free hB env Z' (own' ++ hid) I := S'.freeOfOwn hmemI fun p hp => ⟨sub.subset hp, (List.mem_append.mp hp).elim (nI p) (nI2 p)⟩
    have S₂ : St hB env m' Z' (own' ++ hid) h'' := (S'.dropOwn sub).ext (fun b => b = I) (fun b q => q ▸ F) fun b ob q e => hk b ob (fun w => q (by simpa using w)) e
    exact wpAny_execs_nil (P m' Z' own' h'' (tk, tk'.2) z S₂ ro')
  | cons d ds' =>
    rw [hds] at hf
    have hlt : i < ds.length := by
      have := congrArg List.length hds
      rw [List.length_drop] at this
      simp at this; omega
    have hd : ds[i]? = some d := by
      have := List.getElem?_drop (xs := ds) (i := i) (j := 0)
      rw [hds] at this
      simpa using this.symm
    have hdrop : ds.drop (i + 1) = ds' := by
      rw [← List.drop_drop (i := 1) (j := i) (l := ds), hds]; rfl
    refine WW.item i _ _ _ hlt hT' fun v h₁ tk₁ hv hT₁ hk => ?_
    obtain ⟨io, hio⟩ := X.at_ _ _ hT₁
    have S₁ : St hB env m' Z' (own' ++ ((I, io) :: hid)) h₁ := by
      have := S'.setOwn hmemI hio fun b ob q e => hk b ob (fun w => q (by simpa using w)) e
      rw [updO_append, updO_id nI] at this
      have e : updO ((I, iob') :: hid) I io = (I, io) :: hid := by
        show (if I = I then (I, io) else (I, iob')) :: updO hid I io = _
        rw [if_pos rfl, updO_id nI2]
      rwa [e] at this
    have hvd : Has Z' d v := hP i v d hv hd
    refine wpAny_assign_Name (storeV O hx (s := { s with heap := h₁, toks := tk₁, drawn := tk'.2 }) S₁ ro' hvd fun h₂ tk₂ _ S₂ ro₂ => ?_)
    have keep : ∀ {m₃ Z₃ own₃ h₃}, ZLe hB.objs.size Z' Z₃ → St hB env m₃ Z₃ (own₃ ++ ((I, io) :: hid)) h₃ → T (i + 1) h₃ := fun {m₃ Z₃ own₃ h₃} z₃ S₃ => WW.frame _ _ _ hT₁ fun b hb ob e => by
      rcases hfp b hb with rfl | q
      · rw [hio] at e; cases e
        exact S₃.oin _ (List.mem_append_right _ (.head _))
      · obtain ⟨o', ho'⟩ := Option.isSome_iff_exists.mp q
        have := S₁.zin _ _ ho'
        rw [this] at e; cases e
        exact S₃.zin _ _ (z₃.1 _ _ ho')
    have fin : ∀ {ρ₁ : Loc}, ForR prog w K k sc x body ds' ρ₁ o → ∀ m₃ Z₃ own₃ h₃ (tk₃ : Tk), ZLe hB.objs.size Z' Z₃ → St hB env m₃ Z₃ (own₃ ++ ((I, io) :: hid)) h₃ → LocOk hB.objs.size m₃ Z₃ own₃ ρ₁ →
        ∃ n', n' < n ∧ ∃ ρ' m' Z' own' h' tk' iob' i, ({ s with heap := h₃, toks := tk₃.1, drawn := tk₃.2 } : Shared) = { s with heap := h', toks := (tk' : Tk).1, drawn := tk'.2 } ∧ ZLe hB.objs.size Z Z' ∧ St hB env m' Z' (own' ++ ((I, iob') :: hid)) h' ∧ LocOk hB.objs.size m' Z' own' ρ' ∧ T i h' ∧ n' = (ds.drop i).length ∧ i ≤ ds.length ∧ ForR prog w K k sc x body (ds.drop i) ρ' o := fun hr m₃ Z₃ own₃ h₃ tk₃ z₃ S₃ ro₃ =>
      ⟨_, by rw [hn, hds, hdrop]; exact Nat.lt_succ_self _, _, m₃, Z₃, own₃, h₃, tk₃, io, i + 1, rfl, z.tr z₃, S₃, ro₃, keep z₃ S₃, rfl, hlt, by rw [hdrop]; exact hr⟩
    have drop : ∀ {m₃ Z₃ own₃ h₃}, St hB env m₃ Z₃ (own₃ ++ ((I, io) :: hid)) h₃ → St hB env m₃ Z₃ (own₃ ++ hid) h₃ := fun S₃ => S₃.dropOwn ((List.Sublist.refl _).append (List.sublist_cons_self _ _))
    cases hf with
    | step hb hr =>
      refine hb env O A hB _ Z' own' ((I, io) :: hid) _ _ _ r W S₂ ro₂ fun m₃ Z₃ own₃ h₃ tk₃ z₃ S₃ ro₃ => ?_
      exact fin hr m₃ Z₃ own₃ h₃ tk₃ z₃ S₃ ro₃
    | cont hb hr =>
      refine hb env O A hB _ Z' own' ((I, io) :: hid) _ _ _ r W S₂ ro₂ fun m₃ Z₃ own₃ h₃ tk₃ z₃ S₃ ro₃ => ?_
      exact fin hr m₃ Z₃ own₃ h₃ tk₃ z₃ S₃ ro₃
    | brk hb =>
      refine hb env O A hB _ Z' own' ((I, io) :: hid) _ _ _ r W S₂ ro₂ fun m₃ Z₃ own₃ h₃ tk₃ z₃ S₃ ro₃ => ?_
      exact P m₃ Z₃ own₃ h₃ tk₃ (z.tr z₃) (drop S₃) ro₃
    | ret hb =>
      refine hb env O A hB _ Z' own' ((I, io) :: hid) _ _ _ r W S₂ ro₂ fun v₃ m₃ Z₃ own₃ h₃ tk₃ z₃ S₃ hv₃ => ?_
      exact P v₃ m₃ Z₃ own₃ h₃ tk₃ (z.tr z₃) (drop S₃) hv₃
end
end Mine
end
section
open PySem PySem.W PyProof.Rows PySem.Flt
namespace Mine

theorem St.perm {hB : Heap} {env : Env} {m : Str → Option Value} {Z : Zn} {own own' : List (Addr × Obj)} {h : Heap} (S : St hB env m Z own h) (p : own'.Perm own) : St hB env m Z own' h where
  fr := S.fr
  cel := S.cel
  zin := S.zin
  zhi := S.zhi
  zL := S.zL
  zc := S.zc
  oin := fun q hq => S.oin q (p.mem_iff.mp hq)
  oZ := fun q hq => S.oZ q (p.mem_iff.mp hq)
  oB := fun q hq => S.oB q (p.mem_iff.mp hq)
  oL := fun q hq => S.oL q (p.mem_iff.mp hq)
  oc := fun q hq => S.oc q (p.mem_iff.mp hq)
  ohi := fun q hq => S.ohi q (p.mem_iff.mp hq)
  ond := (p.map _).nodup_iff.mpr S.ond
  Lhi := S.Lhi
  chi := S.chi
  cL := S.cL
  tB := S.tB
  tab := S.tab

section
variable {prog : Program} {w : World} {K : Frag} {k : Nat} {sc : Scope} {ρ ρ' : Loc}

theorem callG {f : Str} {np pos : Pos} {es : List Expr} {ds : List D} {fv : Value} (hk : sc.names.lookup f = some .globalImplicit) (hv : glob K f = some fv) (kp : KeepOk prog w K fv) (L : EvL prog w K k sc ρ es ds) (hne : es ≠ []) :
    ∀ env, EnvOk env sc → ∀ A hB m Z own s (Q E : Value → Shared → Prop), Rm k A → Wd K hB → St hB env m Z own s.heap → LocOk hB.objs.size m Z own ρ →
      (∀ vs Z₁ h₁ (tk₁ : Tk), ZLe hB.objs.size Z Z₁ → St hB env m Z₁ own h₁ → HasL Z₁ ds vs → wpAny (model prog w) A (call fv vs) Q E { s with heap := h₁, toks := tk₁.1, drawn := tk₁.2 }) →
      wpAny (model prog w) A (eval (.Call (.Name f np) es [] pos) env) Q E s := by
  intro env O A hB m Z own s Q E R W S ro h
  refine wpAny_Call_NameR (evGlob O W S.keep hk hv ?_)
  have hp := L.plain pos env
  refine callWith_of (P := K.In) (by rw [hp]; rfl) kp ?_
  cases L with
  | nil => exact absurd rfl hne
  | cons hn he L' =>
    have q := (EvL.cons hn he L').spliced pos env O A hB m Z own s
    dsimp only at q
    rw [starEach_cons hn] at q ⊢
    exact Calls.evalArgs_plain (q _ E R W S ro fun vs Z₁ h₁ tk₁ z₁ S₁ hvs => ⟨W.k.keeps S₁.keep, h vs Z₁ h₁ tk₁ z₁ S₁ hvs⟩)

/-! what an expression gives to a loop -/
variable (prog w K k) in
noncomputable def ItS (sc : Scope) (ρ : Loc) (e : Expr) (ds : List D) : Prop := ∀ env, EnvOk env sc → ∀ A hB m Z own s (Q E : Value → Shared → Prop), Rm k A → Wd K hB → St hB env m Z own s.heap → LocOk hB.objs.size m Z own ρ →
  (∀ I iob Z' h₁ h' (tk' : Tk) T, ZLe hB.objs.size Z Z' → St hB env m Z' own h₁ → (∀ b o, h₁.get? b = some o → h'.get? b = some o) → h₁.objs.size ≤ I → h'.get? I = some iob → (∀ A' : Around, A'.handled = none → Iter prog w A' Z' I ds T) → T 0 h' → Q (.ref I) { s with heap := h', toks := tk'.1, drawn := tk'.2 }) →
  wpAny (model prog w) A (eval e env) (fun xv s₁ => wpAny (model prog w) A (pyIter xv) Q E s₁) E s

theorem isList_Z {Z : Zn} {h : Heap} {l : List D} {v : Value} (hz : ∀ a o, Z a = some o → h.get? a = some o) (hv : Has Z (.lst l) v) : ∃ a vs, v = .ref a ∧ h.IsList a vs ∧ HasL Z l vs.toList ∧ (Z a).isSome = true := by
  unfold Has at hv
  obtain ⟨a, o, vs, n, rfl, z, cc, dn, dt, r⟩ := hv
  exact ⟨a, vs, rfl, ⟨o, hz _ _ z, cc, n, dt⟩, r, by rw [z]; rfl⟩
theorem isTuple_Z {Z : Zn} {h : Heap} {l : List D} {v : Value} (hz : ∀ a o, Z a = some o → h.get? a = some o) (hv : Has Z (.tup l) v) : ∃ a vs, v = .ref a ∧ h.IsTuple a vs ∧ HasL Z l vs.toList ∧ (Z a).isSome = true := by
  unfold Has at hv
  obtain ⟨a, o, vs, n, rfl, z, cc, dt, r⟩ := hv
  exact ⟨a, vs, rfl, ⟨o, hz _ _ z, cc, n, dt⟩, r, by rw [z]; rfl⟩

theorem HasL.at {Z : Zn} {l : List D} {vs : Array Value} (r : HasL Z l vs.toList) {i : Nat} {v : Value} {d : D} (e : vs[i]? = some v) (e' : l[i]? = some d) : Has Z d v := by
  obtain ⟨v', e1, hv⟩ := r.get i e'
  rw [Array.getElem?_toList, e] at e1
  cases e1; exact hv
theorem HasL.size {Z : Zn} {l : List D} {vs : Array Value} (r : HasL Z l vs.toList) : vs.size = l.length := by rw [← r.length]; simp

theorem itList {e : Expr} {ds : List D} (h : EvS prog w K k sc ρ e (.lst ds)) : ItS prog w K k sc ρ e ds := by
  intro env O A hB m Z own s Q E R W S ro P
  refine h env O A hB m Z own s _ E R W S ro fun v Z₁ h₁ tk₁ z₁ S₁ hv => ?_
  obtain ⟨a, vs, rfl, hl, r, hz⟩ := isList_Z S₁.zin hv
  refine wpAny_pyIter_list hl ?_
  have hlt : a < h₁.objs.size := let ⟨o, ho, _⟩ := hl; Heap.lt_size ho
  have hne : a ≠ h₁.objs.size := Nat.ne_of_lt hlt
  refine P _ _ Z₁ h₁ _ tk₁ (fun i h => h.IsListIter h₁.objs.size a i ∧ h.IsList a vs) z₁ S₁ (fun _ _ e => Heap.get?_push_of_some _ e) (Nat.le_refl _) (Heap.get?_push_size _ rfl) (fun A' hh => ⟨⟨[h₁.objs.size, a], fun i v => vs[i]? = some v, ?_, ?_, fun i v d e e' => r.at e e'⟩, fun i h T => ?_⟩) ⟨⟨_, Heap.get?_push_size _ rfl, rfl, rfl⟩, let ⟨o, ho, q⟩ := hl; ⟨o, Heap.get?_push_of_some _ ho, q⟩⟩
  · rw [← r.size]; exact Walks.list hh _ a hne vs
  · intro b hb
    rcases List.mem_cons.mp hb with rfl | hb
    · exact .inl rfl
    · rcases List.mem_cons.mp hb with rfl | hb
      · exact .inr hz
      · cases hb
  · obtain ⟨⟨o, ho, _⟩, _⟩ := T; exact ⟨o, ho⟩

theorem itTup {e : Expr} {ds : List D} (h : EvS prog w K k sc ρ e (.tup ds)) : ItS prog w K k sc ρ e ds := by
  intro env O A hB m Z own s Q E R W S ro P
  refine h env O A hB m Z own s _ E R W S ro fun v Z₁ h₁ tk₁ z₁ S₁ hv => ?_
  obtain ⟨a, vs, rfl, hl, r, hz⟩ := isTuple_Z S₁.zin hv
  refine wpAny_pyIter_tuple hl ?_
  have hlt : a < h₁.objs.size := let ⟨o, ho, _⟩ := hl; Heap.lt_size ho
  have hne : a ≠ h₁.objs.size := Nat.ne_of_lt hlt
  have hl' : ∀ o, (h₁.push o).IsTuple a vs := fun o' => let ⟨o, ho, q⟩ := hl; ⟨o, Heap.get?_push_of_some _ ho, q⟩
  refine P _ _ Z₁ h₁ _ tk₁ (fun i h => h.IsTupleIter h₁.objs.size a i ∧ h.IsTuple a vs) z₁ S₁ (fun _ _ e => Heap.get?_push_of_some _ e) (Nat.le_refl _) (Heap.get?_push_size _ rfl) (fun A' hh => ⟨⟨[h₁.objs.size, a], fun i v => vs[i]? = some v, ?_, ?_, fun i v d e e' => r.at e e'⟩, fun i h T => ?_⟩) ⟨⟨_, Heap.get?_push_size _ rfl, rfl, rfl⟩, hl' _⟩
  · rw [← r.size]; exact Walks.tuple hh _ a hne vs
  · intro b hb
    rcases List.mem_cons.mp hb with rfl | hb
    · exact .inl rfl
    · rcases List.mem_cons.mp hb with rfl | hb
      · exact .inr hz
      · cases hb
  · obtain ⟨⟨o, ho, _⟩, _⟩ := T; exact ⟨o, ho⟩

/-- the signs of a text -/
noncomputable def signsD (x : Str) : List D := x.cps.toList.map fun c => .str ⟨#[c]⟩
theorem itStr {e : Expr} {x : Str} (h : EvS prog w K k sc ρ e (.str x)) (ha : x.cps.all (· < 128) = true) : ItS prog w K k sc ρ e (signsD x) := by
  intro env O A hB m Z own s Q E R W S ro P
  refine h env O A hB m Z own s _ E R W S ro fun v Z₁ h₁ tk₁ z₁ S₁ hv => ?_
  obtain ⟨t, rfl⟩ := has_str hv
  refine wpAny_pyIter_ascii ha ?_
  refine P _ _ Z₁ h₁ _ tk₁ (fun i h => h.IsStrIter h₁.objs.size "str_ascii_iterator" x t i) z₁ S₁ (fun _ _ e => Heap.get?_push_of_some _ e) (Nat.le_refl _) (Heap.get?_push_size _ rfl) (fun A' hh => ⟨⟨[h₁.objs.size], SignAt x, ?_, ?_, ?_⟩, fun i h T => ?_⟩) ⟨_, Heap.get?_push_size _ rfl, rfl, rfl⟩
  · have : (signsD x).length = x.cps.size := by unfold signsD; simp
    rw [this]; exact Walks.strAscii hh _ x t
  · intro b hb
    rcases List.mem_cons.mp hb with rfl | hb
    · exact .inl rfl
    · cases hb
  · rintro i v d ⟨c, u, e1, rfl⟩ e'
    unfold signsD at e'
    rw [List.getElem?_map, Array.getElem?_toList, e1] at e'
    cases e'
    exact mkS _ _
  · obtain ⟨o, ho, _⟩ := T; exact ⟨o, ho⟩

/-- the items of a range -/
noncomputable def rangeI (a c : Int) : Nat → List Int
  | 0 => []
  | n + 1 => a :: rangeI (a + c) c n
noncomputable def rangeL (a b c : Int) : List Int := rangeI a c (Builtin.Range.rangeSize a b c).toNat
noncomputable def rangeOk (a b c : Int) : Bool := Builtin.Range.small a b c && decide (0 ≤ Builtin.Range.rangeSize a b c)
theorem rangeI_get {c : Int} : ∀ (n : Nat) (a : Int) (i : Nat), i < n → (rangeI a c n)[i]? = some (a + i * c)
  | 0, _, _, h => absurd h (Nat.not_lt_zero _)
  | n + 1, a, 0, _ => by unfold rangeI; simp
  | n + 1, a, i + 1, h => by
    unfold rangeI
    rw [List.getElem?_cons_succ, rangeI_get n _ i (Nat.lt_of_succ_lt_succ h)]
    congr 1
    have : (((i + 1 : Nat) : Int)) = (i : Int) + 1 := by simp
    rw [this, Int.add_mul]
    omega
theorem rangeI_length {c : Int} : ∀ (n : Nat) (a : Int), (rangeI a c n).length = n
  | 0, _ => rfl
  | n + 1, a => by unfold rangeI; rw [List.length_cons, rangeI_length n]

theorem range_iter {A : Around} {hB : Heap} {env : Env} {m : Str → Option Value} {Z : Zn} {own : List (Addr × Obj)} {s : Shared} {Q E : Value → Shared → Prop} {r : Addr} {a b c : Int} {t u v : Tok} (S : St hB env m Z own s.heap) (hr : IsRange s.heap r a b c t u v) (hs : rangeOk a b c = true)
    (P : ∀ I iob h' (tk' : Tk) T, (∀ b o, s.heap.get? b = some o → h'.get? b = some o) → s.heap.objs.size ≤ I → h'.get? I = some iob → (∀ A' : Around, A'.handled = none → Iter prog w A' Z I ((rangeL a b c).map .int) T) → T 0 h' → Q (.ref I) { s with heap := h', toks := tk'.1, drawn := tk'.2 }) :
    wpAny (model prog w) A (pyIter (.ref r)) Q E s := by
  unfold rangeOk at hs
  rw [Bool.and_eq_true] at hs
  have h0 : 0 ≤ Builtin.Range.rangeSize a b c := of_decide_eq_true hs.2
  have hn : ((Builtin.Range.rangeSize a b c).toNat : Int) = Builtin.Range.rangeSize a b c := Int.toNat_of_nonneg h0
  refine wpAny_pyIter_range hr hs.1 ?_
  refine P _ _ _ (s.toks, s.drawn) (fun i h => IsRangeIter h s.heap.objs.size (a + i * c) (((Builtin.Range.rangeSize a b c).toNat : Int) - i) c) (fun _ _ e => Heap.get?_push_of_some _ e) (Nat.le_refl _) (Heap.get?_push_size _ rfl) (fun A' hh => ⟨⟨[s.heap.objs.size], fun i v => ∃ t, v = .int (a + i * c) t, ?_, ?_, ?_⟩, fun i h T => ⟨_, T⟩⟩) ?_
  · have : ((rangeL a b c).map D.int).length = (Builtin.Range.rangeSize a b c).toNat := by unfold rangeL; rw [List.length_map, rangeI_length]
    rw [this]; exact Walks.range hh _ a c _
  · intro b hb
    rcases List.mem_cons.mp hb with rfl | hb
    · exact .inl rfl
    · cases hb
  · rintro i v d ⟨t', rfl⟩ e'
    unfold rangeL at e'
    rw [List.getElem?_map] at e'
    obtain ⟨y, e1, rfl⟩ := Option.map_eq_some_iff.mp e'
    have hi : i < (Builtin.Range.rangeSize a b c).toNat := by
      have := (List.getElem?_eq_some_iff.mp e1).1
      rwa [rangeI_length] at this
    rw [rangeI_get _ _ _ hi] at e1
    cases e1
    exact mkI _ _
  · show IsRangeIter _ _ (a + (0 : Nat) * c) (_ - (0 : Nat)) c
    rw [hn]
    simp
    exact Heap.get?_push_size _ rfl

theorem itRange1 {np pos : Pos} {e : Expr} {b : Int} (hk : sc.names.lookup ("range" : Str) = some .globalImplicit) (hv : glob K ("range" : Str) = some (.type "range")) (hn : noStar e = true) (h : EvS prog w K k sc ρ e (.int b)) (hs : rangeOk 0 b 1 = true) :
    ItS prog w K k sc ρ (.Call (.Name ("range" : Str) np) [e] [] pos) ((rangeL 0 b 1).map .int) := by
  intro env O A hB m Z own s Q E R W S ro P
  refine callG hk hv (keep_type _) (.cons hn h .nil) (by simp) env O A hB m Z own s _ E R W S ro fun vs Z₁ h₁ tk₁ z₁ S₁ hvs => ?_
  unfold HasL at hvs; obtain ⟨v, r, rfl, hv1, hvs⟩ := hvs
  unfold HasL at hvs; subst hvs
  obtain ⟨t, rfl⟩ := has_int hv1
  refine call_range_1 ?_
  exact range_iter (t := tk₁.1) (u := t) (v := tk₁.1 + 1) (S₁.push _) (Heap.get?_push_size _ rfl) hs fun I iob h' tk' T hk hI ho X hT => P I iob Z₁ _ h' tk' T z₁ (S₁.push _) hk hI ho X hT
theorem itRange2 {np pos : Pos} {e e2 : Expr} {a b : Int} (hk : sc.names.lookup ("range" : Str) = some .globalImplicit) (hv : glob K ("range" : Str) = some (.type "range")) (hn : noStar e = true) (hn2 : noStar e2 = true) (h : EvS prog w K k sc ρ e (.int a)) (h2 : EvS prog w K k sc ρ e2 (.int b)) (hs : rangeOk a b 1 = true) :
    ItS prog w K k sc ρ (.Call (.Name ("range" : Str) np) [e, e2] [] pos) ((rangeL a b 1).map .int) := by
  intro env O A hB m Z own s Q E R W S ro P
  refine callG hk hv (keep_type _) (.cons hn h (.cons hn2 h2 .nil)) (by simp) env O A hB m Z own s _ E R W S ro fun vs Z₁ h₁ tk₁ z₁ S₁ hvs => ?_
  unfold HasL at hvs; obtain ⟨v, r, rfl, hv1, hvs⟩ := hvs
  unfold HasL at hvs; obtain ⟨v2, r, rfl, hv2, hvs⟩ := hvs
  unfold HasL at hvs; subst hvs
  obtain ⟨t, rfl⟩ := has_int hv1
  obtain ⟨u, rfl⟩ := has_int hv2
  refine call_range_2 ?_
  exact range_iter (t := t) (u := u) (v := tk₁.1) (S₁.push _) (Heap.get?_push_size _ rfl) hs fun I iob h' tk' T hk hI ho X hT => P I iob Z₁ _ h' tk' T z₁ (S₁.push _) hk hI ho X hT
theorem itRange3 {np pos : Pos} {e e2 e3 : Expr} {a b c : Int} (hk : sc.names.lookup ("range" : Str) = some .globalImplicit) (hv : glob K ("range" : Str) = some (.type "range")) (hn : noStar e = true) (hn2 : noStar e2 = true) (hn3 : noStar e3 = true) (h : EvS prog w K k sc ρ e (.int a)) (h2 : EvS prog w K k sc ρ e2 (.int b)) (h3 : EvS prog w K k sc ρ e3 (.int c)) (hc : c ≠ 0) (hcs : sm c = true) (hs : rangeOk a b c = true) :
    ItS prog w K k sc ρ (.Call (.Name ("range" : Str) np) [e, e2, e3] [] pos) ((rangeL a b c).map .int) := by
  intro env O A hB m Z own s Q E R W S ro P
  refine callG hk hv (keep_type _) (.cons hn h (.cons hn2 h2 (.cons hn3 h3 .nil))) (by simp) env O A hB m Z own s _ E R W S ro fun vs Z₁ h₁ tk₁ z₁ S₁ hvs => ?_
  unfold HasL at hvs; obtain ⟨v, r, rfl, hv1, hvs⟩ := hvs
  unfold HasL at hvs; obtain ⟨v2, r, rfl, hv2, hvs⟩ := hvs
  unfold HasL at hvs; obtain ⟨v3, r, rfl, hv3, hvs⟩ := hvs
  unfold HasL at hvs; subst hvs
  obtain ⟨t, rfl⟩ := has_int hv1
  obtain ⟨u, rfl⟩ := has_int hv2
  obtain ⟨u3, rfl⟩ := has_int hv3
  refine call_range_3 hc ?_ (.inl (PyProof.noPylong_of_log2 ?_))
  · exact range_iter (t := t) (u := u) (v := u3) (S₁.push _) (Heap.get?_push_size _ rfl) hs fun I iob h' tk' T hk hI ho X hT => P I iob Z₁ _ h' tk' T z₁ (S₁.push _) hk hI ho X hT
  · have := sm_lt hcs
    exact Nat.lt_trans (PySem.W.ZRun.log2_lt64 _ (by simpa using this)) (by decide)

theorem coFor {x : Str} {px pos : Pos} {iter : Expr} {body : List Stmt} {ds : List D} {o : Out} (hi : ItS prog w K k sc ρ iter ds) (hx : isVar sc x = true) (h : ForR prog w K k sc x body ds ρ o) (hs : ∀ env v, foldedSetIterable iter env v = pure v) : Co prog w K k sc ρ (.For (.Name x px) iter body [] pos) o :=
  fun env O A hB m Z own hid s Q E R W S ro P => by
  refine wpAny_For ?_ (hs env)
  refine wpAny_mono (hi env O A hB m Z (own ++ hid) s (fun it s₂ => codeAny (model prog w) A (.forLoop (.Name x px) it body [] env) (fun r s' => match r with | .ok f => Q f s' | .error e => cameBackBy (model prog w) A env E e s') s₂) E R W S ro.weak fun I iob Z₁ h₀ h₁ tk₁ T z₁ S₁ hk hI hob X hT => ?_) (fun xv s₁ h₁ => h₁) fun _ _ e => e
  have S₂ : St hB env m Z₁ (own ++ ((I, iob) :: hid)) h₁ := ((S₁.ext0 hk).takeOwn (S₁.free_new hI) hob).perm List.perm_middle
  refine forLoop_ok (s := { s with heap := h₁, toks := tk₁.1, drawn := tk₁.2 }) O R W hx h S₂ (ro.mono z₁.1) (X A R.h) hT ?_
  exact P.then1 (h₁ := h₁) (tk₁ := tk₁) z₁
end
end Mine
end
section
open PySem PySem.W PyProof.Rows PySem.Flt
namespace Mine

/-! comprehensions -/
noncomputable def clGo (cells : List (Str × Addr)) : List (Str × NameKind) → List (Str × Addr) → List (Str × Addr)
  | [], acc => acc
  | (x, kd) :: r, acc => clGo cells r (if kd == .free then (x, (cells.lookup x).getD 0) :: acc else acc)
theorem closure_ok {scope : Scope} {env : Env} (h : ∀ x, (x, NameKind.free) ∈ scope.names → (env.cells.lookup x).isSome = true) : closureFor scope env = pure (clGo env.cells scope.names []) := by
  unfold closureFor
  have : ∀ (names : List (Str × NameKind)) (acc : List (Str × Addr)), (∀ x, (x, NameKind.free) ∈ names → (env.cells.lookup x).isSome = true) →
      (forIn names acc fun (x : Str × NameKind) (r : List (Str × Addr)) => (match x with
        | (name, kind) => if (kind == NameKind.free) = true then do let c ← cellOf env name; pure (ForInStep.yield ((name, c) :: r)) else pure (ForInStep.yield r) : Sem (ForInStep (List (Str × Addr))))) = pure (clGo env.cells names acc) := by
    intro names
    induction names with
    | nil => intro acc _; rfl
    | cons p r ih =>
      intro acc hp
      obtain ⟨x, kd⟩ := p
      rw [List.forIn_cons]
      unfold clGo
      by_cases q : (kd == NameKind.free) = true
      · have hkd : kd = .free := by cases kd <;> first | rfl | cases q
        subst hkd
        obtain ⟨c, hc⟩ := Option.isSome_iff_exists.mp (hp x (.head _))
        have e : cellOf env x = pure c := by unfold cellOf; rw [hc]
        simp only [e, hc]
        have := ih ((x, c) :: acc) fun y hy => hp y (.tail _ hy)
        simpa using this
      · simp only [q]
        have := ih acc fun y hy => hp y (.tail _ hy)
        simpa using this
  have e := this scope.names [] h
  refine Eq.trans (b := ((pure (clGo env.cells scope.names []) : Sem _) >>= pure)) (congrArg (· >>= pure) e) ?_
  rfl
theorem cl_mem {cells : List (Str × Addr)} {x : Str} {c : Addr} : ∀ {names : List (Str × NameKind)} {acc : List (Str × Addr)}, (x, c) ∈ clGo cells names acc → (x, c) ∈ acc ∨ ((x, .free) ∈ names ∧ c = (cells.lookup x).getD 0)
  | [], _, h => .inl h
  | (y, kd) :: r, acc, h => by
    unfold clGo at h
    rcases cl_mem h with h | ⟨h1, h2⟩
    · by_cases q : (kd == NameKind.free) = true
      · rw [if_pos q] at h
        rcases List.mem_cons.mp h with e | h
        · cases e
          have : kd = .free := by cases kd <;> first | rfl | cases q
          subst this
          exact .inr ⟨.head _, rfl⟩
        · exact .inl h
      · rw [if_neg q] at h; exact .inl h
    · exact .inr ⟨.tail _ h1, h2⟩
theorem cl_acc {cells : List (Str × Addr)} {p : Str × Addr} : ∀ {names : List (Str × NameKind)} {acc : List (Str × Addr)}, p ∈ acc → p ∈ clGo cells names acc
  | [], _, h => h
  | (y, kd) :: r, acc, h => by
    unfold clGo
    refine cl_acc ?_
    by_cases q : (kd == NameKind.free) = true
    · rw [if_pos q]; exact .tail _ h
    · rw [if_neg q]; exact h
theorem cl_has {cells : List (Str × Addr)} {x : Str} : ∀ {names : List (Str × NameKind)} {acc : List (Str × Addr)}, (x, .free) ∈ names → ∃ c, (x, c) ∈ clGo cells names acc
  | (y, kd) :: r, acc, h => by
    unfold clGo
    rcases List.mem_cons.mp h with e | h
    · cases e
      exact ⟨_, cl_acc (.head _)⟩
    · exact cl_has h

theorem lookup_rel {c : Str → NameKind → Bool} {x : Str} : ∀ {names : List (Str × NameKind)}, (names.map fun p => if c p.1 p.2 = true then (p.1, NameKind.cell) else (p.1, p.2)).lookup x = (names.lookup x).map fun kd => if c x kd = true then NameKind.cell else kd
  | [] => rfl
  | (n, kd) :: r => by
    rw [List.map_cons]
    by_cases q : x = n
    · subst q
      by_cases h : c x kd = true
      · rw [if_pos h, List.lookup_cons, List.lookup_cons, beqT]; exact congrArg some (if_pos h).symm
      · rw [if_neg h, List.lookup_cons, List.lookup_cons, beqT]; exact congrArg some (if_neg h).symm
    · by_cases h : c n kd = true
      · rw [if_pos h, List.lookup_cons, List.lookup_cons, beqF q]; exact lookup_rel
      · rw [if_neg h, List.lookup_cons, List.lookup_cons, beqF q]; exact lookup_rel

noncomputable def okComp (sc : Scope) : Bool := fastMore sc.more && decide ((sc.names.map (·.1)).Nodup) && (sc.names.all fun p => p.2 != .cell) && (sc.names.lookup ("__debug__" : Str)).isNone && (sc.names.lookup ("__classdict__" : Str)).isNone && decide (sc.kind = .function)
/-- what a comprehension takes from around it, the frame holds in cells -/
noncomputable def capOk (sc scC : Scope) : Bool := scC.names.all fun p => if p.2 == .free then (match sc.names.lookup p.1 with | some .cell | some .free => true | _ => false) else true

theorem cap_cells {sc scC : Scope} {env : Env} (O : EnvOk env sc) (h : capOk sc scC = true) : ∀ x, (x, NameKind.free) ∈ scC.names → (env.cells.lookup x).isSome = true := fun x hx => by
  have := List.all_eq_true.mp h _ hx
  dsimp only at this
  rw [show (NameKind.free == NameKind.free) = true from rfl, if_pos rfl] at this
  split at this
  · rename_i e
    obtain ⟨_, c, hc, _⟩ := O.kc x e
    rw [hc]; rfl
  · rename_i e
    exact (O.kf x e).2
  · cases this

theorem cl_lookup {sc scC : Scope} {env : Env} (O : EnvOk env sc) (hs : okComp scC = true) (h : capOk sc scC = true) {x : Str} {c : Addr} : (clGo env.cells scC.names []).lookup x = some c ↔ (scC.names.lookup x = some .free ∧ env.cells.lookup x = some c) := by
  unfold okComp at hs
  simp only [Bool.and_eq_true, decide_eq_true_eq, Option.isNone_iff_eq_none] at hs
  obtain ⟨⟨⟨⟨⟨h0, h1⟩, h2⟩, h3⟩, h4⟩, h5⟩ := hs
  have one : ∀ c, (x, c) ∈ clGo env.cells scC.names [] → scC.names.lookup x = some .free ∧ env.cells.lookup x = some c := fun c hm => by
    rcases cl_mem hm with q | ⟨q, e⟩
    · cases q
    · obtain ⟨d, hd⟩ := Option.isSome_iff_exists.mp (cap_cells O h x q)
      exact ⟨mem_lookup h1 q, by rw [hd] at e ⊢; rw [e]; rfl⟩
  constructor
  · exact fun e => one c (lookup_mem e)
  · rintro ⟨e1, e2⟩
    obtain ⟨d, hd⟩ := cl_has (cells := env.cells) (acc := []) (lookup_mem e1)
    obtain ⟨d', hd'⟩ := mem_lookup_some hd
    have := (one d' (lookup_mem hd')).2
    rw [e2] at this
    cases this; exact hd'

theorem envOk_comp {sc scC : Scope} {env : Env} {C : Addr} (O : EnvOk env sc) (hs : okComp scC = true) (h : capOk sc scC = true) : EnvOk (compEnvC scC (clGo env.cells scC.names []) C env) scC := by
  have cl := fun x c => cl_lookup O hs h (x := x) (c := c)
  have hs' := hs
  unfold okComp at hs
  simp only [Bool.and_eq_true, decide_eq_true_eq, Option.isNone_iff_eq_none] at hs
  obtain ⟨⟨⟨⟨⟨h0, h1⟩, h2⟩, h3⟩, h4⟩, h5⟩ := hs
  have rl : ∀ x kd, scC.names.lookup x = some kd → (compEnvC scC (clGo env.cells scC.names []) C env).kindOf x = some kd ∨ (kd = .free ∧ (compEnvC scC (clGo env.cells scC.names []) C env).kindOf x = some .cell) := fun x kd e => by
    show List.lookup x (scC.names.map _) = _ ∨ (_ ∧ List.lookup x (scC.names.map _) = _)
    have := lookup_rel (c := fun n kd => kd == .free && env.scope.kind == .function && env.kindOf n == some .cell) (x := x) (names := scC.names)
    rw [e] at this
    by_cases q : (kd == NameKind.free && env.scope.kind == .function && env.kindOf x == some .cell) = true
    · right
      have : kd = .free := by cases kd <;> first | rfl | cases q
      refine ⟨this, ?_⟩
      rename_i t
      exact t.trans (congrArg some (if_pos q))
    · left
      exact this.trans (congrArg some (if_neg q))
  exact {
    kind := h5
    glo := O.glo
    bui := O.bui
    kg := fun x e => (rl x _ e).elim id fun q => by cases q.1
    kl := fun x e => (rl x _ e).elim id fun q => by cases q.1
    kc := fun x e => by
      have := List.all_eq_true.mp h2 _ (lookup_mem e)
      cases this
    kf := fun x e => ⟨(rl x _ e).elim .inl fun q => .inr q.2, by
      obtain ⟨c, hc⟩ := Option.isSome_iff_exists.mp (cap_cells O h x (lookup_mem e))
      show (List.lookup x (clGo env.cells scC.names [])).isSome = true
      rw [(cl x c).mpr ⟨e, hc⟩]; rfl⟩
    lc := fun x e => by
      show List.lookup x (clGo env.cells scC.names []) = none
      cases q : List.lookup x (clGo env.cells scC.names []) with
      | none => rfl
      | some c => have := ((cl x c).mp q).1; rw [e] at this; cases this
    ci := fun x y c e e' => O.ci x y c ((cl x c).mp e).2 ((cl y c).mp e').2
    mo := fun x n e => absurd e (noMore h0)
    co := fun n e => absurd e (noMore h0)
    qu := fun x e => absurd e (noMoreQ h0)
    nd := h3
    nc := h4 }

noncomputable def capL : List Str → Loc → Loc
  | [], _ => []
  | x :: xs, ρ => match ρ.lookup x with
    | some (.val d) => (x, .val d) :: capL xs ρ
    | _ => capL xs ρ
theorem capL_lookup {ρ : Loc} {x : Str} {r : Vr} : ∀ {fs : List Str}, (capL fs ρ).lookup x = some r → x ∈ fs ∧ ∃ d, r = .val d ∧ ρ.lookup x = some (.val d)
  | [], h => by cases h
  | y :: fs, h => by
    unfold capL at h
    split at h
    · rename_i d e
      rw [List.lookup_cons] at h
      by_cases q : x = y
      · subst q; rw [beqT] at h; cases h; exact ⟨.head _, d, rfl, e⟩
      · rw [beqF q] at h
        obtain ⟨h1, h2⟩ := capL_lookup h
        exact ⟨.tail _ h1, h2⟩
    · obtain ⟨h1, h2⟩ := capL_lookup h
      exact ⟨.tail _ h1, h2⟩

theorem LocOk.sub {lo : Nat} {m : Str → Option Value} {Z : Zn} {own : List (Addr × Obj)} {L L' : Loc} (R : LocOk lo m Z own L) (h : ∀ y r, L'.lookup y = some r → L.lookup y = some r) : LocOk lo m Z own L' :=
  ⟨fun x d e => R.v x d (h _ _ e), fun x r e t => R.o x r (h _ _ e) t, fun x r a e t nb u => R.b x r a (h _ _ e) t nb u, fun x y r r' a e t e' t' => R.i x y r r' a (h _ _ e) t (h _ _ e') t'⟩

section
variable {prog : Program} {w : World} {K : Frag} {k : Nat} {sc scC : Scope} {ρ : Loc}

variable (prog w K k) in
noncomputable abbrev TestS (sc : Scope) (ρ : Loc) (ifs : List Expr) (b : Bool) : Prop := TrB prog w K k sc ρ (fun env => forIn ifs true fun c r => if r = true then do let ok ← isTrue c env (eval c env); pure (ForInStep.yield ok) else pure (ForInStep.yield r)) b
theorem testNil : TestS prog w K k sc ρ [] true := by
  intro env O A hB m Z own s Q E R W S ro P
  exact wpAny_pure (P Z s.heap (s.toks, s.drawn) (ZLe.refl _ _) S)
theorem testOne {c : Expr} {b : Bool} (h : EvB prog w K k sc ρ c b) : TestS prog w K k sc ρ [c] b := by
  intro env O A hB m Z own s Q E R W S ro P
  show wpAny _ _ (forIn [c] true _) _ _ _
  rw [List.forIn_cons]
  refine wpAny_bind ?_
  rw [if_pos rfl]
  exact wpAny_bind (h env O A hB m Z own s _ E R W S ro fun Z₁ h₁ tk₁ z₁ S₁ => wpAny_pure (wpAny_pure (P Z₁ h₁ tk₁ z₁ S₁)))

inductive CompR (prog : Program) (w : World) (K : Frag) (k : Nat) (sc : Scope) (L : Loc) (x : Str) (ifs : List Expr) (elt : Expr) : List D → List D → Prop
  | nil : CompR prog w K k sc L x ifs elt [] []
  | keep {d ds e es} : TestS prog w K k sc (setL L x (.val d)) ifs true → EvS prog w K k sc (setL L x (.val d)) elt e → CompR prog w K k sc L x ifs elt ds es → CompR prog w K k sc L x ifs elt (d :: ds) (e :: es)
  | skip {d ds es} : TestS prog w K k sc (setL L x (.val d)) ifs false → CompR prog w K k sc L x ifs elt ds es → CompR prog w K k sc L x ifs elt (d :: ds) es

theorem comp_block {elt iter : Expr} {x : Str} {px : Pos} {ifs : List Expr} {pos : Pos} {fs : List Str} {ds es : List D} {env : Env} {A : Around} {hB h₁ : Heap} {m : Str → Option Value} {Z : Zn} {own : List (Addr × Obj)} {s : Shared} {I : Addr} {iob : Obj} {T : Nat → Heap → Prop}
    {RR : Value → Addr → Result → Shared → Prop} {E : Value → Shared → Prop}
    (O : EnvOk env sc) (r : Rm k A) (W : Wd K hB) (hs : okComp scC = true) (hcap : capOk sc scC = true) (hx : scC.names.lookup x = some .local) (hfs : (fs.all fun y => decide (scC.names.lookup y = some .free)) = true) (hc : CompR prog w K k scC (capL fs ρ) x ifs elt ds es) (hz : szOk ds = true)
    (S₁ : St hB env m Z own h₁) (ro : LocOk hB.objs.size m Z own ρ) (hk : ∀ b o, h₁.get? b = some o → s.heap.get? b = some o) (hI : h₁.objs.size ≤ I) (hob : s.heap.get? I = some iob) (X : Iter prog w A Z I ds T) (hT : T 0 s.heap)
    (P : ∀ D C m' Z' h' (tk' : Tk), ZLe hB.objs.size Z Z' → St hB env m Z' own h' → Has Z' (.lst es) (.ref D) → h'.Ns C m' → Free hB env Z' own C → RR (.ref D) C (.ok .next) { s with heap := h', toks := tk'.1, drawn := tk'.2 }) :
    wpAny (model prog w) A (newList []) (fun acc s₃ => wpAny (model prog w) A (newFunctionEnv scC env.globals (clGo env.cells scC.names []) [] env.qual none .none (some env)) (fun cenv s₄ =>
      codeAny (model prog w) A (.compStart (.ListComp elt [⟨.Name x px, iter, ifs, 0⟩] scC pos) 0 (.ref I) acc { cenv with scope := relabel scC env }) (RR acc cenv.locals) s₄) E s₃) E s := by
  have hs' := hs
  unfold okComp at hs'
  simp only [Bool.and_eq_true, decide_eq_true_eq, Option.isNone_iff_eq_none] at hs'
  obtain ⟨⟨⟨⟨⟨c0, c1⟩, c2⟩, c3⟩, c4⟩, c5⟩ := hs'
  have nocell : ∀ y ∈ scC.names, y.2 ≠ .cell := fun y hy q => by
    have := List.all_eq_true.mp c2 y hy
    rw [q] at this; cases this
  refine wpAny_newObj_type (wpAny_newFunctionEnv nocell (by intro y hy; simp at hy) (fun h₂ hns hsb => ?_) c5)
  dsimp only at hns hsb ⊢
  generalize hH : s.heap.push { cls := .type "list", dict := none, data := .seq ([] : List Value).toArray } = H at hns hsb ⊢
  have hIlt : @LT.lt Nat _ I s.heap.objs.size := Heap.lt_size hob
  have hC : H.objs.size = s.heap.objs.size + 1 := by rw [← hH, Heap.size_push]
  have h12 : ∀ b o, s.heap.get? b = some o → h₂.get? b = some o := fun b o e => hsb.extBut b o (Nat.ne_of_lt (by have l : @LT.lt Nat _ b s.heap.objs.size := Heap.lt_size e; rw [hC]; omega)) (Heap.get?_push_of_some _ (hH ▸ Heap.get?_push_of_some _ e))
  have hD₂ : h₂.get? s.heap.objs.size = some { cls := .type "list", dict := none, data := .seq ([] : List Value).toArray } := hsb.extBut _ _ (Nat.ne_of_lt (by rw [hC]; omega)) (Heap.get?_push_of_some _ (hH ▸ Heap.get?_push_size _ rfl))
  have hI₂ : h₂.get? I = some iob := h12 _ _ hob
  generalize hDe : s.heap.objs.size = D at hIlt hC hD₂ ⊢
  generalize hCe : H.objs.size = C at hC hns hsb ⊢
  have hIC : I ≠ C := Nat.ne_of_lt (by omega)
  have hDC : D ≠ C := Nat.ne_of_lt (by omega)
  have hID : I ≠ D := Nat.ne_of_lt hIlt
  have hDI : D ≠ I := Ne.symm hID
  have hDle : h₁.objs.size ≤ D := by omega
  have hCle : h₁.objs.size ≤ C := by omega
  have O' := envOk_comp (C := C) O hs hcap
  let cenv := compEnvC scC (clGo env.cells scC.names []) C env
  have cl := fun y c => cl_lookup O hs hcap (x := y) (c := c)
  let m₀ : Str → Option Value := fun y => if scC.names.lookup y = some .local then none else m y
  have S₂ : St (gh h₁) cenv m₀ Z [] h₂ := by
    refine S₁.enter (ml := fun y => List.lookup y ([] : List (Str × Value)).reverse) (fun b o e => h12 _ _ (hk b o e)) hns (fun y e => ?_) hCle (fun y c e => ?_) (fun y c e => ?_)
    · show none = if scC.names.lookup y = some .local then none else m y
      by_cases q : scC.names.lookup y = some .local
      · rw [if_pos q]
      · exfalso
        have : (compEnvC scC (clGo env.cells scC.names []) C env).kindOf y = some .local := e
        have e2 : List.lookup y (scC.names.map _) = some NameKind.local := this
        have e3 := lookup_rel (c := fun n kd => kd == .free && env.scope.kind == .function && env.kindOf n == some .cell) (x := y) (names := scC.names)
        rw [show List.lookup y (scC.names.map _) = some NameKind.local from e2] at e3
        cases e4 : scC.names.lookup y with
        | none => rw [e4] at e3; cases e3
        | some kd =>
          rw [e4] at e3
          have e5 : (if (kd == .free && env.scope.kind == .function && env.kindOf y == some .cell) = true then NameKind.cell else kd) = .local := (Option.some.inj e3).symm
          split at e5
          · cases e5
          · subst e5; exact q e4
    · have := (cl y c).mp e
      show h₂.IsCell c (if scC.names.lookup y = some .local then none else m y)
      rw [if_neg (by rw [this.1]; intro q; cases q)]
      exact isCell_at (S₁.cel y c this.2) fun o q => h12 _ _ (hk _ _ q)
    · have := (cl y c).mp e
      have lt := (S₁.cel y c this.2).lt
      exact ⟨Nat.ne_of_lt (Nat.lt_of_lt_of_le lt hCle), .inr ⟨y, this.2⟩⟩
  have cellLt : ∀ y c, cenv.cells.lookup y = some c → c < h₁.objs.size := fun y c e => (S₁.cel y c ((cl y c).mp e).2).lt
  have free' : ∀ {a : Addr} {ow : List (Addr × Obj)}, h₁.objs.size ≤ a → a ≠ C → (∀ p ∈ ow, p.1 ≠ a) → Free (gh h₁) cenv Z ow a := fun {a ow} ha hne ho => {
    B := by
      cases e : (gh h₁).get? a with
      | none => rfl
      | some o => exact absurd (Heap.lt_size (of_gh e)) (Nat.not_lt.mpr ha)
    L := hne
    c := fun y c e => Nat.ne_of_lt (Nat.lt_of_lt_of_le (cellLt y c e) ha)
    z := (S₁.free_new ha).z
    o := ho
    hi := (S₁.free_new ha).hi
   }
  have S₃ : St (gh h₁) cenv m₀ Z [(D, { cls := .type "list", dict := none, data := .seq ([] : List Value).toArray }), (I, iob)] h₂ :=
    (S₂.takeOwn (free' hI hIC fun p hp => by cases hp) hI₂).takeOwn (free' hDle hDC fun p hp => by
      rcases List.mem_cons.mp hp with rfl | hp
      · exact hID
      · cases hp) hD₂
  have fsx : ∀ y ∈ fs, scC.names.lookup y = some .free := fun y hy => of_decide_eq_true (List.all_eq_true.mp hfs y hy)
  have ro₀ : LocOk (gh h₁).objs.size m₀ Z [] (capL fs ρ) := LocOk.ofVals fun y rr e => by
    obtain ⟨hy, d, rfl, e2⟩ := capL_lookup e
    obtain ⟨v, e3, e4⟩ := ro.v y d e2
    refine ⟨d, v, rfl, ?_, e4⟩
    show (if scC.names.lookup y = some .local then none else m y) = _
    rw [if_neg (by rw [fsx y hy]; intro q; cases q)]; exact e3
  have subx : ∀ (v : Vr) y rr, (capL fs ρ).lookup y = some rr → (setL (capL fs ρ) x v).lookup y = some rr := fun v y rr e => by
    rw [lookup_setL, if_neg]
    · exact e
    · intro q
      subst q
      have := fsx y (capL_lookup e).1
      rw [hx] at this; cases this
  have W' : Wd K (gh h₁) := W.gh S₁
  have loop : ∀ s₃ : Shared, s₃ = { s with heap := h₂, toks := s.toks + ([] : List (Str × Value)).length } →
      codeAny (model prog w) A (.compLoop (.ListComp elt [⟨.Name x px, iter, ifs, 0⟩] scC pos) 0 (.ref I) (.ref D) cenv) (RR (.ref D) C) s₃ := by
    rintro s₃ rfl
    refine codeAny_compLoop_tests (fun n s' => ∃ i m' Z' h' tk' iob' dob vs nn dn es', s' = { s with heap := h', toks := (tk' : Tk).1, drawn := tk'.2 } ∧ ZLe h₁.objs.size Z Z' ∧ St (gh h₁) cenv m' Z' [(D, dob), (I, iob')] h' ∧ LocOk (gh h₁).objs.size m' Z' [] (capL fs ρ) ∧ dob.cls = .type "list" ∧ dob.dict = none ∧ dob.data = .seq vs nn ∧ HasL Z' dn vs.toList ∧
        T i h' ∧ i ≤ ds.length ∧ n = (ds.drop i).length ∧ dn.length ≤ i ∧ es = dn ++ es' ∧ CompR prog w K k scC (capL fs ρ) x ifs elt (ds.drop i) es') ?_ _
      ⟨0, m₀, Z, h₂, ⟨_, _⟩, iob, _, #[], 0, [], es, rfl, ZLe.refl _ _, S₃, ro₀, rfl, rfl, rfl, hasL_nil, ?_, Nat.zero_le _, rfl, Nat.le_refl _, rfl, hc⟩
    · rintro n s' ⟨i, m', Z', h', tk', iob', dob, vs, nn, dn, es', rfl, z, S', ro', d1, d2, d3, hv, hT', hi, hn, hdn, hes, hcr⟩
      obtain ⟨fp, PP, WW, hfp, hP⟩ := (X.mono z.1).w
      cases hds : ds.drop i with
      | nil =>
        rw [hds] at hcr
        have hlen : ds.length ≤ i := by
          have := congrArg List.length hds
          rw [List.length_drop] at this
          simp at this; omega
        have hi' : i = ds.length := Nat.le_antisymm hi hlen
        subst hi'
        cases hcr
        rw [List.append_nil] at hes
        subst hes
        refine WW.done _ _ _ hT' fun h'' tk hk' => ?_
        have S₄ : St (gh h₁) cenv m' Z' [(D, dob)] h'' := by
          have F : Free (gh h₁) cenv Z' [(D, dob)] I := S'.freeOfOwn (ob := iob') (.tail _ (.head _)) fun p hp => by
            rcases List.mem_cons.mp hp with rfl | hp
            · exact ⟨.head _, hDI⟩
            · cases hp
          exact (S'.dropOwn (List.Sublist.cons_cons _ (List.nil_sublist _))).ext (fun b => b = I) (fun b q => q ▸ F) fun b ob q e => hk' b ob (fun w => q (by simpa using w)) e
        have FD : Free (gh h₁) cenv Z' [] D := S₄.freeOfOwn (.head _) fun p hp => by cases hp
        have hdo : h''.get? D = some dob := S₄.oin _ (.head _)
        have S₅ : St (gh h₁) cenv m' (Zins Z' D dob) [] h'' := (S₄.dropOwn (List.nil_sublist _)).freeze FD hdo
        have z₅ : ZLe h₁.objs.size Z (Zins Z' D dob) := z.tr (ZLe.ins FD.z hDle)
        have S₆ : St hB env m (Zins Z' D dob) own h'' := S₁.back S₅ (by rw [gh_size]; exact z₅)
        have hval : Has (Zins Z' D dob) (.lst es) (.ref D) := by
          unfold Has
          exact ⟨D, dob, vs, nn, rfl, Zins_self, d1, d2, d3, hv.mono (ZLe.ins FD.z hDle : ZLe h₁.objs.size _ _).1⟩
        obtain ⟨ml, FF, _⟩ := S₅.fr
        exact P D C ml _ h'' (tk, tk'.2) (z₅.of_le S₁.leB) S₆ hval FF.ns { S₁.free_new hCle with z := S₅.zL }
      | cons d ds' =>
        rw [hds] at hcr
        have hlt : i < ds.length := by
          have := congrArg List.length hds
          rw [List.length_drop] at this
          simp at this; omega
        have hd : ds[i]? = some d := by
          have := List.getElem?_drop (xs := ds) (i := i) (j := 0)
          rw [hds] at this
          simpa using this.symm
        have hdrop : ds.drop (i + 1) = ds' := by
          rw [← List.drop_drop (i := 1) (j := i) (l := ds), hds]; rfl
        refine WW.item i _ _ _ hlt hT' fun v h₄ tk₄ hvi hT₄ hk₄ => ?_
        obtain ⟨io, hio⟩ := X.at_ _ _ hT₄
        have S₄ : St (gh h₁) cenv m' Z' [(D, dob), (I, io)] h₄ := by
          have := S'.setOwn (a := I) (ob := iob') (.tail _ (.head _)) hio fun b ob q e => hk₄ b ob (fun w => q (by simpa using w)) e
          have e : updO [(D, dob), (I, iob')] I io = [(D, dob), (I, io)] := by
            show [if D = I then (I, io) else (D, dob), if I = I then (I, io) else (I, iob')] = _
            rw [if_neg hDI, if_pos rfl]
          rwa [e] at this
        have hvd : Has Z' d v := hP i v d hvi hd
        have hxv : isVar scC x = true := by unfold isVar; rw [hx]
        have hdnl : dn.length ≤ 100000 := by
          have l : ds.length ≤ 100000 := of_decide_eq_true hz
          omega
        have keep : ∀ {m₃ Z₃ dob₃ h₃}, ZLe h₁.objs.size Z' Z₃ → St (gh h₁) cenv m₃ Z₃ [(D, dob₃), (I, io)] h₃ → T (i + 1) h₃ := fun {m₃ Z₃ dob₃ h₃} z₃ S₃ => WW.frame _ _ _ hT₄ fun b hb ob e => by
          rcases hfp b hb with rfl | q
          · rw [hio] at e; cases e
            exact S₃.oin _ (.tail _ (.head _))
          · obtain ⟨o', ho'⟩ := Option.isSome_iff_exists.mp q
            have := S₄.zin _ _ ho'
            rw [this] at e; cases e
            exact S₃.zin _ _ (z₃.1 _ _ ho')
        have hn' : (ds.drop (i + 1)).length < n := by rw [hn, hds, hdrop]; exact Nat.lt_succ_self _
        refine wpAny_assign_Name (storeV (hid := [(D, dob), (I, io)]) (own := []) O' hxv (s := { s with heap := h₄, toks := tk₄, drawn := tk'.2 }) S₄ ro' hvd fun h₅ tk₅ _ S₅ ro₅ => ?_)
        generalize hm₅ : upd m' x v = m₅ at S₅ ro₅
        cases hcr with
        | skip ht hr =>
          refine ht cenv O' A (gh h₁) m₅ Z' [(D, dob), (I, io)] _ _ _ r W' S₅ ro₅.weak fun Z₆ h₆ tk₆ z₆ S₆ => ?_
          rw [gh_size] at z₆
          rw [if_neg Bool.false_ne_true]
          exact ⟨_, hn', i + 1, m₅, Z₆, h₆, tk₆, io, dob, vs, nn, dn, es', rfl, z.tr z₆, S₆, (ro₅.mono z₆.1).sub (subx _), d1, d2, d3, hv.mono z₆.1, keep z₆ S₆, hlt, rfl, Nat.le_succ_of_le hdn, hes, by rw [hdrop]; exact hr⟩
        | @keep _ _ e es'' ht he hr =>
          refine ht cenv O' A (gh h₁) m₅ Z' [(D, dob), (I, io)] _ _ _ r W' S₅ ro₅.weak fun Z₆ h₆ tk₆ z₆ S₆ => ?_
          rw [gh_size] at z₆
          rw [if_pos rfl]
          refine he cenv O' A (gh h₁) m₅ Z₆ [(D, dob), (I, io)] _ _ _ r W' S₆ ((ro₅.mono z₆.1).weak) fun y Z₇ h₇ tk₇ z₇ S₇ hy => ?_
          rw [gh_size] at z₇
          refine list_append_plainL (l := D) (its := vs) ⟨dob, nn, S₇.oin _ (.head _), d1, d2, d3⟩ (fun h₈ hp₈ hs₈ => ?_) (by
            have := hv.size
            rw [this]
            exact Nat.le_trans hdnl (by decide))
          obtain ⟨o', n', e1, e2, e3, e4⟩ := hp₈
          have S₈ : St (gh h₁) cenv m₅ Z₇ [(D, o'), (I, io)] h₈ := by
            have := S₇.setOwn (a := D) (ob := dob) (.head _) e1 fun b ob q e => (hs₈.2 b q).trans e
            have e : updO [(D, dob), (I, io)] D o' = [(D, o'), (I, io)] := by
              show [if D = D then (D, o') else (D, dob), if I = D then (D, o') else (I, io)] = _
              rw [if_pos rfl, if_neg (Ne.symm hDI)]
            rwa [e] at this
          have z67 : ZLe h₁.objs.size Z' Z₇ := z₆.tr z₇
          exact ⟨_, hn', i + 1, m₅, Z₇, h₈, tk₇, io, o', vs.push y, n', dn ++ [e], es'', rfl, z.tr z67, S₈, (ro₅.mono z67.1).sub (subx _), e2, e3, e4, by simpa using (hv.mono z67.1).snoc hy, keep z67 S₈, hlt, rfl, by simp; omega, by rw [hes]; simp, by rw [hdrop]; exact hr⟩
    · obtain ⟨fp, PP, WW, hfp, hP⟩ := X.w
      refine WW.frame _ _ _ hT fun b hb ob e => h12 _ _ e
  obtain ⟨fp, PP, WW, hfp, hP⟩ := X.w
  exact codeAny_compStart_list (loop _ rfl) (WW.self 0 _ _ _ (WW.frame _ _ _ hT fun b hb ob e => h12 _ _ e) (loop _ rfl))
end
end Mine
end
section
open PySem PySem.W PyProof.Rows PySem.Flt
namespace Mine

section
variable {prog : Program} {w : World} {K : Frag} {k : Nat} {sc scC : Scope} {ρ : Loc}

theorem block_fn {env : Env} (O : EnvOk env sc) : env.blockKind = .function := by
  unfold Env.blockKind
  rw [O.kind]; rfl
theorem comp_facts (hs : okComp scC = true) : scC.kind = .function ∧ ∀ y ∈ scC.names, y.2 = .local → scC.names.lookup y.1 = some .local := by
  unfold okComp at hs
  simp only [Bool.and_eq_true, decide_eq_true_eq, Option.isNone_iff_eq_none] at hs
  obtain ⟨⟨⟨⟨⟨h0, h1⟩, h2⟩, h3⟩, h4⟩, h5⟩ := hs
  exact ⟨h5, fun y hy e => mem_lookup h1 (by rw [← e]; exact hy)⟩

theorem evComp {elt iter : Expr} {x : Str} {px : Pos} {ifs : List Expr} {pos : Pos} {ds es : List D} (fs : List Str) (hi : ItS prog w K k sc ρ iter ds) (hs : okComp scC = true) (hcap : capOk sc scC = true) (hx : scC.names.lookup x = some .local) (hfs : (fs.all fun y => decide (scC.names.lookup y = some .free)) = true)
    (hc : CompR prog w K k scC (capL fs ρ) x ifs elt ds es) (hz : szOk ds = true) (hf : ∀ env v, foldedSetIterable iter env v = pure v) : EvS prog w K k sc ρ (.ListComp elt [⟨.Name x px, iter, ifs, 0⟩] scC pos) (.lst es) := by
  intro env O A hB m Z own s Q E R W S ro P
  obtain ⟨f1, f2⟩ := comp_facts hs
  dsimp only
  rw [eval_ListComp]
  refine wpAny_comprehension_free (use := none) rfl (hf env) (closure_ok (cap_cells O hcap)) f1 f2 ?_
  refine hi env O A hB m Z own s _ E R W S ro fun I iob Z₁ h₁ h₂ tk₂ T z₁ S₁ hk hI hob X hT => ?_
  refine comp_block (RR := fun acc C => compPost (model prog w) A E none Q acc C) (s := { s with heap := h₂, toks := tk₂.1, drawn := tk₂.2 }) O R W hs hcap hx hfs hc hz S₁ (ro.mono z₁.1) hk hI hob (X A R.h) hT fun D C m' Z' h' tk' z' S' hv hn F => ?_
  refine ⟨m', hn, fun h'' hs'' => ?_⟩
  exact P (.ref D) Z' h'' tk' (z₁.tr z') (S'.ext (fun b => b = C) (fun b q => q ▸ F) fun b o q e => (hs''.2 b q).trans e) hv

theorem swaps_true {env : Env} {elt : Expr} {gens : List Comprehension} {pos py : Pos} {y : Str} {ln : Nat} (O : EnvOk env sc) (hy : sc.names.lookup y = some .local) (hl : (py.line == pos.line) = true) (hn : (scC.names.any fun p => p.1 == y && (p.2 == .local || p.2 == .cell)) = false) :
    swapsWith (.ListComp elt gens scC pos) (some (.Name y py)) ln env = pure true := by
  show (pure (env.blockKind == .function && env.kindOf y == some .local && py.line == pos.line && !(scC.names.any fun p => p.1 == y && (p.2 == .local || p.2 == .cell))) : Sem Bool) = pure true
  rw [block_fn O, O.kl y hy, hl, hn]; rfl
theorem swaps_cell {env : Env} {elt : Expr} {gens : List Comprehension} {pos py : Pos} {y : Str} {ln : Nat} (O : EnvOk env sc) (hy : sc.names.lookup y = some .cell) :
    swapsWith (.ListComp elt gens scC pos) (some (.Name y py)) ln env = pure false := by
  show (pure (env.blockKind == .function && env.kindOf y == some .local && py.line == pos.line && !(scC.names.any fun p => p.1 == y && (p.2 == .local || p.2 == .cell))) : Sem Bool) = pure false
  rw [(O.kc y hy).1, show ((some NameKind.cell : Option NameKind) == some .local) = false from rfl, Bool.and_false, Bool.false_and, Bool.false_and]

theorem coAssignComp {elt iter : Expr} {x y : Str} {px py : Pos} {ifs : List Expr} {pos spos : Pos} {ds es : List D} (fs : List Str) (hi : ItS prog w K k sc ρ iter ds) (hs : okComp scC = true) (hcap : capOk sc scC = true) (hx : scC.names.lookup x = some .local) (hfs : (fs.all fun y => decide (scC.names.lookup y = some .free)) = true)
    (hc : CompR prog w K k scC (capL fs ρ) x ifs elt ds es) (hz : szOk ds = true) (hf : ∀ env v, foldedSetIterable iter env v = pure v)
    (hy : sc.names.lookup y = some .local) (hl : (py.line == pos.line) = true) (hn : (scC.names.any fun p => p.1 == y && (p.2 == .local || p.2 == .cell)) = false) :
    Co prog w K k sc ρ (.Assign [.Name y py] (.ListComp elt [⟨.Name x px, iter, ifs, 0⟩] scC pos) spos) (.go (setL ρ y (.val (.lst es)))) := by
  intro env O A hB m Z own hid s Q E R W S ro P
  obtain ⟨f1, f2⟩ := comp_facts hs
  dsimp only
  rw [exec_Assign_Name_used _ _ _ _ (swaps_true O hy hl hn)]
  refine wpAny_bind (wpAny_standAt (wpAny_bind ?_))
  show wpAny _ A (do let _ ← comprehension (.ListComp elt [⟨.Name x px, iter, ifs, 0⟩] scC pos) scC env _ (newList []) false (eval iter env) (some (assign (.Name y py) env))) _ _ s
  refine wpAny_bind (wpAny_mono (wpAny_comprehension_free (use := some (assign (.Name y py) env)) (Q := fun _ s' => Q .next s') rfl (hf env) (closure_ok (cap_cells O hcap)) f1 f2 ?_) (fun _ s' hq => wpAny_pure (wpAny_pure hq)) fun _ _ e => e)
  refine hi env O A hB m Z (own ++ hid) s _ E R W S ro.weak fun I iob Z₁ h₁ h₂ tk₂ T z₁ S₁ hk hI hob X hT => ?_
  refine comp_block (RR := fun acc C => compPost (model prog w) A E (some (assign (.Name y py) env)) (fun _ s' => Q .next s') acc C) (s := { s with heap := h₂, toks := tk₂.1, drawn := tk₂.2 }) O R W hs hcap hx hfs hc hz S₁ (ro.mono z₁.1).weak hk hI hob (X A R.h) hT fun D C m' Z' h' tk' z' S' hv hn F => ?_
  obtain ⟨ml, FF, e⟩ := S'.fr
  show wpAny _ A (assign (.Name y py) env (.ref D)) _ _ _
  refine wpAny_assign_Name (wpAny_storeName_local (O.kl y hy) FF.ns (fun h₃ hn₃ hs₃ => ?_) (by rw [O.kind]; rfl))
  have S₃ := S'.storeLocal O FF e hy hn₃ hs₃ (v := .ref D)
  refine ⟨m', hn.sameBut hs₃ F.L, fun h'' hs'' => ?_⟩
  exact P _ Z' own h'' ⟨_, _⟩ (z₁.tr z') (S₃.ext (fun b => b = C) (fun b q => q ▸ F) fun b o q e => (hs''.2 b q).trans e) (((ro.mono z₁.1).mono z'.1).setVal hv)
end
end Mine
end
section
open PySem PySem.W PyProof.Rows PySem.Flt
namespace Mine

/-- data that hold no reference -/
noncomputable def flatD : D → Bool
  | .none | .bool _ | .int _ | .flt _ | .str _ => true
  | _ => false
theorem flat_has {Z Z' : Zn} {d : D} {v : Value} (h : flatD d = true) (x : Has Z d v) : Has Z' d v := by
  cases d <;> first | (cases h; done) | (unfold Has at x ⊢; exact x)

noncomputable def Zdel (Z : Zn) (a : Addr) : Zn := fun b => if b = a then none else Z b

section
variable {prog : Program} {w : World} {K : Frag} {k : Nat} {sc : Scope} {ρ : Loc}

theorem peek_in {env : Env} {hB : Heap} {m : Str → Option Value} {Z : Zn} {own : List (Addr × Obj)} {h : Heap} {x : Str} {l : List D} (hl : ρ.lookup x = some (.lst l)) (S : St hB env m Z own h) (ro : LocOk hB.objs.size m Z own ρ) :
    ∃ a ob vs n, (a, ob) ∈ own ∧ ob.data = .seq vs n ∧ ZLe hB.objs.size Z (Zins Z a ob) ∧ St hB env m (Zins Z a ob) (own.filter fun p => decide (p.1 ≠ a)) h ∧ LocOk hB.objs.size m (Zins Z a ob) (own.filter fun p => decide (p.1 ≠ a)) (setL ρ x (.val (.lst l))) ∧ Z a = none := by
  obtain ⟨a, ob, vs, n, hm, ha, c1, c2, c3, hv⟩ := ro.getL hl
  have sub : (own.filter fun p => decide (p.1 ≠ a)).Sublist own := List.filter_sublist
  have F : Free hB env Z (own.filter fun p => decide (p.1 ≠ a)) a := S.freeOfOwn (ob := ob) ha fun p hp => ⟨(List.mem_filter.mp hp).1, by simpa using (List.mem_filter.mp hp).2⟩
  have S₁ := (S.dropOwn sub).freeze F (S.oin _ ha)
  have z : ZLe hB.objs.size Z (Zins Z a ob) := ZLe.ins F.z (ro.b x _ a hl rfl rfl hm)
  refine ⟨a, ob, vs, n, ha, c3, z, S₁, ?_, F.z⟩
  exact {
    v := fun y d e => by
      rw [lookup_setL] at e
      by_cases q : y = x
      · rw [if_pos q] at e; cases e
        refine ⟨.ref a, q ▸ hm, ?_⟩
        unfold Has
        exact ⟨a, ob, vs, n, rfl, Zins_self, c1, c2, c3, hv.mono z.1⟩
      · rw [if_neg q] at e
        obtain ⟨v, e1, e2⟩ := ro.v y d e
        exact ⟨v, e1, e2.mono z.1⟩
    o := fun y r e t => by
      rw [lookup_setL] at e
      by_cases q : y = x
      · rw [if_pos q] at e; cases e; cases t
      · rw [if_neg q] at e
        obtain ⟨b, o', e1, e2, e3⟩ := ro.o y r e t
        refine ⟨b, o', e1, List.mem_filter.mpr ⟨e2, by simpa using fun w : b = a => q (ro.i y x r _ a e t hl rfl (w ▸ e1) hm)⟩, e3.mono z.1⟩
    b := fun y r b e t nb u => by
      rw [lookup_setL] at e
      by_cases q : y = x
      · rw [if_pos q] at e; cases e; cases t
      · rw [if_neg q] at e; exact ro.b y r b e t nb u
    i := fun y y' r r' b e t e' t' u u' => by
      rw [lookup_setL] at e e'
      by_cases q : y = x
      · rw [if_pos q] at e; cases e; cases t
      · by_cases q' : y' = x
        · rw [if_pos q'] at e'; cases e'; cases t'
        · rw [if_neg q] at e; rw [if_neg q'] at e'; exact ro.i y y' r r' b e t e' t' u u' }

theorem peek_out {env : Env} {hB : Heap} {m : Str → Option Value} {Z Z' : Zn} {own : List (Addr × Obj)} {h h' : Heap} {a : Addr} {ob : Obj} {vs : Array Value} {n : Nat} (S : St hB env m Z own h) (ha : (a, ob) ∈ own) (hd : ob.data = .seq vs n) (hz : Z a = none)
    (z : ZLe hB.objs.size (Zins Z a ob) Z') (S' : St hB env m Z' (own.filter fun p => decide (p.1 ≠ a)) h') : ZLe hB.objs.size Z (Zdel Z' a) ∧ St hB env m (Zdel Z' a) own h' := by
  have hza : Z' a = some ob := z.1 _ _ Zins_self
  have sub : ∀ b o, Zdel Z' a b = some o → Z' b = some o := fun b o e => by
    unfold Zdel at e
    by_cases q : b = a
    · rw [if_pos q] at e; cases e
    · rwa [if_neg q] at e
  have back : ∀ b o, b ≠ a → Z' b = some o → Zdel Z' a b = some o := fun b o q e => by unfold Zdel; rw [if_neg q]; exact e
  have nz : ∀ b, Z' b = none → Zdel Z' a b = none := fun b e => by
    unfold Zdel
    by_cases q : b = a
    · rw [if_pos q]
    · rw [if_neg q]; exact e
  have tb : ∀ {P : Addr} {ln cl : Nat} {q : Str}, TabAt Z' h' P ln cl q → TabAt (Zdel Z' a) h' P ln cl q := fun {P ln cl q} x => by
    obtain ⟨ps, e, r⟩ := x
    refine ⟨ps, e, r.imp id fun ⟨c, oc, us, t, e1, e2, e3, e4⟩ => ⟨c, oc, us, t, e1, back c oc (fun q => ?_) e2, e3, e4⟩⟩
    rw [q, hza] at e2
    cases e2
    rw [hd] at e3; cases e3
  constructor
  · refine ⟨fun b o e => back b o (fun q => by rw [q, hz] at e; cases e) (z.1 b o (by unfold Zins; rw [if_neg (fun q => by rw [q, hz] at e; cases e)]; exact e)), fun b o e => ?_⟩
    have e' := sub b o e
    rcases z.2 b o e' with w | w
    · unfold Zins at w
      by_cases q : b = a
      · exfalso; unfold Zdel at e; rw [if_pos q] at e; cases e
      · rw [if_neg q] at w; exact .inl w
    · exact .inr w
  · exact {
      fr := S'.fr
      cel := S'.cel
      zin := fun b o e => S'.zin b o (sub b o e)
      zhi := fun b o e => S'.zhi b o (sub b o e)
      zL := nz _ S'.zL
      zc := fun y c e => nz _ (S'.zc y c e)
      oin := fun p hp => by
        by_cases q : p.1 = a
        · have e : p = (a, ob) := by
            have nd := S.ond
            obtain ⟨p1, p2⟩ := p
            cases q
            have h1 := S.oin _ hp
            have h2 := S.oin _ ha
            rw [h1] at h2; cases h2; rfl
          rw [e]
          exact S'.zin _ _ hza
        · exact S'.oin p (List.mem_filter.mpr ⟨hp, by simpa using q⟩)
      oZ := fun p hp => by
        by_cases q : p.1 = a
        · unfold Zdel; rw [if_pos q]
        · exact nz _ (S'.oZ p (List.mem_filter.mpr ⟨hp, by simpa using q⟩))
      oB := S.oB
      oL := S.oL
      oc := S.oc
      ohi := S.ohi
      ond := S.ond
      Lhi := S'.Lhi
      chi := S'.chi
      cL := S'.cL
      tB := S'.tB
      tab := ⟨tb S'.tab.a, tb S'.tab.b⟩ }

/-- reading an own list in an expression -/
theorem evPeek {x : Str} {l : List D} {e : Expr} {d : D} (hl : ρ.lookup x = some (.lst l)) (h : EvS prog w K k sc (setL ρ x (.val (.lst l))) e d) (hf : flatD d = true) : EvS prog w K k sc ρ e d := by
  intro env O A hB m Z own s Q E R W S ro P
  obtain ⟨a, ob, vs, n, ha, hd, z, S₁, ro₁, hz⟩ := peek_in hl S ro
  refine h env O A hB m _ _ s Q E R W S₁ ro₁ fun v Z' h' tk' z' S' hv => ?_
  obtain ⟨z₂, S₂⟩ := peek_out S ha hd hz z' S'
  exact P v _ h' tk' z₂ S₂ (flat_has hf hv)
theorem evPeekB {x : Str} {l : List D} {e : Expr} {b : Bool} (hl : ρ.lookup x = some (.lst l)) (h : EvB prog w K k sc (setL ρ x (.val (.lst l))) e b) : EvB prog w K k sc ρ e b := by
  intro env O A hB m Z own s Q E R W S ro P
  obtain ⟨a, ob, vs, n, ha, hd, z, S₁, ro₁, hz⟩ := peek_in hl S ro
  refine h env O A hB m _ _ s Q E R W S₁ ro₁ fun Z' h' tk' z' S' => ?_
  obtain ⟨z₂, S₂⟩ := peek_out S ha hd hz z' S'
  exact P _ h' tk' z₂ S₂

/-! built-in calls -/
theorem has1 {Z : Zn} {a : D} {vs : List Value} (h : HasL Z [a] vs) : ∃ v, vs = [v] ∧ Has Z a v := by
  unfold HasL at h; obtain ⟨v, r, rfl, h1, h2⟩ := h
  unfold HasL at h2; subst h2; exact ⟨v, rfl, h1⟩
theorem has2 {Z : Zn} {a b : D} {vs : List Value} (h : HasL Z [a, b] vs) : ∃ v u, vs = [v, u] ∧ Has Z a v ∧ Has Z b u := by
  unfold HasL at h; obtain ⟨v, r, rfl, h1, h2⟩ := h
  obtain ⟨u, rfl, h3⟩ := has1 h2; exact ⟨v, u, rfl, h1, h3⟩
theorem has3 {Z : Zn} {a b c : D} {vs : List Value} (h : HasL Z [a, b, c] vs) : ∃ v u x, vs = [v, u, x] ∧ Has Z a v ∧ Has Z b u ∧ Has Z c x := by
  unfold HasL at h; obtain ⟨v, r, rfl, h1, h2⟩ := h
  obtain ⟨u, x, rfl, h3, h4⟩ := has2 h2; exact ⟨v, u, x, rfl, h1, h3, h4⟩

theorem vLenL {l : List D} (hz : szOk l = true) : VSpec prog w K k (.builtin "len") [.lst l] (.int l.length) := by
  intro env hke A hB m Z own s vs Q E R W S hv P
  obtain ⟨v, rfl, h1⟩ := has1 hv
  obtain ⟨a, us, rfl, hl, r, _⟩ := isList_Z S.zin h1
  have e := r.size
  have l' : l.length ≤ 100000 := of_decide_eq_true hz
  refine Calls.call_len_list hl (by rw [e]; omega) ?_
  rw [e]
  exact P _ Z s.heap ⟨_, _⟩ (ZLe.refl _ _) S (mkI _ _)
theorem vLenS {x : Str} (hz : x.length ≤ 100000) : VSpec prog w K k (.builtin "len") [.str x] (.int x.length) := by
  intro env hke A hB m Z own s vs Q E R W S hv P
  obtain ⟨v, rfl, h1⟩ := has1 hv
  obtain ⟨t, rfl⟩ := has_str h1
  exact len_str (by omega) (P _ Z s.heap ⟨_, _⟩ (ZLe.refl _ _) S (mkI _ _))
theorem vAbs {a : Int} : VSpec prog w K k (.builtin "abs") [.int a] (.int (if a < 0 then -a else a)) := by
  intro env hke A hB m Z own s vs Q E R W S hv P
  obtain ⟨v, rfl, h1⟩ := has1 hv
  obtain ⟨t, rfl⟩ := has_int h1
  exact call_abs_int fun u tk => P _ Z s.heap ⟨_, _⟩ (ZLe.refl _ _) S (mkI _ _)
theorem vDivmod {a b : Int} (hb : b ≠ 0) (hs : sm b = true) : VSpec prog w K k (.builtin "divmod") [.int a, .int b] (.tup [.int (a.fdiv b), .int (a.fmod b)]) := by
  intro env hke A hB m Z own s vs Q E R W S hv P
  obtain ⟨v, u, rfl, h1, h2⟩ := has2 hv
  obtain ⟨t, rfl⟩ := has_int h1
  obtain ⟨t2, rfl⟩ := has_int h2
  refine divmod_int hb ?_ (.inl (PyProof.noPylong_of_log2 ?_))
  · refine P _ _ _ ⟨_, _⟩ (ZLe.ins (S.free_new (Nat.le_refl _)).z S.leB) (S.pushZ _ rfl) ?_
    unfold Has
    exact ⟨_, _, _, _, rfl, Zins_self, rfl, rfl, hasL_cons (mkI _ _) (hasL_cons (mkI _ _) hasL_nil)⟩
  · have := sm_lt hs
    exact Nat.lt_trans (PySem.W.ZRun.log2_lt64 _ (by simpa using this)) (by decide)
theorem vTuple {l : List D} (hz : szOk l = true) : VSpec prog w K k (.type "tuple") [.lst l] (.tup l) := by
  intro env hke A hB m Z own s vs Q E R W S hv P
  obtain ⟨v, rfl, h1⟩ := has1 hv
  obtain ⟨a, us, rfl, hl, r, _⟩ := isList_Z S.zin h1
  have l' : l.length ≤ 100000 := of_decide_eq_true hz
  refine call_tuple_list hl (fun h' hk => ?_) (by rw [r.size]; exact Nat.le_trans l' (by decide))
  have S' := S.ext0 hk
  refine P _ _ _ ⟨_, _⟩ (ZLe.ins (S'.free_new (Nat.le_refl _)).z S'.leB) (S'.pushZ _ rfl) ?_
  have zz := Zins_le S' ({ cls := .type "tuple", data := .seq us } : Obj)
  unfold Has
  exact ⟨_, _, _, _, rfl, Zins_self, rfl, rfl, r.mono zz.1⟩
theorem vIntF {x : UInt64} {sg : Bool} {mm : Nat} {e : Int} (hd : Float64.decode x = .fin sg mm e) : VSpec prog w K k (.type "int") [.flt x] (.int (Float64.truncOf sg mm e)) := by
  intro env hke A hB m Z own s vs Q E R W S hv P
  obtain ⟨v, rfl, h1⟩ := has1 hv
  obtain ⟨t, rfl⟩ := has_flt h1
  exact call_int_float hd (P _ Z s.heap ⟨_, _⟩ (ZLe.refl _ _) S (mkI _ _))

theorem ints_items {Z : Zn} : ∀ {ns : List Int} {vs : List Value}, HasL Z (ns.map .int) vs → ∃ xs : List (Int × Tok), vs = xs.map (fun p => Value.int p.1 p.2) ∧ xs.map (·.1) = ns
  | [], vs, h => by unfold HasL at h; exact ⟨[], h, rfl⟩
  | n :: ns, vs, h => by
    rw [List.map_cons] at h
    unfold HasL at h
    obtain ⟨v, r, rfl, h1, h2⟩ := h
    obtain ⟨t, rfl⟩ := has_int h1
    obtain ⟨xs, rfl, e⟩ := ints_items h2
    exact ⟨(n, t) :: xs, rfl, by rw [List.map_cons, e]⟩
theorem ints_are {Z : Zn} : ∀ {ns : List Int} {vs : List Value}, HasL Z (ns.map .int) vs → IntsAre vs ns
  | [], vs, h => by unfold HasL at h; subst h; exact .nil
  | n :: ns, vs, h => by
    rw [List.map_cons] at h
    unfold HasL at h
    obtain ⟨v, r, rfl, h1, h2⟩ := h
    obtain ⟨t, rfl⟩ := has_int h1
    exact .cons _ _ (ints_are h2)
theorem ints_arr {Z : Zn} {ns : List Int} {us : Array Value} (h : HasL Z (ns.map .int) us.toList) : ∃ xs : Array (Int × Tok), us = intItems xs ∧ xs.toList.map (·.1) = ns := by
  obtain ⟨xs, e1, e2⟩ := ints_items h
  refine ⟨xs.toArray, ?_, by simpa using e2⟩
  unfold intItems
  apply Array.ext'
  rw [e1]; simp

noncomputable def atI (ns : List Int) (i : Nat) : Int := ns[i]?.getD 0
theorem numAt_eq {xs : Array (Int × Tok)} {ns : List Int} (h : xs.toList.map (·.1) = ns) : numAt xs = atI ns := by
  funext i
  unfold numAt atI
  rw [← h, List.getElem?_map, Array.getElem?_toList]
theorem preSum_take (ns : List Int) : ∀ j, preSum (atI ns) j = (ns.take j).foldl (· + ·) 0
  | 0 => by simp [preSum]
  | j + 1 => by
    unfold preSum
    rw [preSum_take ns j, List.take_add_one, List.foldl_append]
    unfold atI
    cases ns[j]? with
    | none => simp
    | some x => simp
theorem preSum_eq {xs : Array (Int × Tok)} {ns : List Int} (h : xs.toList.map (·.1) = ns) : preSum (numAt xs) xs.size = ns.foldl (· + ·) 0 := by
  rw [numAt_eq h, preSum_take]
  have : xs.size = ns.length := by rw [← h]; simp
  rw [this, List.take_length]
theorem vSum {ns : List Int} : VSpec prog w K k (.builtin "sum") [.lst (ns.map .int)] (.int (ns.foldl (· + ·) 0)) := by
  intro env hke A hB m Z own s vs Q E R W S hv P
  obtain ⟨v, rfl, h1⟩ := has1 hv
  obtain ⟨a, us, rfl, hl, r, _⟩ := isList_Z S.zin h1
  obtain ⟨xs, rfl, e⟩ := ints_arr r
  refine sum_intListG R.h hl fun h' tk t' hk => ?_
  rw [preSum_eq e]
  exact P _ Z h' ⟨_, _⟩ (ZLe.refl _ _) (S.ext0 hk) (mkI _ _)

noncomputable def maxI (ns : List Int) : Int := atI ns (argBest (fun i j => decide (atI ns i > atI ns j)) (ns.length - 1))
theorem vMaxI {ns : List Int} (hne : ns.isEmpty = false) : VSpec prog w K k (.builtin "max") [.lst (ns.map .int)] (.int (maxI ns)) := by
  intro env hke A hB m Z own s vs Q E R W S hv P
  obtain ⟨v, rfl, h1⟩ := has1 hv
  obtain ⟨a, us, rfl, hl, r, _⟩ := isList_Z S.zin h1
  obtain ⟨xs, rfl, e⟩ := ints_arr r
  have hn : xs.size = ns.length := by rw [← e]; simp
  refine max_intList R.h hl (by rw [hn]; cases ns with | nil => cases hne | cons _ _ => simp) fun v h' tk hv' hk => ?_
  obtain ⟨t, rfl⟩ := intItems_at hv'
  rw [numAt_eq e, hn]
  exact P _ Z h' ⟨_, _⟩ (ZLe.refl _ _) (S.ext0 hk) (mkI _ _)

noncomputable def fl3 (a b c : UInt64) : Nat → UInt64
  | 0 => a
  | 1 => b
  | _ => c
noncomputable def max3 (a b c : UInt64) : UInt64 := fl3 a b c (argBest (fun i j => Float64.cmp (fl3 a b c i) (fl3 a b c j) == some Ordering.gt) 2)
noncomputable def min3 (a b c : UInt64) : UInt64 := fl3 a b c (argBest (fun i j => Float64.cmp (fl3 a b c i) (fl3 a b c j) == some Ordering.lt) 2)
theorem fl3_at {a b c : UInt64} {t u x : Tok} {i : Nat} {v : Value} (h : (#[Value.float a t, .float b u, .float c x] : Array Value)[i]? = some v) : ∃ y, v = .float (fl3 a b c i) y := by
  match i, h with
  | 0, h => cases h; exact ⟨_, rfl⟩
  | 1, h => cases h; exact ⟨_, rfl⟩
  | 2, h => cases h; exact ⟨_, rfl⟩
  | (n + 3), h => cases h
theorem cmp_gt3 {A : Around} {a b c : UInt64} {t u x : Tok} : CmpOf prog w A .Gt (fun i v => (#[Value.float a t, .float b u, .float c x] : Array Value)[i]? = some v) (fun i j => Float64.cmp (fl3 a b c i) (fl3 a b c j) == some Ordering.gt) := fun i j vi vj s Q E hi hj h => by
  obtain ⟨y, rfl⟩ := fl3_at hi
  obtain ⟨z, rfl⟩ := fl3_at hj
  exact richCompare_gives (op := .Gt) (typeIs_float s _ y) (typeIs_float s _ z) F.slot_float_gt F.entry_float_gt (F.args_float_gt_2 _ _) (AutoFloatG4.float___gt___float_float_0 _ y _ z) (fun x => nomatch x) h
theorem cmp_lt3 {A : Around} {a b c : UInt64} {t u x : Tok} : CmpOf prog w A .Lt (fun i v => (#[Value.float a t, .float b u, .float c x] : Array Value)[i]? = some v) (fun i j => Float64.cmp (fl3 a b c i) (fl3 a b c j) == some Ordering.lt) := fun i j vi vj s Q E hi hj h => by
  obtain ⟨y, rfl⟩ := fl3_at hi
  obtain ⟨z, rfl⟩ := fl3_at hj
  exact richCompare_gives (op := .Lt) (typeIs_float s _ y) (typeIs_float s _ z) F.slot_float_lt F.entry_float_lt (F.args_float_lt_2 _ _) (AutoFloatG5.float___lt___float_float_0 _ y _ z) (fun x => nomatch x) h

theorem vMax3 {a b c : UInt64} : VSpec prog w K k (.builtin "max") [.flt a, .flt b, .flt c] (.flt (max3 a b c)) := by
  intro env hke A hB m Z own s vs Q E R W S hv P
  obtain ⟨v1, v2, v3, rfl, h1, h2, h3⟩ := has3 hv
  obtain ⟨t, rfl⟩ := has_flt h1; obtain ⟨u, rfl⟩ := has_flt h2; obtain ⟨x, rfl⟩ := has_flt h3
  refine call_max_three ?_
  generalize hH : s.heap.push { cls := .type "tuple", data := .seq #[.float a t, .float b u, .float c x] } = H
  have ht : H.IsTuple s.heap.objs.size #[.float a t, .float b u, .float c x] := ⟨_, hH ▸ Heap.get?_push_size _ rfl, rfl, 0, rfl⟩
  have hlt : s.heap.objs.size < H.objs.size := by rw [← hH, Heap.size_push]; exact Nat.lt_succ_self _
  refine wpAny_pyIter_tuple (s := { s with heap := H }) ht ?_
  refine ⟨H.objs.size, _, _, _, _, _, _, rfl, Walks.tuple (A := A.in1) R.h _ s.heap.objs.size (Nat.ne_of_lt hlt) _, ⟨⟨_, Heap.get?_push_size _ rfl, rfl, rfl⟩, let ⟨o, ho, q⟩ := ht; ⟨o, Heap.get?_push_of_some _ ho, q⟩⟩, fun y hy => ?_, by simp, cmp_gt3, fun v h' tk hv' hk => ?_⟩
  · show y < (H.push _).objs.size
    rw [Heap.size_push]
    rcases List.mem_cons.mp hy with rfl | hy
    · exact Nat.lt_succ_self _
    · rcases List.mem_cons.mp hy with rfl | hy
      · exact Nat.lt_succ_of_lt hlt
      · cases hy
  · obtain ⟨y, rfl⟩ := fl3_at hv'
    refine P _ Z h' ⟨_, _⟩ (ZLe.refl _ _) (S.ext0 fun b' o e => hk b' o (fun q => ?_) (Heap.get?_push_of_some _ (hH ▸ Heap.get?_push_of_some _ e))) (mkF _ _)
    have : b' = H.objs.size := by simpa using q
    have l := Heap.lt_size e
    rw [this] at l
    exact absurd l (Nat.not_lt.mpr (Nat.le_of_lt hlt))
theorem vMin3 {a b c : UInt64} : VSpec prog w K k (.builtin "min") [.flt a, .flt b, .flt c] (.flt (min3 a b c)) := by
  intro env hke A hB m Z own s vs Q E R W S hv P
  obtain ⟨v1, v2, v3, rfl, h1, h2, h3⟩ := has3 hv
  obtain ⟨t, rfl⟩ := has_flt h1; obtain ⟨u, rfl⟩ := has_flt h2; obtain ⟨x, rfl⟩ := has_flt h3
  refine call_min_three ?_
  generalize hH : s.heap.push { cls := .type "tuple", data := .seq #[.float a t, .float b u, .float c x] } = H
  have ht : H.IsTuple s.heap.objs.size #[.float a t, .float b u, .float c x] := ⟨_, hH ▸ Heap.get?_push_size _ rfl, rfl, 0, rfl⟩
  have hlt : s.heap.objs.size < H.objs.size := by rw [← hH, Heap.size_push]; exact Nat.lt_succ_self _
  refine wpAny_pyIter_tuple (s := { s with heap := H }) ht ?_
  refine ⟨H.objs.size, _, _, _, _, _, _, rfl, Walks.tuple (A := A.in1) R.h _ s.heap.objs.size (Nat.ne_of_lt hlt) _, ⟨⟨_, Heap.get?_push_size _ rfl, rfl, rfl⟩, let ⟨o, ho, q⟩ := ht; ⟨o, Heap.get?_push_of_some _ ho, q⟩⟩, fun y hy => ?_, by simp, cmp_lt3, fun v h' tk hv' hk => ?_⟩
  · show y < (H.push _).objs.size
    rw [Heap.size_push]
    rcases List.mem_cons.mp hy with rfl | hy
    · exact Nat.lt_succ_self _
    · rcases List.mem_cons.mp hy with rfl | hy
      · exact Nat.lt_succ_of_lt hlt
      · cases hy
  · obtain ⟨y, rfl⟩ := fl3_at hv'
    refine P _ Z h' ⟨_, _⟩ (ZLe.refl _ _) (S.ext0 fun b' o e => hk b' o (fun q => ?_) (Heap.get?_push_of_some _ (hH ▸ Heap.get?_push_of_some _ e))) (mkF _ _)
    have : b' = H.objs.size := by simpa using q
    have l := Heap.lt_size e
    rw [this] at l
    exact absurd l (Nat.not_lt.mpr (Nat.le_of_lt hlt))
end
end Mine
end
section
open PySem PySem.W PyProof.Rows PySem.Flt
namespace Mine

section
variable {prog : Program} {w : World} {K : Frag} {k : Nat} {sc : Scope} {ρ : Loc}

theorem evMul {l r : Expr} {pos : Pos} {a b : Int} (hl : EvS prog w K k sc ρ l (.int a)) (hr : EvS prog w K k sc ρ r (.int b)) (h : sm a = true) : EvS prog w K k sc ρ (.BinOp l .Mult r pos) (.int (a * b)) := evBin hl hr (if_pos h)
theorem evFdiv {l r : Expr} {pos : Pos} {a b : Int} (hl : EvS prog w K k sc ρ l (.int a)) (hr : EvS prog w K k sc ρ r (.int b)) (h0 : b ≠ 0) (h : sm b = true) : EvS prog w K k sc ρ (.BinOp l .FloorDiv r pos) (.int (a.fdiv b)) := evBin hl hr (if_pos ⟨h0, h⟩)
theorem evFmod {l r : Expr} {pos : Pos} {a b : Int} (hl : EvS prog w K k sc ρ l (.int a)) (hr : EvS prog w K k sc ρ r (.int b)) (h0 : b ≠ 0) : EvS prog w K k sc ρ (.BinOp l .Mod r pos) (.int (a.fmod b)) := evBin hl hr (if_pos h0)
theorem evRsh {l r : Expr} {pos : Pos} {a b : Int} (hl : EvS prog w K k sc ρ l (.int a)) (hr : EvS prog w K k sc ρ r (.int b)) (h0 : 0 ≤ b) : EvS prog w K k sc ρ (.BinOp l .RShift r pos) (.int (a.fdiv (2 ^ b.toNat))) := evBin hl hr (if_pos h0)
theorem evLsh {l r : Expr} {pos : Pos} {a b : Int} (hl : EvS prog w K k sc ρ l (.int a)) (hr : EvS prog w K k sc ρ r (.int b)) (h0 : 0 ≤ b) (h1 : b ≤ 1000000) (h2 : sm a = true) : EvS prog w K k sc ρ (.BinOp l .LShift r pos) (.int (a * 2 ^ b.toNat)) := evBin hl hr (if_pos ⟨h0, h1, h2⟩)
theorem evDivF {l r : Expr} {pos : Pos} {a b : UInt64} (hl : EvS prog w K k sc ρ l (.flt a)) (hr : EvS prog w K k sc ρ r (.flt b)) (h : Float64.isZero b = false) : EvS prog w K k sc ρ (.BinOp l .Div r pos) (.flt (Float64.div a b)) := evBin hl hr (if_pos h)
theorem evModF {l r : Expr} {pos : Pos} {a b : UInt64} (hl : EvS prog w K k sc ρ l (.flt a)) (hr : EvS prog w K k sc ρ r (.flt b)) (h : Float64.isZero b = false) : EvS prog w K k sc ρ (.BinOp l .Mod r pos) (.flt (Float64.divmod a b).2) := evBin hl hr (if_pos h)
theorem evMulFI {l r : Expr} {pos : Pos} {a : UInt64} {b : Int} (hl : EvS prog w K k sc ρ l (.flt a)) (hr : EvS prog w K k sc ρ r (.int b)) (h : sm b = true) : EvS prog w K k sc ρ (.BinOp l .Mult r pos) (.flt (Float64.mul a (Float64.ofInt b))) := evBin hl hr (if_pos h)
noncomputable def divII (a b : Int) : UInt64 := Float64.ofFrac (decide (a < 0) != decide (b < 0)) a.natAbs b.natAbs
theorem evDivII {l r : Expr} {pos : Pos} {a b : Int} (hl : EvS prog w K k sc ρ l (.int a)) (hr : EvS prog w K k sc ρ r (.int b)) (h0 : b ≠ 0) (h : sm a = true) (hi : Float64.isInf (divII a b) = false) : EvS prog w K k sc ρ (.BinOp l .Div r pos) (.flt (divII a b)) := evBin hl hr (if_pos ⟨h0, h, hi⟩)
theorem evAddS {l r : Expr} {pos : Pos} {a b : Str} (hl : EvS prog w K k sc ρ l (.str a)) (hr : EvS prog w K k sc ρ r (.str b)) (h : a.length + b.length ≤ 100000) : EvS prog w K k sc ρ (.BinOp l .Add r pos) (.str (a ++ b)) := evBin hl hr (if_pos h)

theorem coIfT {test : Expr} {body orelse : List Stmt} {pos : Pos} {c : Bool} {o : Out} (ht : EvB prog w K k sc ρ test c) (hc : c = true) (h : Cos prog w K k sc ρ body o) : Co prog w K k sc ρ (.If test body orelse pos) o := by subst hc; exact coIf ht h
theorem coIfF {test : Expr} {body orelse : List Stmt} {pos : Pos} {c : Bool} {o : Out} (ht : EvB prog w K k sc ρ test c) (hc : c = false) (h : Cos prog w K k sc ρ orelse o) : Co prog w K k sc ρ (.If test body orelse pos) o := by subst hc; exact coIf ht h
theorem evIfT {t b o : Expr} {pos : Pos} {c : Bool} {d : D} (ht : EvB prog w K k sc ρ t c) (hc : c = true) (h : EvS prog w K k sc ρ b d) : EvS prog w K k sc ρ (.IfExp t b o pos) d := by subst hc; exact evIf ht h
theorem evIfF {t b o : Expr} {pos : Pos} {c : Bool} {d : D} (ht : EvB prog w K k sc ρ t c) (hc : c = false) (h : EvS prog w K k sc ρ o d) : EvS prog w K k sc ρ (.IfExp t b o pos) d := by subst hc; exact evIf ht h
/-- one more at the end: the value is the one wanted -/
theorem evTo {e : Expr} {d d' : D} (h : EvS prog w K k sc ρ e d) (q : d = d') : EvS prog w K k sc ρ e d' := q ▸ h
theorem evBTo {e : Expr} {d d' : Bool} (h : EvB prog w K k sc ρ e d) (q : d = d') : EvB prog w K k sc ρ e d' := q ▸ h
/-- less is known at the start -/
theorem coSub {t : Env → Sem Flow} {ρ' : Loc} {o : Out} (h : CoT prog w K k sc ρ' t o) (q : ∀ y r, ρ'.lookup y = some r → ρ.lookup y = some r) : CoT prog w K k sc ρ t o :=
  fun env O A hB m Z own hid s Q E R W S ro P => h env O A hB m Z own hid s Q E R W S (ro.sub q) P
theorem coConsV (x : Str) (d : D) {st : Stmt} {rest : List Stmt} {o : Out} (h : Co prog w K k sc ρ st (.go (setL ρ x (.val d)))) (h' : Cos prog w K k sc (setL ρ x (.val d)) rest o) : Cos prog w K k sc ρ (st :: rest) o := coCons h h'
end
end Mine
end
section
open PySem PySem.W PyProof.Rows PySem.Flt
namespace Mine

section
variable {prog : Program} {w : World} {K : Frag} {k : Nat} {sc : Scope} {ρ : Loc}

theorem lkS {x : Str} {v : Vr} : (setL ρ x v).lookup x = some v := by rw [lookup_setL, if_pos rfl]
theorem lkN {x y : Str} {v : Vr} {r : Option Vr} (h : (y == x) = false) (e : ρ.lookup y = r) : (setL ρ x v).lookup y = r := by
  rw [lookup_setL, if_neg (fun q => by rw [q, beqT] at h; cases h)]; exact e
theorem subL {L₀ : Loc} (h : ∀ p ∈ L₀, ρ.lookup p.1 = some p.2) : ∀ y r, L₀.lookup y = some r → ρ.lookup y = some r := fun y r e => h (y, r) (lookup_mem e)
theorem subC {L₀ : Loc} {x : Str} {v : Vr} (h : ρ.lookup x = some v) (hr : ∀ p ∈ L₀, ρ.lookup p.1 = some p.2) : ∀ p ∈ (x, v) :: L₀, ρ.lookup p.1 = some p.2 := fun p hp => by
  rcases List.mem_cons.mp hp with rfl | hp
  · exact h
  · exact hr p hp
theorem subN : ∀ p ∈ ([] : Loc), ρ.lookup p.1 = some p.2 := fun p hp => by cases hp

theorem swapped2 {env : Env} {a b : Str} {pa pb tp vp : Pos} {j j' : Nat} {v1 v2 : Expr} (O : EnvOk env sc) (ha : sc.names.lookup a = some .local) (hb : sc.names.lookup b = some .local) (hl : (pb.line == pa.line) = true) (hab : (a == b) = false)
    (hs1 : noStar v1 = true) (hs2 : noStar v2 = true) (hf : [v1, v2].all (foldedForSure 8) = false) (hc : [v1, v2].all (constantsAlone 8) = false) :
    swappedStores [.Tuple [.Name a pa, .Name b pb] j tp] (.Tuple [v1, v2] j' vp) env = pure (some [a, b]) := by
  have hl' : pb.line = pa.line := by simpa using hl
  have hd : ([a, b] : List Str).eraseDups = [a, b] := by
    have : b ≠ a := fun q => by rw [q, beqT] at hab; cases hab
    simp [List.eraseDups_cons, this]
  unfold swappedStores
  dsimp only
  rw [hf, hc, block_fn O, if_neg (by simp), if_neg (fun h => by
    simp only [List.any_cons, List.any_nil, Bool.or_false, Bool.or_eq_true] at h
    rcases h with h | h
    · split at h
      · cases hs1
      · cases h
    · split at h
      · cases hs2
      · cases h)]
  simp [hl', Expr.pos, hd, O.kl a ha, O.kl b hb]
theorem swappedC {env : Env} {a b : Str} {pa pb tp vp : Pos} {j j' : Nat} {v1 v2 : Expr} (O : EnvOk env sc) (hb : sc.names.lookup a = some .cell ∨ sc.names.lookup b = some .cell)
    (hs1 : noStar v1 = true) (hs2 : noStar v2 = true) :
    swappedStores [.Tuple [.Name a pa, .Name b pb] j tp] (.Tuple [v1, v2] j' vp) env = pure none := by
  unfold swappedStores
  dsimp only
  rw [block_fn O, if_neg (by simp), if_neg (fun h => by
    simp only [List.any_cons, List.any_nil, Bool.or_false, Bool.or_eq_true] at h
    rcases h with h | h
    · split at h
      · cases hs1
      · cases h
    · split at h
      · cases hs2
      · cases h)]
  rcases hb with h | h
  · simp only [List.filterMap_cons, (O.kc a h).1, List.filterMap_nil]
    by_cases q : (env.kindOf b == some .local && pb.line == pa.line) = true
    · simp [Expr.pos, q]
    · simp [Expr.pos, q]
  · simp only [List.filterMap_cons, (O.kc b h).1, List.filterMap_nil]
    by_cases q : env.kindOf a = some .local
    · simp [Expr.pos, q]
    · simp [Expr.pos, q]

theorem coSwap2 {a b : Str} {pa pb tp vp p : Pos} {j j' : Nat} {v1 v2 : Expr} {d1 d2 : D} (h : EvS prog w K k sc ρ (.Tuple [v1, v2] j' vp) (.tup [d1, d2])) (ha : sc.names.lookup a = some .local) (hb : sc.names.lookup b = some .local) (hl : (pb.line == pa.line) = true) (hab : (a == b) = false)
    (hs1 : noStar v1 = true) (hs2 : noStar v2 = true) (hf : [v1, v2].all (foldedForSure 8) = false) (hc : [v1, v2].all (constantsAlone 8) = false) :
    Co prog w K k sc ρ (.Assign [.Tuple [.Name a pa, .Name b pb] j tp] (.Tuple [v1, v2] j' vp) p) (.go (setLs ρ [b, a] [d2, d1])) :=
  fun env O A hB m Z own hid s Q E R W S ro P => by
  refine Assign_Tuple_swapped (h env O A hB m Z (own ++ hid) s _ E R W S ro.weak fun v Z₁ h₁ tk₁ z₁ S₁ hv => ?_) rfl (swapped2 O ha hb hl hab hs1 hs2 hf hc)
  obtain ⟨t, vs, rfl, ht, r, _⟩ := isTuple_Z S₁.zin hv
  have hn : vs.size = 2 := r.size
  show wpAny _ A (unpackItems (.ref t) 2 none) _ _ _
  rw [← hn]
  refine wpAny_unpackItems_tuple R.h ht fun h' hk => ?_
  have S₂ : St hB env m Z₁ (own ++ hid) h' := S₁.ext (fun b => b = h₁.objs.size) (fun b q => S₁.free_new (Nat.le_of_eq q.symm)) fun b o q e => hk b o q e
  obtain ⟨x, y, e, hx, hy⟩ := has2 r
  rw [e]
  have va : isVar sc a = true := by unfold isVar; rw [ha]
  have vb : isVar sc b = true := by unfold isVar; rw [hb]
  refine storesV (xs := [b, a]) (ts := [fun v => bindName env b v, fun v => bindName env a v]) (vs := [y, x]) (ds := [d2, d1]) O (s := { s with heap := h', toks := tk₁.1, drawn := tk₁.2 }) ⟨fun h => wpAny_bindName h, fun h => wpAny_bindName h, trivial⟩ (by simp [va, vb]) (hasL_cons hy (hasL_cons hx hasL_nil)) rfl S₂ (ro.mono z₁.1) fun m' h₂ tk₂ n₂ S₃ ro₃ => ?_
  exact P m' Z₁ own h₂ tk₂ z₁ S₃ ro₃

theorem coForI {x : Str} {px pos : Pos} {iter : Expr} {body rest : List Stmt} {ds : List D} {o : Out} (hi : ItS prog w K k sc ρ iter ds) (hx : isVar sc x = true) (hs : ∀ env v, foldedSetIterable iter env v = pure v)
    (Inv : List D → Loc → Prop) (h0 : Inv ds ρ) (step : ∀ d ds L, Inv (d :: ds) L → ∃ L₁, (Cos prog w K k sc (setL L x (.val d)) body (.go L₁) ∨ Cos prog w K k sc (setL L x (.val d)) body (.cont L₁)) ∧ Inv ds L₁)
    (fin : ∀ L, Inv [] L → Cos prog w K k sc L rest o) : Cos prog w K k sc ρ (.For (.Name x px) iter body [] pos :: rest) o := by
  have key : ∀ ds L, Inv ds L → ∃ L', ForR prog w K k sc x body ds L (.go L') ∧ Inv [] L' := by
    intro ds
    induction ds with
    | nil => intro L h; exact ⟨L, .stop, h⟩
    | cons d ds ih =>
      intro L h
      obtain ⟨L₁, hb, h₁⟩ := step d ds L h
      obtain ⟨L', hr, h'⟩ := ih L₁ h₁
      rcases hb with hb | hb
      · exact ⟨L', .step hb hr, h'⟩
      · exact ⟨L', .cont hb hr, h'⟩
  obtain ⟨L', hr, h'⟩ := key ds ρ h0
  exact coCons (coFor hi hx hr hs) (fin L' h')

theorem coWhileI {test : Expr} {pos : Pos} {body rest : List Stmt} {o : Out} {n : Nat} (Inv : Nat → Loc → Prop) (h0 : Inv n ρ)
    (step : ∀ n L, Inv n L → (EvB prog w K k sc L test false ∧ Cos prog w K k sc L rest o) ∨ (∃ n' L₁, n = n' + 1 ∧ EvB prog w K k sc L test true ∧ Cos prog w K k sc L body (.go L₁) ∧ Inv n' L₁)) :
    Cos prog w K k sc ρ (.While test body [] pos :: rest) o := by
  have key : ∀ n L, Inv n L → ∃ L', WhN prog w K k sc test body n L (.go L') ∧ Cos prog w K k sc L' rest o := by
    intro n
    induction n with
    | zero =>
      intro L h
      rcases step 0 L h with ⟨a, b⟩ | ⟨n', L₁, e, _⟩
      · exact ⟨L, .stop a, b⟩
      · cases e
    | succ n ih =>
      intro L h
      rcases step _ L h with ⟨a, b⟩ | ⟨n', L₁, e, a, b, c⟩
      · exact ⟨L, .stop a, b⟩
      · cases e
        obtain ⟨L', hr, h'⟩ := ih L₁ c
        exact ⟨L', .step a b hr, h'⟩
  obtain ⟨L', hr, h'⟩ := key n ρ h0
  exact coCons (coWhile hr) h'

theorem evAnd2 {x y : Expr} {pos : Pos} {a b : Bool} (hx : EvB prog w K k sc ρ x a) (hy : EvB prog w K k sc ρ y b) : EvB prog w K k sc ρ (.BoolOp .And [x, y] pos) (a && b) := by
  cases a with
  | false => exact evBoolB (evAndStop hx)
  | true =>
    cases b with
    | false => exact evBoolB (evAndOn hx (evAndStop hy))
    | true => exact evBoolB (evAndOn hx (evAndOn hy evAllNil))
theorem evOr2 {x y : Expr} {pos : Pos} {a b : Bool} (hx : EvB prog w K k sc ρ x a) (hy : EvB prog w K k sc ρ y b) : EvB prog w K k sc ρ (.BoolOp .Or [x, y] pos) (a || b) := by
  cases a with
  | true => exact evBoolB (evOrStop hx)
  | false =>
    cases b with
    | true => exact evBoolB (evOrOn hx (evOrStop hy))
    | false => exact evBoolB (evOrOn hx (evOrOn hy evAllNil))
theorem evAndF {x : Expr} {r : List Expr} {pos : Pos} (hx : EvB prog w K k sc ρ x false) : EvB prog w K k sc ρ (.BoolOp .And (x :: r) pos) false := evBoolB (evAndStop hx)

/-! code that goes on, to locals that are told by a relation -/
variable (prog w K k sc) in
noncomputable def GoE (ρ : Loc) (b : List Stmt) (J : Loc → Prop) : Prop := ∃ L₁, Cos prog w K k sc ρ b (.go L₁) ∧ J L₁
variable (prog w K k sc) in
noncomputable def CosE (ρ : Loc) (b : List Stmt) (J : Loc → Prop) : Prop := ∃ L₁, (Cos prog w K k sc ρ b (.go L₁) ∨ Cos prog w K k sc ρ b (.cont L₁)) ∧ J L₁
variable {J J' : Loc → Prop}
theorem eGo {b : List Stmt} (h : GoE prog w K k sc ρ b J) : CosE prog w K k sc ρ b J := let ⟨L, a, c⟩ := h; ⟨L, .inl a, c⟩
theorem gNil (h : J ρ) : GoE prog w K k sc ρ [] J := ⟨ρ, coNil, h⟩
theorem gCons {st : Stmt} {rest : List Stmt} {ρ₁ : Loc} (h : Co prog w K k sc ρ st (.go ρ₁)) (h' : GoE prog w K k sc ρ₁ rest J) : GoE prog w K k sc ρ (st :: rest) J := let ⟨L, a, c⟩ := h'; ⟨L, coCons h a, c⟩
theorem gSub {b : List Stmt} (ρ' : Loc) (h : GoE prog w K k sc ρ' b J) (q : ∀ p ∈ ρ', ρ.lookup p.1 = some p.2) : GoE prog w K k sc ρ b J := let ⟨L, a, c⟩ := h; ⟨L, coSub a (subL q), c⟩
theorem eSub {b : List Stmt} (ρ' : Loc) (h : CosE prog w K k sc ρ' b J) (q : ∀ p ∈ ρ', ρ.lookup p.1 = some p.2) : CosE prog w K k sc ρ b J := let ⟨L, a, c⟩ := h; ⟨L, a.imp (fun a => coSub a (subL q)) (fun a => coSub a (subL q)), c⟩
theorem gMono {b : List Stmt} (h : GoE prog w K k sc ρ b J') (q : ∀ L, J' L → J L) : GoE prog w K k sc ρ b J := let ⟨L, a, c⟩ := h; ⟨L, a, q L c⟩
theorem gIfT {test : Expr} {body orelse rest : List Stmt} {pos : Pos} {c : Bool} (ht : EvB prog w K k sc ρ test c) (hc : c = true) (h : GoE prog w K k sc ρ body J') (h' : ∀ L, J' L → GoE prog w K k sc L rest J) : GoE prog w K k sc ρ (.If test body orelse pos :: rest) J :=
  let ⟨L, a, q⟩ := h; gCons (coIfT ht hc a) (h' L q)
theorem gIfF {test : Expr} {body orelse rest : List Stmt} {pos : Pos} {c : Bool} (ht : EvB prog w K k sc ρ test c) (hc : c = false) (h : GoE prog w K k sc ρ orelse J') (h' : ∀ L, J' L → GoE prog w K k sc L rest J) : GoE prog w K k sc ρ (.If test body orelse pos :: rest) J :=
  let ⟨L, a, q⟩ := h; gCons (coIfF ht hc a) (h' L q)
theorem gFor {x : Str} {px pos : Pos} {iter : Expr} {body rest : List Stmt} {ds : List D} (hi : ItS prog w K k sc ρ iter ds) (hx : isVar sc x = true) (hs : ∀ env v, foldedSetIterable iter env v = pure v)
    (Inv : List D → Loc → Prop) (h0 : Inv ds ρ) (step : ∀ d ds L, Inv (d :: ds) L → CosE prog w K k sc (setL L x (.val d)) body (Inv ds))
    (fin : ∀ L, Inv [] L → GoE prog w K k sc L rest J) : GoE prog w K k sc ρ (.For (.Name x px) iter body [] pos :: rest) J := by
  have key : ∀ ds L, Inv ds L → ∃ L', ForR prog w K k sc x body ds L (.go L') ∧ Inv [] L' := by
    intro ds
    induction ds with
    | nil => intro L h; exact ⟨L, .stop, h⟩
    | cons d ds ih =>
      intro L h
      obtain ⟨L₁, hb, h₁⟩ := step d ds L h
      obtain ⟨L', hr, h'⟩ := ih L₁ h₁
      rcases hb with hb | hb
      · exact ⟨L', .step hb hr, h'⟩
      · exact ⟨L', .cont hb hr, h'⟩
  obtain ⟨L', hr, h'⟩ := key ds ρ h0
  exact gCons (coFor hi hx hr hs) (fin L' h')
theorem gWhile {test : Expr} {pos : Pos} {body rest : List Stmt} {n : Nat} (Inv : Nat → Loc → Prop) (h0 : Inv n ρ)
    (step : ∀ n L, Inv n L → (EvB prog w K k sc L test false ∧ GoE prog w K k sc L rest J) ∨ (∃ n', n = n' + 1 ∧ EvB prog w K k sc L test true ∧ CosE prog w K k sc L body (Inv n'))) :
    GoE prog w K k sc ρ (.While test body [] pos :: rest) J := by
  have key : ∀ n L, Inv n L → ∃ L', WhN prog w K k sc test body n L (.go L') ∧ GoE prog w K k sc L' rest J := by
    intro n
    induction n with
    | zero =>
      intro L h
      rcases step 0 L h with ⟨a, b⟩ | ⟨n', e, _⟩
      · exact ⟨L, .stop a, b⟩
      · cases e
    | succ n ih =>
      intro L h
      rcases step _ L h with ⟨a, b⟩ | ⟨n', e, a, L₁, b, c⟩
      · exact ⟨L, .stop a, b⟩
      · cases e
        obtain ⟨L', hr, h'⟩ := ih L₁ c
        rcases b with b | b
        · exact ⟨L', .step a b hr, h'⟩
        · exact ⟨L', .cont a b hr, h'⟩
  obtain ⟨L', hr, h'⟩ := key n ρ h0
  exact gCons (coWhile hr) h'
theorem cFor {x : Str} {px pos : Pos} {iter : Expr} {body rest : List Stmt} {ds : List D} {o : Out} (hi : ItS prog w K k sc ρ iter ds) (hx : isVar sc x = true) (hs : ∀ env v, foldedSetIterable iter env v = pure v)
    (Inv : List D → Loc → Prop) (h0 : Inv ds ρ) (step : ∀ d ds L, Inv (d :: ds) L → CosE prog w K k sc (setL L x (.val d)) body (Inv ds))
    (fin : ∀ L, Inv [] L → Cos prog w K k sc L rest o) : Cos prog w K k sc ρ (.For (.Name x px) iter body [] pos :: rest) o := coForI hi hx hs Inv h0 step fin
theorem cWhile {test : Expr} {pos : Pos} {body rest : List Stmt} {n : Nat} {o : Out} (Inv : Nat → Loc → Prop) (h0 : Inv n ρ)
    (step : ∀ n L, Inv n L → (EvB prog w K k sc L test false ∧ Cos prog w K k sc L rest o) ∨ (∃ n', n = n' + 1 ∧ EvB prog w K k sc L test true ∧ CosE prog w K k sc L body (Inv n'))) :
    Cos prog w K k sc ρ (.While test body [] pos :: rest) o := by
  have key : ∀ n L, Inv n L → ∃ L', WhN prog w K k sc test body n L (.go L') ∧ Cos prog w K k sc L' rest o := by
    intro n
    induction n with
    | zero =>
      intro L h
      rcases step 0 L h with ⟨a, b⟩ | ⟨n', e, _⟩
      · exact ⟨L, .stop a, b⟩
      · cases e
    | succ n ih =>
      intro L h
      rcases step _ L h with ⟨a, b⟩ | ⟨n', e, a, L₁, b, c⟩
      · exact ⟨L, .stop a, b⟩
      · cases e
        obtain ⟨L', hr, h'⟩ := ih L₁ c
        rcases b with b | b
        · exact ⟨L', .step a b hr, h'⟩
        · exact ⟨L', .cont a b hr, h'⟩
  obtain ⟨L', hr, h'⟩ := key n ρ h0
  exact coCons (coWhile hr) h'
end
end Mine
end
section
open PySem PySem.W PyProof.Rows PySem.Flt
namespace Mine

/-! equality of lists of ints, and of lists of three ints each -/
noncomputable abbrev T3 := Int × Int × Int
noncomputable def f3 (t : T3) : D := .tup [.int t.1, .int t.2.1, .int t.2.2]
noncomputable def p3 (t : T3) : PyData := .tuple [.int t.1, .int t.2.1, .int t.2.2]

theorem py_ints : ∀ xs : List Int, pyL (xs.map .int) = some (xs.map .int)
  | [] => by unfold pyL; rfl
  | x :: xs => by
    rw [List.map_cons, List.map_cons]
    unfold pyL
    rw [py_ints xs]
    rfl
theorem py_f3 (t : T3) : (f3 t).py = some (p3 t) := rfl
theorem py_f3s : ∀ ts : List T3, pyL (ts.map f3) = some (ts.map p3)
  | [] => by unfold pyL; rfl
  | t :: ts => by
    rw [List.map_cons, List.map_cons]
    unfold pyL
    rw [py_f3s ts, py_f3]
theorem lay_ints : ∀ xs : List Int, PyData.canLayAll0 (xs.map .int) = true ∧ PyData.depthAll (xs.map .int) ≤ 1
  | [] => ⟨rfl, Nat.zero_le _⟩
  | x :: xs => by
    obtain ⟨h1, h2⟩ := lay_ints xs
    rw [List.map_cons]
    unfold PyData.canLayAll0 PyData.depthAll
    rw [h1]
    exact ⟨by simp [PyData.canLay0], by simp only [PyData.depth]; omega⟩
theorem lay_p3 (t : T3) : (p3 t).canLay0 = true ∧ (p3 t).depth ≤ 1 := by
  unfold p3
  simp [PyData.canLay0, PyData.canLayAll0, PyData.depth, PyData.depthAll]
theorem lay_p3s : ∀ ts : List T3, PyData.canLayAll0 (ts.map p3) = true ∧ PyData.depthAll (ts.map p3) ≤ 1
  | [] => ⟨rfl, Nat.zero_le _⟩
  | t :: ts => by
    obtain ⟨h1, h2⟩ := lay_p3s ts
    obtain ⟨h3, h4⟩ := lay_p3 t
    rw [List.map_cons]
    unfold PyData.canLayAll0 PyData.depthAll
    rw [h1, h3]
    exact ⟨rfl, by omega⟩
theorem shaped_of {l : List PyData} (h : PyData.canLayAll0 l = true ∧ PyData.depthAll l ≤ 1) : SeqAt.shaped (.list l) = true ∧ SeqAt.shaped (.tuple l) = true := by
  unfold SeqAt.shaped
  constructor <;> simp [PyData.canLay0, PyData.depth, h.1] <;> omega
theorem eqv_ints : ∀ xs ys : List Int, PyData.eqvAll (xs.map .int) (ys.map .int) = (xs == ys)
  | [], [] => rfl
  | [], _ :: _ => rfl
  | _ :: _, [] => rfl
  | x :: xs, y :: ys => by
    rw [List.map_cons, List.map_cons]
    unfold PyData.eqvAll
    rw [eqv_ints xs ys]
    show ((x == y) && (xs == ys)) = (x :: xs == y :: ys)
    rfl
theorem eqv_p3 (s t : T3) : PyData.eqv (p3 s) (p3 t) = (s == t) := by
  obtain ⟨a, b, c⟩ := s
  obtain ⟨x, y, z⟩ := t
  show ((a == x) && ((b == y) && ((c == z) && true))) = ((a == x) && ((b == y) && (c == z)))
  simp
theorem eqv_p3s : ∀ xs ys : List T3, PyData.eqvAll (xs.map p3) (ys.map p3) = (xs == ys)
  | [], [] => rfl
  | [], _ :: _ => rfl
  | _ :: _, [] => rfl
  | x :: xs, y :: ys => by
    rw [List.map_cons, List.map_cons]
    unfold PyData.eqvAll
    rw [eqv_p3s xs ys, eqv_p3]
    rfl
theorem eq_lst {a b : List D} {p q : List PyData} (ha : pyL a = some p) (hb : pyL b = some q) (sa : SeqAt.shaped (.list p) = true) (sb : SeqAt.shaped (.list q) = true) : eqD (.lst a) (.lst b) = some (PyData.eqvAll p q) := by
  have e1 : (D.lst a).py = some (.list p) := by unfold D.py; rw [ha]; rfl
  have e2 : (D.lst b).py = some (.list q) := by unfold D.py; rw [hb]; rfl
  unfold eqD
  dsimp only
  rw [e1, e2]
  dsimp only
  rw [sa, sb]
  rfl
theorem eq_ints (xs ys : List Int) : eqD (.lst (xs.map .int)) (.lst (ys.map .int)) = some (xs == ys) := by
  rw [eq_lst (py_ints _) (py_ints _) (shaped_of (lay_ints _)).1 (shaped_of (lay_ints _)).1, eqv_ints]
theorem eq_f3s (xs ys : List T3) : eqD (.lst (xs.map f3)) (.lst (ys.map f3)) = some (xs == ys) := by
  rw [eq_lst (py_f3s _) (py_f3s _) (shaped_of (lay_p3s _)).1 (shaped_of (lay_p3s _)).1, eqv_p3s]
theorem cEqInts {xs ys : List Int} : cmpD .Eq (.lst (xs.map .int)) (.lst (ys.map .int)) = some (xs == ys) := eq_ints xs ys
theorem cEqNilI {xs : List Int} : cmpD .Eq (.lst (xs.map .int)) (.lst []) = some (xs == []) := eq_ints xs []
theorem cEqNil3 {xs : List T3} : cmpD .Eq (.lst (xs.map f3)) (.lst []) = some (xs == []) := eq_f3s xs []
theorem cNe3 {a b c x y z : Int} : cmpD .NotEq (.tup [.int a, .int b, .int c]) (.tup [.int x, .int y, .int z]) = some (!((a, b, c) == (x, y, z))) := by
  show some (!PyData.eqv (p3 (a, b, c)) (p3 (x, y, z))) = _
  rw [eqv_p3]
theorem cInInts {x : Int} {xs : List Int} : cmpD .In (.int x) (.lst (xs.map .int)) = some (xs.any fun y => y == x) := by
  unfold cmpD
  dsimp only
  unfold inD
  dsimp only
  have e1 : (D.int x).py = some (.int x) := rfl
  rw [e1, py_ints]
  dsimp only
  rw [(shaped_of (lay_ints _)).1]
  show some ((xs.map PyData.int).any fun y => PyData.eqv y (.int x)) = _
  rw [List.any_map]
  rfl
theorem cIn3 {t : T3} {xs : List T3} : cmpD .In (f3 t) (.lst (xs.map f3)) = some (xs.any fun y => y == t) := by
  unfold cmpD
  dsimp only
  unfold inD
  dsimp only
  rw [py_f3, py_f3s]
  dsimp only
  rw [(shaped_of (lay_p3s _)).1]
  have : SeqAt.shaped (p3 t) = true := by
    have := lay_p3 t
    unfold SeqAt.shaped
    simp [this.1]; omega
  rw [this]
  show some ((xs.map p3).any fun y => PyData.eqv y (p3 t)) = _
  rw [List.any_map]
  congr 1
  refine List.any_congr rfl fun y => ?_ 
  exact eqv_p3 y t

section
variable {prog : Program} {w : World} {K : Frag} {k : Nat} {sc : Scope} {ρ : Loc}
theorem evSub {e : Expr} {d : D} (ρ' : Loc) (h : EvS prog w K k sc ρ' e d) (q : ∀ p ∈ ρ', ρ.lookup p.1 = some p.2) : EvS prog w K k sc ρ e d := fun env O A hB m Z own s Q E R W S ro P => h env O A hB m Z own s Q E R W S (ro.sub (subL q)) P
theorem evSubB {e : Expr} {b : Bool} (ρ' : Loc) (h : EvB prog w K k sc ρ' e b) (q : ∀ p ∈ ρ', ρ.lookup p.1 = some p.2) : EvB prog w K k sc ρ e b := fun env O A hB m Z own s Q E R W S ro P => h env O A hB m Z own s Q E R W S (ro.sub (subL q)) P
end

/-! texts as lists of code points -/
noncomputable def sT (l : List Nat) : Str := ⟨l.toArray⟩
theorem sT_length (l : List Nat) : (sT l).length = l.length := by
  show l.toArray.size = _
  simp
theorem sT_app (l r : List Nat) : sT l ++ sT r = sT (l ++ r) := by
  show (⟨l.toArray ++ r.toArray⟩ : Str) = ⟨(l ++ r).toArray⟩
  simp
theorem augS {l r : List Nat} {x : Str} (hx : x = sT r) (h : l.length + r.length ≤ 100000) : augD .Add (.str (sT l)) (.str x) = some (.str (sT (l ++ r))) := by
  subst hx
  show (if (sT l).length + (sT r).length ≤ 100000 then some (D.str (sT l ++ sT r)) else none) = _
  rw [sT_length, sT_length, if_pos h, sT_app]
end Mine
end
section
open PySem PySem.W PyProof.Rows PySem.Flt
namespace Mine

noncomputable def TypD (a : D) (T : String) : Prop := ∀ (Z : Zn) (v : Value) (s : Shared), (∀ b o, Z b = some o → s.heap.get? b = some o) → Has Z a v → s.TypeIs v T ∧ ∀ x, v = .ref x → ∃ ob, s.heap.get? x = some ob ∧ ob.dict = none
theorem typI {i : Int} : TypD (.int i) "int" := fun Z v s hz h => by
  obtain ⟨t, rfl⟩ := has_int h
  exact ⟨typeIs_int s _ t, fun x e => by cases e⟩
theorem typS {x : Str} : TypD (.str x) "str" := fun Z v s hz h => by
  obtain ⟨t, rfl⟩ := has_str h
  exact ⟨typeIs_str s _ t, fun x e => by cases e⟩
theorem typL {l : List D} : TypD (.lst l) "list" := fun Z v s hz h => by
  unfold Has at h
  obtain ⟨a, o, vs, n, rfl, z, cc, dn, dt, r⟩ := h
  have hl : s.heap.IsList a vs := ⟨o, hz _ _ z, cc, n, dt⟩
  exact ⟨hl.typeIs, fun x e => by cases e; exact ⟨o, hz _ _ z, dn⟩⟩

section
variable {prog : Program} {w : World} {K : Frag} {k : Nat} {sc : Scope} {ρ : Loc}

theorem meth_all {trees : List (Bool × Sem Value)} (h : trees.any (·.1) = false) : trees.all (fun x => !x.1) = true := by
  induction trees with
  | nil => rfl
  | cons x r ih =>
    rw [List.any_cons, Bool.or_eq_false_iff] at h
    rw [List.all_cons, h.1, ih h.2]; rfl

theorem evMeth {o : Expr} {name : Str} {apos pos : Pos} {es : List Expr} {ds : List D} {a d : D} {T id : String} (ho : EvS prog w K k sc ρ o a) (hT : TypD a T) (pa : PlainAttrs T) (sl : Slot T name id) (ty : typeOf (.builtin id) = pure (.type "method_descriptor"))
    (hb : ∀ env, attributeBase o name env (eval o env) = eval o env) (hline : (apos.endLine == pos.line) = true) (L : EvL prog w K k sc ρ es ds) (hlen : decide (es.length + ([] : List Keyword).length + (if ([] : List Keyword).isEmpty then 0 else 1) < 30) = true) (h : VSpec prog w K k (.builtin id) (a :: ds) d) :
    EvS prog w K k sc ρ (.Call (.Attribute o name apos) es [] pos) d := by
  intro env O A hB m Z own s Q E R W S ro P
  have hp := L.plain pos env
  have hfew : ((backTo pos (starEach es env)).all (fun x => !x.1) && (backToKw pos (keywordEach [] env)).all (fun x => x.1.isSome) && decide (es.length + ([] : List Keyword).length + (if ([] : List Keyword).isEmpty then 0 else 1) < 30)) = true := by
    rw [meth_all hp, hlen]; rfl
  refine wpAny_Call_method (hb env) hfew hline pa sl ty ?_
  refine ho env O A hB m Z own s _ E R W S ro fun v Z₁ h₁ tk₁ z₁ S₁ hv => ?_
  obtain ⟨t1, t2⟩ := hT Z₁ v { s with heap := h₁, toks := tk₁.1, drawn := tk₁.2 } S₁.zin hv
  have fin : ∀ vs Z₂ h₂ (tk₂ : Tk), ZLe hB.objs.size Z₁ Z₂ → St hB env m Z₂ own h₂ → HasL Z₂ ds vs → K.In h₂ ∧ wpAny (model prog w) A (call (.builtin id) ([v] ++ vs)) Q E { s with heap := h₂, toks := tk₂.1, drawn := tk₂.2 } := fun vs Z₂ h₂ tk₂ z₂ S₂ hvs =>
    ⟨W.k.keeps S₂.keep, h env O.kind A hB m Z₂ own { s with heap := h₂, toks := tk₂.1, drawn := tk₂.2 } (v :: vs) Q E R W S₂ (hasL_cons (hv.mono z₂.1) hvs) fun u Z₃ h₃ tk₃ z₃ S₃ hu => P u Z₃ h₃ tk₃ ((z₁.tr z₂).tr z₃) S₃ hu⟩
  refine ⟨t1, t2, callWith_of (P := K.In) (by rw [hp]; rfl) (keep_builtin id) ?_⟩
  cases L with
  | nil => exact PySem.evalArgs_none (fin [] Z₁ h₁ tk₁ (ZLe.refl _ _) S₁ hasL_nil)
  | cons hn he L' =>
    have q := (EvL.cons hn he L').spliced pos env O A hB m Z₁ own { s with heap := h₁, toks := tk₁.1, drawn := tk₁.2 }
    dsimp only at q
    rw [starEach_cons hn] at q ⊢
    exact Calls.evalArgs_plain (q _ E R W S₁ (ro.mono z₁.1) fun vs Z₂ h₂ tk₂ z₂ S₂ hvs => fin vs Z₂ h₂ tk₂ z₂ S₂ hvs)

theorem vBits {a : Int} : VSpec prog w K k (.builtin "int.bit_length") [.int a] (.int (Builtin.Int.intBits a)) := by
  intro env hke A hB m Z own s vs Q E R W S hv P
  obtain ⟨v, rfl, h1⟩ := has1 hv
  obtain ⟨t, rfl⟩ := has_int h1
  exact call_int_bit_length (P _ Z s.heap ⟨_, _⟩ (ZLe.refl _ _) S (mkI _ _))
theorem vCountI {ns : List Int} {x : Int} : VSpec prog w K k (.builtin "list.count") [.lst (ns.map .int), .int x] (.int (ns.count x)) := by
  intro env hke A hB m Z own s vs Q E R W S hv P
  obtain ⟨v, u, rfl, h1, h2⟩ := has2 hv
  obtain ⟨t, rfl⟩ := has_int h2
  obtain ⟨a, us, rfl, hl, r, _⟩ := isList_Z S.zin h1
  exact count_list_ints (vs := us.toList) (by simpa using hl) (ints_are r) (P _ Z s.heap ⟨_, _⟩ (ZLe.refl _ _) S (mkI _ _))

theorem evBits {o : Expr} {apos pos : Pos} {a : Int} (ho : EvS prog w K k sc ρ o (.int a)) (hb : ∀ env, attributeBase o (Str.ofString "bit_length") env (eval o env) = eval o env) (hline : (apos.endLine == pos.line) = true) :
    EvS prog w K k sc ρ (.Call (.Attribute o (Str.ofString "bit_length") apos) [] [] pos) (.int (Builtin.Int.intBits a)) :=
  evMeth ho typI F.plainAttrs_int F.slot_int_bit_length F.type_int_bit_length hb hline .nil rfl vBits
theorem evCountI {o e : Expr} {apos pos : Pos} {ns : List Int} {x : Int} (ho : EvS prog w K k sc ρ o (.lst (ns.map .int))) (he : EvS prog w K k sc ρ e (.int x)) (hn : noStar e = true) (hb : ∀ env, attributeBase o (Str.ofString "count") env (eval o env) = eval o env) (hline : (apos.endLine == pos.line) = true) :
    EvS prog w K k sc ρ (.Call (.Attribute o (Str.ofString "count") apos) [e] [] pos) (.int (ns.count x)) :=
  evMeth ho typL F.plainAttrs_list F.slot_list_count F.type_list_count hb hline (.cons hn he .nil) rfl vCountI
end
end Mine
end
section
open PySem PySem.W PyProof.Rows PySem.Flt
namespace Mine

section
variable {hB : Heap} {env : Env} {m : Str → Option Value} {Z : Zn} {own : List (Addr × Obj)} {h h' : Heap}

/-- the tables may change, and one fresh object be frozen -/
theorem St.reTab (S : St hB env m Z own h) {a : Addr} {o : Obj} (hf : Free hB env Z own a) (ha : h'.get? a = some o) (hk : ∀ b ob, isTab b = false → h.get? b = some ob → h'.get? b = some ob) (T : TabsOk (Zins Z a o) h') : St hB env m (Zins Z a o) own h' where
  fr := by
    obtain ⟨ml, F, e⟩ := S.fr
    refine ⟨ml, ⟨F.ns.at' fun ob q => hk _ ob (notTab_of_hi S.Lhi) q, fun b ob q => hk b ob ?_ (F.keep b ob q), F.above⟩, e⟩
    cases w : isTab b with
    | false => rfl
    | true => rw [S.tB b w] at q; cases q
  cel := fun x c e => isCell_at (S.cel x c e) fun ob q => hk c ob (notTab_of_hi (S.chi x c e)) q
  zin := fun b o' e => by
    unfold Zins at e
    by_cases q : b = a
    · subst q; rw [if_pos rfl] at e; cases e; exact ha
    · rw [if_neg q] at e; exact hk _ _ (notTab_of_hi (S.zhi b o' e)) (S.zin b o' e)
  zhi := fun b o' e => by
    unfold Zins at e
    by_cases q : b = a
    · subst q; exact hf.hi
    · rw [if_neg q] at e; exact S.zhi b o' e
  zL := by unfold Zins; rw [if_neg (Ne.symm hf.L)]; exact S.zL
  zc := fun x c e => by unfold Zins; rw [if_neg (hf.c x c e)]; exact S.zc x c e
  oin := fun p hp => hk _ _ (notTab_of_hi (S.ohi p hp)) (S.oin p hp)
  oZ := fun p hp => by unfold Zins; rw [if_neg (hf.o p hp)]; exact S.oZ p hp
  oB := S.oB
  oL := S.oL
  oc := S.oc
  ohi := S.ohi
  ond := S.ond
  Lhi := S.Lhi
  chi := S.chi
  cL := S.cL
  tB := S.tB
  tab := T
end

/-- the two nested defs -/
structure NestAt (c P : Addr) (ln cl : Nat) (qual : Str) : Prop where
  h : (c = 49 ∧ P = 45 ∧ ln = 76 ∧ cl = 4 ∧ qual = Str.ofString "_int2digits.<locals>.inner") ∨ (c = 56 ∧ P = 52 ∧ ln = 91 ∧ cl = 4 ∧ qual = Str.ofString "_digits2int.<locals>.inner")

theorem NestAt.tab {c P : Addr} {ln cl : Nat} {qual : Str} (N : NestAt c P ln cl qual) {Z : Zn} {h : Heap} (T : TabsOk Z h) : TabAt Z h P ln cl qual := by
  rcases N.h with ⟨rfl, rfl, rfl, rfl, rfl⟩ | ⟨rfl, rfl, rfl, rfl, rfl⟩
  · exact T.a
  · exact T.b
theorem NestAt.hd {c P : Addr} {ln cl : Nat} {qual : Str} (N : NestAt c P ln cl qual) {K : Frag} {h : Heap} (W : Wd K h) : CodeHd h c P := by
  rcases N.h with ⟨rfl, rfl, rfl, rfl, rfl⟩ | ⟨rfl, rfl, rfl, rfl, rfl⟩
  · exact W.c1
  · exact W.c2
theorem NestAt.isTab {c P : Addr} {ln cl : Nat} {qual : Str} (N : NestAt c P ln cl qual) : isTab P = true := by
  rcases N.h with ⟨rfl, rfl, rfl, rfl, rfl⟩ | ⟨rfl, rfl, rfl, rfl, rfl⟩ <;> rfl
theorem NestAt.set {c P : Addr} {ln cl : Nat} {qual : Str} (N : NestAt c P ln cl qual) {Z Z' : Zn} {h h' : Heap} (T : TabsOk Z h) (hz : ∀ a o, Z a = some o → Z' a = some o) (hk : ∀ b o, b ≠ P → h.get? b = some o → h'.get? b = some o) (n : TabAt Z' h' P ln cl qual) : TabsOk Z' h' := by
  rcases N.h with ⟨rfl, rfl, rfl, rfl, rfl⟩ | ⟨rfl, rfl, rfl, rfl, rfl⟩
  · exact ⟨n, T.b.mono hz fun o e => hk _ o (by decide) e⟩
  · exact ⟨T.a.mono hz fun o e => hk _ o (by decide) e, n⟩

section
variable {prog : Program} {w : World} {K : Frag} {k : Nat} {sc scope : Scope} {ρ : Loc}

/-- what is known of a nested def's function -/
structure IsNest (fd : FuncData) (name qual : Str) (params : Arguments) (body : List Stmt) (scope : Scope) : Prop where
  e : ∃ cl doc pm cv ct, fd = fnX name qual params body scope cl .none .none doc pm none cv ct
  c : ∀ x c, fd.closure.lookup x = some c → scope.names.lookup x = some .free

noncomputable def cellsMore (cl : List (Str × Addr)) : List (Str × Const) := cl.map fun p => (p.1, .int p.2)
theorem cellsMore_lookup {x : Str} {n : Nat} : ∀ {cl : List (Str × Addr)}, (cellsMore cl).lookup x = some (.int n) ↔ cl.lookup x = some n
  | [] => ⟨fun h => (by cases h), fun h => (by cases h)⟩
  | (y, c) :: r => by
    unfold cellsMore
    rw [List.map_cons, List.lookup_cons, List.lookup_cons]
    cases q : (x == y) with
    | true =>
      dsimp only
      constructor
      · intro h; have := Option.some.inj h; injection this with h'; rw [Int.ofNat.inj h']
      · intro h; cases h; rfl
    | false => exact cellsMore_lookup
theorem cellsMore_str {x y : Str} : ∀ {cl : List (Str × Addr)}, (cellsMore cl).lookup x ≠ some (.str y)
  | [] => fun h => (by cases h)
  | (z, c) :: r => by
    unfold cellsMore
    rw [List.map_cons, List.lookup_cons]
    cases q : (x == z) with
    | true => exact fun h => by cases h
    | false => exact cellsMore_str

theorem coDef {c P : Addr} {ln cl : Nat} {name qual q0 : Str} {params : Arguments} {body rest : List Stmt} {pos : Pos} {o : Out} (N : NestAt c P ln cl qual) (hcode : sc.more.lookup (Str.ofString "#code") = some (.int c)) (hqu : sc.more.lookup (Str.ofString "#qual") = some (.str q0)) (hq : q0 ++ name = qual)
    (hpl : pos.line = ln) (hpc : pos.col = cl) (hd0 : params.defaults = []) (hk0 : params.kw_defaults = []) (ha : ∀ env, annTrees params none env = []) (hs : okComp scope = true) (hcap : capOk sc scope = true) (hnc : scope.names.lookup (Str.ofString "#code") = none)
    (hx : isVar sc name = true) (h : ∀ f fd, IsNest fd name qual params body scope → (∀ x, scope.names.lookup x = some .free → (fd.closure.lookup x).isSome = true) → Cos prog w K k { sc with more := cellsMore fd.closure } (setL ρ name (.val (.fn f fd))) rest o) :
    Cos prog w K k sc ρ (.FunctionDef name params body [] none [] scope none name pos :: rest) o := by
  intro env O A hB m Z own hid s Q E R W S ro P'
  have hcl := closure_ok (cap_cells O hcap)
  have cl := fun x c => cl_lookup O hs hcap (x := x) (c := c)
  obtain ⟨p, loose, mean, mg, mb, T⟩ := W.t
  have hgs := T.g.keeps S.keep
  obtain ⟨bm, ob, b1, b2, b3, b4, b5, b6⟩ := T.bmain
  have hPn : hB.get? P = none := S.tB P N.isTab
  have hgP : mainGlobals ≠ P := fun q => by
    obtain ⟨o, es, ep, e, hd, _⟩ := T.g
    rw [q, hPn] at e; cases e
  have hbP : bm ≠ P := fun q => by rw [q, hPn] at b3; cases b3
  have hbG : bm ≠ mainGlobals := fun q => by
    obtain ⟨o, es, ep, e, hd, _⟩ := T.g
    rw [q, e] at b3; cases b3; rw [hd] at b6; cases b6
  have hqn : qualnameIn env name name = qual := by
    have : env.kindOf name ≠ some .globalExplicit := by
      rcases isVar_or hx with q | q
      · rw [O.kl _ q]; intro w; cases w
      · rw [(O.kc _ q).1]; intro w; cases w
    unfold qualnameIn
    rw [if_neg (by simpa using this), O.qu _ hqu, hq]
  have C : CodeHd s.heap c P := (N.hd W).keeps S.keep
  have fin : ∀ (f : Addr) (fd : FuncData) (Z' : Zn) (h' : Heap) (tk : Nat), ZLe hB.objs.size Z Z' → St hB env m Z' (own ++ hid) h' → Has Z' (.fn f fd) (.ref f) → IsNest fd name qual params body scope → fd.closure = clGo env.cells scope.names [] →
      wpAny (model prog w) A (storeName env name (.ref f)) (fun _ s'' => wpAny (model prog w) A (execs rest env) Q E s'') E { s with heap := h', toks := tk } := fun f fd Z' h' tk z S' hv hI hcl' => by
    refine storeV (s := { s with heap := h', toks := tk }) O hx S' (ro.mono z.1) hv fun h₂ tk₂ _ S₂ ro₂ => ?_
    have O' : EnvOk env { sc with more := cellsMore fd.closure } := { O with
      mo := fun x n e _ => ((cl x n).mp (by rw [← hcl']; exact cellsMore_lookup.mp e)).2
      co := fun n e => by
        have := ((cl _ n).mp (by rw [← hcl']; exact cellsMore_lookup.mp e)).1
        rw [hnc] at this; cases this
      qu := fun x e => absurd e cellsMore_str }
    exact h f fd hI (fun x hxf => by
      obtain ⟨d, hd⟩ := Option.isSome_iff_exists.mp (cap_cells O hcap x (lookup_mem hxf))
      rw [hcl', (cl x d).mpr ⟨hxf, hd⟩]; rfl) env O' A hB _ Z' own hid { s with heap := h₂, toks := tk₂.1, drawn := tk₂.2 } Q E R W S₂ ro₂ (P'.then1 (h₁ := h₂) (tk₁ := tk₂) z)
  refine wpAny_execs_cons (nestDef_K hd0 hk0 (ha env) ?_)
  rw [hqn]
  obtain ⟨ps, hps, hh⟩ := N.tab S.tab
  rcases hh with rfl | ⟨c', oc, vs, t, rfl, hz, hdt, hv1⟩
  · refine makeFunction_K (mg := mg) hcl O.glo hgs (O.co _ hcode) C hps trivial rfl hgP ⟨bm, ob, b1, b2, hbG, hbP, S.keep _ _ b3, b4, b5, b6⟩ fun c' ctv doc h' tk hx' hge hlt hrec htb => ?_
    obtain ⟨c₂, oc, vs, t, e2, hoc, hdt, hv1⟩ := hrec
    cases e2
    have hfree : Free hB env Z (own ++ hid) c' := S.free_new hge
    have hz' : ∀ a o, Z a = some o → Zins Z c' oc a = some o := fun a o e => by unfold Zins; rw [if_neg (fun q => by rw [q, hfree.z] at e; cases e)]; exact e
    have S₁ : St hB env m (Zins Z c' oc) (own ++ hid) h' := S.reTab hfree hoc (fun b ob' hb e => hx' b ob' (fun q => by rw [q, N.isTab] at hb; cases hb) e)
      (N.set S.tab hz' (fun b o hb e => hx' b o hb e) ⟨_, htb, .inr ⟨c', oc, vs, t, by rw [hpl, hpc]; rfl, Zins_self, hdt, hv1⟩⟩)
    have z₁ : ZLe hB.objs.size Z (Zins Z c' oc) := ZLe.ins hfree.z (Nat.le_trans S.leB hge)
    have zz := Zins_le S₁ (fnMade name qual params body scope (clGo env.cells scope.names []) doc ((mg (Str.ofString "__name__")).getD .none) c' ctv)
    refine fin h'.objs.size (fnX name qual params body scope (clGo env.cells scope.names []) .none .none doc ((mg (Str.ofString "__name__")).getD .none) none (.ref c') ctv) _ _ tk (z₁.tr (zz.of_le S₁.leB)) (S₁.pushZ _ rfl) ?_ ⟨⟨_, _, _, _, _, rfl⟩, fun x c e => ((cl x c).mp e).1⟩ rfl
    unfold Has
    exact ⟨rfl, _, Zins_self, rfl, c', oc, vs, t, rfl, zz.1 _ _ Zins_self, hdt, hv1⟩
  · refine makeFunction_hit (mg := mg) (cv := .ref c') hcl O.glo hgs (O.co _ hcode) C hps trivial ?_ ⟨bm, ob, b1, b2, hbG, hbP, S.keep _ _ b3, b4, b5, b6⟩ fun ctv doc h' tk hk' hge => ?_
    · subst hpl; subst hpc
      show codeAmong pos [rawInt pos.line, rawInt pos.col, .ref c'] = _
      unfold codeAmong rawInt
      simp
    · have S₁ := S.ext0 hk'
      have zz := Zins_le S₁ (fnMade name qual params body scope (clGo env.cells scope.names []) doc ((mg (Str.ofString "__name__")).getD .none) c' ctv)
      refine fin h'.objs.size (fnX name qual params body scope (clGo env.cells scope.names []) .none .none doc ((mg (Str.ofString "__name__")).getD .none) none (.ref c') ctv) _ _ tk (zz.of_le S₁.leB) (S₁.pushZ _ rfl) ?_ ⟨⟨_, _, _, _, _, rfl⟩, fun x c e => ((cl x c).mp e).1⟩ rfl
      unfold Has
      exact ⟨rfl, _, Zins_self, rfl, c', oc, vs, t, rfl, zz.1 _ _ hz, hdt, hv1⟩
end
end Mine
end
section
open PySem PySem.W PyProof.Rows PySem.Flt
namespace Mine

section
variable {prog : Program} {w : World} {K : Frag} {k : Nat} {sc scope : Scope} {ρ : Loc}

/-- a scope of a nested def: no cells of its own -/
noncomputable def okNest (sc : Scope) : Bool := okComp sc && !sc.isCoroutine && !sc.isGenerator && (sc.names.lookup (Str.ofString "#code")).isNone

structure NestFn (fd : FuncData) (name qual : Str) (params : Arguments) (body : List Stmt) (scope : Scope) : Prop where
  i : IsNest fd name qual params body scope
  s : ∀ x, scope.names.lookup x = some .free → (fd.closure.lookup x).isSome = true
  ok : okNest scope = true

theorem envOk_nest {fd : FuncData} {name qual : Str} {params : Arguments} {body : List Stmt} {L a : Addr} {env : Env} (F : NestFn fd name qual params body scope) (O : EnvOk env sc) (hm : sc.more = cellsMore fd.closure) : EnvOk (callEnv fd L a) { scope with more := cellsMore fd.closure } := by
  obtain ⟨⟨cl, doc, pm, cv, ct, rfl⟩, hc⟩ := F.i
  have hs := F.ok
  unfold okNest okComp at hs
  simp only [Bool.and_eq_true, decide_eq_true_eq, Option.isNone_iff_eq_none] at hs
  obtain ⟨⟨⟨⟨⟨⟨⟨⟨h0, h1⟩, h2⟩, h3⟩, h4⟩, h5⟩, h6⟩, h7⟩, h8⟩ := hs
  have nocode : ∀ n, List.lookup (Str.ofString "#code") cl ≠ some n := fun n e => by have := hc _ n e; rw [h8] at this; cases this
  have up : ∀ x c, List.lookup x cl = some c → env.cells.lookup x = some c := fun x c e => O.mo x c (by rw [hm]; exact cellsMore_lookup.mpr e) (beqF fun q => nocode c (q ▸ e))
  exact {
    kind := h5
    glo := rfl
    bui := rfl
    kg := fun x e => e
    kl := fun x e => e
    kc := fun x e => by
      have := List.all_eq_true.mp h2 _ (lookup_mem e)
      cases this
    kf := fun x e => ⟨.inl e, F.s x e⟩
    lc := fun x e => by
      show List.lookup x cl = none
      cases q : List.lookup x cl with
      | none => rfl
      | some c => have := hc x c q; rw [show scope.names.lookup x = some .local from e] at this; cases this
    ci := fun x y c e e' => O.ci x y c (up x c e) (up y c e')
    mo := fun x n e _ => cellsMore_lookup.mp e
    co := fun n e => absurd (cellsMore_lookup.mp e) (nocode n)
    qu := fun x e => absurd e cellsMore_str
    nd := h3
    nc := h4 }

theorem clos_up {fd : FuncData} {name qual : Str} {params : Arguments} {body : List Stmt} {env : Env} (F : NestFn fd name qual params body scope) (O : EnvOk env sc) (hm : sc.more = cellsMore fd.closure) : ∀ x c, fd.closure.lookup x = some c → env.cells.lookup x = some c := fun x c e => by
  have hs := F.ok
  unfold okNest at hs
  simp only [Bool.and_eq_true, Option.isNone_iff_eq_none] at hs
  refine O.mo x c (by rw [hm]; exact cellsMore_lookup.mpr e) (beqF fun q => ?_)
  have := F.i.c x c e
  rw [q, hs.2] at this; cases this

/-- calling a local that holds a nested def -/
theorem closG {g : Str} {np pos : Pos} {es : List Expr} {ds : List D} {f : Addr} {fd : FuncData} (hg : ρ.lookup g = some (.val (.fn f fd))) (hk : sc.names.lookup g = some .local ∨ sc.names.lookup g = some .cell ∨ sc.names.lookup g = some .free) (L : EvL prog w K k sc ρ es ds) (hne : es ≠ []) :
    ∀ env, EnvOk env sc → ∀ A hB m Z own s (Q E : Value → Shared → Prop), Rm k A → Wd K hB → St hB env m Z own s.heap → LocOk hB.objs.size m Z own ρ →
      (∀ vs Z₁ h₁ (tk₁ : Tk), ZLe hB.objs.size Z Z₁ → St hB env m Z₁ own h₁ → HasL Z₁ ds vs → Has Z₁ (.fn f fd) (.ref f) → wpAny (model prog w) A (call (.ref f) vs) Q E { s with heap := h₁, toks := tk₁.1, drawn := tk₁.2 }) →
      wpAny (model prog w) A (eval (.Call (.Name g np) es [] pos) env) Q E s := by
  intro env O A hB m Z own s Q E R W S ro h
  refine wpAny_Call_NameR (evName (pos := np) hk hg env O A hB m Z own s _ E R W S ro fun v Z₀ h₀ tk₀ z₀ S₀ hv => ?_)
  have hv' := hv
  unfold Has at hv'
  obtain ⟨rfl, ob, e1, e2, e3⟩ := hv'
  have hp := L.plain pos env
  have hF : ∀ {Z' : Zn} {h' : Heap}, (∀ a o, Z₀ a = some o → Z' a = some o) → (∀ a o, Z' a = some o → h'.get? a = some o) → FnAt f h' := fun {Z' h'} a b => by
    have := b _ _ (a _ _ e1)
    obtain ⟨oc, od, dt, sl⟩ := ob
    cases e2
    exact ⟨oc, od, fd, sl, this⟩
  refine callWith_of (P := FnAt f) (by rw [hp]; rfl) (fun h X => keeps_F h X) ?_
  cases L with
  | nil => exact absurd rfl hne
  | cons hn he L' =>
    have q := (EvL.cons hn he L').spliced pos env O A hB m Z₀ own { s with heap := h₀, toks := tk₀.1, drawn := tk₀.2 }
    dsimp only at q
    rw [starEach_cons hn] at q ⊢
    exact Calls.evalArgs_plain (q _ E R W S₀ (ro.mono z₀.1) fun vs Z₁ h₁ tk₁ z₁ S₁ hvs => ⟨hF z₁.1 S₁.zin, h vs Z₁ h₁ tk₁ (z₀.tr z₁) S₁ hvs (hv.mono z₁.1)⟩)

theorem evClos {g name qual : Str} {params : Arguments} {body : List Stmt} {np pos : Pos} {es : List Expr} {ds : List D} {d : D} {o : Out} {f : Addr} {fd : FuncData} {xs fs : List Str} (hg : ρ.lookup g = some (.val (.fn f fd))) (hk : sc.names.lookup g = some .local ∨ sc.names.lookup g = some .cell ∨ sc.names.lookup g = some .free)
    (F : NestFn fd name qual params body scope) (hm : sc.more = cellsMore fd.closure) (L : EvL prog w K (k + 1) sc ρ es ds) (hne : es ≠ [])
    (hb : ∀ fd', (∃ cl doc pm cv ct, fd' = fnX name qual params body scope cl .none .none doc pm none cv ct) → ∀ vs : List Value, vs.length = xs.length → bindArgs fd' ⟨vs, []⟩ = pure (xs.zip vs))
    (hx : xs.all (fun x => decide (scope.names.lookup x = some .local)) = true) (hn : xs.Nodup) (hl : ds.length = xs.length) (hfs : fs.all (fun x => decide (scope.names.lookup x = some .free)) = true)
    (hr : retOf o = some d) (h : Cos prog w K k { scope with more := cellsMore fd.closure } (locsOf xs ds ++ capL fs ρ) body o) : EvS prog w K (k + 1) sc ρ (.Call (.Name g np) es [] pos) d := by
  intro env O A hB m Z own s Q E R W S ro P
  refine closG hg hk L hne env O A hB m Z own s Q E R W S ro fun vs Z₁ h₁ tk₁ z₁ S₁ hvs hf => ?_
  have O' := fun L => envOk_nest (L := L) (a := f) F O hm
  have up := clos_up F O hm
  have hs := F.ok
  unfold okNest okComp at hs
  simp only [Bool.and_eq_true, decide_eq_true_eq, Option.isNone_iff_eq_none, Bool.not_eq_true'] at hs
  obtain ⟨⟨⟨⟨⟨⟨⟨⟨c0, c1⟩, c2⟩, c3⟩, c4⟩, c5⟩, c6⟩, c7⟩, c8⟩ := hs
  unfold Has at hf
  obtain ⟨_, ob, e1, e2, c, oc, us, t, e3, e4, e5, e6⟩ := hf
  obtain ⟨p, loose, mean, mg, mb, T⟩ := W.t
  have hvl : vs.length = xs.length := by rw [hvs.length, hl]
  obtain ⟨cl, doc, pm, cv, ct, hfd⟩ := F.i.e
  have hloc : ∀ y ∈ xs.zip vs, fd.scope.names.lookup y.1 = some .local := fun y hy => by
    rw [hfd]
    exact of_decide_eq_true (List.all_eq_true.mp hx _ (List.of_mem_zip (show (y.1, y.2) ∈ xs.zip vs from hy)).1)
  have hsc : fd.scope = scope := by rw [hfd]
  refine wpAny_call (codeAny_call_def (s := { s with heap := h₁, toks := tk₁.1, drawn := tk₁.2 }) (fd := fd) (body := body) (binds := xs.zip vs) R.room (S₁.zin _ _ e1) e2 (T.nolimit.keeps S₁.keep) ⟨c, oc, us, t, e3, S₁.zin _ _ e4, e5, e6⟩ (by rw [hfd]) (BindsTo.of_eq (hb fd ⟨cl, doc, pm, cv, ct, hfd⟩ vs hvl)) (fun y hy q => ?_) hloc (fun h₂ hns hk₂ => ?_) (by rw [hsc]; exact c6) (by rw [hsc]; exact c7) (by rw [hsc]; exact c5))
  · have := List.all_eq_true.mp c2 y (by rw [← hsc]; exact hy)
    rw [q] at this; cases this
  · let env' := callEnv fd h₁.objs.size f
    let m' : Str → Option Value := fun x => if scope.names.lookup x = some .local then (xs.zip vs).reverse.lookup x else m x
    have clc : ∀ x c, env'.cells.lookup x = some c → fd.closure.lookup x = some c := fun x c e => e
    have S' : St (gh h₁) env' m' Z₁ [] h₂ := S₁.enter (ml := fun x => (xs.zip vs).reverse.lookup x) hk₂ hns (fun x e => (if_pos (show scope.names.lookup x = some .local by rw [← hsc]; exact e)).symm) (Nat.le_refl _) (fun x c e => by
        have hu := up x c (clc x c e)
        show h₂.IsCell c (if scope.names.lookup x = some .local then _ else m x)
        rw [if_neg (by rw [F.i.c x c (clc x c e)]; intro q; cases q)]
        exact isCell_at (S₁.cel x c hu) fun ob' q => hk₂ _ _ q) (fun x c e => by
        have hu := up x c (clc x c e)
        have lt := (S₁.cel x c hu).lt
        exact ⟨Nat.ne_of_lt lt, .inr ⟨x, hu⟩⟩)
    have ro' : LocOk (gh h₁).objs.size m' Z₁ [] (locsOf xs ds ++ capL fs ρ) := LocOk.ofVals fun x r e => by
      rw [List.lookup_append] at e
      cases q : (locsOf xs ds).lookup x with
      | some r' =>
        rw [q] at e
        cases e
        obtain ⟨d', v, e1', e2', e3'⟩ := locs_has hvs q
        refine ⟨d', v, e1', ?_, e3'⟩
        have hxk : x ∈ xs := (List.of_mem_zip e2').1
        show (if scope.names.lookup x = some .local then _ else m x) = _
        rw [if_pos (of_decide_eq_true (List.all_eq_true.mp hx _ hxk))]
        refine mem_lookup ?_ (List.mem_reverse.mpr e2')
        rw [List.map_reverse, zip_keys hvl]
        exact (List.reverse_perm xs).nodup_iff.mpr hn
      | none =>
        rw [q] at e
        obtain ⟨hy, d', rfl, e2'⟩ := capL_lookup (show (capL fs ρ).lookup x = some r from e)
        obtain ⟨v, e3', e4'⟩ := ro.v x d' e2'
        refine ⟨d', v, rfl, ?_, e4'.mono z₁.1⟩
        show (if scope.names.lookup x = some .local then _ else m x) = _
        rw [if_neg (by rw [of_decide_eq_true (List.all_eq_true.mp hfs x hy)]; intro q; cases q)]
        exact e3'
    refine body_run (s := { s with heap := h₂, toks := tk₁.1 + (xs.zip vs).length, drawn := tk₁.2 }) (R := fun r s' => match r with | .ok (.ret v) => Q v s' | .ok _ => False | .error e => E e s') h hr (O' _) (R.deeper _) (W.gh S₁) S' ro' fun v m'' Z' own' h' tk' z S'' hv' => ?_
    exact P v Z' h' tk' (z₁.tr (z.of_le (by rw [gh_size]; exact S₁.leB))) (S₁.back S'' z) hv'
end
end Mine
end
section
open PySem PySem.W PyProof.Rows PySem.Flt
namespace Mine

noncomputable def ghD (h : Heap) (D : Addr) : Heap := hideAll (gh h) [D]
theorem ghD_get {h : Heap} {D b : Addr} {o : Obj} (e : h.get? b = some o) (hn : isTab b = false) (hd : b ≠ D) : (ghD h D).get? b = some o := hideAll_get _ (gh_get e hn) (by simpa using hd)
theorem of_ghD {h : Heap} {D b : Addr} {o : Obj} (e : (ghD h D).get? b = some o) : h.get? b = some o := of_gh (of_hideAll _ e)
theorem ghD_tab {h : Heap} {D b : Addr} (hn : isTab b = true) : (ghD h D).get? b = none := by
  cases q : (ghD h D).get? b with
  | none => rfl
  | some o => have := of_hideAll _ q; rw [gh_tab hn] at this; cases this
theorem ghD_self {h : Heap} {D : Addr} : (ghD h D).get? D = none := hideAll_none _ (.head _)
theorem ghD_size (h : Heap) (D : Addr) : (ghD h D).objs.size = h.objs.size := (hideAll_size _ _).trans (gh_size h)

section
variable {hB : Heap} {env env' : Env} {m m' : Str → Option Value} {Z Z' : Zn} {own own' : List (Addr × Obj)} {h h₁ h' : Heap} {D : Addr} {ob ob' : Obj}

theorem St.ghDB (S : St hB env m Z own h) (hD : (D, ob) ∈ own) : ∀ b o, hB.get? b = some o → (ghD h D).get? b = some o := fun b o e =>
  ghD_get (S.keep b o e) (by
    cases q : isTab b with
    | false => rfl
    | true => rw [S.tB b q] at e; cases e) (fun q => by rw [q, S.oB _ hD] at e; cases e)

theorem St.enterD (S : St hB env m Z own h) (hD : (D, ob) ∈ own) {ml : Str → Option Value} (hk : ∀ b o, h.get? b = some o → h₁.get? b = some o) (F : h₁.Ns env'.locals ml) (hm : ∀ x, env'.kindOf x = some .local → ml x = m' x) (hl : h.objs.size ≤ env'.locals)
    (hc : ∀ x c, env'.cells.lookup x = some c → h₁.IsCell c (m' x)) (hc2 : ∀ x c, env'.cells.lookup x = some c → ∃ y, env.cells.lookup y = some c) : St (ghD h D) env' m' Z [(D, ob)] h₁ where
  fr := ⟨ml, ⟨F, fun b o e => hk b o (of_ghD e), by rw [ghD_size]; exact hl⟩, hm⟩
  cel := hc
  zin := fun a o e => hk a o (S.zin a o e)
  zhi := S.zhi
  zL := (S.free_new hl).z
  zc := fun x c e => let ⟨y, l⟩ := hc2 x c e; S.zc y c l
  oin := fun p hp => by
    rcases List.mem_cons.mp hp with rfl | hp
    · exact hk _ _ (S.oin _ hD)
    · cases hp
  oZ := fun p hp => by
    rcases List.mem_cons.mp hp with rfl | hp
    · exact S.oZ _ hD
    · cases hp
  oB := fun p hp => by
    rcases List.mem_cons.mp hp with rfl | hp
    · exact ghD_self
    · cases hp
  oL := fun p hp => by
    rcases List.mem_cons.mp hp with rfl | hp
    · exact Nat.ne_of_lt (Nat.lt_of_lt_of_le (Heap.lt_size (S.oin _ hD)) hl)
    · cases hp
  oc := fun p hp x c e => by
    rcases List.mem_cons.mp hp with rfl | hp
    · obtain ⟨y, l⟩ := hc2 x c e; exact S.oc _ hD y c l
    · cases hp
  ohi := fun p hp => by
    rcases List.mem_cons.mp hp with rfl | hp
    · exact S.ohi _ hD
    · cases hp
  ond := by simp
  Lhi := (S.free_new hl).hi
  chi := fun x c e => let ⟨y, l⟩ := hc2 x c e; S.chi y c l
  cL := fun x c e => by
    obtain ⟨y, l⟩ := hc2 x c e
    exact Nat.ne_of_lt (Nat.lt_of_lt_of_le (S.cel y c l).lt hl)
  tB := fun a e => ghD_tab e
  tab := S.tab.mono (fun _ _ e => e) fun b o _ e => hk b o e

theorem St.backD (S : St hB env m Z own h) (hD : (D, ob) ∈ own) (S' : St (ghD h D) env' m' Z' own' h') (hD' : (D, ob') ∈ own') (z : ZLe (ghD h D).objs.size Z Z') : St hB env m Z' (updO own D ob') h' := by
  have kp : ∀ b o, isTab b = false → b ≠ D → h.get? b = some o → h'.get? b = some o := fun b o n d e => S'.keep b o (ghD_get e n d)
  have nz : ∀ b, Z b = none → b < h.objs.size → Z' b = none := fun b e l => by
    cases q : Z' b with
    | none => rfl
    | some o =>
      rcases z.2 b o q with w | w
      · rw [e] at w; cases w
      · rw [ghD_size] at w; exact absurd l (Nat.not_lt.mpr w)
  exact {
    fr := by
      obtain ⟨ml, F, e⟩ := S.fr
      refine ⟨ml, ⟨F.ns.at' fun o q => kp _ o (notTab_of_hi S.Lhi) (Ne.symm (S.oL _ hD)) q, fun b o q => ?_, F.above⟩, e⟩
      exact S'.keep b o (S.ghDB hD b o q)
    cel := fun x c e => isCell_at (S.cel x c e) fun o q => kp c o (notTab_of_hi (S.chi x c e)) (S.oc _ hD x c e) q
    zin := S'.zin
    zhi := S'.zhi
    zL := nz _ S.zL S.ltL
    zc := fun x c e => nz _ (S.zc x c e) (S.cel x c e).lt
    oin := fun p hp => by
      rcases updO_mem hp with rfl | ⟨q, hp⟩
      · exact S'.oin _ hD'
      · exact kp _ _ (notTab_of_hi (S.ohi p hp)) q (S.oin p hp)
    oZ := fun p hp => by
      rcases updO_mem hp with rfl | ⟨q, hp⟩
      · exact nz _ (S.oZ (D, ob) hD) (Heap.lt_size (S.oin (D, ob) hD))
      · exact nz _ (S.oZ p hp) (Heap.lt_size (S.oin p hp))
    oB := fun p hp => by
      rcases updO_mem hp with rfl | ⟨q, hp⟩
      · exact S.oB (D, ob) hD
      · exact S.oB p hp
    oL := fun p hp => by
      rcases updO_mem hp with rfl | ⟨q, hp⟩
      · exact S.oL (D, ob) hD
      · exact S.oL p hp
    oc := fun p hp => by
      rcases updO_mem hp with rfl | ⟨q, hp⟩
      · exact S.oc (D, ob) hD
      · exact S.oc p hp
    ohi := fun p hp => by
      rcases updO_mem hp with rfl | ⟨q, hp⟩
      · exact S.ohi (D, ob) hD
      · exact S.ohi p hp
    ond := by rw [updO_map]; exact S.ond
    Lhi := S.Lhi
    chi := S.chi
    cL := S.cL
    tB := S.tB
    tab := S'.tab }
end

noncomputable def likeL : Vr → List D → Vr
  | .bor _, l => .bor l
  | _, l => .lst l
noncomputable def listV : Vr → Option (List D)
  | .lst l => some l
  | .bor l => some l
  | _ => none
noncomputable def outL : Out → Option Loc
  | .go L => some L
  | .retL _ L => some L
  | _ => none

section
variable {prog : Program} {w : World} {K : Frag} {k : Nat} {sc scope : Scope} {ρ : Loc}

theorem coClosMut {g name qual x : Str} {params : Arguments} {body : List Stmt} {np pos p3 : Pos} {es : List Expr} {ds : List D} {o : Out} {f : Addr} {fd : FuncData} {xs fs : List Str} {r : Vr} {l l' : List D} {ρ' : Loc} (hg : ρ.lookup g = some (.val (.fn f fd))) (hk : sc.names.lookup g = some .local ∨ sc.names.lookup g = some .cell ∨ sc.names.lookup g = some .free)
    (F : NestFn fd name qual params body scope) (hm : sc.more = cellsMore fd.closure) (L : EvL prog w K (k + 1) sc ρ es ds) (hne : es ≠ [])
    (hb : ∀ fd', (∃ cl doc pm cv ct, fd' = fnX name qual params body scope cl .none .none doc pm none cv ct) → ∀ vs : List Value, vs.length = xs.length → bindArgs fd' ⟨vs, []⟩ = pure (xs.zip vs))
    (hx : xs.all (fun x => decide (scope.names.lookup x = some .local)) = true) (hn : xs.Nodup) (hl : ds.length = xs.length) (hfs : fs.all (fun x => decide (scope.names.lookup x = some .free)) = true)
    (hxr : ρ.lookup x = some r) (hrl : listV r = some l) (hxf : scope.names.lookup x = some .free)
    (hr : outL o = some ρ') (hρ : ρ'.lookup x = some (.bor l')) (hs : ∀ env, swapsWith (.Call (.Name g np) es [] pos) none p3.line env = pure false)
    (h : Cos prog w K k { scope with more := cellsMore fd.closure } (locsOf xs ds ++ ((x, .bor l) :: capL fs ρ)) body o) : Co prog w K (k + 1) sc ρ (.Expr (.Call (.Name g np) es [] pos) p3) (.go (setL ρ x (likeL r l'))) := by
  intro env O A hB m Z own hid s Q E R W S ro P
  refine wpAny_Expr_any ?_ (by unfold interactive; rw [O.kind]; rfl) (hs env)
  refine closG hg hk L hne env O A hB m Z (own ++ hid) s _ E R W S ro.weak fun vs Z₁ h₁ tk₁ z₁ S₁ hvs hf => ?_
  have hown : isOwn r = true := by cases r <;> first | rfl | cases hrl
  obtain ⟨D, ob, hmx, hD, hob⟩ := ro.o x r hxr hown
  have hD' : (D, ob) ∈ own ++ hid := List.mem_append_left _ hD
  have hlist : ∃ us n, ob.cls = .type "list" ∧ ob.dict = none ∧ ob.data = .seq us n ∧ HasL Z l us.toList := by
    cases r with
    | val d => cases hrl
    | lst q => cases hrl; exact hob
    | bor q => cases hrl; exact hob
    | raw q => cases hrl
    | itr q i => cases hrl
  have O' := fun L => envOk_nest (L := L) (a := f) F O hm
  have up := clos_up F O hm
  have hs' := F.ok
  unfold okNest okComp at hs'
  simp only [Bool.and_eq_true, decide_eq_true_eq, Option.isNone_iff_eq_none, Bool.not_eq_true'] at hs'
  obtain ⟨⟨⟨⟨⟨⟨⟨⟨c0, c1⟩, c2⟩, c3⟩, c4⟩, c5⟩, c6⟩, c7⟩, c8⟩ := hs'
  unfold Has at hf
  obtain ⟨_, fob, e1, e2, c, oc, us, t, e3, e4, e5, e6⟩ := hf
  obtain ⟨p, loose, mean, mg, mb, T⟩ := W.t
  have hvl : vs.length = xs.length := by rw [hvs.length, hl]
  obtain ⟨cl, doc, pm, cv, ct, hfd⟩ := F.i.e
  have hloc : ∀ y ∈ xs.zip vs, fd.scope.names.lookup y.1 = some .local := fun y hy => by
    rw [hfd]
    exact of_decide_eq_true (List.all_eq_true.mp hx _ (List.of_mem_zip (show (y.1, y.2) ∈ xs.zip vs from hy)).1)
  have hsc : fd.scope = scope := by rw [hfd]
  refine wpAny_call (codeAny_call_def (s := { s with heap := h₁, toks := tk₁.1, drawn := tk₁.2 }) (fd := fd) (body := body) (binds := xs.zip vs) R.room (S₁.zin _ _ e1) e2 (T.nolimit.keeps S₁.keep) ⟨c, oc, us, t, e3, S₁.zin _ _ e4, e5, e6⟩ (by rw [hfd]) (BindsTo.of_eq (hb fd ⟨cl, doc, pm, cv, ct, hfd⟩ vs hvl)) (fun y hy q => ?_) hloc (fun h₂ hns hk₂ => ?_) (by rw [hsc]; exact c6) (by rw [hsc]; exact c7) (by rw [hsc]; exact c5))
  · have := List.all_eq_true.mp c2 y (by rw [← hsc]; exact hy)
    rw [q] at this; cases this
  · let env' := callEnv fd h₁.objs.size f
    let m' : Str → Option Value := fun x => if scope.names.lookup x = some .local then (xs.zip vs).reverse.lookup x else m x
    have clc : ∀ x c, env'.cells.lookup x = some c → fd.closure.lookup x = some c := fun x c e => e
    have m'f : ∀ y, scope.names.lookup y = some .free → m' y = m y := fun y hy => by
      show (if scope.names.lookup y = some .local then _ else m y) = _
      rw [if_neg (by rw [hy]; intro q; cases q)]
    have S' : St (ghD h₁ D) env' m' Z₁ [(D, ob)] h₂ := S₁.enterD hD' (ml := fun x => (xs.zip vs).reverse.lookup x) hk₂ hns (fun x e => (if_pos (show scope.names.lookup x = some .local by rw [← hsc]; exact e)).symm) (Nat.le_refl _) (fun x c e => by
        have hu := up x c (clc x c e)
        rw [m'f x (F.i.c x c (clc x c e))]
        exact isCell_at (S₁.cel x c hu) fun ob' q => hk₂ _ _ q) (fun x c e => ⟨x, up x c (clc x c e)⟩)
    have look : ∀ y rr, (locsOf xs ds ++ ((x, Vr.bor l) :: capL fs ρ)).lookup y = some rr → (y = x ∧ rr = .bor l) ∨ (∃ d' v, rr = .val d' ∧ m' y = some v ∧ Has Z₁ d' v) := fun y rr e => by
      rw [List.lookup_append] at e
      cases q : (locsOf xs ds).lookup y with
      | some r' =>
        rw [q] at e
        cases e
        obtain ⟨d', v, e1', e2', e3'⟩ := locs_has hvs q
        refine .inr ⟨d', v, e1', ?_, e3'⟩
        have hxk : y ∈ xs := (List.of_mem_zip e2').1
        show (if scope.names.lookup y = some .local then _ else m y) = _
        rw [if_pos (of_decide_eq_true (List.all_eq_true.mp hx _ hxk))]
        refine mem_lookup ?_ (List.mem_reverse.mpr e2')
        rw [List.map_reverse, zip_keys hvl]
        exact (List.reverse_perm xs).nodup_iff.mpr hn
      | none =>
        rw [q] at e
        have e : ((x, Vr.bor l) :: capL fs ρ).lookup y = some rr := e
        rw [List.lookup_cons] at e
        by_cases hyx : y = x
        · subst hyx; rw [beqT] at e; cases e; exact .inl ⟨rfl, rfl⟩
        · rw [beqF hyx] at e
          obtain ⟨hy, d', rfl, e2'⟩ := capL_lookup e
          obtain ⟨v, e3', e4'⟩ := ro.v y d' e2'
          exact .inr ⟨d', v, rfl, (m'f y (of_decide_eq_true (List.all_eq_true.mp hfs y hy))).trans e3', e4'.mono z₁.1⟩
    have hmx' : m' x = some (.ref D) := (m'f x hxf).trans hmx
    have ro' : LocOk (ghD h₁ D).objs.size m' Z₁ [(D, ob)] (locsOf xs ds ++ ((x, .bor l) :: capL fs ρ)) := {
      v := fun y d e => by
        rcases look y _ e with ⟨_, q⟩ | ⟨d', v, q, e', e''⟩
        · cases q
        · cases q; exact ⟨v, e', e''⟩
      o := fun y rr e t => by
        rcases look y _ e with ⟨rfl, rfl⟩ | ⟨d', v, rfl, _, _⟩
        · obtain ⟨us, n, q1, q2, q3, q4⟩ := hlist
          exact ⟨D, ob, hmx', .head _, us, n, q1, q2, q3, q4.mono z₁.1⟩
        · cases t
      b := fun y rr a e t nb _ => by
        rcases look y _ e with ⟨rfl, rfl⟩ | ⟨d', v, rfl, _, _⟩
        · cases nb
        · cases t
      i := fun y y' rr rr' a e t e' t' _ _ => by
        rcases look y _ e with ⟨rfl, rfl⟩ | ⟨d', v, rfl, _, _⟩
        · rcases look y' _ e' with ⟨rfl, rfl⟩ | ⟨d', v, rfl, _, _⟩
          · rfl
          · cases t'
        · cases t }
    have W' : Wd K (ghD h₁ D) := W.keeps (S₁.ghDB hD')
    have nh : ∀ p ∈ hid, p.1 ≠ D := fun p hp' q => by
      have := S.ond
      rw [List.map_append] at this
      exact (List.nodup_append.mp this).2.2 D (List.mem_map.mpr ⟨_, hD, rfl⟩) D (List.mem_map.mpr ⟨p, hp', q⟩) rfl
    have fin : ∀ m'' Z' own' h' (tk' : Tk), ZLe (ghD h₁ D).objs.size Z₁ Z' → St (ghD h₁ D) env' m'' Z' (own' ++ []) h' → LocOk (ghD h₁ D).objs.size m'' Z' own' ρ' → Q .next { s with heap := h', toks := tk'.1, drawn := tk'.2 } := fun m'' Z' own' h' tk' z S'' ro'' => by
      obtain ⟨a', ob', q1, q2, us', n', q3, q4, q5, q6⟩ := ro''.o x _ hρ rfl
      obtain ⟨cx, hcx⟩ := Option.isSome_iff_exists.mp (F.s x hxf)
      have hu := up x cx hcx
      have hc1 : h'.IsCell cx (m x) := isCell_at (S₁.cel x cx hu) fun o q => S''.keep cx o (ghD_get q (notTab_of_hi (S₁.chi x cx hu)) (S₁.oc _ hD' x cx hu))
      have hc2 : h'.IsCell cx (m'' x) := S''.cel x cx hcx
      have heq : m'' x = m x := by
        obtain ⟨o1, g1, g2⟩ := hc1
        obtain ⟨o2, g3, g4⟩ := hc2
        rw [g1] at g3; cases g3
        rw [g2] at g4; injection g4 with g5; exact g5.symm
      rw [heq, hmx] at q1
      cases q1
      have S₃ := S₁.backD hD' S'' (ob' := ob') (List.mem_append_left _ q2) z
      rw [updO_append, updO_id nh] at S₃
      have z₃ : ZLe hB.objs.size Z Z' := z₁.tr (z.of_le (by rw [ghD_size]; exact S₁.leB))
      refine P m Z' _ h' tk' z₃ S₃ ((ro.mono z₃.1).setOwn hxr hown hmx hD ?_ ?_ ?_)
      · cases r with
        | val d => cases hrl
        | lst q => exact ⟨us', n', q3, q4, q5, q6⟩
        | bor q => exact ⟨us', n', q3, q4, q5, q6⟩
        | raw q => cases hrl
        | itr q i => cases hrl
      · cases r <;> first | rfl | cases hrl
      · cases r with
        | val d => cases hrl
        | lst q => intro _; rfl
        | bor q => intro w; cases w
        | raw q => cases hrl
        | itr q i => cases hrl
    refine h env' (O' _) _ (ghD h₁ D) m' Z₁ [(D, ob)] [] { s with heap := h₂, toks := tk₁.1 + (xs.zip vs).length, drawn := tk₁.2 } _ _ (R.deeper _) W' S' ro' ?_
    cases o with
    | go L₁ => cases hr; exact fun m'' Z' own' h' tk' z S'' ro'' => fin m'' Z' own' h' tk' z S'' ro''
    | retL d L₁ => cases hr; exact fun v m'' Z' own' h' tk' z S'' ro'' hv => fin m'' Z' own' h' tk' z S'' ro''
    | ret d => cases hr
    | brk L₁ => cases hr
    | cont L₁ => cases hr
end
end Mine
end
section
open PySem PySem.W PyProof.Rows PySem.Flt
namespace Mine
section
variable {prog : Program} {w : World} {K : Frag} {k : Nat} {sc : Scope} {ρ : Loc}
theorem evTruL {e : Expr} {l : List D} (he : EvS prog w K k sc ρ e (.lst l)) (hz : szOk l = true) (hp : plainB e = true) : EvB prog w K k sc ρ e (!l.isEmpty) := evTruB he (by show (if szOk l = true then some (!l.isEmpty) else none) = _; rw [if_pos hz]) hp
theorem evItemL {value slice : Expr} {pos : Pos} {l : List D} {n : Int} {d : D} (hc : EvS prog w K k sc ρ value (.lst l)) (hi : EvS prog w K k sc ρ slice (.int n)) (h0 : 0 ≤ n) (h1 : n < 2 ^ 63) (h : l[n.toNat]? = some d) (hs : notSlice slice = true) : EvS prog w K k sc ρ (.Subscript value slice pos) d :=
  evItem hc hi (by
    show (if (decide (0 ≤ n) && decide (n < 2 ^ 63)) = true then l[n.toNat]? else none) = some d
    rw [decide_eq_true h0, decide_eq_true h1]; exact h) hs
theorem evItemI {value slice : Expr} {pos : Pos} {l : List Int} {n x : Int} (hc : EvS prog w K k sc ρ value (.lst (l.map .int))) (hi : EvS prog w K k sc ρ slice (.int n)) (h0 : 0 ≤ n) (h1 : n < 2 ^ 63) (h : l[n.toNat]? = some x) (hs : notSlice slice = true) : EvS prog w K k sc ρ (.Subscript value slice pos) (.int x) :=
  evItemL hc hi h0 h1 (by rw [List.getElem?_map, h]; rfl) hs
end
end Mine
end
section
open PySem PySem.W PyProof.Rows PySem.Flt
namespace Mine

section
variable (prog : Program) (w : World) (K : Frag) (k : Nat)
/-- an expression that lays a new list -/
noncomputable def EvN (sc : Scope) (ρ : Loc) (e : Expr) (l : List D) : Prop := ∀ env, EnvOk env sc → ∀ A hB m Z own s (Q E : Value → Shared → Prop), Rm k A → Wd K hB → St hB env m Z own s.heap → LocOk hB.objs.size m Z own ρ →
  (∀ a ob Z' h' (tk' : Tk), ZLe hB.objs.size Z Z' → hB.objs.size ≤ a → St hB env m Z' own h' → Free hB env Z' own a → h'.get? a = some ob → OwnIs Z' (.lst l) ob → Q (.ref a) { s with heap := h', toks := tk'.1, drawn := tk'.2 }) →
  wpAny (model prog w) A (eval e env) Q E s
end

section
variable {prog : Program} {w : World} {K : Frag} {k : Nat} {sc : Scope} {ρ : Loc}

theorem evOfN {e : Expr} {l : List D} (h : EvN prog w K k sc ρ e l) : EvS prog w K k sc ρ e (.lst l) := by
  intro env O A hB m Z own s Q E R W S ro P
  refine h env O A hB m Z own s Q E R W S ro fun a ob Z' h' tk' z ha S' F ho hb => ?_
  obtain ⟨vs, n, c1, c2, c3, hv⟩ := hb
  have z' : ZLe hB.objs.size Z' (Zins Z' a ob) := ZLe.ins F.z ha
  refine P (.ref a) (Zins Z' a ob) h' tk' (z.tr z') (S'.freeze F ho) ?_
  unfold Has
  exact ⟨a, ob, vs, n, rfl, Zins_self, c1, c2, c3, hv.mono z'.1⟩

theorem coNewN {x : Str} {p' p : Pos} {e : Expr} {l : List D} (h : EvN prog w K k sc ρ e l) (hx : isVar sc x = true) (hs : ∀ env, EnvOk env sc → swapsWith e (some (.Name x p')) p.line env = pure false) : Co prog w K k sc ρ (.Assign [.Name x p'] e p) (.go (setL ρ x (.lst l))) :=
  fun env O A hB m Z own hid s Q E R W S ro P =>
  wpAny_Assign_Name (h env O A hB m Z (own ++ hid) s _ E R W S ro.weak fun a ob Z' h' tk' z ha S' F ho hb =>
    storeO O hx S' F ho ha (ro.mono z.1) hb rfl fun h₂ tk₂ S₂ ro₂ => P _ Z' _ h₂ tk₂ z S₂ ro₂) (hs env O)

theorem push_new {hB : Heap} {env : Env} {m : Str → Option Value} {Z : Zn} {own : List (Addr × Obj)} {h : Heap} (S : St hB env m Z own h) {vs : Array Value} {l : List D} (hv : HasL Z l vs.toList) :
    hB.objs.size ≤ h.objs.size ∧ St hB env m Z own (h.push { cls := .type "list", data := .seq vs }) ∧ Free hB env Z own h.objs.size ∧ (h.push { cls := .type "list", data := .seq vs }).get? h.objs.size = some { cls := .type "list", data := .seq vs } ∧ OwnIs Z (.lst l) { cls := .type "list", data := .seq vs } :=
  ⟨S.leB, S.push _, S.free_new (Nat.le_refl _), Heap.get?_push_size _ rfl, vs, 0, rfl, rfl, rfl, hv⟩

theorem evNAdd {l r : Expr} {pos : Pos} {a b : List D} (hl : EvS prog w K k sc ρ l (.lst a)) (hr : EvS prog w K k sc ρ r (.lst b)) (hz : szOk (a ++ b) = true) : EvN prog w K k sc ρ (.BinOp l .Add r pos) (a ++ b) := by
  intro env O A hB m Z own s Q E R W S ro P
  refine wpAny_BinOp (hl env O A hB m Z own s _ E R W S ro fun va Z₁ h₁ tk₁ z₁ S₁ ha => ?_)
  refine hr env O A hB m Z₁ own _ _ E R W S₁ (ro.mono z₁.1) fun vb Z₂ h₂ tk₂ z₂ S₂ hb => ?_
  have ha' := ha.mono z₂.1
  unfold Has at ha' hb
  obtain ⟨a1, ⟨c1, d1, dt1, sl1⟩, vs1, n1, rfl, q1, cc1, dd1, ddt1, r1⟩ := ha'
  obtain ⟨a2, ⟨c2, d2, dt2, sl2⟩, vs2, n2, rfl, q2, cc2, dd2, ddt2, r2⟩ := hb
  simp only at cc1 dd1 ddt1 cc2 dd2 ddt2
  subst cc1 dd1 ddt1 cc2 dd2 ddt2
  have hz' : a.length + b.length ≤ 100000 := by have := of_decide_eq_true hz; simpa using this
  have hsz : vs1.size + vs2.size ≤ sizeLine := by
    have e1 := r1.length; have e2 := r2.length
    rw [Array.length_toList] at e1 e2
    rw [e1, e2]; exact Nat.le_trans hz' (by decide)
  refine concat_meets ⟨_, S₂.zin _ _ q1, rfl⟩ ⟨_, S₂.zin _ _ q2, rfl⟩ noFill_list_add seq_list_add PySem.F.slot_list_add PySem.F.entry_list_add (PySem.F.args_list_add_2 _ _) (list_addW a1 a2 vs1 vs2 n1 n2 none none sl1 sl2 hsz) ⟨S₂.zin _ _ q1, S₂.zin _ _ q2, ?_⟩
  have hv : HasL Z₂ (a ++ b) (vs1 ++ vs2).toList := by simpa using r1.append r2
  obtain ⟨p1, p2, p3, p4, p5⟩ := push_new S₂ hv
  exact P _ _ Z₂ _ tk₂ (z₁.tr z₂) p1 p2 p3 p4 p5

theorem HasL.rep {Z : Zn} {l : List D} {vs : List Value} (h : HasL Z l vs) : ∀ n : Nat, HasL Z (List.replicate n l).flatten (List.replicate n vs).flatten
  | 0 => hasL_nil
  | n + 1 => by rw [List.replicate_succ, List.replicate_succ, List.flatten_cons, List.flatten_cons]; exact h.append (HasL.rep h n)

theorem evNMul {l r : Expr} {pos : Pos} {a : List D} {x : Int} (hl : EvS prog w K k sc ρ l (.lst a)) (hr : EvS prog w K k sc ρ r (.int x)) (ha1 : a.length ≤ 1) (hx0 : 0 ≤ x) (hx : x ≤ 100000) : EvN prog w K k sc ρ (.BinOp l .Mult r pos) (List.replicate x.toNat a).flatten := by
  intro env O A hB m Z own s Q E R W S ro P
  refine wpAny_BinOp (hl env O A hB m Z own s _ E R W S ro fun va Z₁ h₁ tk₁ z₁ S₁ ha => ?_)
  refine hr env O A hB m Z₁ own _ _ E R W S₁ (ro.mono z₁.1) fun vb Z₂ h₂ tk₂ z₂ S₂ hb => ?_
  have ha' := ha.mono z₂.1
  unfold Has at ha'
  obtain ⟨u, rfl⟩ := has_int hb
  obtain ⟨a1, ⟨c1, d1, dt1, sl1⟩, vs1, n1, rfl, q1, cc1, dd1, ddt1, r1⟩ := ha'
  simp only at cc1 dd1 ddt1
  subst cc1 dd1 ddt1
  have hn : vs1.size ≤ 1 := by have e1 := r1.length; rw [Array.length_toList] at e1; rw [e1]; exact ha1
  have hsz : vs1.size * x.toNat ≤ 100000 := by
    have : vs1.size * x.toNat ≤ 1 * x.toNat := Nat.mul_le_mul_right _ hn
    omega
  have ho := S₂.zin _ _ q1
  refine wpAny_binaryOp_repeat_ref (T := "list") (U := "int") (by decide) ⟨_, ho, rfl⟩ (fun s' => typeIs_int s' x u) noFill_list_mul F.fills_int_mul F.slot_int_rmul repeat_list F.slot_int_index.lookup
    (call_meets F.slot_int_rmul (typeIs_int _ x u) F.entry_int_rmul (F.args_int_rmul_2 _ _) (lm_int_rmul_list_any x u a1 vs1 n1 none sl1)
      ⟨ho, rfl, ⟨_, ho, rfl⟩, call_meets F.slot_list_mul ⟨_, ho, rfl⟩ F.entry_list_mul (F.args_list_mul_2 _ _)
        (lm_list_mul_any a1 vs1 n1 none sl1 x u (by simp [Builtin.List.listFitsIndex]; omega) (by omega) (by simp [Builtin.List.listTooLong, sizeLine]; omega))
        ⟨ho, ?_⟩⟩)
  rw [listMul_foldl_if]
  have hv : HasL Z₂ (List.replicate x.toNat a).flatten (List.replicate x.toNat vs1.toList).flatten.toArray.toList := by simpa using r1.rep x.toNat
  obtain ⟨p1, p2, p3, p4, p5⟩ := push_new S₂ hv
  exact P _ _ Z₂ _ tk₂ (z₁.tr z₂) p1 p2 p3 p4 p5

/-- the own list of a name -/
theorem LocOk.getB {lo : Nat} {m : Str → Option Value} {Z : Zn} {own : List (Addr × Obj)} (R : LocOk lo m Z own ρ) {x : Str} {r : Vr} {l : List D} (h : ρ.lookup x = some r) (hr : listV r = some l) : ∃ a ob vs n, m x = some (.ref a) ∧ (a, ob) ∈ own ∧ ob.cls = .type "list" ∧ ob.dict = none ∧ ob.data = .seq vs n ∧ HasL Z l vs.toList := by
  cases r with
  | lst q => cases hr; obtain ⟨a, ob, e1, e2, vs, n, e3, e4, e5, e6⟩ := R.o x _ h rfl; exact ⟨a, ob, vs, n, e1, e2, e3, e4, e5, e6⟩
  | bor q => cases hr; obtain ⟨a, ob, e1, e2, vs, n, e3, e4, e5, e6⟩ := R.o x _ h rfl; exact ⟨a, ob, vs, n, e1, e2, e3, e4, e5, e6⟩
  | val d => cases hr
  | raw q => cases hr
  | itr q i => cases hr

theorem ownIs_like {Z : Zn} {r : Vr} {l l' : List D} {o : Obj} (hr : listV r = some l) (h : OwnIs Z (.lst l') o) : OwnIs Z (likeL r l') o ∧ isOwn r = true ∧ isOwn (likeL r l') = true ∧ (isBor (likeL r l') = false → isBor r = false) := by
  cases r <;> first | (cases hr; done) | exact ⟨h, rfl, rfl, id⟩

theorem HasL.setAt {Z : Zn} : ∀ {l : List D} {vs : List Value} (i : Nat) {d : D} {v : Value}, HasL Z l vs → Has Z d v → HasL Z (l.set i d) (vs.set i v)
  | [], _, _, _, _, x, _ => by unfold HasL at x; subst x; exact hasL_nil
  | e :: ds, vs, 0, d, v, x, y => by
    unfold HasL at x
    obtain ⟨u, r, rfl, x1, x2⟩ := x
    exact hasL_cons y x2
  | e :: ds, vs, i + 1, d, v, x, y => by
    unfold HasL at x
    obtain ⟨u, r, rfl, x1, x2⟩ := x
    exact hasL_cons x1 (HasL.setAt i x2 y)

theorem not_hid {own hid : List (Addr × Obj)} {hB : Heap} {env : Env} {m : Str → Option Value} {Z : Zn} {h : Heap} (S : St hB env m Z (own ++ hid) h) {a : Addr} {ob : Obj} (ha : (a, ob) ∈ own) : ∀ p ∈ hid, p.1 ≠ a := fun p hp' q => by
  have := S.ond
  rw [List.map_append] at this
  exact (List.nodup_append.mp this).2.2 a (List.mem_map.mpr ⟨_, ha, rfl⟩) a (List.mem_map.mpr ⟨p, hp', q⟩) rfl

/-- a name of any kind is read -/
noncomputable def isAny (sc : Scope) (x : Str) : Bool := match sc.names.lookup x with
  | some .local | some .cell | some .free => true
  | _ => false
theorem isAny_or {x : Str} (h : isAny sc x = true) : sc.names.lookup x = some .local ∨ sc.names.lookup x = some .cell ∨ sc.names.lookup x = some .free := by
  unfold isAny at h
  split at h
  · exact .inl ‹_›
  · exact .inr (.inl ‹_›)
  · exact .inr (.inr ‹_›)
  · cases h
theorem name_ok {A : Around} {E : Value → Shared → Prop} {s : Shared} {env : Env} {hB : Heap} {m : Str → Option Value} {Z : Zn} {own : List (Addr × Obj)} {Q : Value → Shared → Prop} {x : Str} {pos : Pos} {v : Value} (O : EnvOk env sc) (hx : isAny sc x = true) (S : St hB env m Z own s.heap) (hm : m x = some v) (fin : Q v s) :
    wpAny (model prog w) A (eval (.Name x pos) env) Q E s := by
  have hk := isAny_or hx
  have hnd : (x == ("__debug__" : Str)) = false := by
    cases q : (x == ("__debug__" : Str)) with
    | false => rfl
    | true => rw [beq_iff_eq.mp q, O.nd] at hk; rcases hk with h | h | h <;> cases h
  have hnc : (x == ("__classdict__" : Str)) = false := by
    cases q : (x == ("__classdict__" : Str)) with
    | false => rfl
    | true => rw [beq_iff_eq.mp q, O.nc] at hk; rcases hk with h | h | h <;> cases h
  refine wpAny_Name ?_ hnd
  rcases hk with hk | hk | hk
  · obtain ⟨ml, F, e⟩ := S.fr
    exact wpAny_loadName_local O.kind (O.kl x hk) F.ns ((e x (O.kl x hk)).trans hm) fin
  · obtain ⟨e1, c, hc, _⟩ := O.kc x hk
    exact wpAny_loadName_cell O.kind e1 hc (hm ▸ S.cel x c hc) fin
  · obtain ⟨e1, e2⟩ := O.kf x hk
    obtain ⟨c, hc⟩ := Option.isSome_iff_exists.mp e2
    rcases e1 with e1 | e1
    · exact wpAny_loadName_free O.kind e1 hc (hm ▸ S.cel x c hc) fin hnc
    · exact wpAny_loadName_cell O.kind e1 hc (hm ▸ S.cel x c hc) fin

/-- an own list's place is written: the object itself -/
theorem setItem_own {A : Around} {E : Value → Shared → Prop} {s : Shared} {a : Addr} {o : Obj} {vs : Array Value} {c : Nat} {n : Int} {t : Tok} {v : Value} {Q : Unit → Shared → Prop} (ho : s.heap.get? a = some o) (hc : o.cls = .type "list") (hdn : o.dict = none) (hd : o.data = .seq vs c) (h0 : 0 ≤ n) (hfit : n < 2 ^ 63) (hn : n < vs.size)
    (hQ : ∀ h' o' c', h'.get? a = some o' → o'.cls = .type "list" → o'.dict = none → o'.data = .seq (vs.setIfInBounds n.toNat v) c' → Heap.SameBut a s.heap h' → Q () { s with heap := h' }) : wpAny (model prog w) A (setItem (.ref a) (.int n t) v) Q E s := by
  have hl : s.heap.IsList a vs := ⟨o, ho, hc, c, hd⟩
  obtain ⟨c', hd'⟩ := Obj.data_mapSeq hd (·.setIfInBounds n.toNat v)
  have fin : Q () { s with heap := s.heap.update a (Obj.mapSeq (·.setIfInBounds n.toNat v)) } := by
    refine hQ _ _ c' (Heap.get?_update_self _ ho (Obj.isFreed_of_seq hd')) ((Obj.cls_mapSeq ..).trans hc) ?_ hd' (Heap.SameBut.update ..)
    obtain ⟨oc, od, dt, sl⟩ := o
    subst hd
    exact hdn
  unfold setItem
  refine wpAny_holding (wpAny_bind (wpAny_sequenceKey hl.typeIs (by decide) ?_))
  refine wpAny_bind (wpAny_callSpecial?_slot (name := Str.ofString "__setitem__") hl.typeIs slot_list_setitem (wpAny_call_entry slot_list_setitem hl.typeIs entry_list_setitem ?_ (args_list_setitem _ _ _)))
  refine wpAny_bind (m := Builtin.List.listSubscript? (.int n t)) (wpAny_listSubscript_int (fitsIndex_of h0 hfit) ?_)
  clear hfit
  obtain ⟨j, rfl⟩ := Int.eq_ofNat_of_zero_le h0
  have hj : j < vs.size := by omega
  have hx : vs[j]? = some vs[j] := Array.getElem?_eq_getElem hj
  refine wpAny_bind (m := seqItemAt a j >>= fun r => pure (r.map (j, ·))) (wpAny_bind (wpAny_seqItemAt ho hd (wpAny_pure ?_)))
  rw [hx]
  refine wpAny_bind (m := setSeqItemAt a j v) (wpAny_setSeqItemAt ho hd ?_)
  first
    | exact wpAny_bind (wpAny_pure (wpAny_pure ⟨.none, rfl, wpAny_pure fin⟩))
    | exact wpAny_pure ⟨.none, rfl, wpAny_pure fin⟩

/-- x[i] = v for an own list -/
theorem coSetItem {x : Str} {p0 p1 p : Pos} {i e : Expr} {r : Vr} {l : List D} {n : Int} {d : D} (hl : ρ.lookup x = some r) (hr : listV r = some l) (hx : isAny sc x = true) (he : EvS prog w K k sc ρ e d) (hi : EvS prog w K k sc ρ i (.int n)) (h0 : 0 ≤ n) (hn : n < l.length) (hz : szOk l = true)
    (hs : ∀ env, swapsWith e (some (.Subscript (.Name x p0) i p1)) p.line env = pure false) : Co prog w K k sc ρ (.Assign [.Subscript (.Name x p0) i p1] e p) (.go (setL ρ x (likeL r (l.set n.toNat d)))) :=
  fun env O A hB m Z own hid s Q E R W S ro P => by
  refine wpAny_Assign_Subscript (he env O A hB m Z (own ++ hid) s _ E R W S ro.weak fun v Z₁ h₁ tk₁ z₁ S₁ hv => ?_) (hs env)
  obtain ⟨a, ob, vs, c, hm, ha, c1, c2, c3, hvs⟩ := ro.getB hl hr
  refine name_ok (s := { s with heap := h₁, toks := tk₁.1, drawn := tk₁.2 }) O hx S₁ hm ?_
  refine hi env O A hB m Z₁ (own ++ hid) _ _ E R W S₁ ((ro.mono z₁.1).weak) fun u Z₂ h₂ tk₂ z₂ S₂ hu => ?_
  obtain ⟨t, rfl⟩ := has_int hu
  have ho : h₂.get? a = some ob := S₂.oin _ (List.mem_append_left _ ha)
  have e1 := hvs.length
  rw [Array.length_toList] at e1
  have hl' : l.length ≤ 100000 := of_decide_eq_true hz
  refine setItem_own (s := { s with heap := h₂, toks := tk₂.1, drawn := tk₂.2 }) ho c1 c2 c3 h0 (by omega) (by omega) fun h' o' n' g1 g2 gd g3 hsb => ?_
  have z12 := z₁.tr z₂
  have S₃ := S₂.setOwn (List.mem_append_left _ ha) g1 fun b o q e => (hsb.2 b q).trans e
  rw [updO_append, updO_id (not_hid S₂ ha)] at S₃
  have hnew : OwnIs Z₂ (.lst (l.set n.toNat d)) o' := ⟨_, n', g2, gd, g3, by simpa using (hvs.mono z12.1).setAt n.toNat (hv.mono z₂.1)⟩
  obtain ⟨f1, f2, f3, f4⟩ := ownIs_like hr hnew
  exact P m Z₂ _ h' tk₂ z12 S₃ ((ro.mono z12.1).setOwn hl f2 hm ha f1 f3 f4)
end
end Mine
end
section
open PySem PySem.W PyProof.Rows PySem.Flt
namespace Mine

section
variable {prog : Program} {w : World} {K : Frag} {k : Nat} {sc : Scope} {ρ : Loc}

/-- reversed(list) in a loop -/
theorem itRev {np pos : Pos} {e : Expr} {ds : List D} (hk : sc.names.lookup ("reversed" : Str) = some .globalImplicit) (hv : glob K ("reversed" : Str) = some (.type "reversed")) (hn : noStar e = true) (h : EvS prog w K k sc ρ e (.lst ds)) :
    ItS prog w K k sc ρ (.Call (.Name ("reversed" : Str) np) [e] [] pos) ds.reverse := by
  intro env O A hB m Z own s Q E R W S ro P
  refine callG hk hv (keep_type _) (.cons hn h .nil) (by simp) env O A hB m Z own s _ E R W S ro fun vs Z₁ h₁ tk₁ z₁ S₁ hvs => ?_
  unfold HasL at hvs; obtain ⟨v, r, rfl, hv1, hvs⟩ := hvs
  unfold HasL at hvs; subst hvs
  obtain ⟨a, vs, rfl, hl, r, hz⟩ := isList_Z S₁.zin hv1
  refine call_reversed_list (s := { s with heap := h₁, toks := tk₁.1, drawn := tk₁.2 }) hl ?_
  have hlt : a < h₁.objs.size := let ⟨o, ho, _⟩ := hl; Heap.lt_size ho
  have hne : a ≠ h₁.objs.size := Nat.ne_of_lt hlt
  have hit : (h₁.push (revObj a ((vs.size : Int) - 1))).IsRevIter h₁.objs.size a ((vs.size : Int) - 1) := ⟨_, Heap.get?_push_size _ rfl, rfl, rfl⟩
  have hl2 : (h₁.push (revObj a ((vs.size : Int) - 1))).IsList a vs := let ⟨o, ho, q⟩ := hl; ⟨o, Heap.get?_push_of_some _ ho, q⟩
  refine wpAny_pyIter_revIter (s := { s with heap := h₁.push (revObj a ((vs.size : Int) - 1)), toks := tk₁.1, drawn := tk₁.2 }) hit ?_
  refine P _ _ Z₁ h₁ _ tk₁ (fun i h => i ≤ vs.size ∧ h.IsRevIter h₁.objs.size a ((vs.size : Int) - 1 - (i : Int)) ∧ h.IsList a vs) z₁ S₁ (fun _ _ e => Heap.get?_push_of_some _ e) (Nat.le_refl _) (Heap.get?_push_size _ rfl) (fun A' hh => ⟨⟨[h₁.objs.size, a], fun i v => vs[vs.size - 1 - i]? = some v, ?_, ?_, fun i v d e e' => ?_⟩, fun i h T => ?_⟩) ⟨Nat.zero_le _, by simpa using hit, hl2⟩
  · rw [List.length_reverse, ← r.size]; exact Walks.listRev hh _ a hne vs
  · intro b hb
    rcases List.mem_cons.mp hb with rfl | hb
    · exact .inl rfl
    · rcases List.mem_cons.mp hb with rfl | hb
      · exact .inr hz
      · cases hb
  · have hi : i < ds.length := by
      have := (List.getElem?_eq_some_iff.mp e').1
      simpa using this
    rw [List.getElem?_reverse hi] at e'
    rw [r.size] at e
    exact r.at e e'
  · obtain ⟨_, ⟨o, ho, _⟩, _⟩ := T; exact ⟨o, ho⟩

/-- a method without arguments that changes an own list -/
theorem coReverse {x : Str} {p0 p1 p2 p3 : Pos} {r : Vr} {l : List D} (hx : isAny sc x = true) (hl : ρ.lookup x = some r) (hr : listV r = some l) (hz : szOk l = true) (hp : (p1.endLine == p2.line) = true) (hs : ∀ env, swapsWith (.Call (.Attribute (.Name x p0) ("reverse" : Str) p1) [] [] p2) none p3.line env = pure false)
    (hb : ∀ env, attributeBase (.Name x p0) (Str.ofString "reverse") env (eval (.Name x p0) env) = eval (.Name x p0) env) :
    Co prog w K k sc ρ (.Expr (.Call (.Attribute (.Name x p0) ("reverse" : Str) p1) [] [] p2) p3) (.go (setL ρ x (likeL r l.reverse))) :=
  fun env O A hB m Z own hid s Q E R W S ro P => by
  obtain ⟨a, ob, vs, c, hm, ha, c1, c2, c3, hvs⟩ := ro.getB hl hr
  have ho : s.heap.get? a = some ob := S.oin _ (List.mem_append_left _ ha)
  have hl : s.heap.IsList a vs := ⟨ob, ho, c1, c, c3⟩
  refine wpAny_Expr_any (wpAny_Call_method (T := "list") (id := "list.reverse") (hb env) rfl hp F.plainAttrs_list F.slot_list_reverse F.type_list_reverse (name_ok O hx S hm ?_)) (by unfold interactive; rw [O.kind]; rfl) (hs env)
  refine ⟨hl.typeIs, fun y e => by cases e; exact ⟨ob, ho, c2⟩, callWith_of (P := K.In) rfl (keep_builtin "list.reverse") (PySem.evalArgs_none ⟨W.k.keeps S.keep, ?_⟩)⟩
  have hsz : vs.size ≤ sizeLine := by
    have e1 := hvs.length
    rw [Array.length_toList] at e1
    rw [e1]; exact Nat.le_trans (of_decide_eq_true hz) (by decide)
  obtain ⟨c', hd'⟩ := Obj.data_mapSeq c3 (·.reverse)
  refine wpAny_call_entry F.slot_list_reverse hl.typeIs F.entry_list_reverse ?_ (F.args_list_reverse_1 _)
  show wpAny _ _ (updateSeq a (·.reverse) >>= fun _ => ret .none) _ _ s
  refine wpAny_bind (wpAny_updateSeq ho c3 (wpAny_pure ⟨.none, rfl, ?_⟩) (by simpa using hsz))
  have S₃ := S.setOwn (h' := s.heap.update a (Obj.mapSeq (·.reverse))) (List.mem_append_left _ ha) (Heap.get?_update_self _ ho (Obj.isFreed_of_seq hd')) fun b o q e => ((Heap.SameBut.update s.heap a (Obj.mapSeq (·.reverse))).2 b q).trans e
  rw [updO_append, updO_id (not_hid S ha)] at S₃
  have gd : (ob.mapSeq (·.reverse)).dict = none := by
    obtain ⟨oc, od, dt, sl⟩ := ob
    subst c3
    exact c2
  have hrev : HasL Z l.reverse vs.reverse.toList := by
    have rv : ∀ {l : List D} {us : List Value}, HasL Z l us → HasL Z l.reverse us.reverse := fun {l} => by
      induction l with
      | nil => intro us q; unfold HasL at q; subst q; exact hasL_nil
      | cons d ds ih =>
        intro us q
        unfold HasL at q
        obtain ⟨u, t, rfl, q1, q2⟩ := q
        rw [List.reverse_cons, List.reverse_cons]
        exact (ih q2).snoc q1
    simpa using rv hvs
  have hnew : OwnIs Z (.lst l.reverse) (ob.mapSeq (·.reverse)) := ⟨_, c', (Obj.cls_mapSeq ..).trans c1, gd, hd', hrev⟩
  obtain ⟨f1, f2, f3, f4⟩ := ownIs_like hr hnew
  exact P m Z _ _ (s.toks, s.drawn) (ZLe.refl _ _) S₃ (ro.setOwn ‹_› f2 hm ha f1 f3 f4)
end
end Mine
end
section
open PySem PySem.W PyProof.Rows PySem.Flt
namespace Mine

/-! sets of ints -/
noncomputable def keyOf : Value → Int
  | .int k _ => k
  | _ => 0
noncomputable def elOf (k : Int) : Int × Value := (hashInt k, .int k 0)
noncomputable def bare (e : Int × Value) : Int × Value := (e.1, .int (keyOf e.2) 0)
noncomputable def IntEls (es : List (Int × Value)) : Prop := ∀ e ∈ es, ∃ k t, e.2 = .int k t ∧ e.1 = hashInt k
/-- what is known of the table: all, where no text binds -/
noncomputable def Stk (w : World) (T : SetTable) (KS : List Int) (t : SetTable) (es : Array (Int × Value)) : Prop := w.params.followText "set-order" = true ∨ (t = T ∧ es.toList.map (fun e => keyOf e.2) = KS)
noncomputable def SetI (w : World) (l : List Int) (T : SetTable) (KS : List Int) (o : Obj) : Prop := o.ExactSet ∧ l.Nodup ∧ l.length ≤ 1000 ∧ ∃ es ep t, o.data = .set es ep t ∧ IntEls es.toList ∧ (es.toList.map fun e => keyOf e.2).Perm l ∧ t.fits es.size = true ∧ Stk w T KS t es

theorem IntEls.bare {es : Array (Int × Value)} (h : IntEls es.toList) : es.map bare = ((es.toList.map fun e => keyOf e.2).map elOf).toArray := by
  apply Array.toList_inj.mp
  rw [Array.toList_map, List.map_map]
  show es.toList.map Mine.bare = es.toList.map _
  exact List.map_congr_left fun e he => by
    obtain ⟨k, t, h1, h2⟩ := h e he
    show (e.1, Value.int (keyOf e.2) 0) = (hashInt (keyOf e.2), Value.int (keyOf e.2) 0)
    rw [h2, h1]; rfl
theorem bare_key (e : Int × Value) : keyOf (bare e).2 = keyOf e.2 := rfl
theorem bare_keys (es : Array (Int × Value)) : (es.map bare).toList.map (fun e => keyOf e.2) = es.toList.map fun e => keyOf e.2 := by
  rw [Array.toList_map, List.map_map]; rfl

theorem insertAt_nat {α β : Type} (f : α → β) (xs : Array α) (p : Nat) (x : α) : SetTable.insertAt (xs.map f) p (f x) = (SetTable.insertAt xs p x).map f := by
  unfold SetTable.insertAt
  apply Array.toList_inj.mp
  simp
theorem layNew_nat (t : SetTable) (es : Array (Int × Value)) (h k : Int) (u : Tok) : layNew t (es.map bare) h (.int k 0) = ((layNew t es h (.int k u)).1.map bare, (layNew t es h (.int k u)).2) := by
  unfold layNew
  split
  · dsimp only
    rw [show (h, Value.int k 0) = bare (h, .int k u) from rfl, insertAt_nat]
    simp
  · dsimp only
    rw [show (h, Value.int k 0) = bare (h, .int k u) from rfl]
    simp
theorem relayAll_nat (t : SetTable) (es : Array (Int × Value)) (n : Nat) : relayAll t (es.map bare) n = ((relayAll t es n).1.map bare, (relayAll t es n).2) := by
  have e1 : (es.map bare).map (·.1) = es.map (·.1) := by
    rw [Array.map_map]; rfl
  unfold relayAll
  rw [e1, Array.size_map]
  split
  · rename_i t' order h
    have e2 : order.filterMap (fun x => (es.map bare)[x]?) = (order.filterMap fun x => es[x]?).map bare := by
      apply Array.toList_inj.mp
      rw [Array.toList_filterMap, Array.toList_map, Array.toList_filterMap, List.map_filterMap]
      congr 1
      funext x
      rw [Array.getElem?_map]
    dsimp only
    rw [e2, Array.size_map]
    split <;> rfl
  · rfl

noncomputable def keysA (es : Array (Int × Value)) : List Int := es.toList.map fun e => keyOf e.2
noncomputable def addT (T : SetTable) (KS : List Int) (x : Int) : SetTable × List Int := if KS.contains x then (T, KS) else
  if (!(layNew T (KS.map elOf).toArray (hashInt x) (.int x 0)).2.2.1 && (layNew T (KS.map elOf).toArray (hashInt x) (.int x 0)).2.1.tooFull) = true then
    ((relayAll (layNew T (KS.map elOf).toArray (hashInt x) (.int x 0)).2.1 (layNew T (KS.map elOf).toArray (hashInt x) (.int x 0)).1 (SetTable.grown (layNew T (KS.map elOf).toArray (hashInt x) (.int x 0)).1.size)).2.1,
     keysA (relayAll (layNew T (KS.map elOf).toArray (hashInt x) (.int x 0)).2.1 (layNew T (KS.map elOf).toArray (hashInt x) (.int x 0)).1 (SetTable.grown (layNew T (KS.map elOf).toArray (hashInt x) (.int x 0)).1.size)).1)
  else ((layNew T (KS.map elOf).toArray (hashInt x) (.int x 0)).2.1, keysA (layNew T (KS.map elOf).toArray (hashInt x) (.int x 0)).1)
noncomputable def popT (T : SetTable) (KS : List Int) : Option (Int × SetTable × List Int) := match T.popPlace with
  | some i => match KS[i]? with
    | some x => if T.led = true ∧ T.plain = true then some (x, T.popped i, KS.eraseIdx i) else none
    | none => none
  | none => none

theorem IntEls.els {es : List (Int × Value)} (h : IntEls es) (prog : Program) (w : World) : ElemsOf (intKind prog w) es := fun e he => by
  obtain ⟨k, t, h1, h2⟩ := h e he
  exact ⟨⟨k, by rw [h1]; exact intKind_is prog w k t, h2⟩, by rw [h1]; rfl⟩
theorem isInt_key {k j : Int} {t : Tok} : Value.isInt k (.int j t) = true ↔ j = k := by simp [Value.isInt]
theorem IntEls.mem {es : List (Int × Value)} (h : IntEls es) (k : Int) : k ∈ (es.map fun e => keyOf e.2) ↔ ∃ e ∈ es, Value.isInt k e.2 = true := by
  constructor
  · intro q
    obtain ⟨e, he, q⟩ := List.mem_map.mp q
    obtain ⟨j, t, h1, _⟩ := h e he
    refine ⟨e, he, ?_⟩
    rw [h1] at q ⊢
    exact isInt_key.mpr q
  · rintro ⟨e, he, q⟩
    obtain ⟨j, t, h1, _⟩ := h e he
    rw [h1] at q
    refine List.mem_map.mpr ⟨e, he, ?_⟩
    show keyOf e.2 = k
    rw [h1]; exact isInt_key.mp q
theorem SetI.size {w : World} {l : List Int} {T : SetTable} {KS : List Int} {o : Obj} (h : SetI w l T KS o) : ∃ es ep t, o.data = .set es ep t ∧ es.size = l.length := by
  obtain ⟨_, _, _, es, ep, t, hd, _, hp, _⟩ := h
  exact ⟨es, ep, t, hd, by have := hp.length_eq; simpa using this⟩

theorem SetI.of {w : World} {l : List Int} {T : SetTable} {KS : List Int} {o : Obj} (h : SetI w l T KS o) (prog : Program) (w' : World) {hp : Heap} {a : Addr} (ho : hp.get? a = some o) : hp.SetOf (intKind prog w') a (fun k => l.contains k) l.length := by
  obtain ⟨hex, _, hl, es, ep, t, hd, hel, hpm, hf, _⟩ := h
  have hsz : es.size = l.length := by have := hpm.length_eq; simpa using this
  refine ⟨o, es, ep, t, ho, hex, hd, hel.els _ _, fun k => ?_, by rw [hsz]; exact Nat.lt_of_le_of_lt hl (by decide), hf, hsz⟩
  rw [List.contains_iff_mem, ← hpm.mem_iff]
  exact hel.mem k

section
variable {prog : Program} {w : World} {A : Around} {E : Value → Shared → Prop} {s : Shared}

theorem setI_stored {l' : List Int} {T' : SetTable} {KS' : List Int} {o : Obj} {es es' : Array (Int × Value)} {ep : Nat} {t t' : SetTable} {h : Heap} {a : Addr} (ho : h.get? a = some o) (hex : o.ExactSet) (hd : o.data = .set es ep t) (hn : l'.Nodup) (hl : l'.length ≤ 1000) (hel : IntEls es'.toList) (hp : (es'.toList.map fun e => keyOf e.2).Perm l') (hf : t'.fits es'.size = true) (hled : Stk w T' KS' t' es') :
    (h.update a (Obj.putSet es' t')).get? a = some { o with data := .set es' (ep + 1) t' } ∧ SetI w l' T' KS' { o with data := .set es' (ep + 1) t' } ∧ Heap.SameBut a h (h.update a (Obj.putSet es' t')) := by
  have hg : (h.update a (Obj.putSet es' t')).get? a = some { o with data := .set es' (ep + 1) t' } := by
    have := Heap.get?_update_self (Obj.putSet es' t') ho (by rw [putSet_of es' t' hd]; rfl)
    rw [putSet_of es' t' hd] at this; exact this
  exact ⟨hg, ⟨hex, hn, hl, es', ep + 1, t', rfl, hel, hp, hf, hled⟩, Heap.SameBut.update ..⟩

noncomputable def insI (x : Int) (l : List Int) : List Int := if l.contains x then l else x :: l

theorem setAdd_int {a : Addr} {o : Obj} {l : List Int} {T : SetTable} {KS : List Int} {x : Int} {u : Tok} {Q : Bool → Shared → Prop} (ho : s.heap.get? a = some o) (hs : SetI w l T KS o) (hl : l.length < 1000)
    (h : ∀ b h' o' tk, h'.get? a = some o' → SetI w (insI x l) (addT T KS x).1 (addT T KS x).2 o' → Heap.SameBut a s.heap h' → Q b { s with heap := h', toks := tk }) : wpAny (model prog w) A (setAdd a (.int x u)) Q E s := by
  have hs' := hs
  obtain ⟨hex, hnd, hlen, es, ep, t, hd, hel, hp, hf, hled⟩ := hs
  have hsz : es.size = l.length := by have := hp.length_eq; simpa using this
  have hb : es.size < scanBound := by rw [hsz]; exact Nat.lt_of_lt_of_le hl (by decide)
  have hE := hel.els prog w
  have hKS : w.params.followText "set-order" = true ∨ KS.contains x = l.contains x := hled.imp id fun q => by
    rw [Bool.eq_iff_iff, List.contains_iff_mem, List.contains_iff_mem, ← q.2]
    exact hp.mem_iff
  unfold setAdd setAddHashed setAddHashedIn
  refine wpAny_holding (wpAny_bind ((intKind prog w).pyHash (intKind_is prog w x u) ?_))
  refine wpAny_holding (wpAny_bind (wpAny_setState_of (s := { s with toks := s.toks + 1 }) ho hd hf ?_))
  dsimp only
  rw [byScan_of (knd := intKind prog w) (x := .int x u) rfl hb hE]
  simp only [↓reduceIte]
  unfold setAddByScan
  refine wpAny_bind (wpAny_bind (wpAny_rule (wpAny_bind (wpAny_setScan_of (knd := intKind prog w) (s := { s with toks := s.toks + 1 }) (intKind_is prog w x u) ho hd hf hE ?_))))
  cases hr : List.findIdx? (fun e => (intKind prog w).is x e.2) es.toList with
  | some j =>
    dsimp only
    obtain ⟨hj, hpj, _⟩ := List.findIdx?_eq_some_iff_getElem.mp hr
    have hm : l.contains x = true := by
      rw [List.contains_iff_mem, ← hp.mem_iff]
      exact (hel.mem x).mpr ⟨es.toList[j], List.getElem_mem hj, hpj⟩
    refine wpAny_pure (wpAny_pure (h false s.heap o _ ho ?_ (Heap.SameBut.refl a s.heap)))
    unfold insI
    rw [if_pos hm]
    refine ⟨hex, hnd, hlen, es, ep, t, hd, hel, hp, hf, ?_⟩
    rcases hKS with q | q
    · exact .inl q
    · rw [hm] at q
      unfold addT
      rw [if_pos q]; exact hled
  | none =>
    dsimp only
    have hm : l.contains x = false := by
      cases q : l.contains x with
      | false => rfl
      | true =>
        rw [List.contains_iff_mem, ← hp.mem_iff] at q
        obtain ⟨e, he, q⟩ := (hel.mem x).mp q
        have := List.findIdx?_eq_none_iff.mp hr e he
        rw [show (intKind prog w).is x e.2 = true from q] at this
        cases this
    have hm' : x ∉ l := fun q => by rw [List.contains_iff_mem.mpr q] at hm; cases hm
    have e1 : insI x l = x :: l := by unfold insI; rw [hm]; rfl
    rw [e1] at h
    have hgw : ∀ (b : Bool) {s₁ : Shared} {Q' : Unit → Shared → Prop}, Q' () s₁ → wpAny (model prog w) A (match b with | true => rule "set.scan.the-table-gave-way" | false => pure ()) Q' E s₁ :=
      fun b s₁ Q' hq => by cases b <;> first | exact wpAny_pure hq | exact wpAny_rule hq
    have p1 := layNew_perm t es ((intKind prog w).hash x) (.int x u)
    have f1 := layNew_fits t es ((intKind prog w).hash x) (.int x u)
    have st : w.params.followText "set-order" = true ∨ layNew T (KS.map elOf).toArray (hashInt x) (.int x 0) = ((layNew t es ((intKind prog w).hash x) (.int x u)).1.map bare, (layNew t es ((intKind prog w).hash x) (.int x u)).2) := hled.imp id fun q => by
      rw [← q.1, ← q.2, ← hel.bare]; exact layNew_nat t es (hashInt x) x u
    have st2 : w.params.followText "set-order" = true ∨ addT T KS x = (if (!(layNew T (KS.map elOf).toArray (hashInt x) (.int x 0)).2.2.1 && (layNew T (KS.map elOf).toArray (hashInt x) (.int x 0)).2.1.tooFull) = true then
        ((relayAll (layNew T (KS.map elOf).toArray (hashInt x) (.int x 0)).2.1 (layNew T (KS.map elOf).toArray (hashInt x) (.int x 0)).1 (SetTable.grown (layNew T (KS.map elOf).toArray (hashInt x) (.int x 0)).1.size)).2.1,
         keysA (relayAll (layNew T (KS.map elOf).toArray (hashInt x) (.int x 0)).2.1 (layNew T (KS.map elOf).toArray (hashInt x) (.int x 0)).1 (SetTable.grown (layNew T (KS.map elOf).toArray (hashInt x) (.int x 0)).1.size)).1)
      else ((layNew T (KS.map elOf).toArray (hashInt x) (.int x 0)).2.1, keysA (layNew T (KS.map elOf).toArray (hashInt x) (.int x 0)).1)) := hKS.imp id fun q => by
      unfold addT
      rw [if_neg (by rw [q, hm]; exact Bool.false_ne_true)]
    generalize layNew t es ((intKind prog w).hash x) (.int x u) = L at p1 f1 st ⊢
    obtain ⟨es1, t1, wasDummy, gave⟩ := L
    dsimp only at p1 f1 st ⊢
    rw [Array.toList_push] at p1
    have el1 : IntEls es1.toList := fun e he => by
      rcases List.mem_append.mp (p1.mem_iff.mp he) with he | he
      · exact hel e he
      · rw [List.mem_singleton] at he; subst he; exact ⟨x, u, rfl, rfl⟩
    have k1 : (es1.toList.map fun e => keyOf e.2).Perm (x :: l) := by
      refine (p1.map _).trans ?_
      rw [List.map_append]
      exact (List.perm_append_singleton _ _).trans (List.Perm.cons x hp)
    have n1 : (x :: l).Nodup := List.nodup_cons.mpr ⟨hm', hnd⟩
    have l1 : (x :: l).length ≤ 1000 := hl
    have z1 : es1.size = l.length + 1 := by have := k1.length_eq; simpa using this
    have b1 : es1.size < scanBound := by rw [z1]; exact Nat.lt_of_le_of_lt hl (by decide)
    have fin : wpAny (model prog w) A (do
        storeSet a es1 t1
        if (!wasDummy && t1.tooFull) = true then do
            (match (relayAll t1 es1 (SetTable.grown es1.size)).2.2 with | true => rule "set.scan.the-table-gave-way" | false => pure ())
            storeSet a (relayAll t1 es1 (SetTable.grown es1.size)).1 (relayAll t1 es1 (SetTable.grown es1.size)).2.1
            pure (some true)
          else pure (some true)) (fun r s' => ∃ h' o', r = some true ∧ s' = { s with heap := h', toks := s.toks + 1 } ∧ h'.get? a = some o' ∧ SetI w (x :: l) (addT T KS x).1 (addT T KS x).2 o' ∧ Heap.SameBut a s.heap h') E { s with toks := s.toks + 1 } := by
      refine wpAny_bind (wpAny_storeSet_of (s := { s with toks := s.toks + 1 }) ho hd ?_ (fits_of_scanBound b1))
      split
      · rename_i hfull
        have p2 := relayAll_perm t1 es1 (SetTable.grown es1.size)
        have f3 := relayAll_fits t1 es1 (SetTable.grown es1.size)
        have st3 : Stk w (addT T KS x).1 (addT T KS x).2 (relayAll t1 es1 (SetTable.grown es1.size)).2.1 (relayAll t1 es1 (SetTable.grown es1.size)).1 := by
          rcases st with q | q
          · exact .inl q
          · rcases st2 with q2 | q2
            · exact .inl q2
            · rw [q] at q2
              dsimp only at q2
              rw [if_pos hfull, Array.size_map, relayAll_nat] at q2
              rw [q2]
              exact .inr ⟨rfl, by unfold keysA; rw [bare_keys]⟩
        obtain ⟨g1, g2, g3⟩ := setI_stored (w := w) (T' := t1) (KS' := keysA es1) ho hex hd n1 l1 el1 k1 f1 (.inr ⟨rfl, rfl⟩)
        generalize relayAll t1 es1 (SetTable.grown es1.size) = L at p2 f3 st3 ⊢
        obtain ⟨es2, t3, gave2⟩ := L
        dsimp only at p2 f3 st3 ⊢
        have z2 : es2.size = es1.size := by have := p2.length_eq; simpa using this
        refine wpAny_bind (hgw _ ?_)
        refine wpAny_bind (wpAny_storeSet_of g1 rfl ?_ (fits_of_scanBound (by rw [z2]; exact b1)))
        obtain ⟨g4, g5, g6⟩ := setI_stored (w := w) (es' := es2) (t' := t3) g1 hex rfl n1 l1 (fun e he => el1 e (p2.mem_iff.mp he)) ((p2.map _).trans k1) f3 st3
        exact wpAny_pure ⟨_, _, rfl, rfl, g4, g5, g3.trans g6⟩
      · rename_i hfull
        have st3 : Stk w (addT T KS x).1 (addT T KS x).2 t1 es1 := by
          rcases st with q | q
          · exact .inl q
          · rcases st2 with q2 | q2
            · exact .inl q2
            · rw [q] at q2
              dsimp only at q2
              rw [if_neg hfull] at q2
              rw [q2]
              exact .inr ⟨rfl, by unfold keysA; rw [bare_keys]⟩
        obtain ⟨g1, g2, g3⟩ := setI_stored (w := w) ho hex hd n1 l1 el1 k1 f1 st3
        exact wpAny_pure ⟨_, _, rfl, rfl, g1, g2, g3⟩
    refine wpAny_bind (hgw _ ?_)
    split
    · refine wpAny_bind ?_
      rw [hashByValue_scannable 8 (x := .int x u) rfl]
      refine wpAny_pure ?_
      refine wpAny_mono fin (fun r s' q => ?_) fun _ _ e => e
      obtain ⟨h', o', rfl, rfl, q1, q2, q3⟩ := q
      exact wpAny_pure (h true h' o' _ q1 q2 q3)
    · refine wpAny_bind (wpAny_pure ?_)
      simp only [↓reduceIte]
      refine wpAny_mono fin (fun r s' q => ?_) fun _ _ e => e
      obtain ⟨h', o', rfl, rfl, q1, q2, q3⟩ := q
      exact wpAny_pure (h true h' o' _ q1 q2 q3)

theorem eraseAt_list {α : Type} (xs : Array α) (i : Nat) : (SetTable.eraseAt xs i).toList = xs.toList.eraseIdx i := by
  unfold SetTable.eraseAt
  rw [List.eraseIdx_eq_take_drop_succ]
  simp
  exact List.take_of_length_le (by simp)
theorem eraseIdx_perm {α : Type} (l : List α) (i : Nat) (hi : i < l.length) : (l[i] :: l.eraseIdx i).Perm l := by
  rw [List.eraseIdx_eq_take_drop_succ]
  refine List.perm_middle.symm.trans ?_
  rw [List.getElem_cons_drop, List.take_append_drop]
theorem map_eraseIdx {α β : Type} (f : α → β) (l : List α) (i : Nat) : (l.eraseIdx i).map f = (l.map f).eraseIdx i := by
  rw [List.eraseIdx_eq_take_drop_succ, List.eraseIdx_eq_take_drop_succ, List.map_append, List.map_take, List.map_drop]
theorem insertAt_size {α : Type} (xs : Array α) (p : Nat) (x : α) : (SetTable.insertAt xs p x).size ≤ xs.size + 1 := by
  unfold SetTable.insertAt
  simp only [Array.size_append, Array.size_push, Array.size_extract]; omega
theorem popped_fits {t : SetTable} {n i : Nat} (hf : t.fits n = true) (hi : i < n) : (t.popped i).fits (n - 1) = true := by
  unfold SetTable.fits SetTable.fill at hf
  simp only [Bool.and_eq_true, beq_iff_eq, decide_eq_true_eq] at hf
  have hi' : i < t.place.size := by omega
  unfold SetTable.popped SetTable.drop
  rw [Array.getElem?_eq_getElem hi']
  unfold SetTable.fits SetTable.fill
  simp only [Bool.and_eq_true, beq_iff_eq, decide_eq_true_eq]
  have e1 : (SetTable.eraseAt t.place i).size = t.place.size - 1 := by
    rw [← Array.length_toList, eraseAt_list, List.length_eraseIdx, if_pos (by simpa using hi')]; simp
  have e2 := insertAt_size t.dummies (SetTable.below t.dummies t.place[i]) t.place[i]
  omega
theorem wpAny_choose {α : Type} {src : Source} {n : Nat} {f : Nat → Sem α} {Q : α → Shared → Prop} (hn : n ≠ 0) (h : ∀ i dr, i < n → wpAny (model prog w) A (f i) Q E { s with drawn := dr }) : wpAny (model prog w) A (choose src n >>= f) Q E s := fun Γ p hΓ => by
  show Sem.wp _ _ (Sem.choose src n pure >>= f) _ _ _ _
  rw [Sem.wp_bind', Sem.wp_choose]
  exact ⟨hn, h _ _ (Nat.mod_lt _ (Nat.pos_of_ne_zero hn)) Γ p hΓ⟩

theorem setPop_int {a : Addr} {o : Obj} {l : List Int} {T : SetTable} {KS : List Int} {Q : Option Value → Shared → Prop} (ho : s.heap.get? a = some o) (hs : SetI w l T KS o) (hne : l ≠ []) (hT : w.params.followText "set-order" = true ∨ (popT T KS).isSome = true)
    (h : ∀ x u h' o' dr T' KS', x ∈ l → (w.params.followText "set-order" = true ∧ T' = T ∧ KS' = KS) ∨ (w.params.followText "set-order" = false ∧ popT T KS = some (x, T', KS')) → h'.get? a = some o' → SetI w (l.erase x) T' KS' o' → Heap.SameBut a s.heap h' → Q (some (.int x u)) { s with heap := h', drawn := dr }) : wpAny (model prog w) A (setPop a) Q E s := by
  obtain ⟨hex, hnd, hlen, es, ep, t, hd, hel, hp, hf, hled⟩ := hs
  have hsz : es.size = l.length := by have := hp.length_eq; simpa using this
  have hpos : 0 < es.size := by rw [hsz]; exact List.length_pos_iff.mpr hne
  have hpl : t.place.size = es.size := by
    unfold SetTable.fits at hf
    simp only [Bool.and_eq_true, beq_iff_eq] at hf
    exact hf.1
  have hfin : ∃ i, t.popPlace = some i ∧ i < es.size := by
    unfold SetTable.popPlace
    rw [if_neg (by rw [Array.isEmpty_iff_size_eq_zero]; omega)]
    refine ⟨_, rfl, ?_⟩
    split <;> omega
  obtain ⟨i₀, hi₀, hlt₀⟩ := hfin
  have fin : ∀ i, i < es.size → (∀ T' KS', Stk w T' KS' (t.popped i) (SetTable.eraseAt es i) → ∃ y k u o', es[i]? = some (y, .int k u) ∧ k ∈ l ∧ (s.heap.update a (Obj.putSet (SetTable.eraseAt es i) (t.popped i))).get? a = some o' ∧ SetI w (l.erase k) T' KS' o' ∧ Heap.SameBut a s.heap (s.heap.update a (Obj.putSet (SetTable.eraseAt es i) (t.popped i))) ∧ (SetTable.eraseAt es i).size ≤ sizeLine) := fun i hi T' KS' st' => by
    have hx : es[i]? = some es[i] := Array.getElem?_eq_getElem hi
    have hmem : es[i] ∈ es.toList := by simp
    obtain ⟨k, u, h1, h2⟩ := hel _ hmem
    have hi' : i < es.toList.length := by simpa using hi
    have hkl : ((es.toList.eraseIdx i).map fun e => keyOf e.2).Perm (l.erase k) := by
      have q := (eraseIdx_perm es.toList i hi').map fun e => keyOf e.2
      rw [List.map_cons] at q
      have q2 := q.trans hp
      have e : keyOf (es.toList[i]'hi').2 = k := by
        rw [Array.getElem_toList, h1]; rfl
      rw [e] at q2
      exact (List.cons_perm_iff_perm_erase.mp q2).2
    have hkm : k ∈ l := by
      rw [← hp.mem_iff]
      refine List.mem_map.mpr ⟨es[i], hmem, ?_⟩
      show keyOf es[i].2 = k
      rw [h1]; rfl
    have esz : (SetTable.eraseAt es i).size = es.size - 1 := by
      rw [← Array.length_toList, eraseAt_list, List.length_eraseIdx, if_pos hi']; simp
    obtain ⟨g1, g2, g3⟩ := setI_stored (w := w) (l' := l.erase k) (es' := SetTable.eraseAt es i) (t' := t.popped i) ho hex hd (hnd.erase k) (Nat.le_trans (List.length_erase_le ..) hlen) (fun e he => hel e (by rw [eraseAt_list] at he; exact List.mem_of_mem_eraseIdx he)) (by rw [eraseAt_list]; exact hkl) (by rw [esz]; exact popped_fits hf hi) st'
    exact ⟨es[i].1, k, u, _, by rw [hx, ← h1], hkm, g1, g2, g3, by rw [esz, hsz]; exact Nat.le_trans (Nat.sub_le _ _) (Nat.le_trans hlen (by decide))⟩
  have text : w.params.followText "set-order" = true → ∀ i dr, i < es.size → wpAny (model prog w) A (match es[i]? with
      | some (_, x) => do storeSet a (SetTable.eraseAt es i) (t.popped i); pure (some x)
      | _ => unsupported "internal:set.pop") Q E { s with drawn := dr } := fun ht i dr hi => by
    obtain ⟨y, k, u, o', e1, e2, e3, e4, e5, e6⟩ := fin i hi T KS (.inl ht)
    rw [e1]
    exact wpAny_bind (wpAny_storeSet_of (s := { s with drawn := dr }) ho hd (wpAny_pure (h k u _ o' dr T KS e2 (.inl ⟨ht, rfl, rfl⟩) e3 e4 e5)) e6)
  unfold setPop
  refine wpAny_bind (wpAny_setState_of ho hd hf ?_)
  dsimp only
  rw [hi₀]
  dsimp only
  unfold setsByText
  refine wpAny_bind (wpAny_bind (wpAny_askSetting (wpAny_pure ?_)))
  dsimp only
  cases htx : w.params.followText "set-order" with
  | true =>
    rw [if_pos (by show (w.params.followText "set-order" || _) = true; rw [htx]; rfl)]
    exact wpAny_choose (by omega) fun i dr hi => text htx i dr hi
  | false =>
    rcases hled with q | ⟨q1, q2⟩
    · rw [htx] at q; cases q
    · rcases hT with q | hT
      · rw [htx] at q; cases q
      · have hk0 : KS[i₀]? = some (keyOf es[i₀].2) := by
          rw [← q2, List.getElem?_map, Array.getElem?_toList, Array.getElem?_eq_getElem hlt₀]; rfl
        have hpt : T.led = true ∧ T.plain = true ∧ popT T KS = some (keyOf es[i₀].2, T.popped i₀, KS.eraseIdx i₀) := by
          subst q1
          unfold popT at hT ⊢
          rw [hi₀] at hT ⊢
          dsimp only at hT ⊢
          rw [hk0] at hT ⊢
          dsimp only at hT ⊢
          split at hT
          · rename_i q; rw [if_pos q]; exact ⟨q.1, q.2, rfl⟩
          · cases hT
        obtain ⟨hl1, hl2, hpt⟩ := hpt
        have hplain : t.plain = true := by rw [q1]; exact hl2
        have hldd : t.led = true := by rw [q1]; exact hl1
        rw [if_neg (by
          show ¬ (w.params.followText "set-order" || (!t.plain && decide (es.size > 1))) = true
          rw [htx, hplain]; simp)]
        refine wpAny_bind (m := (if (!t.led && decide (es.size > 1)) = true then unsupported "set:maker-not-led" else pure ())) ?_
        rw [hldd]
        obtain ⟨y, k, u, o', e1, e2, e3, e4, e5, e6⟩ := fin i₀ hlt₀ (T.popped i₀) (KS.eraseIdx i₀) (.inr ⟨by rw [q1], by rw [eraseAt_list, ← q2]; exact map_eraseIdx _ _ _⟩)
        have hk : keyOf es[i₀].2 = k := by
          rw [Array.getElem?_eq_getElem hlt₀] at e1
          rw [Option.some.inj e1]; rfl
        rw [hk] at hpt
        refine wpAny_pure ?_
        refine wpAny_bind (wpAny_pure ?_)
        rw [e1]
        dsimp only
        exact wpAny_bind (wpAny_storeSet_of ho hd (wpAny_pure (h k u _ o' s.drawn _ _ e2 (.inr ⟨htx, hpt⟩) e3 e4 e5)) e6)
end
end Mine
end
section
open PySem PySem.W PyProof.Rows PySem.Flt
namespace Mine

section
variable {prog : Program} {w : World} {K : Frag} {k : Nat} {sc : Scope} {ρ : Loc}

theorem isDct {Z : Zn} {h : Heap} {l : List (Int × Int)} {v : Value} (hz : ∀ a o, Z a = some o → h.get? a = some o) (hv : Has Z (.dct l) v) : ∃ a f, v = .ref a ∧ h.IntMap a f ∧ ∀ k x, l.lookup k = some x → ∃ t, f k = some (.int x t) := by
  unfold Has at hv
  obtain ⟨a, o, es, ep, rfl, z, c, d, hk, hf⟩ := hv
  exact ⟨a, _, rfl, ⟨o, es, ep, hz _ _ z, c, d, hk, fun _ => rfl⟩, hf⟩

theorem evItemD {value slice : Expr} {pos : Pos} {l : List (Int × Int)} {n x : Int} (hc : EvS prog w K k sc ρ value (.dct l)) (hi : EvS prog w K k sc ρ slice (.int n)) (h : l.lookup n = some x) (hs : notSlice slice = true) : EvS prog w K k sc ρ (.Subscript value slice pos) (.int x) := by
  intro env O A hB m Z own s Q E R W S ro P
  refine Subscript_ (hc env O A hB m Z own s _ E R W S ro fun vc Z₁ h₁ tk₁ z₁ S₁ hvc => ?_)
  refine hi env O A hB m Z₁ own _ _ E R W S₁ (ro.mono z₁.1) fun vi Z₂ h₂ tk₂ z₂ S₂ hvi => ?_
  obtain ⟨t, rfl⟩ := has_int hvi
  obtain ⟨a, f, rfl, hm, hf⟩ := isDct S₂.zin (hvc.mono z₂.1)
  obtain ⟨u, hu⟩ := hf n x h
  exact tail_any (s := { s with heap := h₂, toks := tk₂.1, drawn := tk₂.2 }) hm.typeIs slot_dict_getitem.lookup (wpAny_getItem_intMap hm hu (P _ Z₂ h₂ (tk₂.1 + 1, tk₂.2) (z₁.tr z₂) S₂ (mkI _ _))) (subscripted_of hs _ _)

/-- b = n = nt = v -/
theorem coAssign3 {x y z : Str} {p1 p2 p3 p : Pos} {e : Expr} {d : D} (h : EvS prog w K k sc ρ e d) (hx : isVar sc x = true) (hy : isVar sc y = true) (hz : isVar sc z = true)
    (hw : ∀ env, EnvOk env sc → swappedStores [.Name x p1, .Name y p2, .Name z p3] e env = pure none) : Co prog w K k sc ρ (.Assign [.Name x p1, .Name y p2, .Name z p3] e p) (.go (setL (setL (setL ρ x (.val d)) y (.val d)) z (.val d))) :=
  fun env O A hB m Z own hid s Q E R W S ro P => by
  refine wpAny_Assign_three (h env O A hB m Z (own ++ hid) s _ E R W S ro.weak fun v Z₁ h₁ tk₁ z₁ S₁ hv => ?_) rfl (hw env O)
  refine wpAny_assign_Name (storeV O hx S₁ (ro.mono z₁.1) hv fun h₂ tk₂ n₂ S₂ ro₂ => ?_)
  refine wpAny_assign_Name (storeV O hy S₂ ro₂ hv fun h₃ tk₃ n₃ S₃ ro₃ => ?_)
  refine wpAny_assign_Name (storeV O hz S₃ ro₃ hv fun h₄ tk₄ n₄ S₄ ro₄ => ?_)
  exact P _ Z₁ own h₄ tk₄ z₁ S₄ ro₄
end
end Mine
end
section
open PySem PySem.W PyProof.Rows PySem.Flt
namespace Mine

theorem noBool_set' : typeLookup (.type "set") "__bool__" = pure none := by rw [typeLookup_type, builtinLookup_eq_fast]; kernel_rfl

section
variable {prog : Program} {w : World} {A : Around} {E : Value → Shared → Prop} {s : Shared}

theorem truthy_set {a : Addr} {o : Obj} {l : List Int} {T : SetTable} {KS : List Int} {Q : Bool → Shared → Prop} (ho : s.heap.get? a = some o) (hs : SetI w l T KS o) (h : Q (!l.isEmpty) { s with toks := s.toks + 1 + 1 }) : wpAny (model prog w) A (truthy (.ref a)) Q E s := by
  obtain ⟨hex, hnd, hlen, es, ep, t, hd, hel, hp, hf, _⟩ := hs
  have hsz : es.size = l.length := by have := hp.length_eq; simpa using this
  have hT : s.TypeIs (.ref a) "set" := ⟨o, ho, hex.1⟩
  have hne : ((es.size : Int) != 0) = !l.isEmpty := by rw [hsz]; cases l <;> simp <;> omega
  have key : wpAny (model prog w) A (runValue (.builtin "len" ⟨[.ref a], []⟩)) (fun r s' => r = .int es.size (s.toks + 1) ∧ Q (!l.isEmpty) s') E s := by
    refine wpAny_runValue (codeAny_builtin entry_len ?_)
    rw [Around.under_plainId plain_len _]
    exact wpAny_mono (wpAny_len_body_set (Q := fun r s' => r = .int es.size (s.toks + 1) ∧ Q (!l.isEmpty) s') ho hex hd hf (by omega) ⟨rfl, h⟩)
      (fun fin s' h' => by obtain ⟨r, rfl, hq⟩ := h'; exact hq) fun _ _ e => e
  unfold truthy
  first
    | refine wpAny_bind (wpAny_callSpecial?_none (name := Str.ofString "__bool__") hT noBool_set' ?_)
    | refine wpAny_bind (wpAny_pure (wpAny_bind (wpAny_callSpecial?_none (name := Str.ofString "__bool__") hT noBool_set' ?_)))
  first
    | refine wpAny_bind (wpAny_specialOf (name := Str.ofString "__len__") hT F.slot_set_len.lookup ?_)
    | refine wpAny_bind (wpAny_pure (wpAny_bind (wpAny_specialOf (name := Str.ofString "__len__") hT F.slot_set_len.lookup ?_)))
  first
    | exact wpAny_bind (wpAny_mono key (fun r s' h' => by obtain ⟨rfl, hq⟩ := h'; exact wpAny_pure (hne ▸ hq)) fun _ _ e => e)
    | exact wpAny_bind (wpAny_pure (wpAny_bind (wpAny_mono key (fun r s' h' => by obtain ⟨rfl, hq⟩ := h'; exact wpAny_pure (hne ▸ hq)) fun _ _ e => e)))

/-- a set that is new, with its table told -/
theorem code_set_new_led {Q₁ : Value → Shared → Prop} (h : Q₁ (.ref s.heap.objs.size) { s with heap := s.heap.push { cls := .type "set", dict := none, data := .set #[] 0 (.fresh 0 0 (!w.params.followText "set-order")) } }) :
    codeAny (model prog w) A (.call (.builtin "set.__new__") ⟨[.type "set"], []⟩) (wants Q₁ E) s := by
  refine codeAny_of_tree ?_
  show wpAny _ A.in1 (do checkBuiltinCall "set.__new__" ⟨[.type "set"], []⟩; again (.builtin "set.__new__" ⟨[.type "set"], []⟩)) _ _ s
  refine wpAny_bind (wpAny_of_eq F.newCall_set_0 (wpAny_pure ⟨plainId_quiet F.plain_set_new _, codeAny_builtin F.entry_set_new ?_⟩))
  rw [Around.under_plainId F.plain_set_new _]
  unfold Builtin.«set.__new__» Builtin.Frozenset.newClass
  have hsub := sub_set_self
  obtain ⟨hp, g, d, tk, os⟩ := s
  dsimp only
  wp_walk
  refine wpAny_askSetting (wpAny_pure ?_)
  dsimp only
  simp only [newObj]
  exact wpAny_bind (wpAny_alloc (wpAny_pure (wpAny_pure h)))

noncomputable def set0 (w : World) : Obj := { cls := .type "set", dict := none, data := .set #[] 0 (.fresh 0 0 (!w.params.followText "set-order")) }
theorem setI_0 : SetI w [] (.fresh 0 0 true) [] (set0 w) := by
  refine ⟨⟨rfl, rfl, rfl⟩, List.nodup_nil, Nat.zero_le _, #[], 0, .fresh 0 0 (!w.params.followText "set-order"), rfl, by intro e he; simp at he, List.Perm.nil, by rfl, ?_⟩
  cases q : w.params.followText "set-order" with
  | true => exact .inl q
  | false => exact .inr ⟨by simp, rfl⟩

set_option maxHeartbeats 1000000 in
theorem call_set_led {Q : Value → Shared → Prop} (h : Q (.ref s.heap.objs.size) { s with heap := s.heap.push (set0 w) }) : wpAny (model prog w) A (call (.type "set") []) Q E s := by
  obtain ⟨c, tl, hmro⟩ := F.called_set.mro
  have hmade := F.called_set.made
  have hsub := F.called_set.sub
  refine wpAny_call (codeAny_of_tree ?_)
  show wpAny _ _ (callAny (.type "set") _) _ _ _
  refine wpAny_pure ⟨Code.quiet_builtin _ (by decide +kernel), codeAny_builtin F.entry_type_call ?_⟩
  rw [Around.under_plain (weight_type_call_type "set" [] []) rfl]
  have h1 := F.called_set.notType
  have h2 := F.called_set.canCreate
  have hct := F.typeCall_set_0
  repeat (any_goals (first | assumption | wp_step))
  refine codeAny_mono (code_set_new_led (E := E) (Q₁ := fun obj s₁ => obj = .ref s.heap.objs.size ∧ s₁ = { s with heap := s.heap.push (set0 w) }) ⟨rfl, rfl⟩) fun r s₁ hr => ?_
  cases r with
  | error e => exact hr
  | ok fl =>
    cases fl with
    | ret obj =>
      obtain ⟨rfl, rfl⟩ := hr
      have hS : (s.heap.push (set0 w)).get? s.heap.objs.size = some (set0 w) := Heap.get?_push_size _ rfl
      have hT : Shared.TypeIs { s with heap := s.heap.push (set0 w) } (.ref s.heap.objs.size) "set" := ⟨_, hS, rfl⟩
      have hli := F.called_set.init.lookup
      have hbi := F.called_set.init.bind (.ref s.heap.objs.size)
      repeat (any_goals (first | assumption | wp_step))
      refine codeAny_mono (codeAny_call_builtin (R := wants (fun r s₂ => r = .none ∧ Q (.ref s.heap.objs.size) s₂) E) F.called_set.init.plain F.entry_set_init (check_set_init hT ?_)) fun r₂ s₂ hr₂ => ?_
      · unfold Builtin.«set.__init__» noKeywords set0
        wp_walk
        exact ⟨rfl, h⟩
      · cases r₂ with
        | error e => exact hr₂
        | ok fl₂ =>
          cases fl₂ with
          | ret r =>
            obtain ⟨rfl, hq⟩ := hr₂
            repeat (any_goals (first | assumption | wp_step))
          | _ => exact hr₂.elim
    | _ => exact hr.elim
end
end Mine
end
section
open PySem PySem.W PyProof.Rows PySem.Flt
namespace Mine

/-- a set of ints of one's own -/
noncomputable def setV (w : World) (l : List Int) (T : SetTable) (KS : List Int) : Vr := .raw (SetI w l T KS)

section
variable {prog : Program} {w : World} {K : Frag} {k : Nat} {sc : Scope} {ρ : Loc}

theorem LocOk.getS {lo : Nat} {m : Str → Option Value} {Z : Zn} {own : List (Addr × Obj)} (R : LocOk lo m Z own ρ) {x : Str} {l : List Int} {T : SetTable} {KS : List Int} (h : ρ.lookup x = some (setV w l T KS)) : ∃ a ob, m x = some (.ref a) ∧ (a, ob) ∈ own ∧ SetI w l T KS ob := R.o x _ h rfl

theorem evInSet {x : Str} {e : Expr} {px pos : Pos} {l : List Int} {T : SetTable} {KS : List Int} {v : Int} (hx : isAny sc x = true) (hl : ρ.lookup x = some (setV w l T KS)) (he : EvS prog w K k sc ρ e (.int v)) : EvB prog w K k sc ρ (.Compare e [.In] [.Name x px] pos) (l.contains v) := by
  intro env O A hB m Z own s Q E R W S ro P
  refine wpAny_isTrue_Compare1 (he env O A hB m Z own s _ E R W S ro fun va Z₁ h₁ tk₁ z₁ S₁ ha => ?_) rfl
  obtain ⟨a, ob, hm, ho, hs⟩ := ro.getS hl
  refine name_ok (s := { s with heap := h₁, toks := tk₁.1, drawn := tk₁.2 }) O hx S₁ hm ?_
  obtain ⟨t, rfl⟩ := has_int ha
  refine wpAny_inSet_of (knd := intKind prog w) (intKind_is prog w v t) rfl (hs.of prog w (S₁.oin _ ho)) ?_
  exact wpAny_truthy_bool (P Z₁ h₁ (tk₁.1 + 1, tk₁.2) z₁ S₁)
theorem evNotInSet {x : Str} {e : Expr} {px pos : Pos} {l : List Int} {T : SetTable} {KS : List Int} {v : Int} (hx : isAny sc x = true) (hl : ρ.lookup x = some (setV w l T KS)) (he : EvS prog w K k sc ρ e (.int v)) : EvB prog w K k sc ρ (.Compare e [.NotIn] [.Name x px] pos) (!l.contains v) := by
  intro env O A hB m Z own s Q E R W S ro P
  refine wpAny_isTrue_Compare1 (he env O A hB m Z own s _ E R W S ro fun va Z₁ h₁ tk₁ z₁ S₁ ha => ?_) rfl
  obtain ⟨a, ob, hm, ho, hs⟩ := ro.getS hl
  refine name_ok (s := { s with heap := h₁, toks := tk₁.1, drawn := tk₁.2 }) O hx S₁ hm ?_
  obtain ⟨t, rfl⟩ := has_int ha
  refine wpAny_notInSet_of (knd := intKind prog w) (intKind_is prog w v t) rfl (hs.of prog w (S₁.oin _ ho)) ?_
  exact wpAny_truthy_bool (P Z₁ h₁ (tk₁.1 + 1, tk₁.2) z₁ S₁)
theorem evTruSet {x : Str} {px : Pos} {l : List Int} {T : SetTable} {KS : List Int} (hx : isAny sc x = true) (hl : ρ.lookup x = some (setV w l T KS)) : EvB prog w K k sc ρ (.Name x px) (!l.isEmpty) := by
  intro env O A hB m Z own s Q E R W S ro P
  obtain ⟨a, ob, hm, ho, hs⟩ := ro.getS hl
  refine isTrue_plain (name_ok O hx S hm ?_) (isTrue_of_plainB rfl)
  exact truthy_set (S.oin _ ho) hs (P Z s.heap (s.toks + 1 + 1, s.drawn) (ZLe.refl _ _) S)

theorem coNewSet {x : Str} {p' p p2 np : Pos} (hk : sc.names.lookup ("set" : Str) = some .globalImplicit) (hv : glob K ("set" : Str) = some (.type "set")) (hx : isVar sc x = true) (hs : ∀ env, EnvOk env sc → swapsWith (.Call (.Name ("set" : Str) np) [] [] p2) (some (.Name x p')) p.line env = pure false) :
    Co prog w K k sc ρ (.Assign [.Name x p'] (.Call (.Name ("set" : Str) np) [] [] p2) p) (.go (setL ρ x (setV w [] (.fresh 0 0 true) []))) :=
  fun env O A hB m Z own hid s Q E R W S ro P => by
  refine wpAny_Assign_Name ?_ (hs env O)
  refine wpAny_Call_NameR (evGlob O W S.keep hk hv ?_)
  refine callWith_of (P := K.In) rfl (keep_type "set") (PySem.evalArgs_none ⟨W.k.keeps S.keep, ?_⟩)
  refine call_set_led ?_
  exact storeO O hx (S.push _) (S.free_new (Nat.le_refl _)) (Heap.get?_push_size _ rfl) S.leB ro (r := setV w [] (.fresh 0 0 true) []) setI_0 rfl fun h₂ tk₂ S₂ ro₂ => P _ Z _ h₂ tk₂ (ZLe.refl _ _) S₂ ro₂

/-- an own set changes -/
theorem set_changed {hB : Heap} {env : Env} {m : Str → Option Value} {Z : Zn} {own hid : List (Addr × Obj)} {h h' : Heap} {x : Str} {a : Addr} {ob ob' : Obj} {l l' : List Int} {T T' : SetTable} {KS KS' : List Int} (S : St hB env m Z (own ++ hid) h) (ro : LocOk hB.objs.size m Z own ρ) (hl : ρ.lookup x = some (setV w l T KS)) (hm : m x = some (.ref a)) (ha : (a, ob) ∈ own)
    (hn : h'.get? a = some ob') (hs : SetI w l' T' KS' ob') (hb : Heap.SameBut a h h') : St hB env m Z (updO own a ob' ++ hid) h' ∧ LocOk hB.objs.size m Z (updO own a ob') (setL ρ x (setV w l' T' KS')) := by
  have S₃ := S.setOwn (List.mem_append_left _ ha) hn fun b o q e => (hb.2 b q).trans e
  rw [updO_append, updO_id (not_hid S ha)] at S₃
  exact ⟨S₃, ro.setOwn hl rfl hm ha (r' := setV w l' T' KS') hs rfl id⟩

theorem coSetAdd {x : Str} {p0 p1 p2 p3 : Pos} {e : Expr} {l : List Int} {T : SetTable} {KS : List Int} {v : Int} (hx : isAny sc x = true) (hl : ρ.lookup x = some (setV w l T KS)) (hz : l.length < 1000) (hn : noStar e = true) (hp : (p1.endLine == p2.line) = true)
    (hs : ∀ env, swapsWith (.Call (.Attribute (.Name x p0) ("add" : Str) p1) [e] [] p2) none p3.line env = pure false) (hb : ∀ env, attributeBase (.Name x p0) (Str.ofString "add") env (eval (.Name x p0) env) = eval (.Name x p0) env) (he : EvS prog w K k sc ρ e (.int v)) :
    Co prog w K k sc ρ (.Expr (.Call (.Attribute (.Name x p0) ("add" : Str) p1) [e] [] p2) p3) (.go (setL ρ x (setV w (insI v l) (addT T KS v).1 (addT T KS v).2))) :=
  fun env O A hB m Z own hid s Q E R W S ro P => by
  have L : EvL prog w K k sc ρ [e] [.int v] := .cons hn he .nil
  have hpl := L.plain p2 env
  have hfew : ((backTo p2 (starEach [e] env)).all (fun x => !x.1) && (backToKw p2 (keywordEach [] env)).all (fun x => x.1.isSome) && decide ([e].length + ([] : List Keyword).length + (if ([] : List Keyword).isEmpty then 0 else 1) < 30)) = true := by
    rw [meth_all hpl]; rfl
  obtain ⟨a, ob, hm, ha, hset⟩ := ro.getS hl
  have ho := S.oin _ (List.mem_append_left hid ha)
  have hT : s.TypeIs (.ref a) "set" := ⟨ob, ho, hset.1.1⟩
  refine wpAny_Expr_any (wpAny_Call_method (T := "set") (id := "set.add") (hb env) hfew hp F.plainAttrs_set F.slot_set_add F.type_set_add (name_ok O hx S hm ?_)) (by unfold interactive; rw [O.kind]; rfl) (hs env)
  refine ⟨hT, fun y e => by cases e; exact ⟨ob, ho, hset.1.2.1⟩, callWith_of (P := K.In) (by rw [hpl]; rfl) (keep_builtin "set.add") ?_⟩
  have q := L.spliced p2 env O A hB m Z (own ++ hid) s
  dsimp only at q
  rw [starEach_cons hn] at q ⊢
  refine Calls.evalArgs_plain (q _ E R W S ro.weak fun vs Z₁ h₁ tk₁ z₁ S₁ hvs => ⟨W.k.keeps S₁.keep, ?_⟩)
  obtain ⟨u, rfl, hu⟩ := has1 hvs
  obtain ⟨t, rfl⟩ := has_int hu
  have ho₁ := S₁.oin _ (List.mem_append_left hid ha)
  have hT₁ : Shared.TypeIs { s with heap := h₁, toks := tk₁.1, drawn := tk₁.2 } (.ref a) "set" := ⟨ob, ho₁, hset.1.1⟩
  show wpAny (model prog w) A (call (.builtin "set.add") [.ref a, .int v t]) _ E { s with heap := h₁, toks := tk₁.1, drawn := tk₁.2 }
  refine wpAny_call_entry F.slot_set_add hT₁ F.entry_set_add ?_ (F.args_set_add_2 _ _)
  unfold Builtin.«set.add» Builtin.Frozenset.oneOther
  simp only [List.isEmpty_nil, bind_assoc]
  unfold Builtin.Frozenset.addrOf
  refine wpAny_bind (wpAny_pure ?_)
  try dsimp only
  refine wpAny_bind (wpAny_pure ?_)
  try dsimp only
  refine wpAny_bind (setAdd_int (s := { s with heap := h₁, toks := tk₁.1, drawn := tk₁.2 }) ho₁ hset hz fun b h' o' tk g1 g2 g3 => ?_)
  obtain ⟨S₃, ro₃⟩ := set_changed S₁ (ro.mono z₁.1) hl hm ha g1 g2 g3
  exact wpAny_pure ⟨_, rfl, P m Z₁ _ h' (tk, tk₁.2) z₁ S₃ ro₃⟩
end
end Mine
end
section
open PySem PySem.W PyProof.Rows PySem.Flt
set_option maxHeartbeats 1000000
namespace Mine

section
variable {prog : Program} {w : World} {A : Around} {E : Value → Shared → Prop} {s : Shared}

theorem newSet_led {Q : Value → Shared → Prop} (h : Q (.ref s.heap.objs.size) { s with heap := s.heap.push (set0 w) }) : wpAny (model prog w) A (newSet (.type "set")) Q E s := by
  unfold newSet setsByText
  refine wpAny_bind (wpAny_bind (wpAny_askSetting (wpAny_pure ?_)))
  dsimp only
  simp only [newObj]
  exact wpAny_bind (wpAny_alloc (wpAny_pure h))

/-- a display of one element -/
theorem display1 {b : Bool} {t : Sem Value} {Q : Value → Shared → Prop}
    (h : wpAny (model prog w) A t (fun v s' => wpAny (model prog w) A (setAdd s.heap.objs.size v) (fun _ s'' => Q (.ref s.heap.objs.size) s'') E s') E { s with heap := s.heap.push (set0 w) }) :
    wpAny (model prog w) A (setDisplay .oneByOne b [(false, t)]) Q E s := by
  unfold setDisplay
  try dsimp only
  rw [if_neg (by decide)]
  refine wpAny_bind (newSet_led ?_)
  dsimp only
  refine wpAny_bind (wpAny_holding ?_)
  show wpAny _ _ (evalAll [t] >>= _) _ _ _
  refine wpAny_bind (wpAny_mono (show wpAny (model prog w) A (evalAll [t]) (fun vs s' => KdsFill (model prog w) A E false s.heap.objs.size Q vs s') E _ from ?_) (fun vs s' h' => ?_) fun _ _ x => x)
  · show wpAny _ _ (t >>= fun v => holding [v] (evalAll []) >>= fun r => pure (v :: r)) _ _ _
    refine wpAny_bind (wpAny_mono h (fun v s' h' => ?_) fun _ _ x => x)
    exact wpAny_bind (wpAny_holding (wpAny_pure (wpAny_pure h')))
  · refine wpAny_bind (wpAny_holding ?_)
    refine wpAny_bind (wpAny_mono (kds_for (fun x P s hx => ?_) vs s' h') (fun _ s1 h1 => ?_) fun _ _ x => x)
    · refine wpAny_bind (wpAny_mono hx (fun _ s2 h2 => ?_) fun _ _ x => x)
      first | exact wpAny_pure ⟨rfl, h2⟩ | exact wpAny_bind (wpAny_pure (wpAny_pure ⟨rfl, h2⟩))
    · have h2 : Q (.ref s.heap.objs.size) s1 := by simpa [KdsFill] using h1
      rw [if_neg (by decide)]
      refine wpAny_pure ?_
      show wpAny _ _ (forIn [] PUnit.unit _ >>= _) _ _ _
      rw [List.forIn_nil]
      exact wpAny_pure (wpAny_pure h2)
end

section
variable {prog : Program} {w : World} {K : Frag} {k : Nat} {sc : Scope} {ρ : Loc}

theorem coSet1 {x : Str} {p' p p2 : Pos} {e : Expr} {v : Int} {c : Nat} (hcode : sc.more.lookup (Str.ofString "#code") = some (.int c)) (hc : kdsCode K (.ref c) = true) (hx : isVar sc x = true) (hn : noStar e = true) (he : EvS prog w K k sc ρ e (.int v)) (hs : ∀ env, EnvOk env sc → swapsWith (.Set [e] 0 p2) (some (.Name x p')) p.line env = pure false) :
    Co prog w K k sc ρ (.Assign [.Name x p'] (.Set [e] 0 p2) p) (.go (setL ρ x (setV w [v] (addT (.fresh 0 0 true) [] v).1 (addT (.fresh 0 0 true) [] v).2))) :=
  fun env O A hB m Z own hid s Q E R W S ro P => by
  refine wpAny_Assign_Name ?_ (hs env O)
  rw [arm_eval_Set]
  refine wpAny_bind (wpAny_standAt ?_)
  refine wpAny_bind (kds_main (W.k.keeps S.keep) (by rw [O.co c hcode]; exact hc) fun b => ?_)
  rw [starEach_cons hn, show displayRoad 0 [e] = .oneByOne from rfl]
  refine display1 ?_
  have S₀ := S.push (set0 w)
  have F₀ := S.free_new (Nat.le_refl s.heap.objs.size)
  have g₀ : (s.heap.push (set0 w)).get? s.heap.objs.size = some (set0 w) := Heap.get?_push_size _ rfl
  have S₁ := S₀.takeOwn F₀ g₀
  refine wpAny_bind (he env O A hB m Z ((s.heap.objs.size, set0 w) :: (own ++ hid)) { s with heap := s.heap.push (set0 w) } _ E R W S₁ (ro.more fun p hp => .tail _ (List.mem_append_left _ hp)) fun u Z₁ h₁ tk₁ z₁ S₂ hu => ?_)
  obtain ⟨t, rfl⟩ := has_int hu
  refine wpAny_bind (wpAny_standAt (wpAny_pure ?_))
  have g₁ := S₂.oin _ (.head _)
  refine setAdd_int (s := { s with heap := h₁, toks := tk₁.1, drawn := tk₁.2 }) g₁ setI_0 (by decide) fun b h' o' tk q1 q2 q3 => ?_
  have S₃ := S₂.setOwn (.head _) q1 fun b o q e => (q3.2 b q).trans e
  have hn' : ∀ p ∈ own ++ hid, p.1 ≠ s.heap.objs.size := fun p hp => F₀.o p hp
  have e1 : updO ((s.heap.objs.size, set0 w) :: (own ++ hid)) s.heap.objs.size o' = (s.heap.objs.size, o') :: (own ++ hid) := by
    show (if s.heap.objs.size = s.heap.objs.size then (s.heap.objs.size, o') else _) :: updO (own ++ hid) _ o' = _
    rw [if_pos rfl, updO_id hn']
  rw [e1] at S₃
  have F₁ : Free hB env Z₁ (own ++ hid) s.heap.objs.size := S₃.freeOfOwn (ob := o') (.head _) fun p hp => ⟨.tail _ hp, hn' p hp⟩
  have S₄ : St hB env m Z₁ (own ++ hid) h' := S₃.dropOwn (List.sublist_cons_self _ _)
  refine storeO O hx S₄ F₁ q1 S.leB (ro.mono z₁.1) (r := setV w [v] (addT (.fresh 0 0 true) [] v).1 (addT (.fresh 0 0 true) [] v).2) q2 rfl fun h₂ tk₂ S₅ ro₅ => ?_
  exact P _ Z₁ _ h₂ tk₂ z₁ S₅ ro₅

theorem cWhilePop {ws wn : Str} {p1 p2 p3 p4 p5 p6 p7 : Pos} {body rest : List Stmt} {n : Nat} {o : Out} (hws : isAny sc ws = true) (hwn : isVar sc wn = true) (hp : (p4.endLine == p5.line) = true)
    (hs : ∀ env, EnvOk env sc → swapsWith (.Call (.Attribute (.Name ws p3) ("pop" : Str) p4) [] [] p5) (some (.Name wn p2)) p6.line env = pure false) (hb : ∀ env, attributeBase (.Name ws p3) (Str.ofString "pop") env (eval (.Name ws p3) env) = eval (.Name ws p3) env)
    (Inv : Nat → Loc → Prop) (h0 : Inv n ρ)
    (step : ∀ n L, Inv n L → ∃ l T KS, L.lookup ws = some (setV w l T KS) ∧ (l = [] → Cos prog w K k sc L rest o) ∧ (l ≠ [] → (w.params.followText "set-order" = true ∨ (popT T KS).isSome = true) ∧ ∃ n', n = n' + 1 ∧ ∀ x T' KS', x ∈ l → ((w.params.followText "set-order" = true ∧ T' = T ∧ KS' = KS) ∨ (w.params.followText "set-order" = false ∧ popT T KS = some (x, T', KS'))) →
      CosE prog w K k sc (setL (setL L ws (setV w (l.erase x) T' KS')) wn (.val (.int x))) body (Inv n'))) :
    Cos prog w K k sc ρ (.While (.Name ws p1) (.Assign [.Name wn p2] (.Call (.Attribute (.Name ws p3) ("pop" : Str) p4) [] [] p5) p6 :: body) [] p7 :: rest) o :=
  fun env O A hB m Z own hid s Q E R W S ro P => by
  refine wpAny_execs_cons (wpAny_While (codeAny_whileLoop (fun n s' => ∃ ρ' m' Z' own' h' tk', s' = { s with heap := h', toks := (tk' : Tk).1, drawn := tk'.2 } ∧ ZLe hB.objs.size Z Z' ∧ St hB env m' Z' (own' ++ hid) h' ∧ LocOk hB.objs.size m' Z' own' ρ' ∧ Inv n ρ') ?_ n ⟨ρ, m, Z, own, s.heap, (s.toks, s.drawn), rfl, ZLe.refl _ _, S, ro, h0⟩))
  rintro n s' ⟨ρ', m', Z', own', h', tk', rfl, z, S', ro', hi⟩
  obtain ⟨l, T, KS, hl, c1, c2⟩ := step n ρ' hi
  refine evTruSet (px := p1) hws hl env O A hB m' Z' (own' ++ hid) { s with heap := h', toks := tk'.1, drawn := tk'.2 } _ _ R W S' ro'.weak fun Z₁ h₁ tk₁ z₁ S₁ => ?_
  have ro₁ := ro'.mono z₁.1
  cases l with
  | nil =>
    refine wpAny_execs_nil ?_
    exact c1 rfl env O A hB m' Z₁ own' hid { s with heap := h₁, toks := tk₁.1, drawn := tk₁.2 } Q E R W S₁ ro₁ (P.then1 (z.tr z₁))
  | cons y ys =>
    obtain ⟨hT, n', rfl, c3⟩ := c2 (by simp)
    obtain ⟨a, ob, hm, ha, hset⟩ := ro₁.getS hl
    have ho := S₁.oin _ (List.mem_append_left hid ha)
    have hTy : Shared.TypeIs { s with heap := h₁, toks := tk₁.1, drawn := tk₁.2 } (.ref a) "set" := ⟨ob, ho, hset.1.1⟩
    refine wpAny_execs_cons (wpAny_Assign_Name (wpAny_Call_method (T := "set") (id := "set.pop") (hb env) rfl hp F.plainAttrs_set F.slot_set_pop F.type_set_pop (name_ok (s := { s with heap := h₁, toks := tk₁.1, drawn := tk₁.2 }) O hws S₁ hm ?_)) (hs env O))
    refine ⟨hTy, fun y e => by cases e; exact ⟨ob, ho, hset.1.2.1⟩, callWith_of (P := K.In) rfl (keep_builtin "set.pop") (PySem.evalArgs_none ⟨W.k.keeps S₁.keep, ?_⟩)⟩
    refine wpAny_call_entry F.slot_set_pop hTy F.entry_set_pop ?_ (F.args_set_pop_1 _)
    unfold Builtin.«set.pop» Builtin.Frozenset.noArgs
    simp only [List.isEmpty_nil, bind_assoc]
    unfold Builtin.Frozenset.addrOf
    refine wpAny_bind (wpAny_pure ?_)
    try dsimp only
    refine wpAny_bind (setPop_int (s := { s with heap := h₁, toks := tk₁.1, drawn := tk₁.2 }) ho hset (by simp) hT fun x u h₂ o' dr T' KS' q0 q1 q2 q3 q4 => ?_)
    refine wpAny_pure ⟨_, rfl, ?_⟩
    obtain ⟨S₃, ro₃⟩ := set_changed S₁ ro₁ hl hm ha q2 q3 q4
    refine storeV (s := { s with heap := h₂, toks := tk₁.1, drawn := dr }) O hwn S₃ ro₃ (mkI x u) fun h₄ tk₄ _ S₄ ro₄ => ?_
    obtain ⟨L₁, hcos, hinv⟩ := c3 x T' KS' q0 q1
    rcases hcos with hcos | hcos
    · exact hcos env O A hB _ Z₁ _ hid _ _ _ R W S₄ ro₄ fun m₂ Z₂ own₂ h₂ tk₂ z₂ S₂ ro₂ => ⟨_, Nat.lt_succ_self _, _, m₂, Z₂, own₂, h₂, tk₂, rfl, (z.tr z₁).tr z₂, S₂, ro₂, hinv⟩
    · exact hcos env O A hB _ Z₁ _ hid _ _ _ R W S₄ ro₄ fun m₂ Z₂ own₂ h₂ tk₂ z₂ S₂ ro₂ => ⟨_, Nat.lt_succ_self _, _, m₂, Z₂, own₂, h₂, tk₂, rfl, (z.tr z₁).tr z₂, S₂, ro₂, hinv⟩
end
end Mine
end
section
open PySem PySem.W PyProof.Rows PySem.Flt
set_option maxHeartbeats 1000000
namespace Mine

theorem owner_si : Manifest.owners.lookup (String.ofList ['r', 'o', 't', 'a', 'r', 'e', 't', 'i', '_', 't', 'e', 's'].reverse) = some Manifest.sig_set_iterator := by kernel_rfl
theorem slot_si_next : Slot "set_iterator" "__next__" "set_iterator.__next__" :=
  .of (owner := "set_iterator") (n := "__next__") (by rw [typeLookup_type, builtinLookup_eq_fast]; kernel_rfl) (by decide +kernel) (by decide +kernel) (by decide +kernel)
    (by first | exact .inl (by decide +kernel) | exact .inr (by decide +kernel)) (by rw [isSubtype_type]; kernel_rfl)
theorem entry_si_next : entryFor table "set_iterator.__next__" = some Builtin.«set_iterator.__next__» := entryFor_of_tree (by kernel_rfl)
theorem args_si_next (a : Value) : argsOk "set_iterator.__next__" ⟨[a], []⟩ := by
  unfold argsOk; rw [signature?_of (id := "set_iterator.__next__") (n := ['_', '_', 't', 'x', 'e', 'n', '_', '_']) (o := ['r', 'o', 't', 'a', 'r', 'e', 't', 'i', '_', 't', 'e', 's']) (by kernel_rfl) owner_si]; kernel_rfl
theorem slot_si_iter : Slot "set_iterator" "__iter__" "set_iterator.__iter__" :=
  .of (owner := "set_iterator") (n := "__iter__") (by rw [typeLookup_type, builtinLookup_eq_fast]; kernel_rfl) (by decide +kernel) (by decide +kernel) (by decide +kernel)
    (by first | exact .inl (by decide +kernel) | exact .inr (by decide +kernel)) (by rw [isSubtype_type]; kernel_rfl)
theorem args_si_iter (a : Value) : argsOk "set_iterator.__iter__" ⟨[a], []⟩ := by
  unfold argsOk; rw [signature?_of (id := "set_iterator.__iter__") (n := ['_', '_', 'r', 'e', 't', 'i', '_', '_']) (o := ['r', 'o', 't', 'a', 'r', 'e', 't', 'i', '_', 't', 'e', 's']) (by kernel_rfl) owner_si]; kernel_rfl
theorem entry_si_iter : entryFor table "set_iterator.__iter__" = some Builtin.«dict_keyiterator.__iter__» :=
  entryFor_alias (id' := "dict_keyiterator.__iter__") (by rw [fastTable_eq_tree]; kernel_rfl) (by first | rfl | decide +kernel | (unfold String.splitOn; simp +decide [String.splitOnAux])) (by decide +kernel) (by rw [fastTable_eq_tree]; kernel_rfl)
theorem slot_set_iter' : Slot "set" "__iter__" "set.__iter__" := F.slot_set_iter
theorem entry_set_iter' : entryFor table "set.__iter__" = some Builtin.«frozenset.__iter__» :=
  entryFor_alias (id' := "frozenset.__iter__") (by rw [fastTable_eq_tree]; kernel_rfl) rfl (by decide +kernel) (by rw [fastTable_eq_tree]; kernel_rfl)

/-! the order of a set -/
theorem pick_go {α : Type} (next : Nat → Nat) : ∀ (fuel k : Nat) (left : List α) (out : Array α), left.length ≤ fuel → (pickOrder.go next fuel k left out).toList.Perm (out.toList ++ left)
  | 0, k, left, out, h => by
    have : left = [] := List.length_eq_zero_iff.mp (Nat.le_zero.mp h)
    subst this
    unfold pickOrder.go; simp
  | fuel + 1, k, left, out, h => by
    unfold pickOrder.go
    cases left with
    | nil => simp
    | cons y ys =>
      have hi : next k % (y :: ys).length < (y :: ys).length := Nat.mod_lt _ (by simp)
      rw [List.getElem?_eq_getElem hi]
      dsimp only
      refine (pick_go next fuel (k + 1) ((y :: ys).eraseIdx (next k % (y :: ys).length)) _ ?_).trans ?_
      · rw [List.length_eraseIdx, if_pos hi]; simp at h ⊢; omega
      · rw [Array.toList_push, List.append_assoc]
        exact List.Perm.append_left _ (eraseIdx_perm _ _ hi)
theorem pick_perm {α : Type} (next : Nat → Nat) (xs : Array α) : (pickOrder next xs).toList.Perm xs.toList := by
  have := pick_go next xs.size 0 xs.toList #[] (by simp)
  simpa [pickOrder] using this

noncomputable def ordS (w : World) (a : Addr) (ep : Nat) (es : Array (Int × Value)) : Array (Int × Value) := if w.params.followText "set-order" = true then pickOrder (w.params.setOrder a ep) es else es
theorem ordS_perm {w : World} {a : Addr} {ep : Nat} {es : Array (Int × Value)} : (ordS w a ep es).toList.Perm es.toList := by
  unfold ordS
  split
  · exact pick_perm _ _
  · exact .rfl
theorem ordS_size {w : World} {a : Addr} {ep : Nat} {es : Array (Int × Value)} : (ordS w a ep es).size = es.size := by
  have := (ordS_perm (w := w) (a := a) (ep := ep) (es := es)).length_eq
  simpa using this
noncomputable def slotAt (t : SetTable) : Nat → Nat
  | 0 => 0
  | i + 1 => t.place.getD i 0 + 1
noncomputable def slotS (w : World) (t : SetTable) (i : Nat) : Nat := if w.params.followText "set-order" = true then 0 else slotAt t i
noncomputable def walkT (t : SetTable) (n : Nat) : Bool := t.led && t.plain && (List.range (n + 1)).all fun i => SetTable.below t.place (slotAt t i) == i

noncomputable def siObj (a : Addr) (slot i n ep : Nat) : Obj := { cls := .type "set_iterator", data := .fields #[rawInt slot, rawInt i, .ref a, rawInt n, rawInt ep] }
noncomputable def IsSI (h : Heap) (I a : Addr) (slot i n ep : Nat) : Prop := ∃ o, h.get? I = some o ∧ o.cls = .type "set_iterator" ∧ o.data = .fields #[rawInt slot, rawInt i, .ref a, rawInt n, rawInt ep]

section
variable {prog : Program} {w : World} {A : Around} {E : Value → Shared → Prop} {s : Shared} {a : Addr} {o : Obj} {es : Array (Int × Value)} {ep : Nat} {t : SetTable}

theorem setNext_item {i : Nat} {Q : Option (Value × Nat) → Shared → Prop} (ho : s.heap.get? a = some o) (hd : o.data = .set es ep t) (hf : t.fits es.size = true) (hT : w.params.followText "set-order" = true ∨ walkT t es.size = true) (hi : i ≤ es.size)
    (h : Q (((ordS w a ep es)[i]?).map fun e => (e.2, slotS w t (i + 1))) s) : wpAny (model prog w) A (setNext a (slotS w t i) i ep) Q E s := by
  unfold setNext
  refine wpAny_bind (wpAny_setState_of ho hd hf ?_)
  dsimp only
  unfold setsByText
  refine wpAny_bind (wpAny_bind (wpAny_askSetting (wpAny_pure ?_)))
  dsimp only
  cases htx : w.params.followText "set-order" with
  | true =>
    rw [if_pos (show (model prog w).w.params.followText "set-order" = true from htx)]
    rw [if_neg (by simp)]
    unfold setWalk
    refine wpAny_bind ?_
    refine wpAny_bind (wpAny_setState_of ho hd hf ?_)
    dsimp only
    unfold setsByText
    refine wpAny_bind (wpAny_bind (wpAny_askSetting (wpAny_pure ?_)))
    dsimp only
    rw [if_pos (show (model prog w).w.params.followText "set-order" = true from htx)]
    refine wpAny_bind (wpAny_askSetting (wpAny_pure ?_))
    refine wpAny_pure ?_
    have e1 : ordS w a ep es = pickOrder ((model prog w).w.params.setOrder a ep) es := by unfold ordS; rw [if_pos htx]; rfl
    have e2 : ∀ j, slotS w t j = 0 := fun j => by unfold slotS; rw [if_pos htx]
    rw [e1, e2] at h
    rw [e2]
    exact h
  | false =>
    rw [if_neg (show ¬ (model prog w).w.params.followText "set-order" = true by show ¬ w.params.followText "set-order" = true; rw [htx]; exact Bool.false_ne_true)]
    rcases hT with q | q
    · rw [htx] at q; cases q
    · unfold walkT at q
      simp only [Bool.and_eq_true] at q
      obtain ⟨⟨q1, q2⟩, q3⟩ := q
      have q4 : SetTable.below t.place (slotAt t i) = i := by
        have := List.all_eq_true.mp q3 i (List.mem_range.mpr (by omega))
        simpa using this
      have e1 : ordS w a ep es = es := by unfold ordS; rw [if_neg (by rw [htx]; exact Bool.false_ne_true)]
      have e2 : ∀ j, slotS w t j = slotAt t j := fun j => by unfold slotS; rw [if_neg (by rw [htx]; exact Bool.false_ne_true)]
      rw [e1, e2] at h
      rw [e2]
      have hpl : t.place.size = es.size := by
        unfold SetTable.fits at hf
        simp only [Bool.and_eq_true, beq_iff_eq] at hf
        exact hf.1
      rw [if_neg (by show ¬ (!t.plain && decide (es.size > 1)) = true; rw [q2]; simp)]
      refine wpAny_bind (m := (if (!t.led && !es.isEmpty) = true then unsupported "set:maker-not-led" else pure ())) ?_
      rw [q1]
      refine wpAny_pure ?_
      rw [q4]
      by_cases hlt : i < es.size
      · rw [Array.getElem?_eq_getElem hlt, Array.getElem?_eq_getElem (by rw [hpl]; exact hlt)]
        rw [Array.getElem?_eq_getElem hlt] at h
        refine wpAny_pure ?_
        have e3 : slotAt t (i + 1) = t.place[i]'(by rw [hpl]; exact hlt) + 1 := by
          show t.place.getD i 0 + 1 = _
          rw [Array.getD_eq_getD_getElem?, Array.getElem?_eq_getElem (by rw [hpl]; exact hlt)]; rfl
        rw [e3] at h
        exact h
      · rw [Array.getElem?_eq_none (by omega)]
        rw [Array.getElem?_eq_none (by omega)] at h
        exact wpAny_pure h

/-- the iterator of a set -/
theorem pyIter_set {Q : Value → Shared → Prop} (ho : s.heap.get? a = some o) (hex : o.ExactSet) (hd : o.data = .set es ep t) (hf : t.fits es.size = true) (hT : w.params.followText "set-order" = true ∨ walkT t es.size = true)
    (h : Q (.ref s.heap.objs.size) { s with heap := s.heap.push (siObj a 0 0 es.size ep) }) : wpAny (model prog w) A (pyIter (.ref a)) Q E s := by
  have hTy : s.TypeIs (.ref a) "set" := ⟨o, ho, hex.1⟩
  refine wpAny_pyIter_slot hTy slot_set_iter' (wpAny_call_entry slot_set_iter' hTy entry_set_iter' ?_ (F.args_set_iter_1 _))
  unfold Builtin.«frozenset.__iter__» Builtin.Frozenset.slot0 slotArgs
  simp only [List.isEmpty_nil, Bool.not_true, Bool.false_eq_true, ↓reduceIte, bind_assoc, List.length_nil, bne_self_eq_false]
  unfold Builtin.Frozenset.addrOf Builtin.Frozenset.sizeOf
  refine wpAny_bind (wpAny_pure ?_)
  try dsimp only
  refine wpAny_bind (wpAny_pure ?_)
  refine wpAny_bind (wpAny_bind (wpAny_setEntries_of ho hd hf (wpAny_pure ?_)))
  unfold setDrawn
  refine wpAny_bind ?_
  refine wpAny_bind (wpAny_setState_of ho hd hf ?_)
  dsimp only
  unfold setsByText
  refine wpAny_bind (wpAny_bind (wpAny_askSetting (wpAny_pure ?_)))
  refine wpAny_pure ?_
  have hdr : ∀ b : Bool, (b = (!t.plain && decide (es.size > 1))) → (!(model prog w).w.params.followText "set-order" && b) = false := fun b hb => by
    rcases hT with q | q
    · rw [show (model prog w).w.params.followText "set-order" = true from q]; rfl
    · unfold walkT at q
      simp only [Bool.and_eq_true] at q
      rw [hb, q.1.2]; simp
  split
  · rename_i q
    exact absurd ((hdr _ rfl).symm.trans q) Bool.false_ne_true
  · refine wpAny_bind (wpAny_pure ?_)
    refine wpAny_bind (wpAny_setEpoch_of ho hd hf ?_)
    unfold newFields
    refine wpAny_bind (wpAny_newObj_type (wpAny_pure ⟨_, rfl, "set_iterator", _, ⟨_, Heap.get?_push_size _ rfl, rfl⟩, slot_si_next.lookup, ?_⟩))
    exact h

/-- a step of the iterator -/
theorem next_set {I : Addr} {i : Nat} {e : Int × Value} {Q : Option Value → Shared → Prop} (hI : IsSI s.heap I a (slotS w t i) i es.size ep) (ho : s.heap.get? a = some o) (hd : o.data = .set es ep t) (hf : t.fits es.size = true) (hT : w.params.followText "set-order" = true ∨ walkT t es.size = true) (hx : (ordS w a ep es)[i]? = some e)
    (hQ : ∀ h', IsSI h' I a (slotS w t (i + 1)) (i + 1) es.size ep → Heap.SameBut I s.heap h' → Q (some e.2) { s with heap := h' }) : wpAny (model prog w) A (pyNext (.ref I)) Q E s := by
  obtain ⟨io, hio, hc, hdt⟩ := hI
  have hTy : s.TypeIs (.ref I) "set_iterator" := ⟨io, hio, hc⟩
  have hi : i ≤ es.size := by
    have := (Array.getElem?_eq_some_iff.mp hx).1
    rw [ordS_size] at this; omega
  unfold pyNext
  refine wpAny_bind (wpAny_attempt (wpAny_callSpecial?_slot (name := Str.ofString "__next__") hTy slot_si_next (wpAny_call_entry slot_si_next hTy entry_si_next ?_ (args_si_next _))))
  unfold Builtin.«set_iterator.__next__»
  refine wpAny_bind (wpAny_of_eq (a := (Value.ref I, [])) rfl ?_)
  try dsimp only
  refine wpAny_bind (wpAny_fieldsOf hio hdt ?_)
  dsimp only
  refine wpAny_bind (wpAny_setEntries_of ho hd hf ?_)
  rw [if_neg (by simp)]
  show wpAny _ _ (setNext a ((slotS w t i : Nat) : Int).toNat ((i : Nat) : Int).toNat ((ep : Nat) : Int).toNat >>= _) _ _ s
  simp only [Int.toNat_natCast]
  refine wpAny_bind (setNext_item ho hd hf hT hi ?_)
  rw [hx]
  dsimp only [Option.map]
  refine wpAny_bind (wpAny_setField hio hdt (by simp) ?_)
  have g1 : (s.heap.update I (Obj.mapFields (·.setIfInBounds 0 (rawInt (slotS w t (i + 1)))))).get? I = some (io.mapFields (·.setIfInBounds 0 (rawInt (slotS w t (i + 1))))) := Heap.get?_update_self _ hio (Obj.isFreed_of_fields (Obj.data_mapFields hdt _))
  refine wpAny_bind (wpAny_setField (s := { s with heap := s.heap.update I (Obj.mapFields (·.setIfInBounds 0 (rawInt (slotS w t (i + 1))))) }) g1 (Obj.data_mapFields hdt _) (by simp) ?_)
  refine wpAny_pure ⟨e.2, rfl, wpAny_pure (hQ _ ?_ ((Heap.SameBut.update ..).trans (Heap.SameBut.update ..)))⟩
  exact ⟨_, Heap.get?_update_self _ g1 (Obj.isFreed_of_fields (Obj.data_mapFields (Obj.data_mapFields hdt _) _)), (Obj.cls_mapFields ..).trans ((Obj.cls_mapFields ..).trans hc), by
    rw [Obj.data_mapFields (Obj.data_mapFields hdt _)]; simp⟩

theorem next_set_end {I : Addr} {Q : Option Value → Shared → Prop} (hh : A.handled = none) (hI : IsSI s.heap I a (slotS w t es.size) es.size es.size ep) (ho : s.heap.get? a = some o) (hd : o.data = .set es ep t) (hf : t.fits es.size = true) (hT : w.params.followText "set-order" = true ∨ walkT t es.size = true)
    (hQ : ∀ h', Heap.ExtBut I s.heap h' → Q none { s with heap := h' }) : wpAny (model prog w) A (pyNext (.ref I)) Q E s := by
  obtain ⟨io, hio, hc, hdt⟩ := hI
  have hTy : s.TypeIs (.ref I) "set_iterator" := ⟨io, hio, hc⟩
  unfold pyNext
  refine wpAny_bind (wpAny_attempt (wpAny_callSpecial?_slot (name := Str.ofString "__next__") hTy slot_si_next (wpAny_call_entry slot_si_next hTy entry_si_next ?_ (args_si_next _))))
  unfold Builtin.«set_iterator.__next__»
  refine wpAny_bind (wpAny_of_eq (a := (Value.ref I, [])) rfl ?_)
  try dsimp only
  refine wpAny_bind (wpAny_fieldsOf hio hdt ?_)
  dsimp only
  refine wpAny_bind (wpAny_setEntries_of ho hd hf ?_)
  rw [if_neg (by simp)]
  show wpAny _ _ (setNext a ((slotS w t es.size : Nat) : Int).toNat ((es.size : Nat) : Int).toNat ((ep : Nat) : Int).toNat >>= _) _ _ s
  simp only [Int.toNat_natCast]
  refine wpAny_bind (setNext_item ho hd hf hT (Nat.le_refl _) ?_)
  rw [Array.getElem?_eq_none (by rw [ordS_size]; exact Nat.le_refl _)]
  dsimp only [Option.map]
  refine wpAny_bind (wpAny_setField hio hdt (by simp) ?_)
  refine wpAny_bind ?_
  simp only [newExc, newTuple]
  refine wpAny_bind (wpAny_newObj_type ?_ (by size_fits))
  refine wpAny_bind (m := firstArgMember _ _) (wpAny_of_eq (a := Value.none) (by first | rfl | (simp only [firstArgMember]; rfl)) ?_)
  refine wpAny_newObj_type ?_ (by size_fits)
  simp only [raiseNew]
  refine wpAny_bind (wpAny_handled ?_)
  first | rw [show A.in1.handled = none from hh] | rw [hh]
  refine wpAny_bind (wpAny_pure (wpAny_throw ?_))
  refine wpAny_bind (wpAny_isInstance (T := "StopIteration") (b := true) ⟨_, Heap.get?_push_size _ rfl, rfl⟩ isSubtype_stop ?_)
  exact wpAny_pure (hQ _ (((Heap.SameBut.update s.heap I _).extBut.push _).push _))

theorem walks_set (hh : A.handled = none) (I : Addr) (hne : a ≠ I) (hd : o.data = .set es ep t) (hf : t.fits es.size = true) (hT : w.params.followText "set-order" = true ∨ walkT t es.size = true) :
    Walks prog w A I [I, a] [I] es.size (fun i v => ((ordS w a ep es)[i]?).map (·.2) = some v) (fun i h => IsSI h I a (slotS w t i) i es.size ep ∧ h.get? a = some o) where
  sub := fun b hb => by simp at hb; simp [hb]
  frame := fun _ _ _ x hk => ⟨let ⟨io, e, r⟩ := x.1; ⟨io, hk I (by simp) _ e, r⟩, hk a (by simp) _ x.2⟩
  item := fun i s Q E hi x hQ => by
    have hlt : i < (ordS w a ep es).size := by rw [ordS_size]; exact hi
    refine next_set x.1 x.2 hd hf hT (Array.getElem?_eq_getElem hlt) fun h' hI' hs' => ?_
    exact hQ _ h' s.toks (by rw [Array.getElem?_eq_getElem hlt]; rfl) ⟨hI', (hs'.2 a hne).trans x.2⟩ fun b ob hb e => hs'.extBut b ob (fun h => hb (by simp [h])) e
  done := fun s Q E x hQ => next_set_end hh x.1 x.2 hd hf hT fun h' he' => hQ h' s.toks fun b ob hb e => he' b ob (fun h => hb (by simp [h])) e
  self := fun i s Q E x hQ => by
    obtain ⟨io, hio, hc, hdt⟩ := x.1
    have hTy : s.TypeIs (.ref I) "set_iterator" := ⟨io, hio, hc⟩
    refine wpAny_pyIter_slot hTy slot_si_iter (wpAny_call_entry slot_si_iter hTy entry_si_iter ?_ (args_si_iter _))
    show wpAny _ _ (ret (.ref I)) _ _ _
    exact wpAny_pure ⟨_, rfl, "set_iterator", _, hTy, slot_si_next.lookup, hQ⟩
end
end Mine
end
section
open PySem PySem.W PyProof.Rows PySem.Flt
set_option maxHeartbeats 1000000
namespace Mine

section
variable {prog : Program} {w : World} {A : Around} {E : Value → Shared → Prop} {s : Shared} {a : Addr} {o : Obj} {es : Array (Int × Value)} {ep : Nat} {t : SetTable}

theorem collect_set {Q : List Value → Shared → Prop} (hh : A.handled = none) (ho : s.heap.get? a = some o) (hex : o.ExactSet) (hd : o.data = .set es ep t) (hf : t.fits es.size = true) (hT : w.params.followText "set-order" = true ∨ walkT t es.size = true) (hn : es.size ≤ 1000)
    (h : ∀ h' tk (acc : Array Value), s.heap.objs.size < h'.objs.size → (∀ b ob, s.heap.get? b = some ob → h'.get? b = some ob) → ItemsOf (fun i v => ((ordS w a ep es)[i]?).map (·.2) = some v) acc es.size → Q acc.toList { s with heap := h', toks := tk }) : wpAny (model prog w) A (collect (.ref a)) Q E s := by
  have hlt : a < s.heap.objs.size := Heap.lt_size ho
  have hLa : s.heap.objs.size ≠ a := Nat.ne_of_gt hlt
  unfold collect
  refine wpAny_bind (wpAny_runValue (codeAny_builtin F.entry_proto_collect ?_))
  rw [Around.under_plainId F.plain_proto_collect _]
  show wpAny _ A.in1 (newList [] >>= fun l => again (.builtin "list.__iadd__" ⟨[l, .ref a], []⟩)) _ _ s
  refine wpAny_bind (wpAny_newObj_type ?_)
  refine wpAny_pure ⟨plainId_quiet F.plain_list_iadd _, codeAny_builtin F.entry_list_iadd ?_⟩
  rw [Around.under_plainId F.plain_list_iadd _]
  show wpAny _ A.in1 (Builtin.List.listExtendWith (.ref s.heap.objs.size) (.ref a) (.ref s.heap.objs.size)) _ _ _
  unfold Builtin.List.listExtendWith
  have ho₁ : (s.heap.push { cls := .type "list", data := .seq ([] : List Value).toArray }).get? a = some o := Heap.get?_push_of_some _ ho
  have hTy : Shared.TypeIs { s with heap := s.heap.push { cls := .type "list", data := .seq ([] : List Value).toArray } } (.ref a) "set" := ⟨o, ho₁, hex.1⟩
  have h1 : Builtin.List.listSameRef (.ref s.heap.objs.size) (.ref a) = false := by simp [Builtin.List.listSameRef, hLa]
  refine wpAny_bind (wpAny_typeOf hTy ?_)
  rw [if_neg (by rw [h1]; decide)]
  refine wpAny_bind (pyIter_set (s := { s with heap := s.heap.push { cls := .type "list", data := .seq ([] : List Value).toArray } }) ho₁ hex hd hf hT ?_)
  refine wpAny_bind (wpAny_holding ?_)
  have ho₂ : ((s.heap.push { cls := .type "list", data := .seq ([] : List Value).toArray }).push (siObj a 0 0 es.size ep)).get? a = some o := Heap.get?_push_of_some _ ho₁
  have hTy₂ : Shared.TypeIs { s with heap := (s.heap.push { cls := .type "list", data := .seq ([] : List Value).toArray }).push (siObj a 0 0 es.size ep) } (.ref a) "set" := ⟨o, ho₂, hex.1⟩
  unfold Builtin.List.listLengthHint
  refine wpAny_bind (wpAny_specialOf hTy₂ F.slot_set_len.lookup ?_)
  (generalize hid : ("set.__len__" : String) = id0; (fail_if_success (clear hid id0)); wp_delta; rw [show splitId id0 = some ("set", "__len__") from by subst hid; decide +kernel]; subst hid)
  refine wpAny_bind (wpAny_isInstance (b := true) hTy₂ (by rw [isSubtype_type]; kernel_rfl) ?_)
  refine wpAny_bind (wpAny_typeOf hTy₂ ?_)
  refine wpAny_pure ?_
  rw [if_pos (by decide)]
  refine wpAny_bind (wpAny_rule ?_)
  unfold Builtin.List.listTouch
  have gI : ((s.heap.push { cls := .type "list", data := .seq ([] : List Value).toArray }).push (siObj a 0 0 es.size ep)).get? (s.heap.objs.size + 1) = some (siObj a 0 0 es.size ep) := by
    rw [← size_push' s.heap { cls := .type "list", data := .seq ([] : List Value).toArray }]; exact Heap.get?_push_size _ rfl
  have gL : ((s.heap.push { cls := .type "list", data := .seq ([] : List Value).toArray }).push (siObj a 0 0 es.size ep)).get? s.heap.objs.size = some (seqObj "list" #[] 0) := Heap.get?_push_of_some _ (Heap.get?_push_size _ rfl)
  have eI : (s.heap.push { cls := .type "list", data := .seq ([] : List Value).toArray }).objs.size = s.heap.objs.size + 1 := size_push' ..
  dsimp only
  rw [eI]
  generalize hH2 : (s.heap.push { cls := .type "list", data := .seq ([] : List Value).toArray }).push (siObj a 0 0 es.size ep) = H2 at ho₂ hTy₂ gI gL ⊢
  have keep2 : ∀ b ob, s.heap.get? b = some ob → H2.get? b = some ob := fun b ob e => by rw [← hH2]; exact Heap.get?_push_of_some _ (Heap.get?_push_of_some _ e)
  refine wpAny_bind (wpAny_bind (listUpdate_at (s := { s with heap := H2 }) gL rfl ?_ (Nat.zero_le _) (by decide)))
  have gL2 := get?_update_seq gL fun x => x.push .none
  refine listUpdate_at (s := { s with heap := H2.update s.heap.objs.size (Obj.mapSeq fun x => x.push .none) }) gL2 rfl ?_ (by decide) (by decide)
  have gL3 := get?_update_seq gL2 fun x => x.pop
  have hne : a ≠ s.heap.objs.size + 1 := Nat.ne_of_lt (Nat.lt_succ_of_lt hlt)
  have other : ∀ b ob, b ≠ s.heap.objs.size → H2.get? b = some ob → ((H2.update s.heap.objs.size (Obj.mapSeq fun x => x.push .none)).update s.heap.objs.size (Obj.mapSeq fun x => x.pop)).get? b = some ob := fun b ob hb e => by
    rw [Heap.get?_update_other _ _ (Ne.symm hb), Heap.get?_update_other _ _ (Ne.symm hb)]; exact e
  have e0 : slotS w t 0 = 0 := by unfold slotS slotAt; split <;> rfl
  have hS0 : s.heap.objs.size ∉ [s.heap.objs.size + 1, a] := by
    simp only [List.mem_cons, List.not_mem_nil, or_false, not_or]
    exact ⟨Nat.ne_of_lt (Nat.lt_succ_self _), hLa⟩
  refine wpAny_pure ⟨plainId_quiet F.plain_extend_loop _, codeAny_extend_loopS (walks_set (prog := prog) (w := w) (A := A.in1) (o := o) hh (s.heap.objs.size + 1) hne hd hf hT).toS (Nat.le_trans hn (by decide)) _ hS0 _ es.size 0 _ #[] _ rfl (Nat.zero_le _) ⟨⟨_, other _ _ (Nat.succ_ne_self _) gI, rfl, by rw [e0]; rfl⟩, other _ _ (Ne.symm hLa) ho₂⟩ gL3 (ItemsOf.nil _) fun s' acc' c' hm hS' hacc => ?_⟩
  show wpAny (model prog w) A (load s.heap.objs.size >>= _) _ _ s'
  refine wpAny_bind (wpAny_load hS' ?_)
  obtain ⟨h', g', d', tk', os'⟩ := s'
  have eg : g' = s.gens := hm.gens
  have ed : d' = s.drawn := hm.drawn
  have eo : os' = s.os := hm.os
  subst eg; subst ed; subst eo
  refine wpAny_pure (h h' tk' acc' (Heap.lt_size hS') (fun b ob e => ?_) hacc)
  have hb := Heap.lt_size e
  refine hm.heap b ob (by simp only [List.mem_cons, List.not_mem_nil, or_false, not_or]; exact ⟨Nat.ne_of_lt hb, Nat.ne_of_lt (Nat.lt_succ_of_lt hb)⟩) (other b ob (Nat.ne_of_lt hb) (keep2 b ob e))

theorem intEls_ints : ∀ {es : List (Int × Value)}, IntEls es → IntsAre (es.map (·.2)) (es.map fun e => keyOf e.2)
  | [], _ => .nil
  | e :: es, h => by
    obtain ⟨k, u, h1, _⟩ := h e (.head _)
    rw [List.map_cons, List.map_cons, h1]
    exact .cons k u (intEls_ints fun x hx => h x (.tail _ hx))

theorem sorted_set {l El : List Int} {T : SetTable} {KS : List Int} {Q : Value → Shared → Prop} (hh : A.handled = none) (ho : s.heap.get? a = some o) (hs : SetI w l T KS o) (hT : w.params.followText "set-order" = true ∨ walkT T l.length = true) (h64 : l.length < 64) (hp : l.Perm El) (hr : El.Pairwise (· ≤ ·))
    (h : ∀ h' tk b vs n, (∀ c ob, s.heap.get? c = some ob → h'.get? c = some ob) → s.heap.objs.size ≤ b → h'.get? b = some (seqObj "list" vs n) → IntsAre vs.toList El → Q (.ref b) { s with heap := h', toks := tk }) :
    wpAny (model prog w) A (call (.builtin "sorted") [.ref a]) Q E s := by
  obtain ⟨hex, hnd, hlen, es, ep, t, hd, hel, hpm, hf, hst⟩ := hs
  have hsz : es.size = l.length := by have := hpm.length_eq; simpa using this
  have hT' : w.params.followText "set-order" = true ∨ walkT t es.size = true := by
    rcases hst with q | q
    · exact .inl q
    · rw [q.1, hsz]; exact hT
  refine Calls.call_function_entry kind_sorted plain_sorted entry_sorted (args_sorted1 _) ?_
  unfold Builtin.«sorted»
  refine wpAny_bind (m := checkCount "sorted" 1 1 _) (wpAny_pure ?_)
  refine wpAny_bind (collect_set hh ho hex hd hf hT' (by omega) fun h₁ tk₁ acc hgt keep hacc => ?_)
  have hacc2 : acc.toList = (ordS w a ep es).toList.map (·.2) := by
    apply List.ext_getElem?
    intro i
    rw [List.getElem?_map, Array.getElem?_toList, Array.getElem?_toList]
    by_cases hi : i < es.size
    · have hi' : i < acc.size := by rw [hacc.1]; exact hi
      rw [Array.getElem?_eq_getElem hi']
      exact (hacc.2 i _ (Array.getElem?_eq_getElem hi')).symm
    · rw [Array.getElem?_eq_none (by rw [hacc.1]; omega), Array.getElem?_eq_none (by rw [ordS_size]; omega)]; rfl
  have helo : IntEls (ordS w a ep es).toList := fun e he => hel e (ordS_perm.mem_iff.mp he)
  have hI : IntsAre acc.toList ((ordS w a ep es).toList.map fun e => keyOf e.2) := by rw [hacc2]; exact intEls_ints helo
  refine wpAny_bind (wpAny_newList ?_ (hsz := by rw [Array.length_toList, hacc.1, hsz]; exact Nat.le_trans (Nat.le_of_lt h64) (by decide)))
  have hoL : (h₁.push (seqObj "list" acc.toList.toArray 0)).get? h₁.objs.size = some (seqObj "list" acc.toList.toArray 0) := Heap.get?_push_size _ rfl
  have h64' : acc.toList.length < 64 := by rw [Array.length_toList, hacc.1, hsz]; exact h64
  show wpAny _ _ _ _ _ { s with heap := h₁.push (seqObj "list" acc.toList.toArray 0), toks := tk₁ }
  refine wpAny_bind (wpAny_holding (wpAny_call_entry slot_list_sort ⟨_, hoL, rfl⟩ entry_list_sort (list_sort_tree hoL hI h64' fun out ns' a1 a2 a3 => ⟨_, rfl, ?_⟩) (args_list_sort _)))
  have hns : ns' = El := List.Perm.eq_of_pairwise (fun _ _ _ _ x y => Int.le_antisymm x y) a3 hr (a2.trans (((ordS_perm.map _).trans hpm).trans hp))
  subst hns
  have hle : s.heap.objs.size ≤ h₁.objs.size := Nat.le_of_lt hgt
  obtain ⟨e, he⟩ := sortedHeap_at (vs := acc.toList) (out := out) hoL
  refine wpAny_pure ⟨_, rfl, h _ tk₁ h₁.objs.size out e (fun c ob q => ?_) hle he a1⟩
  have hc := Heap.lt_size (keep c ob q)
  rw [sortedHeap_old (Nat.ne_of_lt hc) (by rw [size_push']; exact Nat.lt_succ_of_lt hc)]
  exact Heap.get?_push_of_some _ (keep c ob q)
end
end Mine
end
section
open PySem PySem.W PyProof.Rows PySem.Flt
set_option maxHeartbeats 1000000
namespace Mine

theorem ints_has {Z : Zn} : ∀ {vs : List Value} {ns : List Int}, IntsAre vs ns → HasL Z (ns.map .int) vs
  | _, _, .nil => hasL_nil
  | _, _, .cons n t h => hasL_cons (mkI n t) (ints_has h)

section
variable {prog : Program} {w : World} {A : Around} {E : Value → Shared → Prop} {s : Shared}
/-- next(it) of a list's iterator -/
theorem special_next_list {it l : Addr} {i : Nat} {items : Array Value} {x : Value} {Q : Option Value → Shared → Prop} (hit : s.heap.IsListIter it l i) (hl : s.heap.IsList l items) (hx : items[i]? = some x)
    (hQ : ∀ h', h'.IsListIter it l (i + 1) → Heap.SameBut it s.heap h' → Q (some x) { s with heap := h' }) : wpAny (model prog w) A (callSpecial? (.ref it) (Str.ofString "__next__")) Q E s := by
  obtain ⟨o, ho, hc, hd⟩ := id hit
  obtain ⟨ol, hol, _, nl, hdl⟩ := hl
  refine wpAny_callSpecial?_slot (name := Str.ofString "__next__") hit.typeIs slot_listiter_next (wpAny_call_entry slot_listiter_next hit.typeIs entry_listiter_next ?_ (args_listiter_next _))
  show wpAny _ _ (field (.ref it) 0 >>= _) _ _ s
  refine wpAny_bind (wpAny_field ho hd (x := .ref l) rfl ?_)
  show wpAny _ _ (if (Value.ref l == Value.none) = true then _ else _) _ _ s
  rw [if_neg (show ¬ ((Value.ref l == Value.none) = true) from Bool.false_ne_true)]
  show wpAny _ _ (field (.ref it) 1 >>= _) _ _ s
  refine wpAny_bind (wpAny_field ho hd (x := .int i 0) rfl ?_)
  show wpAny _ _ (seqItems? (.ref l) >>= _) _ _ s
  refine wpAny_bind (wpAny_seqItems hol hdl ?_)
  simp only [Int.toNat_natCast, hx]
  refine wpAny_bind (wpAny_setField ho hd (by simp) (wpAny_pure ⟨x, rfl, hQ _ ?_ (Heap.SameBut.update ..)⟩))
  exact ⟨_, Heap.get?_update_self _ ho (Obj.isFreed_of_fields (Obj.data_mapFields hd _)), (Obj.cls_mapFields ..).trans hc, by
    rw [Obj.data_mapFields hd]; simp [rawInt]⟩
end

/-- the rest of a walk -/
theorem walks_shift {prog : Program} {w : World} {A : Around} {I : Addr} {fp wr : List Addr} {n : Nat} {P : Nat → Value → Prop} {T : Nat → Heap → Prop} (W : Walks prog w A I fp wr n P T) (i : Nat) (hi : i ≤ n) : Walks prog w A I fp wr (n - i) (fun j => P (i + j)) (fun j => T (i + j)) where
  sub := W.sub
  frame := fun j => W.frame (i + j)
  item := fun j s Q E hj st hQ => W.item (i + j) s Q E (by omega) st hQ
  done := fun s Q E st hQ => W.done s Q E (by have : i + (n - i) = n := by omega
                                              rw [this] at st; exact st) hQ
  self := fun j => W.self (i + j)

section
variable {prog : Program} {w : World} {K : Frag} {k : Nat} {sc : Scope} {ρ : Loc}

theorem evSortedSet {x : Str} {np px pos : Pos} {l El : List Int} {T : SetTable} {KS : List Int} (hk : sc.names.lookup ("sorted" : Str) = some .globalImplicit) (hv : glob K ("sorted" : Str) = some (.builtin "sorted")) (hx : isAny sc x = true) (hl : ρ.lookup x = some (setV w l T KS))
    (hT : w.params.followText "set-order" = true ∨ walkT T l.length = true) (h64 : l.length < 64) (hp : l.Perm El) (hr : El.Pairwise (· ≤ ·)) : EvS prog w K k sc ρ (.Call (.Name ("sorted" : Str) np) [.Name x px] [] pos) (.lst (El.map .int)) := by
  intro env O A hB m Z own s Q E R W S ro P
  refine wpAny_Call_NameR (evGlob O W S.keep hk hv ?_)
  refine callWith_of (P := K.In) (by rfl) (keep_builtin "sorted") ?_
  obtain ⟨a, ob, hm, ha, hset⟩ := ro.getS hl
  refine Calls.evalArgs_plain (Calls.spliced_cons (name_ok O hx S hm (Calls.spliced_nil ⟨W.k.keeps S.keep, ?_⟩)))
  refine sorted_set R.h (S.oin _ ha) hset hT h64 hp hr fun h' tk b vs n keep hb hget hI => ?_
  have S' := S.ext0 keep
  have F := S.free_new hb
  have z : ZLe hB.objs.size Z (Zins Z b (seqObj "list" vs n)) := ZLe.ins F.z (Nat.le_trans S.leB hb)
  refine P (.ref b) _ h' (tk, s.drawn) z (S'.freeze F hget) ?_
  unfold Has
  exact ⟨b, _, vs, n, rfl, Zins_self, rfl, rfl, rfl, ints_has hI⟩

/-- x = iter(e) -/
theorem coIter {x : Str} {np p' p p2 : Pos} {e : Expr} {l : List D} (hk : sc.names.lookup ("iter" : Str) = some .globalImplicit) (hv : glob K ("iter" : Str) = some (.builtin "iter")) (hx : isVar sc x = true) (hn : noStar e = true) (he : EvS prog w K k sc ρ e (.lst l)) (hs : ∀ env, EnvOk env sc → swapsWith (.Call (.Name ("iter" : Str) np) [e] [] p2) (some (.Name x p')) p.line env = pure false) :
    Co prog w K k sc ρ (.Assign [.Name x p'] (.Call (.Name ("iter" : Str) np) [e] [] p2) p) (.go (setL ρ x (.itr l 0))) :=
  fun env O A hB m Z own hid s Q E R W S ro P => by
  refine wpAny_Assign_Name (callG hk hv (keep_builtin "iter") (.cons hn he .nil) (by simp) env O A hB m Z (own ++ hid) s _ E R W S ro.weak fun vs Z₁ h₁ tk₁ z₁ S₁ hvs => ?_) (hs env O)
  obtain ⟨v, rfl, hv1⟩ := has1 hvs
  have hv2 := hv1
  obtain ⟨b, us, rfl, hl, r, _⟩ := isList_Z S₁.zin hv1
  unfold Has at hv2
  obtain ⟨b', lo, us', n, e1, e2, e3, _, e4, e5⟩ := hv2
  cases e1
  refine Calls.call_function_entry (by decide +kernel) (by decide +kernel) kdk_entry_iter (kdk_args_iter _) ?_
  unfold Builtin.«iter»
  refine wpAny_bind (m := someArgs "iter" 1 2 _) (wpAny_of_eq (a := [Value.ref b]) (by first | rfl | kernel_rfl) ?_)
  show wpAny _ _ (pyIter (.ref b) >>= _) _ _ _
  refine wpAny_bind (wpAny_pyIter_list (s := { s with heap := h₁, toks := tk₁.1, drawn := tk₁.2 }) hl ?_)
  refine wpAny_pure ⟨_, rfl, ?_⟩
  refine storeO (s := { s with heap := h₁.push _, toks := tk₁.1, drawn := tk₁.2 }) O hx (S₁.push _) (S₁.free_new (Nat.le_refl _)) (Heap.get?_push_size _ rfl) S₁.leB (ro.mono z₁.1) (r := .itr l 0) ⟨b, lo, us', n, rfl, rfl, e2, e3, e4, e5⟩ rfl fun h₂ tk₂ S₂ ro₂ => ?_
  exact P _ Z₁ _ h₂ tk₂ z₁ S₂ ro₂

/-- y = next(x) -/
theorem coNext {x y : Str} {np px p' p p2 : Pos} {l : List D} {i : Nat} {d : D} (hk : sc.names.lookup ("next" : Str) = some .globalImplicit) (hv : glob K ("next" : Str) = some (.builtin "next")) (hx : isAny sc x = true) (hy : isVar sc y = true) (hl : ρ.lookup x = some (.itr l i)) (hd : l[i]? = some d)
    (hs : ∀ env, EnvOk env sc → swapsWith (.Call (.Name ("next" : Str) np) [.Name x px] [] p2) (some (.Name y p')) p.line env = pure false) :
    Co prog w K k sc ρ (.Assign [.Name y p'] (.Call (.Name ("next" : Str) np) [.Name x px] [] p2) p) (.go (setL (setL ρ x (.itr l (i + 1))) y (.val d))) :=
  fun env O A hB m Z own hid s Q E R W S ro P => by
  refine wpAny_Assign_Name ?_ (hs env O)
  refine wpAny_Call_NameR (evGlob O W S.keep hk hv ?_)
  refine callWith_of (P := K.In) (by rfl) (keep_builtin "next") ?_
  obtain ⟨I, iob, hm, ha, b, lo, vs, n, c1, c2, c3, c4, c5, c6⟩ := ro.o x _ hl rfl
  refine Calls.evalArgs_plain (Calls.spliced_cons (name_ok O hx S hm (Calls.spliced_nil ⟨W.k.keeps S.keep, ?_⟩)))
  have ho := S.oin _ (List.mem_append_left hid ha)
  have hit : s.heap.IsListIter I b i := ⟨iob, ho, c1, c2⟩
  have hlist : s.heap.IsList b vs := ⟨lo, S.zin _ _ c3, c4, n, c5⟩
  obtain ⟨v, e1, hvd⟩ := c6.get i hd
  rw [Array.getElem?_toList] at e1
  refine Calls.call_function_entry (by decide +kernel) (by decide +kernel) kdk_entry_next (kdk_args_next _) ?_
  unfold Builtin.«next»
  refine wpAny_bind (m := someArgs "next" 1 2 _) (wpAny_of_eq (a := [Value.ref I]) (by first | rfl | kernel_rfl) ?_)
  dsimp only
  refine wpAny_bind (wpAny_specialOf (name := Str.ofString "__next__") hit.typeIs slot_listiter_next.lookup ?_)
  refine wpAny_ite_split (fun hab => absurd hab (by decide)) (fun _ => ?_)
  refine wpAny_bind (special_next_list hit hlist e1 fun h' hit' hsb => ?_)
  refine wpAny_pure ⟨_, rfl, ?_⟩
  obtain ⟨o', g1, g2, g3⟩ := hit'
  have S₃ := S.setOwn (List.mem_append_left _ ha) g1 fun b o q e => (hsb.2 b q).trans e
  rw [updO_append, updO_id (not_hid S ha)] at S₃
  have ro₃ : LocOk hB.objs.size m Z (updO own I o') (setL ρ x (.itr l (i + 1))) := ro.setOwn hl rfl hm ha (r' := .itr l (i + 1)) ⟨b, lo, vs, n, g2, g3, c3, c4, c5, c6⟩ rfl id
  refine storeV (s := { s with heap := h' }) O hy S₃ ro₃ hvd fun h₄ tk₄ _ S₄ ro₄ => ?_
  exact P _ Z _ h₄ tk₄ (ZLe.refl _ _) S₄ ro₄
end
end Mine
end
section
open PySem PySem.W PyProof.Rows PySem.Flt
set_option maxHeartbeats 1000000
namespace Mine

/-- a dict of ints of one's own -/
noncomputable def DctI (l : List (Int × Int)) (o : Obj) : Prop := o.cls = .type "dict" ∧ ∃ es ep, o.data = .dict es ep ∧ IntKeys es ∧ es.size ≤ l.length ∧ ∀ k, match l.lookup k with
  | some x => ∃ t, findBy Value.isInt es k = some (.int x t)
  | none => findBy Value.isInt es k = none
noncomputable def dctV (l : List (Int × Int)) : Vr := .raw (DctI l)

theorem perm_out {I : Addr} {ob : Obj} : ∀ {own : List (Addr × Obj)}, (own.map (·.1)).Nodup → (I, ob) ∈ own → ((I, ob) :: own.filter fun p => decide (p.1 ≠ I)).Perm own
  | [], _, ha => by cases ha
  | p :: r, hnd, ha => by
    rw [List.map_cons, List.nodup_cons] at hnd
    rcases List.mem_cons.mp ha with rfl | ha
    · have e : (r.filter fun p => decide (p.1 ≠ I)) = r := List.filter_eq_self.mpr fun q hq => by
        simpa using fun w : q.1 = I => hnd.1 (List.mem_map.mpr ⟨q, hq, w⟩)
      rw [List.filter_cons_of_neg (by simp), e]
    · have hp : p.1 ≠ I := fun w => hnd.1 (List.mem_map.mpr ⟨_, ha, w.symm⟩)
      rw [List.filter_cons_of_pos (by simpa using hp)]
      exact (List.Perm.swap _ _ _).trans (List.Perm.cons p (perm_out hnd.2 ha))

section
variable {prog : Program} {w : World} {K : Frag} {k : Nat} {sc : Scope} {ρ : Loc}

/-- for y in x, x an iterator of one's own -/
theorem coForItr {x y : Str} {py px pos : Pos} {body : List Stmt} {l : List D} {i : Nat} {o : Out} (ρ₂ : Loc) (hx : isAny sc x = true) (hy : isVar sc y = true) (hl : ρ.lookup x = some (.itr l i)) (hi : i ≤ l.length) (hsub : ∀ z r, ρ₂.lookup z = some r → ρ.lookup z = some r) (hno : ρ₂.lookup x = none) (h : ForR prog w K k sc y body (l.drop i) ρ₂ o) :
    Co prog w K k sc ρ (.For (.Name y py) (.Name x px) body [] pos) o :=
  fun env O A hB m Z own hid s Q E R W S ro P => by
  refine wpAny_For ?_ (fun v => rfl)
  obtain ⟨I, iob, hm, ha, b, lo, vs, n, c1, c2, c3, c4, c5, c6⟩ := ro.o x _ hl rfl
  refine name_ok O hx S hm ?_
  have ho := S.oin _ (List.mem_append_left hid ha)
  have hit : s.heap.IsListIter I b i := ⟨iob, ho, c1, c2⟩
  have hlist : s.heap.IsList b vs := ⟨lo, S.zin _ _ c3, c4, n, c5⟩
  refine wpAny_pyIter_listiter hit ?_
  have nh := not_hid S ha
  let own' := own.filter fun p => decide (p.1 ≠ I)
  have hnd : (own.map (·.1)).Nodup := by
    have := S.ond
    rw [List.map_append] at this
    exact (List.nodup_append.mp this).1
  have hperm : (own' ++ ((I, iob) :: hid)).Perm (own ++ hid) := by
    refine List.perm_middle.trans ?_
    rw [← List.cons_append]
    refine List.Perm.append_right _ ?_
    exact perm_out hnd ha
  have S₂ : St hB env m Z (own' ++ ((I, iob) :: hid)) s.heap := S.perm hperm
  have ro₂ : LocOk hB.objs.size m Z own' ρ₂ := {
    v := fun z d e => ro.v z d (hsub z _ e)
    o := fun z r e t => by
      obtain ⟨a', ob', e1, e2, e3⟩ := ro.o z r (hsub z r e) t
      have hne' : a' ≠ I := fun w => by
        have : z = x := ro.i z x r _ I (hsub z r e) t hl rfl (w ▸ e1) hm
        rw [this, hno] at e; cases e
      exact ⟨a', ob', e1, List.mem_filter.mpr ⟨e2, by simpa using hne'⟩, e3⟩
    b := fun z r a e t nb u => ro.b z r a (hsub z r e) t nb u
    i := fun z z' r r' a e t e' t' u u' => ro.i z z' r r' a (hsub z r e) t (hsub z' r' e') t' u u' }
  have hsz : vs.size = l.length := c6.size
  have hne : b ≠ I := fun q => by
    have := S.oZ _ (List.mem_append_left hid ha)
    rw [← q] at this
    rw [c3] at this; cases this
  refine forLoop_ok (T := fun j h => h.IsListIter I b (i + j) ∧ h.IsList b vs) O R W hy h S₂ ro₂ ⟨⟨[I, b], fun j v => vs[i + j]? = some v, ?_, fun c hc => ?_, fun j v d e e' => ?_⟩, fun j h T => ?_⟩ ⟨hit, hlist⟩ P
  · have q := walks_shift (Walks.list (prog := prog) (w := w) (A := A) R.h I b hne vs) i (by omega)
    rw [List.length_drop, ← hsz]; exact q
  · rcases List.mem_cons.mp hc with rfl | hc
    · exact .inl rfl
    · rcases List.mem_cons.mp hc with rfl | hc
      · exact .inr (by rw [c3]; rfl)
      · cases hc
  · rw [List.getElem?_drop] at e'
    exact c6.at e e'
  · obtain ⟨⟨io, q, _⟩, _⟩ := T; exact ⟨io, q⟩

/-! dicts of ints -/
theorem LocOk.getD {lo : Nat} {m : Str → Option Value} {Z : Zn} {own : List (Addr × Obj)} (R : LocOk lo m Z own ρ) {x : Str} {l : List (Int × Int)} (h : ρ.lookup x = some (dctV l)) : ∃ a ob, m x = some (.ref a) ∧ (a, ob) ∈ own ∧ DctI l ob := R.o x _ h rfl
theorem DctI.map {l : List (Int × Int)} {o : Obj} (h : DctI l o) {hp : Heap} {a : Addr} (ho : hp.get? a = some o) : ∃ f, hp.IntMap a f ∧ hp.DictLe a l.length ∧ ∀ k, match l.lookup k with
    | some x => ∃ t, f k = some (.int x t)
    | none => f k = none := by
  obtain ⟨hc, es, ep, hd, hk, hz, hf⟩ := h
  refine ⟨_, ⟨o, es, ep, ho, hc, hd, hk, fun _ => rfl⟩, fun o' es' ep' e e' => ?_, hf⟩
  rw [ho] at e; cases e
  rw [hd] at e'; cases e'
  exact hz

theorem coNewDict {x : Str} {p' p p2 : Pos} (hx : isVar sc x = true) : Co prog w K k sc ρ (.Assign [.Name x p'] (.Dict [] [] p2) p) (.go (setL ρ x (dctV []))) :=
  fun env O A hB m Z own hid s Q E R W S ro P => by
  refine wpAny_Assign_Name (wpAny_Dict_empty ?_) rfl
  refine storeO O hx (S.push _) (S.free_new (Nat.le_refl _)) (Heap.get?_push_size _ rfl) S.leB ro (r := dctV []) ?_ rfl fun h₂ tk₂ S₂ ro₂ => P _ Z _ h₂ tk₂ (ZLe.refl _ _) S₂ ro₂
  exact ⟨rfl, #[], 0, rfl, fun e he => by simp at he, Nat.zero_le _, fun k => rfl⟩

theorem evInDct {x : Str} {e : Expr} {px pos : Pos} {l : List (Int × Int)} {v : Int} (hx : isAny sc x = true) (hl : ρ.lookup x = some (dctV l)) (he : EvS prog w K k sc ρ e (.int v)) : EvB prog w K k sc ρ (.Compare e [.In] [.Name x px] pos) (l.lookup v).isSome := by
  intro env O A hB m Z own s Q E R W S ro P
  refine wpAny_isTrue_Compare1 (he env O A hB m Z own s _ E R W S ro fun va Z₁ h₁ tk₁ z₁ S₁ ha => ?_) rfl
  obtain ⟨a, ob, hm, ho, hd⟩ := ro.getD hl
  refine name_ok (s := { s with heap := h₁, toks := tk₁.1, drawn := tk₁.2 }) O hx S₁ hm ?_
  obtain ⟨t, rfl⟩ := has_int ha
  obtain ⟨f, hf, _, hq⟩ := hd.map (S₁.oin _ ho)
  refine wpAny_in_intMap (s := { s with heap := h₁, toks := tk₁.1, drawn := tk₁.2 }) hf ?_
  have e1 : (f v).isSome = (l.lookup v).isSome := by
    have := hq v
    cases hlk : l.lookup v with
    | some x' => rw [hlk] at this; obtain ⟨t', q⟩ := this; rw [q]; rfl
    | none => rw [hlk] at this; rw [this]; rfl
  rw [e1]
  exact wpAny_truthy_bool (P Z₁ h₁ (tk₁.1 + 1, tk₁.2) z₁ S₁)

theorem evGetDct {x : Str} {slice : Expr} {px pos : Pos} {l : List (Int × Int)} {n v : Int} (hx : isAny sc x = true) (hl : ρ.lookup x = some (dctV l)) (hi : EvS prog w K k sc ρ slice (.int n)) (h : l.lookup n = some v) (hs : notSlice slice = true) : EvS prog w K k sc ρ (.Subscript (.Name x px) slice pos) (.int v) := by
  intro env O A hB m Z own s Q E R W S ro P
  obtain ⟨a, ob, hm, ho, hd⟩ := ro.getD hl
  refine Subscript_ (name_ok O hx S hm ?_)
  refine hi env O A hB m Z own _ _ E R W S ro fun vi Z₂ h₂ tk₂ z₂ S₂ hvi => ?_
  obtain ⟨t, rfl⟩ := has_int hvi
  obtain ⟨f, hf, _, hq⟩ := hd.map (S₂.oin _ ho)
  have := hq n
  rw [h] at this
  obtain ⟨u, hu⟩ := this
  exact tail_any (s := { s with heap := h₂, toks := tk₂.1, drawn := tk₂.2 }) hf.typeIs slot_dict_getitem.lookup (wpAny_getItem_intMap hf hu (P _ Z₂ h₂ (tk₂.1 + 1, tk₂.2) z₂ S₂ (mkI _ _))) (subscripted_of hs _ _)

theorem coSetDct {x : Str} {p0 p1 p : Pos} {i e : Expr} {l : List (Int × Int)} {n v : Int} (hx : isAny sc x = true) (hl : ρ.lookup x = some (dctV l)) (he : EvS prog w K k sc ρ e (.int v)) (hi : EvS prog w K k sc ρ i (.int n)) (hz : l.length ≤ 1000)
    (hs : ∀ env, swapsWith e (some (.Subscript (.Name x p0) i p1)) p.line env = pure false) : Co prog w K k sc ρ (.Assign [.Subscript (.Name x p0) i p1] e p) (.go (setL ρ x (dctV ((n, v) :: l)))) :=
  fun env O A hB m Z own hid s Q E R W S ro P => by
  refine wpAny_Assign_Subscript (he env O A hB m Z (own ++ hid) s _ E R W S ro.weak fun u Z₁ h₁ tk₁ z₁ S₁ hu => ?_) (hs env)
  obtain ⟨a, ob, hm, ha, hd⟩ := ro.getD hl
  refine name_ok (s := { s with heap := h₁, toks := tk₁.1, drawn := tk₁.2 }) O hx S₁ hm ?_
  refine hi env O A hB m Z₁ (own ++ hid) _ _ E R W S₁ ((ro.mono z₁.1).weak) fun vi Z₂ h₂ tk₂ z₂ S₂ hvi => ?_
  obtain ⟨t, rfl⟩ := has_int hvi
  obtain ⟨t2, rfl⟩ := has_int hu
  have ho : h₂.get? a = some ob := S₂.oin _ (List.mem_append_left _ ha)
  obtain ⟨f, hf, hle, hq⟩ := hd.map ho
  refine wpAny_setItem_intMap_le (s := { s with heap := h₂, toks := tk₂.1, drawn := tk₂.2 }) hf hle (Nat.le_trans hz (by decide)) fun h' hf' hle' hsb => ?_
  obtain ⟨o', es', ep', g1, g2, g3, g4, g5⟩ := hf'
  have S₃ := S₂.setOwn (List.mem_append_left _ ha) g1 fun b o q e => (hsb.2 b q).trans e
  rw [updO_append, updO_id (not_hid S₂ ha)] at S₃
  have z12 := z₁.tr z₂
  have hnew : DctI ((n, v) :: l) o' := by
    refine ⟨g2, es', ep', g3, g4, ?_, fun j => ?_⟩
    · simpa using hle' o' es' ep' g1 g3
    · have g6 := g5 j
      dsimp only at g6
      rw [g6, List.lookup_cons]
      by_cases q : j = n
      · subst q
        simp only [beq_self_eq_true, if_true]
        exact ⟨t2, rfl⟩
      · rw [show (j == n) = false from by simpa using q, if_neg q]
        exact hq j
  exact P m Z₂ _ h' (tk₂.1 + 1, tk₂.2) z12 S₃ ((ro.mono z12.1).setOwn hl rfl hm ha (r' := dctV ((n, v) :: l)) hnew rfl id)

/-- return d -/
theorem coRetDct {x : Str} {px pos : Pos} {l : List (Int × Int)} (hx : isAny sc x = true) (hl : ρ.lookup x = some (dctV l)) : Co prog w K k sc ρ (.Return (some (.Name x px)) pos) (.ret (.dct l)) :=
  fun env O A hB m Z own hid s Q E R W S ro P => by
  obtain ⟨a, ob, hm, ha, hd⟩ := ro.getD hl
  refine wpAny_Return_some (name_ok O hx S hm ?_)
  have ho := S.oin _ (List.mem_append_left hid ha)
  have nh := not_hid S ha
  have sub : ((own.filter fun p => decide (p.1 ≠ a)) ++ hid).Sublist (own ++ hid) := List.filter_sublist.append (List.Sublist.refl _)
  have F : Free hB env Z ((own.filter fun p => decide (p.1 ≠ a)) ++ hid) a := S.freeOfOwn (ob := ob) (List.mem_append_left _ ha) fun p hp => by
    rcases List.mem_append.mp hp with hp | hp
    · exact ⟨List.mem_append_left _ (List.mem_filter.mp hp).1, by simpa using (List.mem_filter.mp hp).2⟩
    · exact ⟨List.mem_append_right _ hp, nh p hp⟩
  have z : ZLe hB.objs.size Z (Zins Z a ob) := ZLe.ins F.z (ro.b x _ a hl rfl rfl hm)
  refine P (.ref a) m _ _ s.heap (s.toks, s.drawn) z ((S.dropOwn sub).freeze F ho) ?_
  obtain ⟨hc, es, ep, hdt, hk, _, hf⟩ := hd
  unfold Has
  refine ⟨a, ob, es, ep, rfl, Zins_self, hc, hdt, hk, fun j v e => ?_⟩
  have := hf j
  rw [e] at this
  exact this
end
end Mine
end
section
open PySem PySem.W PyProof.Rows PySem.Flt
set_option maxHeartbeats 1000000
namespace Mine

/-! an object of a class while it is made: it and its dict, held aside -/
noncomputable abbrev instHid (C x dx : Addr) (es : List DictEntry) (n : Nat) (hid : List (Addr × Obj)) : List (Addr × Obj) := (x, instObj C dx) :: (dx, dictOf es n) :: hid

section
variable (prog : Program) (w : World) (K : Frag) (k : Nat)
noncomputable def CoI (C x dx : Addr) (sc : Scope) (ρ : Loc) (F : List (Str × D)) (t : Env → Sem Flow) (ρ' : Loc) (F' : List (Str × D)) : Prop := ∀ env, EnvOk env sc → ∀ A hB m Z own hid es n s (Q : Flow → Shared → Prop) (E : Value → Shared → Prop), Rm k A → Wd K hB → St hB env m Z (own ++ instHid C x dx es n hid) s.heap → LocOk hB.objs.size m Z own ρ → HasF Z F es → es.length ≤ F.length →
  (∀ m' Z' own' es' n' h' (tk' : Tk), ZLe hB.objs.size Z Z' → St hB env m' Z' (own' ++ instHid C x dx es' n' hid) h' → LocOk hB.objs.size m' Z' own' ρ' → HasF Z' F' es' → es'.length ≤ F'.length → Q .next { s with heap := h', toks := tk'.1, drawn := tk'.2 }) →
  wpAny (model prog w) A (t env) Q E s
end

section
variable {prog : Program} {w : World} {K : Frag} {k : Nat} {sc : Scope} {ρ ρ₁ ρ₂ : Loc} {C x dx : Addr} {F F₁ F₂ : List (Str × D)}

theorem iNil : CoI prog w K k C x dx sc ρ F (fun env => execs [] env) ρ F := fun env O A hB m Z own hid es n s Q E R W S ro hF hl P =>
  wpAny_execs_nil (P m Z own es n s.heap (s.toks, s.drawn) (ZLe.refl _ _) S ro hF hl)
theorem iCons {st : Stmt} {rest : List Stmt} (h : CoI prog w K k C x dx sc ρ F (fun env => exec st env) ρ₁ F₁) (h' : CoI prog w K k C x dx sc ρ₁ F₁ (fun env => execs rest env) ρ₂ F₂) : CoI prog w K k C x dx sc ρ F (fun env => execs (st :: rest) env) ρ₂ F₂ :=
  fun env O A hB m Z own hid es n s Q E R W S ro hF hl P =>
  wpAny_execs_cons (h env O A hB m Z own hid es n s _ E R W S ro hF hl fun m₁ Z₁ own₁ es₁ n₁ h₁ tk₁ z₁ S₁ ro₁ hF₁ hl₁ =>
    h' env O A hB m₁ Z₁ own₁ hid es₁ n₁ { s with heap := h₁, toks := tk₁.1, drawn := tk₁.2 } Q E R W S₁ ro₁ hF₁ hl₁ fun m₂ Z₂ own₂ es₂ n₂ h₂ tk₂ z₂ S₂ ro₂ hF₂ hl₂ => P m₂ Z₂ own₂ es₂ n₂ h₂ tk₂ (z₁.tr z₂) S₂ ro₂ hF₂ hl₂)
theorem iLift {t : Env → Sem Flow} (h : CoT prog w K k sc ρ t (.go ρ₁)) : CoI prog w K k C x dx sc ρ F t ρ₁ F :=
  fun env O A hB m Z own hid es n s Q E R W S ro hF hl P =>
  h env O A hB m Z own (instHid C x dx es n hid) s Q E R W S ro fun m₁ Z₁ own₁ h₁ tk₁ z₁ S₁ ro₁ => P m₁ Z₁ own₁ es n h₁ tk₁ z₁ S₁ ro₁ (hF.mono z₁.1) hl
theorem iSub {t : Env → Sem Flow} {ρ' : Loc} (h : CoI prog w K k C x dx sc ρ' F t ρ₁ F₁) (q : ∀ y r, ρ'.lookup y = some r → ρ.lookup y = some r) : CoI prog w K k C x dx sc ρ F t ρ₁ F₁ :=
  fun env O A hB m Z own hid es n s Q E R W S ro hF hl P =>
  h env O A hB m Z own hid es n s Q E R W S ⟨fun y d e => ro.v y d (q y _ e), fun y r e t => ro.o y r (q y r e) t, fun y r a e t nb u => ro.b y r a (q y r e) t nb u, fun y y' r r' a e t e' t' u u' => ro.i y y' r r' a (q y r e) t (q y' r' e') t' u u'⟩ hF hl P

/-- the facts of an object of a class -/
theorem inst_facts {hB : Heap} {env : Env} {m : Str → Option Value} {Z : Zn} {own hid : List (Addr × Obj)} {h : Heap} {es : List DictEntry} {n : Nat} (S : St hB env m Z (own ++ instHid C x dx es n hid) h) :
    InstAt h x (instObj C dx) C (some (dictOf es n)) ∧ (∃ ml, Fr hB env.locals h ml) ∧ News hB env.locals h [(dx, dictOf es n)] ∧ dx ≠ x := by
  have h1 : (x, instObj C dx) ∈ own ++ instHid C x dx es n hid := List.mem_append_right _ (.head _)
  have h2 : (dx, dictOf es n) ∈ own ++ instHid C x dx es n hid := List.mem_append_right _ (.tail _ (.head _))
  obtain ⟨ml, F, _⟩ := S.fr
  refine ⟨⟨S.oin _ h1, rfl, rfl, S.oin _ h2⟩, ⟨ml, F⟩, fun p hp => ?_, fun q => ?_⟩
  · rcases List.mem_cons.mp hp with rfl | hp
    · exact ⟨S.oin _ h2, S.oL _ h2, S.oB _ h2⟩
    · cases hp
  · have := S.ond
    rw [List.map_append, List.map_cons, List.map_cons] at this
    have := (List.nodup_append.mp this).2.1
    rw [List.nodup_cons] at this
    exact this.1 (by rw [q]; exact .head _)

theorem hasF_put {Z : Zn} {nm : Str} {d : D} {v : Value} {hh : Int} {t : Tok} : ∀ {F : List (Str × D)} {es : List DictEntry}, HasF Z F es → F.lookup nm = none → Has Z d v → HasF Z (F ++ [(nm, d)]) (putL nm hh (.str nm t) v es) ∧ (putL nm hh (.str nm t) v es).length = es.length + 1
  | [], es, h, _, hv => by
    unfold HasF at h; subst h
    refine ⟨?_, rfl⟩
    show HasF Z [(nm, d)] [⟨hh, .str nm t, v⟩]
    unfold HasF
    exact ⟨_, [], rfl, ⟨t, rfl⟩, hv, by unfold HasF; rfl⟩
  | (y, d') :: F, es, h, hl, hv => by
    unfold HasF at h
    obtain ⟨e, r, rfl, ⟨t', hk⟩, hv', hr⟩ := h
    rw [List.lookup_cons] at hl
    cases q : (nm == y) with
    | true => rw [q] at hl; cases hl
    | false =>
      rw [q] at hl
      obtain ⟨i1, i2⟩ := hasF_put (hh := hh) (t := t) hr hl hv
      have ne : e.key.isStr nm = false := by
        rw [hk]
        show (y == nm) = false
        exact beqF fun w => by rw [w, beqT] at q; cases q
      unfold putL
      rw [if_neg (by rw [ne]; exact Bool.false_ne_true)]
      refine ⟨?_, by simp [i2]⟩
      show HasF Z ((y, d') :: (F ++ [(nm, d)])) _
      unfold HasF
      exact ⟨e, _, rfl, ⟨t', hk⟩, hv', i1⟩
theorem hasF_refs {Z : Zn} : ∀ {F : List (Str × D)} {es : List DictEntry}, HasF Z F es → es.any (·.refKey) = false
  | [], es, h => by unfold HasF at h; subst h; rfl
  | (y, d) :: F, es, h => by
    unfold HasF at h
    obtain ⟨e, r, rfl, ⟨t', hk⟩, hv', hr⟩ := h
    rw [List.any_cons, hasF_refs hr]
    unfold DictEntry.refKey
    rw [hk]; rfl
theorem hasF_getL {Z : Zn} {nm : Str} {F : List (Str × D)} {es : List DictEntry} (h : HasF Z F es) : (getL nm es).isSome = true := by
  unfold getL
  split
  · rfl
  · rw [hasF_refs h]; rfl
theorem hasF_get {Z : Zn} {nm : Str} {d : D} : ∀ {F : List (Str × D)} {es : List DictEntry}, HasF Z F es → F.lookup nm = some d → ∃ v, getL nm es = some (some v) ∧ Has Z d v
  | [], _, _, hl => by cases hl
  | (y, d') :: F, es, h, hl => by
    unfold HasF at h
    obtain ⟨e, r, rfl, ⟨t', hk⟩, hv', hr⟩ := h
    rw [List.lookup_cons] at hl
    cases q : (nm == y) with
    | true =>
      rw [q] at hl; cases hl
      refine ⟨e.val, ?_, hv'⟩
      unfold getL
      have : e.key.isStr nm = true := by rw [hk]; show (y == nm) = true; rw [beq_iff_eq.mp q]; exact beqT _
      rw [List.find?_cons, this]
    | false =>
      rw [q] at hl
      obtain ⟨v, i1, i2⟩ := hasF_get hr hl
      refine ⟨v, ?_, i2⟩
      have ne : e.key.isStr nm = false := by
        rw [hk]
        show (y == nm) = false
        exact beqF fun w => by rw [w, beqT] at q; cases q
      unfold getL at i1 ⊢
      rw [List.find?_cons, ne]
      have nr : e.refKey = false := by unfold DictEntry.refKey; rw [hk]
      rw [List.any_cons, nr]
      exact i1

/-- all objects that are not of the base and not the frame's own -/
noncomputable def othersOf (hB : Heap) (L : Addr) (h : Heap) : List (Addr × Obj) := (List.range h.objs.size).filterMap fun b => match h.get? b with
  | some o => if b = L ∨ (hB.get? b).isSome = true then none else some (b, o)
  | none => none
theorem mem_others {hB h : Heap} {L b : Addr} {o : Obj} : (b, o) ∈ othersOf hB L h ↔ h.get? b = some o ∧ b ≠ L ∧ hB.get? b = none := by
  unfold othersOf
  rw [List.mem_filterMap]
  constructor
  · rintro ⟨c, hc, e⟩
    split at e
    · rename_i o' ho'
      split at e
      · cases e
      · rename_i q
        cases e
        refine ⟨ho', fun w => q (.inl w), ?_⟩
        cases w : hB.get? b with
        | none => rfl
        | some x => exact absurd (.inr (by rw [w]; rfl)) q
    · cases e
  · rintro ⟨h1, h2, h3⟩
    refine ⟨b, List.mem_range.mpr (Heap.lt_size h1), ?_⟩
    rw [h1]
    dsimp only
    rw [if_neg (by rw [h3]; simp [h2])]
theorem others_news {hB h : Heap} {L : Addr} : News hB L h (othersOf hB L h) := fun p hp => by
  obtain ⟨h1, h2, h3⟩ := mem_others.mp (show (p.1, p.2) ∈ _ from hp)
  exact ⟨h1, h2, h3⟩
theorem upd_of {d : Addr} {o o' : Obj} : ∀ {l : List (Addr × Obj)}, (l.map (·.1)).Nodup → (d, o) ∈ l → ∃ l', Upd d o o' l l' ∧ ∀ p ∈ l, p.1 ≠ d → p ∈ l'
  | [], _, h => by cases h
  | p :: r, hn, h => by
    rw [List.map_cons, List.nodup_cons] at hn
    rcases List.mem_cons.mp h with rfl | h
    · exact ⟨(d, o') :: r, .head fun q hq w => hn.1 (List.mem_map.mpr ⟨q, hq, w⟩), fun q hq w => by
        rcases List.mem_cons.mp hq with rfl | hq
        · exact absurd rfl w
        · exact .tail _ hq⟩
    · have hp : p.1 ≠ d := fun w => hn.1 (List.mem_map.mpr ⟨_, h, w.symm⟩)
      obtain ⟨l', u, k⟩ := upd_of (o' := o') hn.2 h
      exact ⟨p :: l', .tail hp u, fun q hq w => by
        rcases List.mem_cons.mp hq with rfl | hq
        · exact .head _
        · exact .tail _ (k q hq w)⟩
theorem others_nodup {hB h : Heap} {L : Addr} : ((othersOf hB L h).map (·.1)).Nodup := by
  have key : ∀ l : List Nat, l.Nodup → ((l.filterMap fun b => match h.get? b with
      | some o => if b = L ∨ (hB.get? b).isSome = true then none else some (b, o)
      | none => none).map (·.1)).Nodup := fun l => by
    induction l with
    | nil => intro _; exact List.nodup_nil
    | cons b r ih =>
      intro hn
      rw [List.nodup_cons] at hn
      rw [List.filterMap_cons]
      split
      · exact ih hn.2
      · rename_i p hp
        have e : p.1 = b := by
          split at hp
          · split at hp
            · cases hp
            · cases hp; rfl
          · cases hp
        rw [List.map_cons, List.nodup_cons]
        refine ⟨fun hm => ?_, ih hn.2⟩
        obtain ⟨q, hq, w⟩ := List.mem_map.mp hm
        obtain ⟨c, hc, f⟩ := List.mem_filterMap.mp hq
        have e2 : q.1 = c := by
          split at f
          · split at f
            · cases f
            · cases f; rfl
          · cases f
        exact hn.1 (by rw [← e, ← w, e2]; exact hc)
  exact key _ List.nodup_range

/-- an own object changes, and the frame's own map may be laid anew -/
theorem St.setOwnF {hB : Heap} {env : Env} {m : Str → Option Value} {Z : Zn} {own : List (Addr × Obj)} {h h' : Heap} (S : St hB env m Z own h) {a : Addr} {ob ob' : Obj} (hfr : ∃ ml, Fr hB env.locals h' ml ∧ ∀ x, env.kindOf x = some .local → ml x = m x) (ha : (a, ob) ∈ own) (hn : h'.get? a = some ob') (hk : ∀ b o, b ≠ a → b ≠ env.locals → h.get? b = some o → h'.get? b = some o) : St hB env m Z (updO own a ob') h' where
  fr := hfr
  cel := fun x c e => isCell_at (S.cel x c e) fun o q => hk c o (S.oc _ ha x c e) (S.cL x c e) q
  zin := fun b o e => hk b o (fun q => by have := S.oZ _ ha; rw [q] at e; rw [e] at this; cases this) (fun q => by rw [q, S.zL] at e; cases e) (S.zin b o e)
  zhi := S.zhi
  zL := S.zL
  zc := S.zc
  oin := fun p hp => by
    rcases updO_mem hp with rfl | ⟨q, hp⟩
    · exact hn
    · exact hk _ _ q (S.oL p hp) (S.oin p hp)
  oZ := fun p hp => by
    rcases updO_mem hp with rfl | ⟨q, hp⟩
    · exact S.oZ (a, ob) ha
    · exact S.oZ p hp
  oB := fun p hp => by
    rcases updO_mem hp with rfl | ⟨q, hp⟩
    · exact S.oB (a, ob) ha
    · exact S.oB p hp
  oL := fun p hp => by
    rcases updO_mem hp with rfl | ⟨q, hp⟩
    · exact S.oL (a, ob) ha
    · exact S.oL p hp
  oc := fun p hp => by
    rcases updO_mem hp with rfl | ⟨q, hp⟩
    · exact S.oc (a, ob) ha
    · exact S.oc p hp
  ohi := fun p hp => by
    rcases updO_mem hp with rfl | ⟨q, hp⟩
    · exact S.ohi (a, ob) ha
    · exact S.ohi p hp
  ond := by rw [updO_map]; exact S.ond
  Lhi := S.Lhi
  chi := S.chi
  cL := S.cL
  tB := S.tB
  tab := S.tab.mono (fun _ _ e => e) fun b o l e => hk b o (fun q => by have := S.ohi _ ha; rw [q] at l; rw [l] at this; cases this) (fun q => by rw [q, S.Lhi] at l; cases l) e

/-- self.name = e -/
theorem iSet {self nm : Str} {p0 p1 p : Pos} {e : Expr} {d : D} (hself : ρ.lookup self = some (.val (.adr x))) (hk : sc.names.lookup self = some .local ∨ sc.names.lookup self = some .cell ∨ sc.names.lookup self = some .free) (hnm : F.lookup nm = none) (he : EvS prog w K k sc ρ e d)
    (hs : findIn K (.ref C) "__setattr__" = some (some (.builtin "object.__setattr__"))) (hp : plainOver K C = true) (ht : takerIn K C nm = some none) (hh : hasDictIn K C = true) (hz : F.length < 1000)
    (hsw : ∀ env, swapsWith e (some (.Attribute (.Name self p0) nm p1)) p.line env = pure false) : CoI prog w K k C x dx sc ρ F (fun env => exec (.Assign [.Attribute (.Name self p0) nm p1] e p) env) ρ (F ++ [(nm, d)]) :=
  fun env O A hB m Z own hid es n s Q E R W S ro hF hl P => by
  refine plainObj_wpAny_Assign_Attribute (he env O A hB m Z (own ++ instHid C x dx es n hid) s _ E R W S ro.weak fun v Z₁ h₁ tk₁ z₁ S₁ hv => ?_) (hsw env)
  refine evName (pos := p0) hk hself env O A hB m Z₁ (own ++ instHid C x dx es n hid) { s with heap := h₁, toks := tk₁.1, drawn := tk₁.2 } _ E R W S₁ (ro.mono z₁.1).weak fun u Z₂ h₂ tk₂ z₂ S₂ hu => ?_
  have hu' : u = .ref x := by unfold Has at hu; exact hu
  subst hu'
  obtain ⟨I, _, _, hdx⟩ := inst_facts S₂
  obtain ⟨ml, hFr, hag⟩ := S₂.fr
  have hmem : (dx, dictOf es n) ∈ own ++ instHid C x dx es n hid := List.mem_append_right _ (.tail _ (.head _))
  have hF₂ := hF.mono (ZLe.trans z₁ z₂ (Nat.le_refl _)).1
  have hin : (dx, dictOf es n) ∈ othersOf hB env.locals h₂ := mem_others.mpr ⟨S₂.oin _ hmem, S₂.oL _ hmem, S₂.oB _ hmem⟩
  obtain ⟨b1, b2⟩ := hasF_put (hh := PyData.keyHash w.params nm) (t := tk₂.1 + 1) hF₂ hnm (hv.mono z₂.1)
  obtain ⟨news', U, hkeep⟩ := upd_of (o' := dictOf (putL nm (PyData.keyHash w.params nm) (.str nm (tk₂.1 + 1)) v es) (putN nm es n)) others_nodup hin
  refine set_dict (s := { s with heap := h₂, toks := tk₂.1, drawn := tk₂.2 }) hFr W.k others_news I rfl hs hp ht hh (hasF_getL hF₂) rfl U (by rw [b2]; omega) fun h' F' N' => ?_
  have hdx' : (dx, dictOf (putL nm (PyData.keyHash w.params nm) (.str nm (tk₂.1 + 1)) v es) (putN nm es n)) ∈ news' := by
    obtain ⟨pre, post, e1, e2, _, _⟩ := U.split
    rw [e2]; exact List.mem_append_right _ (.head _)
  have S₃ := S₂.setOwnF ⟨ml, F', hag⟩ hmem (N' _ hdx').1 fun b o q1 q2 e => by
    cases w1 : hB.get? b with
    | some o' =>
      have := F'.keep b o' w1
      have h2 := S₂.keep b o' w1
      rw [h2] at e; cases e; exact this
    | none => exact (N' _ (hkeep (b, o) (mem_others.mpr ⟨e, q2, w1⟩) q1)).1
  have e : updO (own ++ instHid C x dx es n hid) dx (dictOf (putL nm (PyData.keyHash w.params nm) (.str nm (tk₂.1 + 1)) v es) (putN nm es n)) = own ++ instHid C x dx (putL nm (PyData.keyHash w.params nm) (.str nm (tk₂.1 + 1)) v es) (putN nm es n) hid := by
    have hnd := S₂.ond
    rw [List.map_append, List.map_cons, List.map_cons] at hnd
    obtain ⟨n1, n2, n3⟩ := List.nodup_append.mp hnd
    rw [List.nodup_cons, List.nodup_cons] at n2
    rw [updO_append, updO_id fun p hp q => n3 p.1 (List.mem_map_of_mem hp) dx (.tail _ (.head _)) q]
    show own ++ ((if x = dx then _ else (x, instObj C dx)) :: (if dx = dx then _ else _) :: updO hid dx _) = _
    rw [if_neg (Ne.symm hdx), if_pos rfl, updO_id fun p hp q => n2.2.1 (List.mem_map.mpr ⟨p, hp, q⟩)]
  rw [e] at S₃
  exact P m Z₂ own _ _ h' (tk₂.1 + 2, tk₂.2) (ZLe.trans z₁ z₂ (Nat.le_refl _)) S₃ ((ro.mono z₁.1).mono z₂.1) b1 (by rw [b2, List.length_append]; simp; omega)
end
end Mine
end
section
open PySem PySem.W PyProof.Rows PySem.Flt
set_option maxHeartbeats 1000000
namespace Mine

noncomputable def ghX (h : Heap) (X : List Addr) : Heap := hideAll (gh h) X
theorem ghX_get {h : Heap} {X : List Addr} {b : Addr} {o : Obj} (e : h.get? b = some o) (hn : isTab b = false) (hd : b ∉ X) : (ghX h X).get? b = some o := hideAll_get _ (gh_get e hn) hd
theorem of_ghX {h : Heap} {X : List Addr} {b : Addr} {o : Obj} (e : (ghX h X).get? b = some o) : h.get? b = some o := of_gh (of_hideAll _ e)
theorem ghX_tab {h : Heap} {X : List Addr} {b : Addr} (hn : isTab b = true) : (ghX h X).get? b = none := by
  cases q : (ghX h X).get? b with
  | none => rfl
  | some o => have := of_hideAll _ q; rw [gh_tab hn] at this; cases this
theorem ghX_size (h : Heap) (X : List Addr) : (ghX h X).objs.size = h.objs.size := (hideAll_size _ _).trans (gh_size h)

section
variable {hB : Heap} {env env' : Env} {m m' : Str → Option Value} {Z Z' : Zn} {own own' : List (Addr × Obj)} {h h₁ h' : Heap} {X : List Addr}

/-- the frame's own map may be laid anew -/
theorem St.extF (S : St hB env m Z own h) (hfr : ∃ ml, Fr hB env.locals h' ml ∧ ∀ x, env.kindOf x = some .local → ml x = m x) (hk : ∀ b o, b ≠ env.locals → h.get? b = some o → h'.get? b = some o) : St hB env m Z own h' where
  fr := hfr
  cel := fun x c e => isCell_at (S.cel x c e) fun o q => hk c o (S.cL x c e) q
  zin := fun b o e => hk b o (fun q => by rw [q, S.zL] at e; cases e) (S.zin b o e)
  zhi := S.zhi
  zL := S.zL
  zc := S.zc
  oin := fun p hp => hk _ _ (S.oL p hp) (S.oin p hp)
  oZ := S.oZ
  oB := S.oB
  oL := S.oL
  oc := S.oc
  ohi := S.ohi
  ond := S.ond
  Lhi := S.Lhi
  chi := S.chi
  cL := S.cL
  tB := S.tB
  tab := S.tab.mono (fun _ _ e => e) fun b o l e => hk b o (fun q => by rw [q, S.Lhi] at l; cases l) e

theorem St.backX (S : St hB env m Z own h) (hX : ∀ a ∈ X, Free hB env Z own a) (S' : St (ghX h X) env' m' Z' own' h') (z : ZLe (ghX h X).objs.size Z Z') : St hB env m Z' own h' := by
  have kp : ∀ b o, isTab b = false → b ∉ X → h.get? b = some o → h'.get? b = some o := fun b o n d e => S'.keep b o (ghX_get e n d)
  have nz : ∀ b, Z b = none → b < h.objs.size → Z' b = none := fun b e l => by
    cases q : Z' b with
    | none => rfl
    | some o =>
      rcases z.2 b o q with w | w
      · rw [e] at w; cases w
      · rw [ghX_size] at w; exact absurd l (Nat.not_lt.mpr w)
  exact {
    fr := by
      obtain ⟨ml, F, e⟩ := S.fr
      refine ⟨ml, ⟨F.ns.at' fun o q => kp _ o S.Lhi (fun w => (hX _ w).L rfl) q, fun b o q => ?_, F.above⟩, e⟩
      exact S'.keep b o (ghX_get (S.keep b o q) (by
        cases w : isTab b with
        | false => rfl
        | true => rw [S.tB b w] at q; cases q) fun w => by rw [(hX _ w).B] at q; cases q)
    cel := fun x c e => isCell_at (S.cel x c e) fun o q => kp c o (S.chi x c e) (fun w => (hX _ w).c x c e rfl) q
    zin := S'.zin
    zhi := S'.zhi
    zL := nz _ S.zL S.ltL
    zc := fun x c e => nz _ (S.zc x c e) (S.cel x c e).lt
    oin := fun p hp => kp _ _ (S.ohi p hp) (fun w => (hX _ w).o p hp rfl) (S.oin p hp)
    oZ := fun p hp => nz _ (S.oZ p hp) (Heap.lt_size (S.oin p hp))
    oB := S.oB
    oL := S.oL
    oc := S.oc
    ohi := S.ohi
    ond := S.ond
    Lhi := S.Lhi
    chi := S.chi
    cL := S.cL
    tB := S.tB
    tab := S'.tab }

/-- a frame with own objects handed in; no cells -/
theorem St.enterX (S : St hB env m Z own h) {own₀ : List (Addr × Obj)} (h0 : ∀ p ∈ own₀, h.get? p.1 = some p.2 ∧ Free hB env Z own p.1) (hnd : (own₀.map (·.1)).Nodup) {ml : Str → Option Value} (hk : ∀ b o, h.get? b = some o → h₁.get? b = some o) (F : h₁.Ns env'.locals ml) (hm : ∀ x, env'.kindOf x = some .local → ml x = m' x) (hl : h.objs.size ≤ env'.locals)
    (hc : ∀ x c, env'.cells.lookup x ≠ some c) : St (ghX h (own₀.map (·.1))) env' m' Z own₀ h₁ where
  fr := ⟨ml, ⟨F, fun b o e => hk b o (of_ghX e), by rw [ghX_size]; exact hl⟩, hm⟩
  cel := fun x c e => absurd e (hc x c)
  zin := fun a o e => hk a o (S.zin a o e)
  zhi := S.zhi
  zL := (S.free_new hl).z
  zc := fun x c e => absurd e (hc x c)
  oin := fun p hp => hk _ _ (h0 p hp).1
  oZ := fun p hp => (h0 p hp).2.z
  oB := fun p hp => hideAll_none _ (List.mem_map_of_mem hp)
  oL := fun p hp => Nat.ne_of_lt (Nat.lt_of_lt_of_le (Heap.lt_size (h0 p hp).1) hl)
  oc := fun p hp x c e => absurd e (hc x c)
  ohi := fun p hp => (h0 p hp).2.hi
  ond := hnd
  Lhi := (S.free_new hl).hi
  chi := fun x c e => absurd e (hc x c)
  cL := fun x c e => absurd e (hc x c)
  tB := fun a e => ghX_tab e
  tab := S.tab.mono (fun _ _ e => e) fun b o _ e => hk b o e
theorem St.ghXB (S : St hB env m Z own h) (hX : ∀ a ∈ X, Free hB env Z own a) : ∀ b o, hB.get? b = some o → (ghX h X).get? b = some o := fun b o e =>
  ghX_get (S.keep b o e) (by
    cases q : isTab b with
    | false => rfl
    | true => rw [S.tB b q] at e; cases e) (fun q => by rw [(hX _ q).B] at e; cases e)
end

section
variable {prog : Program} {w : World} {K : Frag} {k : Nat}

theorem Rm.under {A : Around} {C : Addr} {vs : List Value} (R : Rm (k + 1) A) : Rm k (A.under (.builtin "type.__call__" ⟨.ref C :: vs, []⟩)) :=
  ⟨R.h, by have := R.d; rw [depth_under_make]; omega, by have := R.u; rw [units_under_make]; omega⟩

/-- a class with a plain __init__, as a function of data -/
theorem vspecI {C fI : Addr} {oc dV kV doc pm cdv ct : Value} {od an : Option Addr} {osl : Array (Option Value)} {name qual : Str} {params : Arguments} {body : List Stmt} {sc : Scope} {ds : List D} {xs : List Str} {ρ' : Loc} {F' : List (Str × D)}
    (hm : makesIn K C = true) (hi : findIn K (.ref C) "__init__" = some (some (.ref fI))) (hf : isFn K (.ref fI) = true)
    (ho : K.lookup fI = some ⟨oc, od, .func (fnOf name qual params body sc dV kV doc pm an cdv ct), osl⟩) (hcd : codeIn K cdv qual = true)
    (hb : ∀ vs : List Value, vs.length = xs.length → bindArgs (fnOf name qual params body sc dV kV doc pm an cdv ct) ⟨vs, []⟩ = pure (xs.zip vs)) (hs : okScope sc = true) (hcell : (sc.names.all fun p => p.2 != .cell) = true) (hx : xs.all (isVar sc) = true) (hn : xs.Nodup) (hl : ds.length + 1 = xs.length)
    (h : ∀ x dx, CoI prog w K k C x dx sc (locsOf xs (.adr x :: ds)) [] (fun env => execs body env) ρ' F') : VSpec prog w K (k + 2) (.ref C) ds (.obj C F') := by
  intro env hke A hB m Z own s vs Q E R W S hv P
  have hs' := hs
  unfold okScope at hs'
  simp only [Bool.and_eq_true, decide_eq_true_eq, Option.isNone_iff_eq_none, Bool.not_eq_true'] at hs'
  obtain ⟨⟨⟨⟨⟨⟨⟨h0, h1⟩, h2⟩, h3⟩, h4⟩, h5⟩, h6⟩, h7⟩ := hs'
  obtain ⟨p, loose, mean, mg, mb, T⟩ := W.t
  obtain ⟨ml, hFr, hag⟩ := S.fr
  obtain ⟨hh, gg, dd, tt, oo⟩ := s
  have X₀ : K.In hh := W.k.keeps S.keep
  refine wpAny_call (make_core (makes_of X₀ hm) (looks_findIn X₀ hi) (fun self => bind_fn X₀ self (beq_iff_eq.mp hf)) (.inl rfl) ?_)
  have S₁ : St hB env m Z own ((hh.push emptyDict).push (instObj C hh.objs.size)) := (S.push _).push _
  have x1 : ((hh.push emptyDict).push (instObj C hh.objs.size)).get? (hh.objs.size + 1) = some (instObj C hh.objs.size) := by
    rw [← size_push' hh emptyDict]; exact Heap.get?_push_size _ rfl
  have d1 : ((hh.push emptyDict).push (instObj C hh.objs.size)).get? hh.objs.size = some (dictOf [] 0) := Heap.get?_push_of_some _ (Heap.get?_push_size _ rfl)
  have fx : Free hB env Z own (hh.objs.size + 1) := S.free_new (Nat.le_succ hh.objs.size)
  have fd := S.free_new (Nat.le_refl hh.objs.size)
  have hbd : hB.objs.size ≤ hh.objs.size := S.leB
  have hdx : hh.objs.size < hh.objs.size + 1 := Nat.lt_succ_self _
  generalize hH : (hh.push emptyDict).push (instObj C hh.objs.size) = h' at S₁ x1 d1 ⊢
  generalize hX : hh.objs.size + 1 = x at x1 fx hdx ⊢
  have hbx : hB.objs.size ≤ x := Nat.le_trans hbd (Nat.le_of_lt hdx)
  generalize hD : hh.objs.size = dx at x1 d1 fd fx hbd hdx ⊢
  have X' : K.In h' := W.k.keeps S₁.keep
  have hvl : (Value.ref x :: vs).length = xs.length := by rw [List.length_cons, hv.length, hl]
  have hloc : ∀ y ∈ xs.zip (Value.ref x :: vs), sc.names.lookup y.1 = some .local := fun y hy => by
    have hyk : y.1 ∈ xs := (List.of_mem_zip (show (y.1, y.2) ∈ xs.zip (Value.ref x :: vs) from hy)).1
    rcases isVar_or (List.all_eq_true.mp hx _ hyk) with q | q
    · exact q
    · have := List.all_eq_true.mp hcell _ (lookup_mem q)
      cases this
  have nocell : ∀ y ∈ sc.names, y.2 ≠ .cell := fun y hy q => by
    have := List.all_eq_true.mp hcell y hy
    rw [q] at this; cases this
  have R₁ : Rm (k + 1) (A.under (.builtin "type.__call__" ⟨.ref C :: vs, []⟩)) := Rm.under R
  refine codeAny_call_def (s := ⟨h', gg, dd, tt, oo⟩) (fd := fnOf name qual params body sc dV kV doc pm an cdv ct) R₁.room (X' _ _ ho) rfl (T.nolimit.keeps S₁.keep) (codeRec_of X' hcd) rfl (BindsTo.of_eq (hb _ hvl)) nocell hloc (fun h₁ hns hk => ?_) h6 h7 h5
  have noc : ∀ y c, ([] : List (Str × Addr)).lookup y ≠ some c := fun y c e => by cases e
  let env' := callEnv (fnOf name qual params body sc dV kV doc pm an cdv ct) h'.objs.size fI
  have nofree : ∀ y, sc.names.lookup y ≠ some .free := fun y e => by
    unfold noFree at h2
    have := List.all_eq_true.mp h2 _ (lookup_mem e)
    cases this
  have O : EnvOk env' sc := { kind := h5, glo := rfl, bui := rfl, kg := fun x e => e, kl := fun x e => e, kc := fun x e => absurd rfl (nocell _ (lookup_mem e)), kf := fun x e => absurd e (nofree x), lc := fun x e => rfl, ci := fun x y c e => absurd e (noc x c), mo := fun x n e => absurd e (noMore h0), co := fun n e => absurd e (noMore h0), qu := fun x e => absurd e (noMoreQ h0), nd := h3, nc := h4 }
  let m' : Str → Option Value := fun y => (xs.zip (Value.ref x :: vs)).reverse.lookup y
  have hXf : ∀ a ∈ ([(x, instObj C dx), (dx, dictOf [] 0)] : List (Addr × Obj)).map (·.1), Free hB env Z own a := fun a ha => by
    rcases List.mem_cons.mp ha with rfl | ha
    · exact fx
    · rcases List.mem_cons.mp ha with rfl | ha
      · exact fd
      · cases ha
  have S₂ : St (ghX h' (([(x, instObj C dx), (dx, dictOf [] 0)] : List (Addr × Obj)).map (·.1))) env' m' Z [(x, instObj C dx), (dx, dictOf [] 0)] h₁ := S₁.enterX (fun p hp => by
    rcases List.mem_cons.mp hp with rfl | hp
    · exact ⟨x1, fx⟩
    · rcases List.mem_cons.mp hp with rfl | hp
      · exact ⟨d1, fd⟩
      · cases hp) (by simp; exact Nat.ne_of_gt hdx) hk hns (fun y e => rfl) (Nat.le_refl _) noc
  have hv' : HasL Z (.adr x :: ds) (.ref x :: vs) := hasL_cons (by unfold Has; rfl) hv
  have ro : LocOk (ghX h' (([(x, instObj C dx), (dx, dictOf [] 0)] : List (Addr × Obj)).map (·.1))).objs.size m' Z [] (locsOf xs (.adr x :: ds)) := LocOk.ofVals fun y r e => by
    obtain ⟨d', v, e1, e2, e3⟩ := locs_has hv' e
    refine ⟨d', v, e1, mem_lookup ?_ (List.mem_reverse.mpr e2), e3⟩
    rw [List.map_reverse, zip_keys hvl]
    exact (List.reverse_perm xs).nodup_iff.mpr hn
  have W' : Wd K (ghX h' (([(x, instObj C dx), (dx, dictOf [] 0)] : List (Addr × Obj)).map (·.1))) := W.keeps (S₁.ghXB hXf)
  refine h x dx env' O _ _ m' Z [] [] [] 0 ⟨h₁, gg, dd, tt + (xs.zip (Value.ref x :: vs)).length, oo⟩ _ _ (R₁.deeper _) W' S₂ ro (by unfold HasF; rfl) (Nat.zero_le _) fun m₂ Z₂ own₂ es₂ n₂ h₂ tk₂ z₂ S₃ ro₃ hF hle => ?_
  have S₄ : St hB env m Z₂ own h₂ := S₁.backX hXf S₃ z₂
  have gx := S₃.oin (x, instObj C dx) (List.mem_append_right _ (.head _))
  have gd := S₃.oin (dx, dictOf es₂ n₂) (List.mem_append_right _ (.tail _ (.head _)))
  have zx : Z₂ x = none := S₃.oZ (x, instObj C dx) (List.mem_append_right _ (.head _))
  have zd : Z₂ dx = none := S₃.oZ (dx, dictOf es₂ n₂) (List.mem_append_right _ (.tail _ (.head _)))
  have fx₂ : Free hB env Z₂ own x := { fx with z := zx }
  have fd₂ : Free hB env Z₂ own dx := { fd with z := zd }
  have S₅ := S₄.freeze fd₂ gd
  have hxd : x ≠ dx := Nat.ne_of_gt hdx
  have fx₃ : Free hB env (Zins Z₂ dx (dictOf es₂ n₂)) own x := { fx₂ with z := by unfold Zins; rw [if_neg hxd]; exact zx }
  have S₆ := S₅.freeze fx₃ gx
  have hsz : hB.objs.size ≤ h'.objs.size := S₁.leB
  have z₃ : ZLe hB.objs.size Z₂ (Zins Z₂ dx (dictOf es₂ n₂)) := ZLe.ins zd hbd
  have z₄ : ZLe hB.objs.size (Zins Z₂ dx (dictOf es₂ n₂)) (Zins (Zins Z₂ dx (dictOf es₂ n₂)) x (instObj C dx)) := ZLe.ins fx₃.z hbx
  refine ⟨rfl, ?_⟩
  refine P (.ref x) _ h₂ tk₂ (((z₂.of_le (by rw [ghX_size]; exact hsz)).tr z₃).tr z₄) S₆ ?_
  unfold Has
  refine ⟨x, dx, es₂, n₂, rfl, Zins_self, ?_, hF.mono (z₃.tr z₄).1⟩
  unfold Zins
  rw [if_neg (Ne.symm hxd), if_pos rfl]
end
end Mine
end
section
open PySem PySem.W PyProof.Rows PySem.Flt
set_option maxHeartbeats 1000000
namespace Mine

theorem has_handed {Z : Zn} {d : D} {v : Value} (h : Has Z d v) : handedIn v = true := by
  cases d with
  | none => rw [has_none h]; rfl
  | bool b => rw [has_bool h]; rfl
  | int i => obtain ⟨t, rfl⟩ := has_int h; rfl
  | flt x => obtain ⟨t, rfl⟩ := has_flt h; rfl
  | str x => obtain ⟨t, rfl⟩ := has_str h; rfl
  | adr a => unfold Has at h; rw [h]; rfl
  | tup l => unfold Has at h; obtain ⟨a, o, vs, n, rfl, _⟩ := h; rfl
  | lst l => unfold Has at h; obtain ⟨a, o, vs, n, rfl, _⟩ := h; rfl
  | fn a fd => unfold Has at h; rw [h.1]; rfl
  | dct l => unfold Has at h; obtain ⟨a, o, es, n, rfl, _⟩ := h; rfl
  | obj C l => unfold Has at h; obtain ⟨a, dx, es, n, rfl, _⟩ := h; rfl

section
variable {prog : Program} {w : World} {K : Frag} {k : Nat} {sc : Scope} {ρ ρ₁ : Loc} {C x dx : Addr} {F : List (Str × D)}

/-- a class's attribute -/
theorem evClsAttr {cn nm : Str} {np pos : Pos} {d : D} {mc a : Value} (hk : sc.names.lookup cn = some .globalImplicit) (hv : glob K cn = some (.ref C)) (hm : typeIn K (.ref C) = some mc) (hr : readsIn K C mc = true) (e : findCls K (.ref C) mc nm = some (.val a)) (hh : handedIn a = true) (hd : ∀ Z, Has Z d a) :
    EvS prog w K k sc ρ (.Attribute (.Name cn np) nm pos) d := by
  intro env O A hB m Z own s Q E R W S ro P
  obtain ⟨ml, hFr, _⟩ := S.fr
  exact Attribute_name (evGlob O W S.keep hk hv (cls_val hFr W.k hm hr e hh (P a Z s.heap (s.toks + 1, s.drawn) (ZLe.refl _ _) S (hd Z))))

/-- an object's own attribute -/
theorem evObjAttr {value : Expr} {nm : Str} {pos : Pos} {d : D} {attr : Option Value} (ho : EvS prog w K k sc ρ value (.obj C F)) (hl : F.lookup nm = some d) (hg : plainGet K C nm = true) (hh : hasDictIn K C = true) (ha : findIn K (.ref C) nm = some attr) (hn : noGet K attr = true)
    (hb : ∀ env, attributeBase value nm env (eval value env) = eval value env) : EvS prog w K k sc ρ (.Attribute value nm pos) d := by
  intro env O A hB m Z own s Q E R W S ro P
  refine Attribute_any_ ?_ (by rw [arm_eval_Attribute, hb])
  refine ho env O A hB m Z own s _ E R W S ro fun v Z₁ h₁ tk₁ z₁ S₁ hv => ?_
  unfold Has at hv
  obtain ⟨x, dx, es, n, rfl, hx, hdx, hF⟩ := hv
  obtain ⟨u, hu, hud⟩ := hasF_get hF hl
  obtain ⟨ml, hFr, _⟩ := S₁.fr
  have I : InstAt h₁ x (instObj C dx) C (some (dictOf es n)) := ⟨S₁.zin _ _ hx, rfl, rfl, S₁.zin _ _ hdx⟩
  exact get_own (s := { s with heap := h₁, toks := tk₁.1, drawn := tk₁.2 }) hFr W.k I hg hh ha hn hu (has_handed hud) (P u Z₁ h₁ (tk₁.1 + 1, tk₁.2) z₁ S₁ hud)

/-- for y in self.name, a text -/
theorem iFor {self nm y : Str} {p0 p1 py pos : Pos} {body : List Stmt} {t : Str} {attr : Option Value} (hself : ρ.lookup self = some (.val (.adr x))) (hk : sc.names.lookup self = some .local ∨ sc.names.lookup self = some .cell ∨ sc.names.lookup self = some .free) (hnm : F.lookup nm = some (.str t)) (hasc : t.cps.all (· < 128) = true)
    (hg : plainGet K C nm = true) (hh : hasDictIn K C = true) (ha : findIn K (.ref C) nm = some attr) (hn : noGet K attr = true) (hy : isVar sc y = true) (h : ForR prog w K k sc y body (signsD t) ρ (.go ρ₁)) :
    CoI prog w K k C x dx sc ρ F (fun env => exec (.For (.Name y py) (.Attribute (.Name self p0) nm p1) body [] pos) env) ρ₁ F :=
  fun env O A hB m Z own hid es n s Q E R W S ro hF hl P => by
  refine wpAny_For ?_ (fun v => rfl)
  refine Attribute_name ?_
  refine evName (pos := p0) hk hself env O A hB m Z (own ++ instHid C x dx es n hid) s _ E R W S ro.weak fun u Z₂ h₂ tk₂ z₂ S₂ hu => ?_
  have hu' : u = .ref x := by unfold Has at hu; exact hu
  subst hu'
  obtain ⟨I, ⟨ml, hFr⟩, _, _⟩ := inst_facts S₂
  obtain ⟨v, hv, hvd⟩ := hasF_get (hF.mono z₂.1) hnm
  refine get_own (s := { s with heap := h₂, toks := tk₂.1, drawn := tk₂.2 }) hFr W.k I hg hh ha hn hv (has_handed hvd) ?_
  obtain ⟨tt, rfl⟩ := has_str hvd
  refine wpAny_pyIter_ascii hasc ?_
  have X : Iter prog w A Z₂ h₂.objs.size (signsD t) (fun i h => h.IsStrIter h₂.objs.size "str_ascii_iterator" t tt i) := by
    refine ⟨⟨[h₂.objs.size], SignAt t, ?_, ?_, ?_⟩, fun i h T => ?_⟩
    · have : (signsD t).length = t.cps.size := by unfold signsD; simp
      rw [this]; exact Walks.strAscii R.h _ t tt
    · intro b hb
      rcases List.mem_cons.mp hb with rfl | hb
      · exact .inl rfl
      · cases hb
    · rintro i v d ⟨c, u, e1, rfl⟩ e'
      unfold signsD at e'
      rw [List.getElem?_map, Array.getElem?_toList, e1] at e'
      cases e'
      exact mkS _ _
    · obtain ⟨o, ho, _⟩ := T; exact ⟨o, ho⟩
  have hT0 : (fun (i : Nat) (h : Heap) => h.IsStrIter h₂.objs.size "str_ascii_iterator" t tt i) 0 (h₂.push { cls := .type "str_ascii_iterator", data := .fields #[.str t tt, .int 0 0] }) := ⟨_, Heap.get?_push_size _ rfl, rfl, rfl⟩
  obtain ⟨iob, hiob, _⟩ := id hT0
  have S₄ : St hB env m Z₂ (own ++ ((h₂.objs.size, iob) :: instHid C x dx es n hid)) (h₂.push { cls := .type "str_ascii_iterator", data := .fields #[.str t tt, .int 0 0] }) := ((S₂.push _).takeOwn (S₂.free_new (Nat.le_refl _)) hiob).perm List.perm_middle
  refine forLoop_ok (s := { s with heap := h₂.push { cls := .type "str_ascii_iterator", data := .fields #[.str t tt, .int 0 0] }, toks := tk₂.1 + 1, drawn := tk₂.2 }) O R W hy h S₄ (ro.mono z₂.1) X hT0 ?_
  exact fun m' Z' own' h' tk' z' S' ro' => P m' Z' own' es n h' tk' (z₂.tr z') S' ro' (hF.mono (z₂.tr z').1) hl
end
end Mine
end
section
open PySem PySem.W PyProof.Rows PySem.Flt
set_option maxHeartbeats 1000000
namespace Mine

noncomputable abbrev S3 := List Int × SetTable × List Int
noncomputable def addS (s : S3) (x : Int) : S3 := (insI x s.1, (addT s.2.1 s.2.2 x).1, (addT s.2.1 s.2.2 x).2)
noncomputable def set3 (w : World) (s : S3) : Vr := setV w s.1 s.2.1 s.2.2
theorem insI_len (x : Int) (l : List Int) : (insI x l).length ≤ l.length + 1 := by unfold insI; split <;> simp

section
variable {prog : Program} {w : World} {A : Around}

theorem update_loop {I a : Addr} {fp : List Addr} {n : Nat} {P : Nat → Value → Prop} {T : Nat → Heap → Prop} {ns : List Int} {R : Result → Shared → Prop} (W : Walks prog w A.in1 I fp [I] n P T) (haf : a ∉ fp) (hI : I ∈ fp) (hn : ns.length = n) (hP : ∀ i v x, P i v → ns[i]? = some x → ∃ t, v = .int x t) :
    ∀ (k i : Nat) (s : Shared) (o : Obj) (S : S3), n - i = k → i ≤ n → T i s.heap → s.heap.get? a = some o → SetI w S.1 S.2.1 S.2.2 o → S.1.length + k < 1000 →
      (∀ h' tk o', h'.get? a = some o' → SetI w ((ns.drop i).foldl addS S).1 ((ns.drop i).foldl addS S).2.1 ((ns.drop i).foldl addS S).2.2 o' → (∀ b ob, b ≠ I → b ≠ a → s.heap.get? b = some ob → h'.get? b = some ob) → R (.ok (.ret .none)) { s with heap := h', toks := tk }) →
      codeAny (model prog w) A (.builtin "set.update.loop" ⟨[.ref a, .ref I], []⟩) R s := by
  have hIa : I ≠ a := fun e => haf (e ▸ hI)
  intro k
  induction k with
  | zero =>
    intro i s o S hk hi hT ho hS hl hR
    have hin : i = n := by omega
    subst hin
    refine codeAny_builtin F.entry_set_update_loop ?_
    rw [Around.under_plainId F.plain_set_update_loop _]
    show wpAny _ A.in1 (pyNext (.ref I) >>= _) _ _ s
    refine wpAny_bind (W.done s _ _ hT fun h' tk hm => ?_)
    show wpAny _ A.in1 (ret Value.none) _ _ _
    refine wpAny_pure (hR h' tk o (hm a o (by simpa using Ne.symm hIa) ho) ?_ fun b ob q _ e => hm b ob (by simpa using q) e)
    rw [List.drop_of_length_le (by omega)]; exact hS
  | succ k ih =>
    intro i s o S hk hi hT ho hS hl hR
    have hlt : i < n := by omega
    refine codeAny_builtin F.entry_set_update_loop ?_
    rw [Around.under_plainId F.plain_set_update_loop _]
    show wpAny _ A.in1 (pyNext (.ref I) >>= _) _ _ s
    refine wpAny_bind (W.item i s _ _ hlt hT fun v h₁ tk₁ hv hT₁ hm => ?_)
    obtain ⟨t, rfl⟩ := hP i v _ hv (List.getElem?_eq_getElem (by omega))
    have ho₁ : h₁.get? a = some o := hm a o (by simpa using Ne.symm hIa) ho
    show wpAny _ A.in1 (holding [Value.int _ t] (setAdd a (.int _ t)) >>= _) _ _ _
    refine wpAny_bind (wpAny_holding (setAdd_int (s := { s with heap := h₁, toks := tk₁ }) ho₁ hS (by omega) fun b h' o' tk q1 q2 q3 => ?_))
    refine wpAny_pure ⟨plainId_quiet F.plain_set_update_loop _, ih (i + 1) _ o' (addS S (ns[i]'(by omega))) (by omega) hlt (W.frame _ _ _ hT₁ fun c hc oc e => (q3.2 c (fun w1 => haf (w1 ▸ hc))).trans e) q1 q2 (by have := insI_len (ns[i]'(by omega)) S.1; show (insI _ S.1).length + k < 1000; omega) fun h₃ tk₃ o₃ q4 q5 q6 => ?_⟩
    refine hR h₃ tk₃ o₃ q4 ?_ fun c oc w1 w2 e => q6 c oc w1 w2 ((q3.2 c w2).trans (hm c oc (by simpa using w1) e))
    rw [List.drop_eq_getElem_cons (by omega), List.foldl_cons]; exact q5
end

section
variable {prog : Program} {w : World} {K : Frag} {k : Nat} {sc : Scope} {ρ : Loc}
theorem coSetUpdate {x : Str} {p0 p1 p2 p3 : Pos} {e : Expr} {S : S3} {ns : List Int} (hx : isAny sc x = true) (hl : ρ.lookup x = some (set3 w S)) (hz : S.1.length + ns.length < 1000) (hn : noStar e = true) (hp : (p1.endLine == p2.line) = true)
    (hs : ∀ env, swapsWith (.Call (.Attribute (.Name x p0) ("update" : Str) p1) [e] [] p2) none p3.line env = pure false) (hb : ∀ env, attributeBase (.Name x p0) (Str.ofString "update") env (eval (.Name x p0) env) = eval (.Name x p0) env) (he : EvS prog w K k sc ρ e (.lst (ns.map .int))) :
    Co prog w K k sc ρ (.Expr (.Call (.Attribute (.Name x p0) ("update" : Str) p1) [e] [] p2) p3) (.go (setL ρ x (set3 w (ns.foldl addS S)))) :=
  fun env O A hB m Z own hid s Q E R W S₀ ro P => by
  have L : EvL prog w K k sc ρ [e] [.lst (ns.map .int)] := .cons hn he .nil
  have hpl := L.plain p2 env
  have hfew : ((backTo p2 (starEach [e] env)).all (fun x => !x.1) && (backToKw p2 (keywordEach [] env)).all (fun x => x.1.isSome) && decide ([e].length + ([] : List Keyword).length + (if ([] : List Keyword).isEmpty then 0 else 1) < 30)) = true := by
    rw [meth_all hpl]; rfl
  obtain ⟨a, ob, hm, ha, hset⟩ := ro.getS hl
  have ho := S₀.oin _ (List.mem_append_left hid ha)
  have hT : s.TypeIs (.ref a) "set" := ⟨ob, ho, hset.1.1⟩
  refine wpAny_Expr_any (wpAny_Call_method (T := "set") (id := "set.update") (hb env) hfew hp F.plainAttrs_set F.slot_set_update F.type_set_update (name_ok O hx S₀ hm ?_)) (by unfold interactive; rw [O.kind]; rfl) (hs env)
  refine ⟨hT, fun y e => by cases e; exact ⟨ob, ho, hset.1.2.1⟩, callWith_of (P := K.In) (by rw [hpl]; rfl) (keep_builtin "set.update") ?_⟩
  have q := L.spliced p2 env O A hB m Z (own ++ hid) s
  dsimp only at q
  rw [starEach_cons hn] at q ⊢
  refine Calls.evalArgs_plain (q _ E R W S₀ ro.weak fun vs Z₁ h₁ tk₁ z₁ S₁ hvs => ⟨W.k.keeps S₁.keep, ?_⟩)
  obtain ⟨u, rfl, hu⟩ := has1 hvs
  obtain ⟨b, us, rfl, hl1, r, hzb⟩ := isList_Z S₁.zin hu
  have ho₁ := S₁.oin _ (List.mem_append_left hid ha)
  have hT₁ : Shared.TypeIs { s with heap := h₁, toks := tk₁.1, drawn := tk₁.2 } (.ref a) "set" := ⟨ob, ho₁, hset.1.1⟩
  show wpAny (model prog w) A (call (.builtin "set.update") [.ref a, .ref b]) _ E { s with heap := h₁, toks := tk₁.1, drawn := tk₁.2 }
  refine wpAny_call_entry F.slot_set_update hT₁ F.entry_set_update ?_ (F.args_set_update_2 _ _)
  obtain ⟨ol, hol, hcl, nl, hdl⟩ := id hl1
  obtain ⟨ocls, odict, odata, oslots⟩ := ol
  simp only at hcl hdl
  subst hcl; subst hdl
  have hsls := F.sub_list_set
  have hslf := F.sub_list_frozenset
  have hne : (Value.type "list" == Value.type "dict") = false := by decide
  unfold Builtin.«set.update» Builtin.Frozenset.manyOthers Builtin.Frozenset.updateFrom
  generalize hPI : pyIter = PI
  have tkd : ∃ tt, tk₁.1 = tt := ⟨_, rfl⟩
  wp_walk
  subst hPI
  refine wpAny_pyIter_list (s := { s with heap := h₁, toks := tk₁.1, drawn := tk₁.2 }) hl1 ?_
  refine wpAny_bind (wpAny_runValue ?_)
  have hbl : b < h₁.objs.size := Heap.lt_size hol
  have hal : a < h₁.objs.size := Heap.lt_size ho₁
  have hab : a ≠ b := fun e => by
    have := S₁.oZ _ (List.mem_append_left hid ha)
    rw [show (a, ob).1 = b from e] at this
    rw [this] at hzb; cases hzb
  have e1 := r.length
  rw [Array.length_toList, List.length_map] at e1
  refine update_loop (prog := prog) (w := w) (ns := ns) (I := h₁.objs.size) (a := a) (Walks.list (A := (A.in1).in1) R.h h₁.objs.size b (Nat.ne_of_lt hbl) us) (by simp only [List.mem_cons, List.not_mem_nil, or_false, not_or]; exact ⟨Nat.ne_of_lt hal, hab⟩) (.head _) e1.symm (fun i v x hv hx' => ?_) us.size 0 _ ob S (by simp) (Nat.zero_le _) ⟨⟨_, Heap.get?_push_size _ rfl, rfl, rfl⟩, ⟨_, Heap.get?_push_of_some _ hol, rfl, nl, rfl⟩⟩ (Heap.get?_push_of_some _ ho₁) hset (by omega) fun h' tk o' g1 g2 g3 => ?_
  · have := r.at (d := .int x) hv (by rw [List.getElem?_map, hx']; rfl)
    exact has_int this
  · have S₃ : St hB env m Z₁ (updO (own ++ hid) a o') h' := S₁.setOwn (List.mem_append_left _ ha) g1 fun c oc q e => g3 c oc (Nat.ne_of_lt (Heap.lt_size e)) q (Heap.get?_push_of_some _ e)
    · rw [updO_append, updO_id (not_hid S₁ ha)] at S₃
      rw [List.drop_zero] at g2
      have ro₃ : LocOk hB.objs.size m Z₁ (updO own a o') (setL ρ x (set3 w (ns.foldl addS S))) := (ro.mono z₁.1).setOwn hl rfl hm ha (r' := set3 w (ns.foldl addS S)) g2 rfl id
      refine wpAny_pure ?_
      refine wpAny_pure ?_
      refine wpAny_pure ?_
      exact wpAny_pure ⟨_, rfl, P m Z₁ _ h' (tk, tk₁.2) z₁ S₃ ro₃⟩
end
end Mine
end
section
open PySem PySem.W PyProof.Rows PySem.Flt
open Builtin Builtin.Str
set_option maxHeartbeats 1000000
namespace Mine

noncomputable def occ1 (x y : Str) (lo hi : Nat) : Int := match occurrences x y lo hi 1 with | k :: _ => (k : Int) | [] => -1
theorem gives_find4 (x y : Str) (i j : Int) (t u v v' : Tok) : Gives («str.find» ⟨[.str x t, .str y u, .int i v, .int j v'], []⟩) (.int (occ1 x y (fromIndex x.length i) (min (fromIndex x.length j) x.length))) := by
  unfold occ1
  show Gives (match occurrences x y (fromIndex x.length i) (min (fromIndex x.length j) x.length) 1 with | k :: _ => retInt k | [] => (do rule "str.find.not-found"; retInt (-1))) _
  cases occurrences x y (fromIndex x.length i) (min (fromIndex x.length j) x.length) 1 with
  | nil => exact .rule (.of_eq rfl)
  | cons k _ => exact .of_eq rfl

section
variable {prog : Program} {w : World} {K : Frag} {k : Nat} {sc : Scope} {ρ : Loc}

theorem has4 {Z : Zn} {a b c d : D} {vs : List Value} (h : HasL Z [a, b, c, d] vs) : ∃ v1 v2 v3 v4, vs = [v1, v2, v3, v4] ∧ Has Z a v1 ∧ Has Z b v2 ∧ Has Z c v3 ∧ Has Z d v4 := by
  unfold HasL at h; obtain ⟨v1, r, rfl, h1, h⟩ := h
  unfold HasL at h; obtain ⟨v2, r, rfl, h2, h⟩ := h
  unfold HasL at h; obtain ⟨v3, r, rfl, h3, h⟩ := h
  unfold HasL at h; obtain ⟨v4, r, rfl, h4, h⟩ := h
  unfold HasL at h; subst h
  exact ⟨v1, v2, v3, v4, rfl, h1, h2, h3, h4⟩

theorem vFind4 {x y : Str} {i j : Int} : VSpec prog w K k (.builtin "str.find") [.str x, .str y, .int i, .int j] (.int (occ1 x y (fromIndex x.length i) (min (fromIndex x.length j) x.length))) := by
  intro env hke A hB m Z own s vs Q E R W S hv P
  obtain ⟨v1, v2, v3, v4, rfl, h1, h2, h3, h4⟩ := has4 hv
  obtain ⟨t1, rfl⟩ := has_str h1; obtain ⟨t2, rfl⟩ := has_str h2
  obtain ⟨t3, rfl⟩ := has_int h3; obtain ⟨t4, rfl⟩ := has_int h4
  exact call_gives F.slot_str_find (typeIs_str _ _ _) F.entry_str_find (F.args_str_find_4 _ _ _ _) (gives_find4 x y i j t1 t2 t3 t4) (P _ Z s.heap ⟨_, _⟩ (ZLe.refl _ _) S (mkI _ _))

theorem vIndexS {x y : Str} (h : (occurrences x y 0 x.length 1).isEmpty = false) : VSpec prog w K k (.builtin "str.index") [.str x, .str y] (.int (Txt.find x y)) := by
  intro env hke A hB m Z own s vs Q E R W S hv P
  obtain ⟨v1, v2, rfl, h1, h2⟩ := has2 hv
  obtain ⟨t1, rfl⟩ := has_str h1; obtain ⟨t2, rfl⟩ := has_str h2
  exact index_or R.h (fun _ e => by rw [h] at e; cases e) fun _ _ => P _ Z s.heap ⟨_, _⟩ (ZLe.refl _ _) S (mkI _ _)

theorem strs_has {Z : Zn} : ∀ (tk : Nat) (xs : List Str), HasL Z (xs.map .str) (strsFrom tk xs)
  | _, [] => hasL_nil
  | tk, x :: r => hasL_cons (mkS x tk) (strs_has (tk + 1) r)

theorem vSplit {x y : Str} (h1 : (decide (x.length < y.length) || decide (strKind x < strKind y)) = false) (hy : (y.length == 0) = false) (hf : (occurrences x y 0 x.length (x.length + 1)).isEmpty = false) (hx : x.length ≤ 100000) (hn : (partsBetween x (occurrences x y 0 x.length (x.length + 1)) y.length).length ≤ 100000) :
    VSpec prog w K k (.builtin "str.split") [.str x, .str y] (.lst ((partsBetween x (occurrences x y 0 x.length (x.length + 1)) y.length).map .str)) := by
  intro env hke A hB m Z own s vs Q E R W S hv P
  obtain ⟨v1, v2, rfl, h1', h2'⟩ := has2 hv
  obtain ⟨t1, rfl⟩ := has_str h1'; obtain ⟨t2, rfl⟩ := has_str h2'
  refine call_meets F.slot_str_split (typeIs_str _ _ _) F.entry_str_split (F.args_str_split_2 _ _) (meets_str_split_sep x y t1 t2 h1 hy hf (Nat.le_trans hx (by decide)) (Nat.le_trans hn (by decide))) ?_
  have zz := Zins_le S { cls := .type "list", data := .seq (strsFrom s.toks (partsBetween x (occurrences x y 0 x.length (x.length + 1)) y.length)).toArray }
  exact P _ _ _ ⟨_, _⟩ (zz.of_le S.leB) (S.pushZ _ rfl) (has_lstZ (strs_has _ _))

theorem evNotInS {l r : Expr} {pos : Pos} {x y : Str} (hl : EvS prog w K k sc ρ l (.str y)) (hr : EvS prog w K k sc ρ r (.str x)) (hm : behindInMarks .NotIn r = false) : EvB prog w K k sc ρ (.Compare l [.NotIn] [r] pos) (!(!(occurrences x y 0 x.length 1).isEmpty)) := by
  intro env O A hB m Z own s Q E R W S ro P
  refine wpAny_isTrue_Compare1 (hl env O A hB m Z own s _ E R W S ro fun va Z₁ h₁ tk₁ z₁ S₁ ha => ?_) hm
  refine hr env O A hB m Z₁ own _ _ E R W S₁ (ro.mono z₁.1) fun vb Z₂ h₂ tk₂ z₂ S₂ hb => ?_
  obtain ⟨t, rfl⟩ := has_str ha; obtain ⟨u, rfl⟩ := has_str hb
  refine PyProof.Rows.notIn_str (s := { s with heap := h₂, toks := tk₂.1, drawn := tk₂.2 }) (wpAny_truthy_bool ?_)
  exact P Z₂ h₂ tk₂ (z₁.tr z₂) S₂

theorem evTruS {e : Expr} {x : Str} (he : EvS prog w K k sc ρ e (.str x)) (hz : x.length ≤ 100000) (hp : plainB e = true) : EvB prog w K k sc ρ e ((x.length : Int) != 0) := by
  intro env O A hB m Z own s Q E R W S ro P
  refine isTrue_plain (he env O A hB m Z own s _ E R W S ro fun v Z₁ h₁ tk₁ z₁ S₁ hv => ?_) (isTrue_of_plainB hp)
  obtain ⟨t, rfl⟩ := has_str hv
  exact PySem.P.truthy_str (s := { s with heap := h₁, toks := tk₁.1, drawn := tk₁.2 }) (by omega) (P Z₁ h₁ (tk₁.1 + 1 + 1, tk₁.2) z₁ S₁)

theorem evLast {value : Expr} {slice : Expr} {pos : Pos} {l : List D} {n : Int} {d : D} (hc : EvS prog w K k sc ρ value (.lst l)) (hi : EvS prog w K k sc ρ slice (.int n)) (h0 : n < 0) (h1 : -(l.length : Int) ≤ n) (hz : szOk l = true) (h : l[(n + l.length).toNat]? = some d) (hs : notSlice slice = true) : EvS prog w K k sc ρ (.Subscript value slice pos) d := by
  intro env O A hB m Z own s Q E R W S ro P
  refine Subscript_ (hc env O A hB m Z own s _ E R W S ro fun vc Z₁ h₁ tk₁ z₁ S₁ hvc => ?_)
  refine hi env O A hB m Z₁ own _ _ E R W S₁ (ro.mono z₁.1) fun vi Z₂ h₂ tk₂ z₂ S₂ hvi => ?_
  obtain ⟨t, rfl⟩ := has_int hvi
  obtain ⟨a, vs, rfl, hl, r, _⟩ := isList_Z S₂.zin (hvc.mono z₂.1)
  have e1 := r.size
  have hz' : l.length ≤ 100000 := of_decide_eq_true hz
  obtain ⟨v, e3, hv⟩ := r.get _ h
  exact tail_any (s := { s with heap := h₂, toks := tk₂.1, drawn := tk₂.2 }) hl.typeIs slot_list_getitem.lookup (wpAny_getItem_list_neg hl h0 (by rw [e1]; exact h1) (by omega) (by rw [e1]; simpa using e3) (P v Z₂ h₂ tk₂ (z₁.tr z₂) S₂ hv)) (subscripted_of hs _ _)

/-! slices -/
inductive PartS (prog : Program) (w : World) (K : Frag) (k : Nat) (sc : Scope) (ρ : Loc) : Option Expr → Option Int → Prop
  | none : PartS prog w K k sc ρ none none
  | some {e i} : EvS prog w K k sc ρ e (.int i) → PartS prog w K k sc ρ (some e) (some i)
theorem part_ok {x : Option Expr} {i : Option Int} (h : PartS prog w K k sc ρ x i) {env : Env} (O : EnvOk env sc) {A : Around} {hB : Heap} {m : Str → Option Value} {Z : Zn} {own : List (Addr × Obj)} {s : Shared} {Q E : Value → Shared → Prop} (R : Rm k A) (W : Wd K hB) (S : St hB env m Z own s.heap) (ro : LocOk hB.objs.size m Z own ρ)
    (P : ∀ v Z' h' (tk' : Tk), ZLe hB.objs.size Z Z' → St hB env m Z' own h' → IsPart v i → (∀ j, i = some j → ∃ t, v = .int j t) → (i = none → v = .none) → Q v { s with heap := h', toks := tk'.1, drawn := tk'.2 }) : wpAny (model prog w) A (evalPart x env) Q E s := by
  cases h with
  | none => rw [evalPart_none]; exact wpAny_pure (P .none Z s.heap (s.toks, s.drawn) (ZLe.refl _ _) S .none (fun _ e => by cases e) fun _ => rfl)
  | some he =>
    rw [evalPart_some]
    refine he env O A hB m Z own s Q E R W S ro fun v Z' h' tk' z' S' hv => ?_
    obtain ⟨t, rfl⟩ := has_int hv
    exact P _ Z' h' tk' z' S' (.int _ t) (fun j e => by cases e; exact ⟨t, rfl⟩) fun e => by cases e

noncomputable def pickD (l : List D) (lo hi st : Option Int) : List D := (sliceRange (sliceBounds lo hi st l.length).1 (sliceBounds lo hi st l.length).2.1 (sliceBounds lo hi st l.length).2.2).filterMap (l[·]?)
theorem HasL.pick {Z : Zn} {l : List D} {vs : List Value} (h : HasL Z l vs) : ∀ ix : List Nat, HasL Z (ix.filterMap (l[·]?)) (ix.filterMap (vs[·]?))
  | [] => hasL_nil
  | i :: ix => by
    have ih := h.pick ix
    rw [List.filterMap_cons, List.filterMap_cons]
    cases e : l[i]? with
    | none =>
      have : vs[i]? = none := by
        rw [List.getElem?_eq_none_iff] at e ⊢
        rw [h.length]; exact e
      rw [this]; exact ih
    | some d =>
      obtain ⟨v, e1, hv⟩ := h.get i e
      rw [e1]
      exact hasL_cons hv ih

theorem sub_ops (a b c : Option Expr) (p : Pos) (o i : Value) : ∃ ops, subscripted (.Slice a b c p) false o i = operate ops (getItem o i) := by
  cases c with
  | none => exact ⟨[i, o], rfl⟩
  | some e => exact ⟨[o, i], rfl⟩
theorem evSliceL {value : Expr} {a b c : Option Expr} {p pos : Pos} {l : List D} {lo hi st : Option Int} (hv : EvS prog w K k sc ρ value (.lst l)) (ha : PartS prog w K k sc ρ a lo) (hb : PartS prog w K k sc ρ b hi) (hc : PartS prog w K k sc ρ c st) (h0 : st ≠ some 0) (hz : szOk l = true) :
    EvS prog w K k sc ρ (.Subscript value (.Slice a b c p) pos) (.lst (pickD l lo hi st)) := by
  intro env O A hB m Z own s Q E R W S ro P
  refine Subscript_ (hv env O A hB m Z own s _ E R W S ro fun vc Z₁ h₁ tk₁ z₁ S₁ hvc => ?_)
  refine wpAny_Slice (part_ok ha O (s := { s with heap := h₁, toks := tk₁.1, drawn := tk₁.2 }) R W S₁ (ro.mono z₁.1) fun v1 Z₂ h₂ tk₂ z₂ S₂ p1 _ _ => ?_)
  refine part_ok hb O (s := { s with heap := h₂, toks := tk₂.1, drawn := tk₂.2 }) R W S₂ ((ro.mono z₁.1).mono z₂.1) fun v2 Z₃ h₃ tk₃ z₃ S₃ p2 _ _ => ?_
  refine part_ok hc O (s := { s with heap := h₃, toks := tk₃.1, drawn := tk₃.2 }) R W S₃ (((ro.mono z₁.1).mono z₂.1).mono z₃.1) fun v3 Z₄ h₄ tk₄ z₄ S₄ p3 _ _ => ?_
  have z24 := (z₂.tr z₃).tr z₄
  obtain ⟨x, us, rfl, hl, r, _⟩ := isList_Z S₄.zin (hvc.mono z24.1)
  have hl' : (h₄.push { cls := .type "slice", data := .fields #[v1, v2, v3] }).IsList x us := hl.push _
  have S₅ : St hB env m Z₄ own (h₄.push { cls := .type "slice", data := .fields #[v1, v2, v3] }) := S₄.push _
  have hsz : us.size ≤ sizeLine := by rw [r.size]; exact Nat.le_trans (of_decide_eq_true hz) (by decide)
  obtain ⟨ops, hops⟩ := sub_ops a b c p (.ref x) (.ref h₄.objs.size)
  refine tail_any (s := { s with heap := h₄.push { cls := .type "slice", data := .fields #[v1, v2, v3] }, toks := tk₄.1, drawn := tk₄.2 }) hl'.typeIs slot_list_getitem.lookup (wpAny_getItem_list_slice hl' (Heap.IsSliceOf.new ..) p1 p2 p3 h0 ?_ hsz) hops
  have zz := Zins_le S₅ { cls := .type "list", data := .seq (slicePick us lo hi st) }
  refine P _ _ _ tk₄ ((z₁.tr z24).tr (zz.of_le S₅.leB)) (S₅.pushZ _ rfl) ?_
  have e : slicePick us lo hi st = (slicePick us lo hi st).toList.toArray := by simp
  have hh : HasL Z₄ (pickD l lo hi st) (slicePick us lo hi st).toList := by
    unfold pickD slicePick
    rw [← r.size]
    have := r.pick (sliceRange (sliceBounds lo hi st us.size).1 (sliceBounds lo hi st us.size).2.1 (sliceBounds lo hi st us.size).2.2)
    simpa using this
  rw [e] at zz ⊢
  exact has_lstZ (hh.mono zz.1)

theorem evSliceS {value : Expr} {a b : Option Expr} {p pos : Pos} {x : Str} {lo hi : Option Int} (hv : EvS prog w K k sc ρ value (.str x)) (ha : PartS prog w K k sc ρ a lo) (hb : PartS prog w K k sc ρ b hi) (hz : x.length ≤ 100000) :
    EvS prog w K k sc ρ (.Subscript value (.Slice a b none p) pos) (.str (Txt.slice x lo hi)) := by
  intro env O A hB m Z own s Q E R W S ro P
  refine Subscript_ (hv env O A hB m Z own s _ E R W S ro fun vc Z₁ h₁ tk₁ z₁ S₁ hvc => ?_)
  refine wpAny_Slice (part_ok ha O (s := { s with heap := h₁, toks := tk₁.1, drawn := tk₁.2 }) R W S₁ (ro.mono z₁.1) fun v1 Z₂ h₂ tk₂ z₂ S₂ _ p1 q1 => ?_)
  refine part_ok hb O (s := { s with heap := h₂, toks := tk₂.1, drawn := tk₂.2 }) R W S₂ ((ro.mono z₁.1).mono z₂.1) fun v2 Z₃ h₃ tk₃ z₃ S₃ _ p2 q2 => ?_
  rw [evalPart_none]
  refine wpAny_pure ?_
  have z23 := z₂.tr z₃
  obtain ⟨t, rfl⟩ := has_str (hvc.mono z23.1)
  have S₅ : St hB env m Z₃ own (h₃.push { cls := .type "slice", data := .fields #[v1, v2, .none] }) := S₃.push _
  obtain ⟨l1, e1, e1'⟩ : ∃ l1 : Option (Int × Tok), v1 = partValue l1 ∧ l1.map (·.1) = lo := by
    cases lo with
    | none => exact ⟨none, q1 rfl, rfl⟩
    | some j => obtain ⟨u, e⟩ := p1 j rfl; exact ⟨some (j, u), e, rfl⟩
  obtain ⟨l2, e2, e2'⟩ : ∃ l2 : Option (Int × Tok), v2 = partValue l2 ∧ l2.map (·.1) = hi := by
    cases hi with
    | none => exact ⟨none, q2 rfl, rfl⟩
    | some j => obtain ⟨u, e⟩ := p2 j rfl; exact ⟨some (j, u), e, rfl⟩
  subst e1; subst e2
  have fin : (sliceMade x t l1 l2 none).post (fun v s' => Q v s') { s with heap := h₃.push { cls := .type "slice", data := .fields #[partValue l1, partValue l2, .none] }, toks := tk₃.1, drawn := tk₃.2 } := by
    subst e1'; subst e2'
    refine post_val_or_str ⟨Nat.le_trans (Txt.slice_le x _ _) (Nat.le_trans hz (by decide)), fun t' k' => ?_⟩
    exact P (.str (Txt.slice x _ _) t') Z₃ _ (k', tk₃.2) (z₁.tr z23) S₅ (mkS _ _)
  exact tail_any (s := { s with heap := h₃.push { cls := .type "slice", data := .fields #[partValue l1, partValue l2, .none] }, toks := tk₃.1, drawn := tk₃.2 }) (typeIs_str _ x t) F.slot_str_getitem.lookup (wpAny_getItem_str_slice (l := l1) (u := l2) (st := none) ⟨_, Heap.get?_push_size _ rfl, rfl, rfl⟩ rfl fin) rfl
end
end Mine
end
section
open PySem PySem.W PyProof.Rows PySem.Flt
set_option maxHeartbeats 1000000
namespace Mine

noncomputable def pickI (l : List Int) (lo hi st : Option Int) : List Int := (sliceRange (sliceBounds lo hi st l.length).1 (sliceBounds lo hi st l.length).2.1 (sliceBounds lo hi st l.length).2.2).filterMap (l[·]?)
theorem pickD_ints (l : List Int) (lo hi st : Option Int) : pickD (l.map D.int) lo hi st = (pickI l lo hi st).map D.int := by
  unfold pickD pickI
  rw [List.length_map, List.map_filterMap]
  congr 1
  funext i
  simp
theorem pickI_le (l : List Int) (lo hi st : Option Int) : (pickI l lo hi st).length ≤ l.length := by
  unfold pickI
  refine Nat.le_trans (List.length_filterMap_le _ _) (sliceRange_length_le _ _ _ _ (fun hc => ?_) fun hc => ?_)
  · simp only [sliceBounds] at hc ⊢
    simp only [hc, if_true]
    constructor
    · cases lo with
      | none => simp
      | some i => dsimp only; omega
    · cases hi with
      | none => simp
      | some i => dsimp only; omega
  · simp only [sliceBounds] at hc ⊢
    simp only [hc, if_false]
    constructor
    · cases lo with
      | none => simp
      | some i => dsimp only; omega
    · cases hi with
      | none => simp
      | some i => dsimp only; omega

theorem cNe2 {a b x y : Int} (h1 : a = x) (h2 : b = y) : cmpD .NotEq (.tup [.int a, .int b]) (.tup [.int x, .int y]) = some false := by
  subst h1; subst h2
  show some (!((a == a) && ((b == b) && true))) = _
  simp
theorem cNe32 {a b c : Int} : cmpD .NotEq (.lst [.tup [.int a, .int 0], .tup [.int b, .int 0], .tup [.int c, .int 0]]) (.lst [.tup [.int a, .int 0], .tup [.int b, .int 0], .tup [.int c, .int 0]]) = some false := by
  show some (!(((a == a) && (true && true)) && (((b == b) && (true && true)) && (((c == c) && (true && true)) && true)))) = _
  simp
theorem cNeNorm {l : List Int} {b : Int} : cmpD .NotEq (.tup [.tup (l.map .int), .int b]) (.tup [.tup (l.map .int), .int b]) = some false := by
  have e : (D.tup [.tup (l.map D.int), .int b]).py = some (.tuple [.tuple (l.map .int), .int b]) := by
    have e0 : (D.tup (l.map D.int)).py = some (.tuple (l.map .int)) := by unfold D.py; rw [py_ints]; rfl
    unfold D.py pyL
    rw [e0]
    rfl
  obtain ⟨h1, h2⟩ := lay_ints l
  have s : SeqAt.shaped (.tuple [.tuple (l.map PyData.int), .int b]) = true := by
    unfold SeqAt.shaped
    simp [PyData.canLay0, PyData.canLayAll0, PyData.depth, PyData.depthAll, h1]
    omega
  show (eqD _ _).map not = _
  unfold eqD
  dsimp only
  rw [e]
  dsimp only
  rw [s]
  show some (!((PyData.eqvAll (l.map .int) (l.map .int)) && ((b == b) && true))) = _
  rw [eqv_ints]
  simp
theorem cNeBF {a b : Bool} (h : a = b) : cmpD .NotEq (.bool a) (.bool b) = some false := by subst h; show some (!(a == a)) = _; simp

section
variable {prog : Program} {w : World} {K : Frag} {k : Nat} {sc : Scope} {ρ : Loc}
theorem evAndS {x y : Expr} {pos : Pos} {a b : Bool} (hx : EvS prog w K k sc ρ x (.bool a)) (hy : EvS prog w K k sc ρ y (.bool b)) : EvS prog w K k sc ρ (.BoolOp .And [x, y] pos) (.bool (a && b)) := by
  refine evBool2 (c := a) hx rfl ?_
  cases a with
  | false => exact rfl
  | true => exact hy

theorem coUnpackL {elts : List Expr} {j : Nat} {p' p : Pos} {e : Expr} {xs : List Str} {ds : List D} (h : EvS prog w K k sc ρ e (.lst ds)) (hn : elts.map nameOf = xs.map some) (hx : xs.all (isVar sc) = true) (hl : ds.length = xs.length)
    (hs : ∀ env, swapsWithSole [.Tuple elts j p'] e p.line env = pure false) (hs' : ∀ env, EnvOk env sc → swappedStores [.Tuple elts j p'] e env = pure none) : Co prog w K k sc ρ (.Assign [.Tuple elts j p'] e p) (.go (setLs ρ xs ds)) :=
  fun env O A hB m Z own hid s Q E R W S ro P => by
  refine Assign_Tuple (h env O A hB m Z (own ++ hid) s _ E R W S ro.weak fun v Z₁ h₁ tk₁ z₁ S₁ hv => ?_) (hs env) (hs' env O)
  unfold Has at hv
  obtain ⟨a, o, vs, n, rfl, z, cc, dn, dt, r⟩ := hv
  obtain ⟨i1, i2, i3⟩ := assignEach_names (env := env) hn
  have hsz : (assignEach elts env).length = vs.size := by rw [i2, ← hl, ← r.length]; simp
  rw [assign_Tuple]
  refine wpAny_bind (wpAny_standAt ?_)
  unfold unpack
  rw [hsz, i3]
  refine wpAny_bind (wpAny_holding (kun_itemsOf (s := { s with heap := h₁, toks := tk₁.1, drawn := tk₁.2 }) R.h ⟨_, S₁.zin _ _ z, cc, n, dt⟩ fun h' hk => ?_))
  have S₂ : St hB env m Z₁ (own ++ hid) h' := S₁.ext (fun b => b = h₁.objs.size) (fun b q => S₁.free_new (Nat.le_of_eq q.symm)) fun b o q e => hk b o q e
  refine storesV O (s := { s with heap := h', toks := tk₁.1, drawn := tk₁.2 }) i1 hx r (by rw [r.length, hl]) S₂ (ro.mono z₁.1) fun m' h₂ tk₂ n₂ S₃ ro₃ => ?_
  exact P m' Z₁ own h₂ tk₂ z₁ S₃ ro₃
end
end Mine
end
section
open PySem PySem.W PyProof.Rows PySem.Flt
open Builtin Builtin.Str
set_option maxHeartbeats 1000000
namespace Mine

/-- the places of y in a text, told along the list of its signs -/
noncomputable def occG (y : List Nat) (n limit : Nat) : List Nat → Nat → Nat → Nat → List Nat
  | [], i, free, cnt => if (decide (cnt < limit) && (Nat.ble free i && y.isEmpty)) = true then [i] else []
  | x :: r, i, free, cnt => if (decide (cnt < limit) && (Nat.ble free i && y.isPrefixOf (x :: r))) = true then i :: occG y n limit r (i + 1) (i + n) (cnt + 1) else occG y n limit r (i + 1) free cnt

theorem pre_iff {y r : List Nat} : y.isPrefixOf r = true ↔ (y.length ≤ r.length ∧ r.take y.length = y) := by
  rw [List.isPrefixOf_iff_prefix, List.prefix_iff_eq_take]
  constructor
  · intro h
    refine ⟨?_, h.symm⟩
    have := congrArg List.length h
    rw [List.length_take] at this
    omega
  · rintro ⟨_, h⟩; exact h.symm
theorem subAt_iff {x y : List Nat} {i : Nat} (h : i + y.length ≤ x.length) : subAt (sT x) (sT y) i = true ↔ (x.drop i).take y.length = y := by
  unfold subAt
  rw [sT_length]
  show ((x.toArray.extract i (i + y.length)) == y.toArray) = true ↔ _
  rw [beq_iff_eq, List.extract_toArray]
  show (x.extract i (i + y.length)).toArray = y.toArray ↔ _
  rw [List.extract_eq_take_drop, show i + y.length - i = y.length by omega]
  constructor
  · intro h; injection h
  · intro h; rw [h]

theorem occG_eq (x y : List Nat) (limit : Nat) : ∀ (r : List Nat) (i : Nat) (st : Array Nat) (free : Nat), x.drop i = r → i ≤ x.length →
    (forIn (List.range' i (x.length + 1 - i)) (st, free) (StrLaws.occBody (sT x) (sT y) x.length limit)).run.fst.toList = st.toList ++ occG y y.length limit r i free st.size
  | [], i, st, free, hd, hi => by
    have e : i = x.length := by
      have := congrArg List.length hd
      rw [List.length_drop] at this
      simp at this; omega
    subst e
    rw [show x.length + 1 - x.length = 1 by omega]
    rw [show List.range' x.length 1 = [x.length] from rfl, List.forIn_cons]
    unfold StrLaws.occBody occG
    rw [sT_length]
    have q : (((st.size < limit ∧ free ≤ x.length) ∧ x.length + y.length ≤ x.length) ∧ subAt (sT x) (sT y) x.length = true) ↔ ((decide (st.size < limit) && (Nat.ble free x.length && y.isEmpty)) = true) := by
      rw [Bool.and_eq_true, Bool.and_eq_true, decide_eq_true_iff, Nat.ble_eq, List.isEmpty_iff]
      constructor
      · rintro ⟨⟨⟨h1, h2⟩, h3⟩, h4⟩
        exact ⟨h1, h2, List.length_eq_zero_iff.mp (by omega)⟩
      · rintro ⟨h1, h2, rfl⟩
        exact ⟨⟨⟨h1, h2⟩, by simp⟩, (subAt_iff (y := []) (by simp)).mpr (by simp)⟩
    by_cases c : (decide (st.size < limit) && (Nat.ble free x.length && y.isEmpty)) = true
    · rw [if_pos (q.mpr c), if_pos c]; simp
    · rw [if_neg (fun w => c (q.mp w)), if_neg c]; simp
  | a :: r, i, st, free, hd, hi => by
    have hl : i < x.length := by
      have := congrArg List.length hd
      rw [List.length_drop] at this
      simp at this; omega
    have hr : x.drop (i + 1) = r := by
      rw [← List.drop_drop, hd]; rfl
    rw [show x.length + 1 - i = (x.length + 1 - (i + 1)) + 1 by omega, List.range'_succ, List.forIn_cons]
    have q : (((st.size < limit ∧ free ≤ i) ∧ i + (sT y).length ≤ x.length) ∧ subAt (sT x) (sT y) i = true) ↔ ((decide (st.size < limit) && (Nat.ble free i && y.isPrefixOf (a :: r))) = true) := by
      rw [Bool.and_eq_true, Bool.and_eq_true, decide_eq_true_iff, Nat.ble_eq, pre_iff, sT_length, ← hd, List.length_drop]
      constructor
      · rintro ⟨⟨⟨h1, h2⟩, h3⟩, h4⟩
        exact ⟨h1, h2, by omega, (subAt_iff h3).mp h4⟩
      · rintro ⟨h1, h2, h3, h4⟩
        have h5 : i + y.length ≤ x.length := by omega
        exact ⟨⟨⟨h1, h2⟩, h5⟩, (subAt_iff h5).mpr h4⟩
    unfold StrLaws.occBody
    unfold occG
    by_cases c : (decide (st.size < limit) && (Nat.ble free i && y.isPrefixOf (a :: r))) = true
    · rw [if_pos (q.mpr c), if_pos c]
      have ih := occG_eq x y limit r (i + 1) (st.push i) (i + y.length) hr hl
      unfold StrLaws.occBody at ih
      rw [sT_length] at ih ⊢
      refine ih.trans ?_
      simp
    · rw [if_neg (fun w => c (q.mp w)), if_neg c]
      have ih := occG_eq x y limit r (i + 1) st free hr hl
      unfold StrLaws.occBody at ih
      exact ih

theorem occ_list (x y : List Nat) (lo limit : Nat) (h : lo ≤ x.length) : occurrences (sT x) (sT y) lo x.length limit = occG y y.length limit (x.drop lo) lo lo 0 := by
  rw [StrLaws.occ_eq, occG_eq x y limit (x.drop lo) lo #[] lo rfl h]
  rfl
end Mine
end
section
open PySem PySem.W PyProof.Rows PySem.Flt
set_option maxHeartbeats 1000000
namespace Mine
section
variable {prog : Program} {w : World} {K : Frag} {k : Nat} {sc : Scope} {ρ L : Loc}
theorem compMap {x : Str} {elt : Expr} {α : Type} {f : α → D} {g : α → D} (he : ∀ a, EvS prog w K k sc (setL L x (.val (f a))) elt (g a)) : ∀ xs : List α, CompR prog w K k sc L x [] elt (xs.map f) (xs.map g)
  | [] => .nil
  | a :: xs => .keep testNil (he a) (compMap he xs)
theorem compMem {x : Str} {elt : Expr} {α : Type} {f : α → D} {g : α → D} : ∀ xs : List α, (∀ a ∈ xs, EvS prog w K k sc (setL L x (.val (f a))) elt (g a)) → CompR prog w K k sc L x [] elt (xs.map f) (xs.map g)
  | [], _ => .nil
  | a :: xs, he => .keep testNil (he a (.head _)) (compMem xs fun b hb => he b (.tail _ hb))
theorem compFilter {x : Str} {ifs : List Expr} {elt : Expr} {p : Int → Bool} (he : ∀ v, EvS prog w K k sc (setL L x (.val (.int v))) elt (.int v)) : ∀ xs : List Int, (∀ v ∈ xs, TestS prog w K k sc (setL L x (.val (.int v))) ifs (p v)) → CompR prog w K k sc L x ifs elt (xs.map .int) ((xs.filter p).map .int)
  | [], _ => .nil
  | a :: xs, ht => by
    have ih := compFilter he xs fun v hv => ht v (.tail _ hv)
    have t := ht a (.head _)
    rw [List.filter_cons]
    cases q : p a with
    | true =>
      rw [q] at t
      exact .keep t (he a) ih
    | false =>
      rw [q] at t
      exact .skip t ih
theorem fmod_small (a : Int) (n : Nat) (h : 0 < n) : ∃ i : Nat, i < n ∧ a.fmod n = i := by
  have h1 := Int.fmod_nonneg_of_pos a (show (0 : Int) < n by omega)
  have h2 := Int.fmod_lt_of_pos a (show (0 : Int) < n by omega)
  exact ⟨(a.fmod n).toNat, by omega, by omega⟩
theorem fmod_nat (c n : Nat) : (c : Int).fmod n = ((c % n : Nat) : Int) := by
  rw [Int.fmod_eq_emod_of_nonneg _ (by omega)]
  simp
theorem itemT {l : List D} {n : Nat} {d : D} (h : l[n]? = some d) (hn : n < 1000) : itemD (.tup l) (.int n) = some d := by
  have hl := (List.getElem?_eq_some_iff.mp h).1
  unfold itemD
  dsimp only
  rw [if_pos (by
    have : sm (n : Int) = true := decide_eq_true (by omega)
    rw [this]
    simp
    omega)]
  have : seqIndex? (n : Int) l.length = some n := by
    unfold seqIndex?
    simp
    omega
  rw [this]
  exact h
theorem rangeL_nat (n : Nat) : rangeL 0 (n : Int) 1 = (List.range n).map Int.ofNat := by
  have e : (Builtin.Range.rangeSize 0 (n : Int) 1).toNat = n := by
    unfold Builtin.Range.rangeSize
    simp
    split <;> omega
  have hl : ∀ (m : Nat) (a : Int), (rangeI a 1 m).length = m := by
    intro m
    induction m with
    | zero => intro a; rfl
    | succ m ih => intro a; unfold rangeI; rw [List.length_cons, ih]
  unfold rangeL
  rw [e]
  apply List.ext_getElem?
  intro i
  by_cases h : i < n
  · rw [rangeI_get n 0 i h, List.getElem?_map, List.getElem?_range h]
    simp
  · rw [List.getElem?_eq_none (by rw [hl]; omega), List.getElem?_eq_none (by simp; omega)]
end
end Mine
end
section
open PySem PySem.W PyProof.Rows PySem.Flt
namespace Mine
noncomputable abbrev KP (w : World) : Frag := K0 w.params
set_option maxHeartbeats 2000000
section
variable {w : World}
theorem gOT : glob (KP w) (Str.ofString "ONE_THIRD") = some (.float 4599676419421066581 300) := by kernel_rfl
theorem gOS : glob (KP w) (Str.ofString "ONE_SIXTH") = some (.float 4595172819793696085 304) := by kernel_rfl
theorem gTT : glob (KP w) (Str.ofString "TWO_THIRD") = some (.float 4604180019048437077 308) := by kernel_rfl
theorem gDL : glob (KP w) (Str.ofString "_DIV_LIMIT") = some (.int 4000 216) := by kernel_rfl
theorem gEM : glob (KP w) (Str.ofString "ELLIPSIS_MARKER") = some (.str (Str.ofString "...") 351) := by kernel_rfl
theorem gcp : glob (KP w) (Str.ofString "compute_powers") = some (.ref 29) := by kernel_rfl
theorem gd2 : glob (KP w) (Str.ofString "_div2n1n") = some (.ref 36) := by kernel_rfl
theorem gi2 : glob (KP w) (Str.ofString "_int2digits") = some (.ref 50) := by kernel_rfl
theorem gdi : glob (KP w) (Str.ofString "_digits2int") = some (.ref 57) := by kernel_rfl
theorem gdp : glob (KP w) (Str.ofString "_divmod_pos") = some (.ref 64) := by kernel_rfl
theorem gid : glob (KP w) (Str.ofString "int_divmod") = some (.ref 71) := by kernel_rfl
theorem grh : glob (KP w) (Str.ofString "rgb_to_hls") = some (.ref 78) := by kernel_rfl
theorem ghr : glob (KP w) (Str.ofString "hls_to_rgb") = some (.ref 85) := by kernel_rfl
theorem gv : glob (KP w) (Str.ofString "_v") = some (.ref 92) := by kernel_rfl
theorem gem : glob (KP w) (Str.ofString "_ellipsis_match") = some (.ref 99) := by kernel_rfl
theorem gWs : glob (KP w) (Str.ofString "Whitespace") = some (.ref 161) := by kernel_rfl
theorem gsq : glob (KP w) (Str.ofString "_law_squares") = some (.ref 172) := by kernel_rfl
theorem gre : glob (KP w) (Str.ofString "_law_reduced") = some (.ref 179) := by kernel_rfl
theorem gfo : glob (KP w) (Str.ofString "_law_forms") = some (.ref 186) := by kernel_rfl
theorem gri : glob (KP w) (Str.ofString "_law_river") = some (.ref 193) := by kernel_rfl
theorem grs : glob (KP w) (Str.ofString "_law_rivers") = some (.ref 198) := by kernel_rfl
theorem gsg : glob (KP w) (Str.ofString "_law_sign") = some (.ref 205) := by kernel_rfl
theorem gba : glob (KP w) (Str.ofString "_law_back") = some (.ref 210) := by kernel_rfl
theorem gru : glob (KP w) (Str.ofString "_law_runs") = some (.ref 217) := by kernel_rfl
theorem grange : glob (KP w) (Str.ofString "range") = some (.type "range") := by kernel_rfl
theorem glen : glob (KP w) (Str.ofString "len") = some (.builtin "len") := by kernel_rfl
theorem gsum : glob (KP w) (Str.ofString "sum") = some (.builtin "sum") := by kernel_rfl
theorem gmax : glob (KP w) (Str.ofString "max") = some (.builtin "max") := by kernel_rfl
theorem gmin : glob (KP w) (Str.ofString "min") = some (.builtin "min") := by kernel_rfl
theorem gabs : glob (KP w) (Str.ofString "abs") = some (.builtin "abs") := by kernel_rfl
theorem gint : glob (KP w) (Str.ofString "int") = some (.type "int") := by kernel_rfl
theorem gtuple : glob (KP w) (Str.ofString "tuple") = some (.type "tuple") := by kernel_rfl
theorem gset : glob (KP w) (Str.ofString "set") = some (.type "set") := by kernel_rfl
theorem gdivmod : glob (KP w) (Str.ofString "divmod") = some (.builtin "divmod") := by kernel_rfl
theorem gsorted : glob (KP w) (Str.ofString "sorted") = some (.builtin "sorted") := by kernel_rfl
theorem giter : glob (KP w) (Str.ofString "iter") = some (.builtin "iter") := by kernel_rfl
theorem gnext : glob (KP w) (Str.ofString "next") = some (.builtin "next") := by kernel_rfl
theorem greversed : glob (KP w) (Str.ofString "reversed") = some (.type "reversed") := by kernel_rfl
theorem fnK {a : Addr} (h : fnIn (KP w) a = true) {prog : Program} : KeepOk prog w (KP w) (.ref a) := keep_fn h
end
end Mine
end
section
open PySem PySem.W PyProof.Rows PySem.Flt
set_option maxHeartbeats 2000000
namespace Mine
theorem c161m {w : World} : makesIn (KP w) 161 = true := by kernel_rfl
theorem c161i {w : World} : findIn (KP w) (.ref 161) "__init__" = some (some (.ref 116)) := by kernel_rfl
theorem c161f {w : World} : isFn (KP w) (.ref 116) = true := by kernel_rfl
theorem c161s {w : World} : findIn (KP w) (.ref 161) "__setattr__" = some (some (.builtin "object.__setattr__")) := by kernel_rfl
theorem c161p {w : World} : plainOver (KP w) 161 = true := by kernel_rfl
theorem c161h {w : World} : hasDictIn (KP w) 161 = true := by kernel_rfl
theorem c161t {w : World} {nm : Str} (h : nm ∈ ([Str.ofString "raw", Str.ofString "n", Str.ofString "nt", Str.ofString "norm", Str.ofString "is_simple"] : List Str)) : takerIn (KP w) 161 nm = some none := by
  simp only [List.mem_cons, List.not_mem_nil, or_false] at h
  rcases h with rfl | rfl | rfl | rfl | rfl <;> kernel_rfl
theorem c161g {w : World} {nm : Str} (h : nm ∈ ([Str.ofString "raw", Str.ofString "n", Str.ofString "nt", Str.ofString "norm", Str.ofString "is_simple"] : List Str)) : plainGet (KP w) 161 nm = true ∧ findIn (KP w) (.ref 161) nm = some none := by
  simp only [List.mem_cons, List.not_mem_nil, or_false] at h
  rcases h with rfl | rfl | rfl | rfl | rfl <;> exact ⟨by kernel_rfl, by kernel_rfl⟩
theorem c161y {w : World} : typeIn (KP w) (.ref 161) = some (.type "type") := by kernel_rfl
theorem c161r {w : World} : readsIn (KP w) 161 (.type "type") = true := by kernel_rfl
theorem noGetN {w : World} : noGet (KP w) none = true := by kernel_rfl
theorem c161S {w : World} : ∃ t, findCls (KP w) (.ref 161) (.type "type") "S" = some (.val (.str (sT [32]) t)) := by
  have h : (match findCls (KP w) (.ref 161) (.type "type") "S" with | some (.val (.str x t)) => (x == sT [32]) | _ => false) = true := by kernel_rfl
  split at h
  · rename_i x t e; exact ⟨t, by rw [e, beq_iff_eq.mp h]⟩
  · cases h
theorem c161T {w : World} : ∃ t, findCls (KP w) (.ref 161) (.type "type") "T" = some (.val (.str (sT [9]) t)) := by
  have h : (match findCls (KP w) (.ref 161) (.type "type") "T" with | some (.val (.str x t)) => (x == sT [9]) | _ => false) = true := by kernel_rfl
  split at h
  · rename_i x t e; exact ⟨t, by rw [e, beq_iff_eq.mp h]⟩
  · cases h
end Mine
end
section
open PySem PySem.W PyProof.Rows PySem.Flt
namespace Mine

theorem codeTable_of {h : Heap} {c P : Addr} (x : CodeHd h c P) : isCodeTable h P := let ⟨o, vs, _, _, _, _, _, _, _, a, b, d, e, _⟩ := x; ⟨c, o, vs, a, b, d, e⟩

theorem old_of {h₀ h' : Heap} {env : Env} {m : Str → Option Value} {Z : Zn} {own : List (Addr × Obj)} (S : St (gh h₀) env m Z own h') (t1 : h₀.get? 45 = some (tabObj #[])) (t2 : h₀.get? 52 = some (tabObj #[])) (c1 : CodeHd h₀ 49 45) (c2 : CodeHd h₀ 56 52) : OldK h₀ h' := by
  obtain ⟨p1, e1, -⟩ := S.tab.a
  obtain ⟨p2, e2, -⟩ := S.tab.b
  refine ⟨fun b o e => ?_, fun b o e => ?_⟩
  · cases q : isTab b with
    | false => exact .inl (S.keep b o (gh_get e q))
    | true =>
      unfold isTab at q
      rcases Bool.or_eq_true_iff.mp q with q | q
      · have := beq_iff_eq.mp q; subst this
        rw [t1] at e; cases e
        exact .inr (.inl ⟨codeTable_of c1, rfl, #[], p1, rfl, by rw [e1]; simp⟩)
      · have := beq_iff_eq.mp q; subst this
        rw [t2] at e; cases e
        exact .inr (.inl ⟨codeTable_of c2, rfl, #[], p2, rfl, by rw [e2]; simp⟩)
  · cases q : isTab b with
    | false => exact ⟨o, S.keep b o (gh_get e q)⟩
    | true =>
      unfold isTab at q
      rcases Bool.or_eq_true_iff.mp q with q | q
      · have := beq_iff_eq.mp q; subst this; exact ⟨_, e1⟩
      · have := beq_iff_eq.mp q; subst this; exact ⟨_, e2⟩

theorem gh_top {h : Heap} {b : Addr} {o : Obj} (t1 : h.get? 45 = some (tabObj #[])) (t2 : h.get? 52 = some (tabObj #[])) (e : h.get? b = some o) (hd : o.data ≠ .fields #[]) : (gh h).get? b = some o := gh_get e (by
  cases q : isTab b with
  | false => rfl
  | true =>
    unfold isTab at q
    rcases Bool.or_eq_true_iff.mp q with q | q
    · have := beq_iff_eq.mp q; subst this; rw [t1] at e; cases e; exact absurd rfl hd
    · have := beq_iff_eq.mp q; subst this; rw [t2] at e; cases e; exact absurd rfl hd)

theorem ns_top {h : Heap} {a : Addr} {m : Str → Option Value} (t1 : h.get? 45 = some (tabObj #[])) (t2 : h.get? 52 = some (tabObj #[])) (x : h.Ns a m) : (gh h).Ns a m :=
  let ⟨o, es, ep, e, d, r⟩ := x; ⟨o, es, ep, gh_top t1 t2 e (fun q => by rw [q] at d; cases d), d, r⟩

theorem wd_top {K : Frag} {h : Heap} {p : Program} {loose : List Str} {mean : ExcName → Option Value} {mg mb : Str → Option Value} (KX : K.In h) (T : Top p loose mean mg mb h) (t1 : h.get? 45 = some (tabObj #[])) (t2 : h.get? 52 = some (tabObj #[])) (c1 : CodeHd h 49 45) (c2 : CodeHd h 56 52) (k1 : K.lookup 45 = none) (k2 : K.lookup 52 = none) : Wd K (gh h) where
  k := fun b o e => gh_get (KX b o e) (by
    cases q : isTab b with
    | false => rfl
    | true =>
      unfold isTab at q
      rcases Bool.or_eq_true_iff.mp q with q | q
      · have := beq_iff_eq.mp q; subst this; rw [k1] at e; cases e
      · have := beq_iff_eq.mp q; subst this; rw [k2] at e; cases e)
  t := by
    refine ⟨{ p with main := { p.main with body := [.Import [⟨("sys" : Str), none, default⟩] default] } }, loose ++ ((recsOf p).map (·.name) ++ ((litsOf p).map (·.1) ++ (clssOf p loose).map (·.name))), mean, mg, mb, ?_⟩
    exact {
      g := ns_top t1 t2 T.g
      b := ns_top t1 t2 T.b
      nolimit := let ⟨mc, x, y⟩ := T.nolimit; ⟨mc, ns_top t1 t2 x, y⟩
      nodigits := let ⟨mc, x, y⟩ := T.nodigits; ⟨mc, ns_top t1 t2 x, y⟩
      fn := fun d hd => by cases hd
      own := fun o ho => by cases ho
      const := fun x d e => by cases e
      free := fun x h1 h2 _ _ _ => by
        simp only [List.mem_append, not_or] at h2
        exact T.free x h1 h2.1 h2.2.1 h2.2.2.1 h2.2.2.2
      builtins := T.builtins
      tab := fun d hd => by cases hd
      bmain := by
        obtain ⟨bm, ob, h1, h2, h3, h4, h5, h6⟩ := T.bmain
        exact ⟨bm, ob, h1, h2, gh_top t1 t2 h3 (fun q => by rw [q] at h6; cases h6), h4, h5, h6⟩
      seer := fun q => by cases q }
  c1 := by
    obtain ⟨o, vs, a, b, c, d, e, f, g, h1, h2, h3, h4, r⟩ := c1
    exact ⟨o, vs, a, b, c, d, e, f, g, gh_get h1 rfl, h2, h3, h4, r⟩
  c2 := by
    obtain ⟨o, vs, a, b, c, d, e, f, g, h1, h2, h3, h4, r⟩ := c2
    exact ⟨o, vs, a, b, c, d, e, f, g, gh_get h1 rfl, h2, h3, h4, r⟩

theorem lawEnter {prog : Program} {w : World} {K : Frag} {s₁ : Shared} {fa a : Addr} {o : Obj} {pm cd doc : Value} {name x : Str} {params : Arguments} {body : List Stmt} {sc : Scope} {p : Program} {loose : List Str} {mean mean' : ExcName → Option Value} {mg mb : Str → Option Value} {vs : List Value} {ns : List Int} {xs : List WData}
    {c : ClaimW} {cl : Str → Option Addr} {args : List WData} (KX : K.In s₁.heap) (T : Top p loose mean mg mb s₁.heap) (hT8 : ∀ P ∈ [52, 45], s₁.heap.get? P = some (tabObj #[])) (c1 : CodeHd s₁.heap 49 45) (c2 : CodeHd s₁.heap 56 52)
    (hw : Well w.params s₁.heap (.ref a) (.list xs)) (hL : s₁.heap.IsList a vs.toArray) (hI : IntsAre vs ns) (ho : s₁.heap.get? fa = some o) (hd : o.data = .func (Calls.docDef name params body sc pm cd doc)) (hcd : s₁.heap.CodeRec cd name)
    (hb : bindArgs (Calls.docDef name params body sc pm cd doc) ⟨[.ref a], []⟩ = pure [(x, .ref a)]) (hs : okScope sc = true) (hx : isVar sc x = true) (hg : s₁.gens = #[])
    (hn : ∀ cls, c.raises args cls = false) (hr : ∀ h', ReadsW c.records cl h' (.bool true) (.bool true) []) (hp : c.post args (.bool true) args = true) (k1 : K.lookup 45 = none) (k2 : K.lookup 52 = none)
    (hlen : ¬ ((63 : Nat) : Int) < (ns.length : Int)) (h : ∀ ns : List Int, ns.length ≤ 63 → Cos prog w K 40 sc [(x, .val (.lst (ns.map D.int)))] body (.ret (.bool true))) :
    codeAny (model prog w) callerA (.call (.ref fa) ⟨[.ref a], []⟩) (GoodWG c cl mean' args s₁) s₁ := by
  have t1 := hT8 45 (.tail _ (.head _))
  have t2 := hT8 52 (.head _)
  have hs' := hs
  unfold okScope at hs'
  simp only [Bool.and_eq_true, decide_eq_true_eq, Option.isNone_iff_eq_none, Bool.not_eq_true'] at hs'
  obtain ⟨⟨⟨⟨⟨⟨⟨h0, h1⟩, h2⟩, h3⟩, h4⟩, h5⟩, h6⟩, h7⟩ := hs'
  cases hw with
  | list he hxs =>
  rename_i us
  obtain ⟨o2, g1, g2, n2, g3⟩ := hL
  rw [he] at g1; cases g1
  injection g3 with g3 _
  have eu : us = vs := by simpa using g3
  subst eu
  refine codeAny_call_cells (fd := Calls.docDef name params body sc pm cd doc) (by decide) ho hd T.nolimit hcd rfl hb rfl (fun y hy => ?_) (fun s₂ I => ?_) h6 h7 h5
  · cases List.mem_singleton.mp hy
    rcases isVar_or hx with q | q
    · exact .inl q
    · obtain ⟨c, hc⟩ := cf_has (n := s₁.heap.objs.size + 1) (acc := []) (lookup_mem q)
      obtain ⟨c', hc'⟩ := mem_lookup_some hc
      exact .inr ⟨q, by show (List.lookup x (cellsFrom _ sc.names [])).isSome = true; rw [hc']; rfl⟩
  · obtain ⟨h₁, tk, rfl⟩ := I.toInCall.same
    have O := envOk_call (fd := Calls.docDef name params body sc pm cd doc) (L := s₁.heap.objs.size) (a := fa) hs rfl rfl I.apart
    let env' := callEnvC (Calls.docDef name params body sc pm cd doc) s₁.heap.objs.size fa
    let m' : Str → Option Value := fun y => if sc.names.lookup y = some .local then bindL env'.kindOf [(x, .ref a)] (fun _ => none) y else bindC env'.kindOf [(x, .ref a)] (fun _ => none) y
    let Z : Zn := fun b => if b = a then some { cls := .type "list", data := .seq us.toArray } else none
    have za : ∀ {b o}, Z b = some o → b = a ∧ o = { cls := .type "list", data := .seq us.toArray } := fun {b o} e => by
      show b = a ∧ _
      by_cases q : b = a
      · exact ⟨q, by have : some _ = some o := (if_pos q).symm.trans e; cases this; rfl⟩
      · have : none = some o := (if_neg q).symm.trans e; cases this
    have al := Heap.lt_size he
    have zhi : ∀ {b}, s₁.heap.objs.size ≤ b → Z b = none := fun {b} l => if_neg (fun q => by subst q; exact absurd al (Nat.not_lt.mpr l))
    have ab := I.above
    have tl : ∀ b, isTab b = true → b < s₁.heap.objs.size := fun b e => by
      unfold isTab at e
      rcases Bool.or_eq_true_iff.mp e with q | q
      · have := beq_iff_eq.mp q; subst this; exact Heap.lt_size t1
      · have := beq_iff_eq.mp q; subst this; exact Heap.lt_size t2
    have nt : ∀ b, s₁.heap.objs.size ≤ b → isTab b = false := fun b l => by
      cases q : isTab b with
      | false => rfl
      | true => exact absurd (tl b q) (Nat.not_lt.mpr l)
    have hk := I.toInCall.keep
    have S' : St (gh s₁.heap) env' m' Z [] h₁ := {
      fr := ⟨_, ⟨I.toInCall.ns, fun b o e => hk b o (of_gh e), by rw [gh_size]; exact Nat.le_refl _⟩, fun x e => (if_pos e).symm⟩
      cel := fun x c e => by
        show h₁.IsCell c (if sc.names.lookup x = some .local then _ else _)
        rw [if_neg (fun q => by rw [show env'.cells.lookup x = none from O.lc x q] at e; cases e)]
        exact I.cell x c e
      zin := fun b o e => by obtain ⟨rfl, rfl⟩ := za e; exact hk _ _ he
      zhi := fun b o e => by
        obtain ⟨rfl, rfl⟩ := za e
        cases q : isTab b with
        | false => rfl
        | true =>
          unfold isTab at q
          rcases Bool.or_eq_true_iff.mp q with q | q
          · have := beq_iff_eq.mp q; subst this; rw [t1] at he; cases he
          · have := beq_iff_eq.mp q; subst this; rw [t2] at he; cases he
      zL := zhi (Nat.le_refl _)
      zc := fun x c e => zhi (Nat.le_of_lt (ab x c (lookup_mem e)))
      oin := fun p hp => by cases hp
      oZ := fun p hp => by cases hp
      oB := fun p hp => by cases hp
      oL := fun p hp => by cases hp
      oc := fun p hp => by cases hp
      ohi := fun p hp => by cases hp
      ond := List.nodup_nil
      Lhi := nt _ (Nat.le_refl _)
      chi := fun x c e => nt _ (Nat.le_of_lt (ab x c (lookup_mem e)))
      cL := fun x c e => Nat.ne_of_gt (ab x c (lookup_mem e))
      tB := fun b e => gh_tab e
      tab := ⟨⟨#[], hk _ _ t1, .inl rfl⟩, ⟨#[], hk _ _ t2, .inl rfl⟩⟩ }
    have hv : Has Z (.lst (ns.map D.int)) (.ref a) := by
      unfold Has
      exact ⟨a, _, _, _, rfl, if_pos rfl, rfl, rfl, rfl, by simpa using ints_has hI⟩
    have ro : LocOk (gh s₁.heap).objs.size m' Z [] [(x, .val (.lst (ns.map D.int)))] := LocOk.ofVals fun y r e => by
      rw [List.lookup_cons] at e
      cases q : (y == x) with
      | false => rw [q] at e; cases e
      | true =>
        rw [q] at e; cases e
        have := beq_iff_eq.mp q; subst this
        refine ⟨_, .ref a, rfl, ?_, hv⟩
        show (if sc.names.lookup y = some .local then _ else _) = _
        by_cases q : sc.names.lookup y = some .local
        · rw [if_pos q]; exact bindL_hit q (by simp) (.head _)
        · rw [if_neg q]; exact bindC_hit q (by simp) (.head _)
    have W : Wd K (gh s₁.heap) := wd_top KX T t1 t2 c1 c2 k1 k2
    have R : Rm 40 (callerA.deeper env') := ⟨rfl, by simp [Around.deeper, callerA, claimMargin], by simp [Around.deeper, callerA, claimMargin]⟩
    refine body_run (s := { s₁ with heap := h₁, toks := tk }) (E := fun e s' => wpAny (model prog w) (callerA.deeper env') (leaving env' e) (fun _ s'' => GoodWG c cl mean' args s₁ (.error e) s'') (fun e' s'' => GoodWG c cl mean' args s₁ (.error e') s'') s') (R := fun r s' => GoodWG c cl mean' args s₁ r s') (h ns (by omega)) rfl O R W S' ro fun v m'' Z' own' h' tk' z S'' hv' => ?_
    have ev : v = .bool true := by unfold Has at hv'; exact hv'
    subst ev
    exact ⟨.inl ⟨_, _, _, rfl, hn, hr _, hp, fun _ => ⟨List.nodup_nil, fun a q => by cases q⟩⟩, old_of S'' t1 t2 c1 c2, rfl, .of_eq hg⟩
end Mine
end
section
open PySem PySem.W PyProof.Rows PySem.Flt
namespace Mine
local macro_rules | `(tactic| kct_strs) => `(tactic| first | with_reducible assumption | with_reducible rfl | (refine eq_false_of_ne_true ?_; with_reducible assumption) | (refine decide_eq_true ?_; with_reducible assumption) | (refine decide_eq_false ?_; with_reducible assumption) | omega | kernel_rfl | decide)
local macro_rules | `(tactic| kp_flats) => `(tactic| with_reducible first
  | exact gOT | exact gOS | exact gTT | exact gDL | exact gEM | exact gcp | exact gd2 | exact gi2 | exact gdi | exact gdp | exact gid | exact grh | exact ghr | exact gv | exact gem | exact gWs | exact gsq | exact gre | exact gfo | exact gri | exact grs | exact gsg | exact gba | exact gru
  | exact grange | exact glen | exact gsum | exact gmax | exact gmin | exact gabs | exact gint | exact gtuple | exact gset | exact gdivmod | exact gsorted | exact giter | exact gnext | exact greversed)
local macro_rules | `(tactic| fold_lay) => `(tactic| with_reducible first | exact keep_builtin _ | exact keep_type _ | exact fnK (by kernel_rfl))
local macro_rules | `(tactic| got_up) => `(tactic| first
  | ((with_reducible refine' evConst ?hA); (case hA => rfl))
  | ((with_reducible refine' evName ?hA ?hB); (case hA => first | exact .inl rfl | exact .inr (.inl rfl) | exact .inr (.inr rfl)); (case hB => rfl))
  | ((with_reducible refine' evGc ?hA ?hB ?hC); (case hA => rfl); (case hB => kp_flats); (case hC => first | exact fun _ => mkF _ _ | exact fun _ => mkI _ _ | exact fun _ => mkS _ _))
  | ((with_reducible refine' evModF ?hA ?hB ?hC); (case hA => got_up); (case hB => got_up); (case hC => kct_strs))
  | ((with_reducible refine' evDivF ?hA ?hB ?hC); (case hA => got_up); (case hB => got_up); (case hC => kct_strs))
  | ((with_reducible refine' evMulFI ?hA ?hB ?hC); (case hA => got_up); (case hB => got_up); (case hC => kct_strs))
  | ((with_reducible refine' evMul ?hA ?hB ?hC); (case hA => got_up); (case hB => got_up); (case hC => kct_strs))
  | ((with_reducible refine' evFdiv ?hA ?hB ?hC ?hD); (case hA => got_up); (case hB => got_up); (case hC => kct_strs); (case hD => kct_strs))
  | ((with_reducible refine' evFmod ?hA ?hB ?hC); (case hA => got_up); (case hB => got_up); (case hC => kct_strs))
  | ((with_reducible refine' evRsh ?hA ?hB ?hC); (case hA => got_up); (case hB => got_up); (case hC => kct_strs))
  | ((with_reducible refine' evLsh ?hA ?hB ?hC ?hD ?hE); (case hA => got_up); (case hB => got_up); (case hC => kct_strs); (case hD => kct_strs); (case hE => kct_strs))
  | ((with_reducible refine' evAddS ?hA ?hB ?hC); (case hA => got_up); (case hB => got_up); (case hC => kct_strs))
  | ((with_reducible refine' evDivII ?hA ?hB ?hC ?hD ?hE); (case hA => got_up); (case hB => got_up); (case hC => kct_strs); (case hD => kct_strs); (case hE => kct_strs))
  | ((with_reducible refine' evBin ?hA ?hB ?hC); (case hA => got_up); (case hB => got_up); (case hC => rfl))
  | ((with_reducible refine' evUn ?hA ?hB); (case hA => got_up); (case hB => rfl))
  | ((with_reducible refine' evCmpB ?hA ?hB ?hC ?hD); (case hA => got_up); (case hB => got_up); (case hC => (first | (with_reducible exact cEqInts) | (with_reducible exact cEqNilI) | (with_reducible exact cEqNil3) | (with_reducible exact cNe3) | (with_reducible exact cInInts) | (with_reducible exact cIn3) | rfl)); (case hD => rfl))
  | ((with_reducible refine' evBits ?hA ?hB ?hC); (case hA => got_up); (case hB => exact fun _ => rfl); (case hC => rfl))
  | ((with_reducible refine' evNotB ?hA); (case hA => got_up))
  | ((with_reducible refine' evAnd2 ?hA ?hB); (case hA => got_up); (case hB => got_up))
  | ((with_reducible refine' evOr2 ?hA ?hB); (case hA => got_up); (case hB => got_up))
  | ((with_reducible refine' evCmp ?hA ?hB ?hC ?hD); (case hA => got_up); (case hB => got_up); (case hC => (first | (with_reducible exact cEqInts) | (with_reducible exact cEqNilI) | (with_reducible exact cEqNil3) | (with_reducible exact cNe3) | (with_reducible exact cInInts) | (with_reducible exact cIn3) | rfl)); (case hD => rfl))
  | ((with_reducible refine' evTup ?hA ?hB); (case hA => kbo_bools); (case hB => rfl))
  | ((with_reducible refine' evLst ?hA ?hB); (case hA => kbo_bools); (case hB => rfl))
  | ((with_reducible refine' evItem ?hA ?hB ?hC ?hD); (case hA => got_up); (case hB => got_up); (case hC => rfl); (case hD => rfl))
  | ((with_reducible refine' evCall ?hA ?hB ?hC ?hD ?hE ?hF); (case hA => rfl); (case hB => kp_flats); (case hC => fold_lay); (case hD => kbo_bools); (case hE => exact List.cons_ne_nil _ _); (case hF => fold_depth))
  | ((with_reducible refine' evTruB ?hA ?hB ?hC); (case hA => got_up); (case hB => rfl); (case hC => rfl)))
local macro_rules | `(tactic| kbo_bools) => `(tactic| first
  | with_reducible exact EvL.nil
  | ((with_reducible refine' EvL.cons ?hA ?hB ?hC); (case hA => rfl); (case hB => got_up); (case hC => kbo_bools)))
local macro_rules | `(tactic| fold_depth) => `(tactic| first
  | ((with_reducible refine' vLenL ?hA); (case hA => kct_strs)) | ((with_reducible refine' vLenS ?hA); (case hA => kct_strs)) | ((with_reducible refine' vAbs)) | ((with_reducible refine' vDivmod ?hA ?hB); (case hA => kct_strs); (case hB => kct_strs)) | ((with_reducible refine' vTuple ?hA); (case hA => kct_strs)) | ((with_reducible refine' vMax3)) | ((with_reducible refine' vMin3)) | ((with_reducible refine' vSum)) | ((with_reducible refine' vMaxI ?hA); (case hA => kct_strs)) | ((with_reducible refine' vIntF ?hA); (case hA => kct_strs)))
section
set_option maxHeartbeats 2000000
noncomputable def vG (m1 m2 h : UInt64) : UInt64 :=
  if (Float64.cmp h 4595172819793696085 == some Ordering.lt) = true then Float64.add m1 (Float64.mul (Float64.mul (Float64.sub m2 m1) h) 4618441417868443648)
  else if (Float64.cmp h 4602678819172646912 == some Ordering.lt) = true then m2
  else if (Float64.cmp h 4604180019048437077 == some Ordering.lt) = true then Float64.add m1 (Float64.mul (Float64.mul (Float64.sub m2 m1) (Float64.sub 4604180019048437077 h)) 4618441417868443648)
  else m1
noncomputable def vF (m1 m2 hue : UInt64) : UInt64 := vG m1 m2 (Float64.divmod hue 4607182418800017408).2

theorem t_v {prog : Program} {w : World} {k : Nat} {a b c : UInt64} : VSpec prog w (KP w) (k + 1) (.ref 92) [.flt a, .flt b, .flt c] (.flt (vF a b c)) := by
  refine' vspecC (xs := [Str.ofString "m1", Str.ofString "m2", Str.ofString "hue"]) (o := .ret (.flt (vF a b c))) (ho := ?ho) (hcd := ?hcd) (hb := ?hb) (hs := ?hs) (hx := ?hx) (hn := ?hn) (hl := rfl) (hr := rfl) (h := ?h)
  case ho => rfl
  case hcd => rfl
  case hb => intro vs h; match vs, h with | [a, b, c], _ => rfl
  case hs => rfl
  case hx => rfl
  case hn => decide
  refine coCons (coAssign (d := .flt (Float64.divmod c 4607182418800017408).2) (by got_up) rfl fun _ _ => rfl) ?_
  unfold vF
  generalize (Float64.divmod c 4607182418800017408).2 = h
  unfold vG
  split
  · exact coStop (coIfT (by got_up) (by kct_strs) (coStop (coRet (by got_up)) rfl)) rfl
  refine coCons (coIfF (by got_up) (by kct_strs) coNil) ?_
  split
  · exact coStop (coIfT (by got_up) (by kct_strs) (coStop (coRet (by got_up)) rfl)) rfl
  refine coCons (coIfF (by got_up) (by kct_strs) coNil) ?_
  split
  · exact coStop (coIfT (by got_up) (by kct_strs) (coStop (coRet (by got_up)) rfl)) rfl
  refine coCons (coIfF (by got_up) (by kct_strs) coNil) ?_
  exact coStop (coRet (by got_up)) rfl
end
section
set_option maxHeartbeats 2000000

local macro_rules | `(tactic| fold_depth) => `(tactic| exact t_v)

theorem t_hr {prog : Program} {w : World} {k : Nat} {h : UInt64} : VSpec prog w (KP w) (k + 2) (.ref 85) [.flt h, .flt 4602678819172646912, .flt 4607182418800017408]
    (.tup [.flt (vF (Float64.sub (Float64.mul 4611686018427387904 4602678819172646912) (Float64.mul 4602678819172646912 (Float64.add 4607182418800017408 4607182418800017408))) (Float64.mul 4602678819172646912 (Float64.add 4607182418800017408 4607182418800017408)) (Float64.add h 4599676419421066581)),
      .flt (vF (Float64.sub (Float64.mul 4611686018427387904 4602678819172646912) (Float64.mul 4602678819172646912 (Float64.add 4607182418800017408 4607182418800017408))) (Float64.mul 4602678819172646912 (Float64.add 4607182418800017408 4607182418800017408)) h),
      .flt (vF (Float64.sub (Float64.mul 4611686018427387904 4602678819172646912) (Float64.mul 4602678819172646912 (Float64.add 4607182418800017408 4607182418800017408))) (Float64.mul 4602678819172646912 (Float64.add 4607182418800017408 4607182418800017408)) (Float64.sub h 4599676419421066581))]) := by
  refine' vspecC (xs := [Str.ofString "h", Str.ofString "l", Str.ofString "s"]) (ho := ?ho) (hcd := ?hcd) (hb := ?hb) (hs := ?hs) (hx := ?hx) (hn := ?hn) (hl := rfl) (o := .ret _) (hr := rfl) (h := ?h)
  case ho => rfl
  case hcd => rfl
  case hb => intro vs h; match vs, h with | [a, b, c], _ => rfl
  case hs => rfl
  case hx => rfl
  case hn => decide
  refine coCons (coIfF (by got_up) (by kct_strs) coNil) ?_
  refine coCons (coIfT (by got_up) (by kct_strs) (coCons (coAssign (by got_up) rfl fun _ _ => rfl) coNil)) ?_
  refine coCons (coAssign (by got_up) rfl fun _ _ => rfl) ?_
  exact coStop (coRet (by got_up)) rfl

noncomputable def hlsS (maxc minc sumc rangec l : UInt64) : Option UInt64 :=
  if (Float64.cmp l 4602678819172646912 == some Ordering.lt || Float64.cmp l 4602678819172646912 == some Ordering.eq) = true then (if Float64.isZero sumc = false then some (Float64.div rangec sumc) else none)
  else if Float64.isZero (Float64.sub (Float64.sub 4611686018427387904 maxc) minc) = false then some (Float64.div rangec (Float64.sub (Float64.sub 4611686018427387904 maxc) minc)) else none
noncomputable def hlsH (r g maxc rc gc bc : UInt64) : UInt64 :=
  if (Float64.cmp r maxc == some Ordering.eq) = true then Float64.sub bc gc
  else if (Float64.cmp g maxc == some Ordering.eq) = true then Float64.sub (Float64.add 4611686018427387904 rc) bc
  else Float64.sub (Float64.add 4616189618054758400 gc) rc
noncomputable def hlsF (r g b : UInt64) : Option D :=
  if (Float64.cmp (min3 r g b) (max3 r g b) == some Ordering.eq) = true then some (.tup [.flt 0, .flt (Float64.div (Float64.add (max3 r g b) (min3 r g b)) 4611686018427387904), .flt 0])
  else match hlsS (max3 r g b) (min3 r g b) (Float64.add (max3 r g b) (min3 r g b)) (Float64.sub (max3 r g b) (min3 r g b)) (Float64.div (Float64.add (max3 r g b) (min3 r g b)) 4611686018427387904) with
    | none => none
    | some s => if Float64.isZero (Float64.sub (max3 r g b) (min3 r g b)) = false then
        some (.tup [.flt (Float64.divmod (Float64.div (hlsH r g (max3 r g b) (Float64.div (Float64.sub (max3 r g b) r) (Float64.sub (max3 r g b) (min3 r g b))) (Float64.div (Float64.sub (max3 r g b) g) (Float64.sub (max3 r g b) (min3 r g b))) (Float64.div (Float64.sub (max3 r g b) b) (Float64.sub (max3 r g b) (min3 r g b)))) 4618441417868443648) 4607182418800017408).2,
          .flt (Float64.div (Float64.add (max3 r g b) (min3 r g b)) 4611686018427387904), .flt s])
      else none

theorem t_rh {prog : Program} {w : World} {k : Nat} {r g b : UInt64} {d : D} (hd : hlsF r g b = some d) : VSpec prog w (KP w) (k + 1) (.ref 78) [.flt r, .flt g, .flt b] d := by
  refine' vspecC (xs := [Str.ofString "r", Str.ofString "g", Str.ofString "b"]) (ho := ?ho) (hcd := ?hcd) (hb := ?hb) (hs := ?hs) (hx := ?hx) (hn := ?hn) (hl := rfl) (o := .ret _) (hr := rfl) (h := ?h)
  case ho => rfl
  case hcd => rfl
  case hb => intro vs h; match vs, h with | [a, b, c], _ => rfl
  case hs => rfl
  case hx => rfl
  case hn => decide
  refine coCons (coAssign (by got_up) rfl fun _ _ => rfl) ?_
  refine coCons (coAssign (by got_up) rfl fun _ _ => rfl) ?_
  refine coCons (coAssign (by got_up) rfl fun _ _ => rfl) ?_
  refine coCons (coAssign (by got_up) rfl fun _ _ => rfl) ?_
  refine coCons (coAssign (by got_up) rfl fun _ _ => rfl) ?_
  unfold hlsF at hd
  generalize max3 r g b = maxc at hd ⊢
  generalize min3 r g b = minc at hd ⊢
  split at hd
  · cases hd
    exact coStop (coIfT (by got_up) (by kct_strs) (coStop (coRet (by got_up)) rfl)) rfl
  refine coCons (coIfF (by got_up) (by kct_strs) coNil) ?_
  generalize Float64.add maxc minc = sumc at hd ⊢
  generalize Float64.sub maxc minc = rangec at hd ⊢
  generalize Float64.div sumc 4611686018427387904 = l at hd ⊢
  split at hd
  · cases hd
  rename_i s hs
  split at hd
  · rename_i hz
    cases hd
    refine coConsV (Str.ofString "s") (.flt s) ?_ ?_
    · unfold hlsS at hs
      split at hs
      · split at hs
        · cases hs
          exact coIfT (by got_up) (by kct_strs) (coCons (coAssign (by got_up) rfl fun _ _ => rfl) coNil)
        · cases hs
      · split at hs
        · cases hs
          exact coIfF (by got_up) (by kct_strs) (coCons (coAssign (by got_up) rfl fun _ _ => rfl) coNil)
        · cases hs
    refine coCons (coAssign (by got_up) rfl fun _ _ => rfl) ?_
    refine coCons (coAssign (by got_up) rfl fun _ _ => rfl) ?_
    refine coCons (coAssign (by got_up) rfl fun _ _ => rfl) ?_
    refine coConsV (Str.ofString "h") (.flt (hlsH r g maxc (Float64.div (Float64.sub maxc r) rangec) (Float64.div (Float64.sub maxc g) rangec) (Float64.div (Float64.sub maxc b) rangec))) ?_ ?_
    · unfold hlsH
      split
      · exact coIfT (by got_up) (by kct_strs) (coCons (coAssign (by got_up) rfl fun _ _ => rfl) coNil)
      · refine coIfF (by got_up) (by kct_strs) ?_
        split
        · exact coCons (coIfT (by got_up) (by kct_strs) (coCons (coAssign (by got_up) rfl fun _ _ => rfl) coNil)) coNil
        · exact coCons (coIfF (by got_up) (by kct_strs) (coCons (coAssign (by got_up) rfl fun _ _ => rfl) coNil)) coNil
    refine coCons (coAssign (by got_up) rfl fun _ _ => rfl) ?_
    exact coStop (coRet (by got_up)) rfl
  · cases hd
end
section
set_option maxHeartbeats 2000000

noncomputable def hueD (p : Int) (d : D) : Option Int := match d with
  | .tup [.flt h, .flt _, .flt _] => (match Float64.decode (Float64.add (Float64.mul h (Float64.ofInt p)) 4602678819172646912) with
    | .fin sg m e => some ((Float64.truncOf sg m e).fmod p)
    | _ => none)
  | _ => none
noncomputable abbrev m2F : UInt64 := Float64.mul 4602678819172646912 (Float64.add 4607182418800017408 4607182418800017408)
noncomputable abbrev m1F : UInt64 := Float64.sub (Float64.mul 4611686018427387904 4602678819172646912) m2F
noncomputable def sqStep (p k : Int) : Option Int :=
  if sm k = true ∧ sm (k * k) = true ∧ Float64.isInf (divII (k * k) p) = false then
    (hlsF (vF m1F m2F (Float64.add (divII (k * k) p) 4599676419421066581)) (vF m1F m2F (divII (k * k) p)) (vF m1F m2F (Float64.sub (divII (k * k) p) 4599676419421066581))).bind (hueD p)
  else none
noncomputable def sqAll (p : Int) : List Int → Option (List Int)
  | [] => some []
  | k :: ks => match sqStep p k, sqAll p ks with
    | some x, some l => some (x :: l)
    | _, _ => none
noncomputable def sqF (p : Int) : Option (List Int) := if p ≠ 0 ∧ sm p = true ∧ rangeOk 1 ((p + 1).fdiv 2) 1 = true ∧ (rangeL 1 ((p + 1).fdiv 2) 1).length ≤ 1000 then sqAll p (rangeL 1 ((p + 1).fdiv 2) 1) else none

local macro_rules | `(tactic| fold_depth) => `(tactic| first | exact t_hr | exact t_rh (by with_reducible assumption))

set_option maxHeartbeats 4000000 in
theorem t_sq {prog : Program} {w : World} {k : Nat} {p : Int} {l : List Int} (hp : sqF p = some l) : VSpec prog w (KP w) (k + 3) (.ref 172) [.int p] (.lst (l.map .int)) := by
  refine' vspecC (xs := [Str.ofString "prime"]) (ho := ?ho) (hcd := ?hcd) (hb := ?hb) (hs := ?hs) (hx := ?hx) (hn := ?hn) (hl := rfl) (o := .ret _) (hr := rfl) (h := ?h)
  case ho => rfl
  case hcd => rfl
  case hb => intro vs h; match vs, h with | [a], _ => rfl
  case hs => rfl
  case hx => rfl
  case hn => decide
  unfold sqF at hp
  split at hp
  · rename_i hc
    obtain ⟨hp0, hps, hr, hlen⟩ := hc
    refine coCons (coNew rfl) ?_
    refine' coForI (ds := (rangeL 1 ((p + 1).fdiv 2) 1).map .int) (itRange2 rfl grange rfl rfl (by got_up) (by got_up) hr) rfl (fun _ _ => rfl)
      (fun ds L => ∃ ks acc l', ds = ks.map .int ∧ L.lookup (Str.ofString "prime") = some (.val (.int p)) ∧ L.lookup (Str.ofString "places") = some (.lst (acc.map .int)) ∧ sqAll p ks = some l' ∧ l = acc ++ l' ∧ acc.length + ks.length ≤ 1000)
      ⟨_, [], l, rfl, rfl, rfl, hp, rfl, by simpa using hlen⟩ ?step ?fin
    case step =>
      rintro d ds L ⟨ks, acc, l', e1, h1, h2, h3, h4, h5⟩
      cases ks with
      | nil => cases e1
      | cons x ks =>
        rw [List.map_cons, List.cons.injEq] at e1
        obtain ⟨rfl, rfl⟩ := e1
        unfold sqAll at h3
        split at h3
        · rename_i y ys e2 e3
          cases h3
          unfold sqStep at e2
          split at e2
          · rename_i hc
            obtain ⟨hk1, hk2, hk3⟩ := hc
            obtain ⟨t, e4, e5⟩ := Option.bind_eq_some_iff.mp e2
            unfold hueD at e5
            split at e5
            · rename_i hh hl hs'
              split at e5
              · rename_i sg mm ex e6
                cases e5
                apply Exists.intro
                refine ⟨.inl (coSub (ρ' := [(Str.ofString "k", .val (.int x)), (Str.ofString "prime", .val (.int p)), (Str.ofString "places", .lst (acc.map .int))]) ?_ (subL (subC lkS (subC (lkN rfl h1) (subC (lkN rfl h2) subN))))), ?_⟩
                · refine coCons (coUnpackT (xs := [Str.ofString "red", Str.ofString "green", Str.ofString "blue"]) (by got_up) rfl rfl rfl (fun _ => rfl) (fun _ _ => rfl)) ?_
                  refine coCons (coAppend rfl rfl ?_ rfl rfl (fun _ => rfl) rfl (by got_up)) coNil
                  unfold szOk; simp; simp at h5; omega
                · exact ⟨ks, acc ++ [_], ys, rfl, rfl, by rw [List.map_append]; rfl, e3, h4.trans (by simp), by simp; simp at h5; omega⟩
              · cases e5
            · cases e5
          · cases e2
        · cases h3
    case fin =>
      rintro L ⟨ks, acc, l', e1, h1, h2, h3, h4, h5⟩
      cases ks with
      | nil =>
        cases h3
        rw [List.append_nil] at h4
        subst h4
        exact coFreeze h2 (coStop (coRet (evName (.inl rfl) lkS)) rfl)
      | cons x ks => cases e1
  · cases hp
end
section
set_option maxHeartbeats 2000000

noncomputable def redB (p a b : Int) : Bool := decide ((b * b + p).fmod (4 * a) = 0) && (decide (a < (b * b + p).fdiv (4 * a)) || (decide ((b * b + p).fdiv (4 * a) = a) && decide (0 ≤ b)))
noncomputable def redIn (p a : Int) : List Int → Int → Option Int
  | [], n => some n
  | b :: bs, n => if sm b = true ∧ 4 * a ≠ 0 ∧ sm (4 * a) = true then redIn p a bs (if redB p a b = true then n + 1 else n) else none
noncomputable def redOut (p : Int) : List Int → Int → Option Int
  | [], n => some n
  | a :: as, n => if rangeOk (1 - a) (a + 1) 1 = true then (match redIn p a (rangeL (1 - a) (a + 1) 1) n with
    | some n' => redOut p as n'
    | none => none) else none
noncomputable def redF (p : Int) : Option Int := redOut p (rangeL 1 3 1) 0

theorem t_red {prog : Program} {w : World} {k : Nat} {p r : Int} (hp : redF p = some r) : VSpec prog w (KP w) (k + 1) (.ref 179) [.int p] (.int r) := by
  refine' vspecC (xs := [Str.ofString "prime"]) (ho := ?ho) (hcd := ?hcd) (hb := ?hb) (hs := ?hs) (hx := ?hx) (hn := ?hn) (hl := rfl) (o := .ret _) (hr := rfl) (h := ?h)
  case ho => rfl
  case hcd => rfl
  case hb => intro vs h; match vs, h with | [a], _ => rfl
  case hs => rfl
  case hx => rfl
  case hn => decide
  refine coCons (coAssign (by got_up) rfl fun _ _ => rfl) ?_
  refine' cFor (ds := (rangeL 1 3 1).map .int) (itRange2 rfl grange rfl rfl (by got_up) (by got_up) rfl) rfl (fun _ _ => rfl)
    (fun ds L => ∃ as n, ds = as.map .int ∧ L.lookup (Str.ofString "prime") = some (.val (.int p)) ∧ L.lookup (Str.ofString "count") = some (.val (.int n)) ∧ redOut p as n = some r)
    ⟨_, 0, rfl, rfl, rfl, hp⟩ ?step ?fin
  case step =>
    rintro d ds L ⟨as, n, e1, h1, h2, h3⟩
    cases as with
    | nil => cases e1
    | cons a as =>
      rw [List.map_cons, List.cons.injEq] at e1
      obtain ⟨rfl, rfl⟩ := e1
      unfold redOut at h3
      split at h3
      · rename_i hr
        split at h3
        · rename_i n' hi
          refine eGo (gSub [(Str.ofString "a", .val (.int a)), (Str.ofString "prime", .val (.int p)), (Str.ofString "count", .val (.int n))] ?_ (subC lkS (subC (lkN rfl h1) (subC (lkN rfl h2) subN))))
          refine' gFor (ds := (rangeL (1 - a) (a + 1) 1).map .int) (itRange2 rfl grange rfl rfl (by got_up) (by got_up) hr) rfl (fun _ _ => rfl)
            (fun ds L => ∃ bs n, ds = bs.map .int ∧ L.lookup (Str.ofString "prime") = some (.val (.int p)) ∧ L.lookup (Str.ofString "a") = some (.val (.int a)) ∧ L.lookup (Str.ofString "count") = some (.val (.int n)) ∧ redIn p a bs n = some n')
            ⟨_, n, rfl, rfl, rfl, rfl, hi⟩ ?step2 ?fin2
          case step2 =>
            rintro d ds L ⟨bs, n, e1, h1, h2, h4, h5⟩
            cases bs with
            | nil => cases e1
            | cons b bs =>
              rw [List.map_cons, List.cons.injEq] at e1
              obtain ⟨rfl, rfl⟩ := e1
              unfold redIn at h5
              split at h5
              · rename_i hc
                obtain ⟨c1, c2, c3⟩ := hc
                refine eGo (gSub [(Str.ofString "b", .val (.int b)), (Str.ofString "a", .val (.int a)), (Str.ofString "prime", .val (.int p)), (Str.ofString "count", .val (.int n))] ?_ (subC lkS (subC (lkN rfl h2) (subC (lkN rfl h1) (subC (lkN rfl h4) subN)))))
                refine gCons (coUnpackT (xs := [Str.ofString "c", Str.ofString "rest"]) (by got_up) rfl rfl rfl (fun _ => rfl) (fun _ _ => rfl)) ?_
                split at h5
                · rename_i hr
                  unfold redB at hr
                  exact gCons (coIfT (by got_up) hr (coCons (coAug rfl (by got_up) rfl rfl) coNil)) (gNil ⟨bs, n + 1, rfl, rfl, rfl, rfl, h5⟩)
                · rename_i hr
                  unfold redB at hr
                  exact gCons (coIfF (by got_up) (eq_false_of_ne_true hr) coNil) (gNil ⟨bs, n, rfl, rfl, rfl, rfl, h5⟩)
              · cases h5
          case fin2 =>
            rintro L ⟨bs, n, e1, h1, h2, h4, h5⟩
            cases bs with
            | nil => cases h5; exact gNil ⟨as, _, rfl, h1, h4, h3⟩
            | cons x ks => cases e1
        · cases h3
      · cases h3
  case fin =>
    rintro L ⟨as, n, e1, h1, h2, h3⟩
    cases as with
    | nil => cases h3; exact coStop (coRet (evName (.inl rfl) h2)) rfl
    | cons x ks => cases e1
end
section
set_option maxHeartbeats 2000000

noncomputable def fx (n b : Int) : List Int → List T3 → Option (List T3)
  | [], acc => some acc
  | x :: xs, acc => if x ≠ 0 ∧ sm x = true ∧ acc.length ≤ 1000 then fx n b xs (acc ++ [(x, b, -(n.fdiv x))] ++ [(x, -b, -(n.fdiv x))]) else none
noncomputable def fa (n b : Int) : List Int → List T3 → Option (List T3)
  | [], acc => some acc
  | a :: as, acc => if sm a = true ∧ a ≠ 0 then
      (if (decide (a * a ≤ n) && (n.fmod a == 0)) = true then (match fx n b (if (a * a == n) = true then [a] else [a, n.fdiv a]) acc with
        | some acc' => fa n b as acc'
        | none => none) else fa n b as acc) else none
noncomputable def fb (p : Int) : List Int → List T3 → Option (List T3)
  | [], acc => some acc
  | b :: bs, acc => if sm b = true then (match fa ((p - b * b).fdiv 4) b (rangeL 1 11 1) acc with
      | some acc' => fb p bs acc'
      | none => none) else none
noncomputable def formsF (p : Int) : Option (List T3) := fb p (rangeL 1 21 2) []

theorem t_forms {prog : Program} {w : World} {k : Nat} {p : Int} {l : List T3} (hp : formsF p = some l) : VSpec prog w (KP w) (k + 1) (.ref 186) [.int p] (.lst (l.map f3)) := by
  refine' vspecC (xs := [Str.ofString "product"]) (ho := ?ho) (hcd := ?hcd) (hb := ?hb) (hs := ?hs) (hx := ?hx) (hn := ?hn) (hl := rfl) (o := .ret _) (hr := rfl) (h := ?h)
  case ho => rfl
  case hcd => rfl
  case hb => intro vs h; match vs, h with | [a], _ => rfl
  case hs => rfl
  case hx => rfl
  case hn => decide
  refine coCons (coNew rfl) ?_
  refine' cFor (ds := (rangeL 1 21 2).map .int) (itRange3 rfl grange rfl rfl rfl (by got_up) (by got_up) (by got_up) (by decide) rfl rfl) rfl (fun _ _ => rfl)
    (fun ds L => ∃ bs acc, ds = bs.map .int ∧ L.lookup (Str.ofString "product") = some (.val (.int p)) ∧ L.lookup (Str.ofString "forms") = some (.lst (acc.map f3)) ∧ fb p bs acc = some l)
    ⟨_, [], rfl, rfl, rfl, hp⟩ ?step ?fin
  case step =>
    rintro d ds L ⟨bs, acc, e1, h1, h2, h3⟩
    cases bs with
    | nil => cases e1
    | cons b bs =>
      rw [List.map_cons, List.cons.injEq] at e1
      obtain ⟨rfl, rfl⟩ := e1
      unfold fb at h3
      split at h3
      · rename_i hb
        split at h3
        · rename_i acc' hi
          refine eGo (gSub [(Str.ofString "b", .val (.int b)), (Str.ofString "product", .val (.int p)), (Str.ofString "forms", .lst (acc.map f3))] ?_ (subC lkS (subC (lkN rfl h1) (subC (lkN rfl h2) subN))))
          refine gCons (coAssign (by got_up) rfl fun _ _ => rfl) ?_
          refine' gFor (ds := (rangeL 1 11 1).map .int) (itRange2 rfl grange rfl rfl (by got_up) (by got_up) rfl) rfl (fun _ _ => rfl)
            (fun ds L => ∃ as acc, ds = as.map .int ∧ L.lookup (Str.ofString "product") = some (.val (.int p)) ∧ L.lookup (Str.ofString "b") = some (.val (.int b)) ∧ L.lookup (Str.ofString "n") = some (.val (.int ((p - b * b).fdiv 4))) ∧ L.lookup (Str.ofString "forms") = some (.lst (acc.map f3)) ∧ fa ((p - b * b).fdiv 4) b as acc = some acc')
            ⟨_, acc, rfl, rfl, rfl, rfl, rfl, hi⟩ ?step2 ?fin2
          case step2 =>
            clear hi h1 h2
            generalize (p - b * b).fdiv 4 = n
            rintro d ds L ⟨as, acc, e1, h1, h2, h4, h5, h6⟩
            cases as with
            | nil => cases e1
            | cons a as =>
              rw [List.map_cons, List.cons.injEq] at e1
              obtain ⟨rfl, rfl⟩ := e1
              unfold fa at h6
              split at h6
              · rename_i hc
                obtain ⟨ha1, ha2⟩ := hc
                refine eGo (gSub [(Str.ofString "a", .val (.int a)), (Str.ofString "product", .val (.int p)), (Str.ofString "b", .val (.int b)), (Str.ofString "n", .val (.int n)), (Str.ofString "forms", .lst (acc.map f3))] ?_ (subC lkS (subC (lkN rfl h1) (subC (lkN rfl h2) (subC (lkN rfl h4) (subC (lkN rfl h5) subN))))))
                split at h6
                · rename_i hcond
                  split at h6
                  · rename_i acc2 hx
                    refine' gIfT (by got_up) hcond (J' := fun L => L.lookup (Str.ofString "product") = some (.val (.int p)) ∧ L.lookup (Str.ofString "b") = some (.val (.int b)) ∧ L.lookup (Str.ofString "n") = some (.val (.int n)) ∧ L.lookup (Str.ofString "forms") = some (.lst (acc2.map f3))) ?_ (fun L q => gNil ⟨as, acc2, rfl, q.1, q.2.1, q.2.2.1, q.2.2.2, h6⟩)
                    refine' gFor (ds := ((if (a * a == n) = true then [a] else [a, n.fdiv a]) : List Int).map .int) (itList ?it) rfl (fun _ _ => rfl)
                      (fun ds L => ∃ xs acc, ds = xs.map .int ∧ L.lookup (Str.ofString "product") = some (.val (.int p)) ∧ L.lookup (Str.ofString "b") = some (.val (.int b)) ∧ L.lookup (Str.ofString "n") = some (.val (.int n)) ∧ L.lookup (Str.ofString "forms") = some (.lst (acc.map f3)) ∧ fx n b xs acc = some acc2)
                      ⟨_, acc, rfl, rfl, rfl, rfl, rfl, hx⟩ ?step3 ?fin3
                    case it =>
                      split
                      · rename_i hq
                        exact evIfT (by got_up) hq (evTo (d := .lst [.int a]) (by got_up) rfl)
                      · rename_i hq
                        exact evIfF (by got_up) (eq_false_of_ne_true hq) (evTo (d := .lst [.int a, .int (n.fdiv a)]) (by got_up) rfl)
                    case step3 =>
                      clear hx
                      rintro d ds L ⟨xs, acc, e1, h1, h2, h4, h5, h6⟩
                      cases xs with
                      | nil => cases e1
                      | cons x xs =>
                        rw [List.map_cons, List.cons.injEq] at e1
                        obtain ⟨rfl, rfl⟩ := e1
                        unfold fx at h6
                        split at h6
                        · rename_i hc
                          obtain ⟨hx1, hx2, hx3⟩ := hc
                          refine eGo (gSub [(Str.ofString "x", .val (.int x)), (Str.ofString "product", .val (.int p)), (Str.ofString "b", .val (.int b)), (Str.ofString "n", .val (.int n)), (Str.ofString "forms", .lst (acc.map f3))] ?_ (subC lkS (subC (lkN rfl h1) (subC (lkN rfl h2) (subC (lkN rfl h4) (subC (lkN rfl h5) subN))))))
                          refine gCons (coAppend rfl rfl (by unfold szOk; simp; omega) rfl rfl (fun _ => rfl) rfl (by got_up)) ?_
                          refine gCons (coAppend rfl rfl (by unfold szOk; simp; omega) rfl rfl (fun _ => rfl) rfl (by got_up)) ?_
                          exact gNil ⟨xs, _, rfl, rfl, rfl, rfl, by rw [List.map_append, List.map_append]; rfl, h6⟩
                        · cases h6
                    case fin3 =>
                      rintro L ⟨xs, acc, e1, h1, h2, h4, h5, h6⟩
                      cases xs with
                      | nil => cases h6; exact gNil ⟨h1, h2, h4, h5⟩
                      | cons x ks => cases e1
                  · cases h6
                · rename_i hcond
                  exact gCons (coIfF (by got_up) (eq_false_of_ne_true hcond) coNil) (gNil ⟨as, acc, rfl, rfl, rfl, rfl, rfl, h6⟩)
              · cases h6
          case fin2 =>
            rintro L ⟨as, acc, e1, h1, h2, h4, h5, h6⟩
            cases as with
            | nil => cases h6; exact gNil ⟨bs, _, rfl, h1, h5, h3⟩
            | cons x ks => cases e1
        · cases h3
      · cases h3
  case fin =>
    rintro L ⟨bs, acc, e1, h1, h2, h3⟩
    cases bs with
    | nil => cases h3; exact coFreeze h2 (coStop (coRet (evName (.inl rfl) lkS)) rfl)
    | cons x ks => cases e1
end
section
set_option maxHeartbeats 2000000

noncomputable def riv : Nat → T3 → T3 → List Nat → List T3 → Option (List Nat × List T3)
  | 0, _, _, _, _ => none
  | n + 1, f, (a, b, c), text, met => if ((met == []) || !((a, b, c) == f)) = true then
      (if met.length ≤ 1000 ∧ text.length ≤ 1000 then
        (if a + b + c < 0 then riv n f (a, b + 2 * a, a + b + c) (text ++ [32]) (met ++ [(a, b, c)]) else riv n f (a + b + c, b + 2 * c, c) (text ++ [9]) (met ++ [(a, b, c)]))
      else none)
    else some (text, met)
noncomputable def rivF (f : T3) : Option (List Nat × List T3) := riv 200 f f [] []
noncomputable def rivD (r : List Nat × List T3) : D := .tup [.str (sT r.1), .lst (r.2.map f3)]

theorem t_river {prog : Program} {w : World} {k : Nat} {f : T3} {r : List Nat × List T3} (hp : rivF f = some r) : VSpec prog w (KP w) (k + 1) (.ref 193) [f3 f] (rivD r) := by
  refine' vspecC (xs := [Str.ofString "form"]) (ho := ?ho) (hcd := ?hcd) (hb := ?hb) (hs := ?hs) (hx := ?hx) (hn := ?hn) (hl := rfl) (o := .ret _) (hr := rfl) (h := ?h)
  case ho => rfl
  case hcd => rfl
  case hb => intro vs h; match vs, h with | [a], _ => rfl
  case hs => rfl
  case hx => rfl
  case hn => decide
  obtain ⟨f1, f2, f3'⟩ := f
  unfold f3
  refine coCons (coUnpackT (xs := [Str.ofString "a", Str.ofString "b", Str.ofString "c"]) (by got_up) rfl rfl rfl (fun _ => rfl) (fun _ _ => rfl)) ?_
  refine coCons (coAssign (d := .str (sT [])) (by got_up) rfl fun _ _ => rfl) ?_
  refine coCons (coNew rfl) ?_
  refine' cWhile (n := 200) (fun n L => ∃ a b c text met, L.lookup (Str.ofString "form") = some (.val (.tup [.int f1, .int f2, .int f3'])) ∧ L.lookup (Str.ofString "a") = some (.val (.int a)) ∧ L.lookup (Str.ofString "b") = some (.val (.int b)) ∧ L.lookup (Str.ofString "c") = some (.val (.int c)) ∧
      L.lookup (Str.ofString "text") = some (.val (.str (sT text))) ∧ L.lookup (Str.ofString "met") = some (.lst (met.map f3)) ∧ riv n (f1, f2, f3') (a, b, c) text met = some r)
    ⟨f1, f2, f3', [], [], rfl, rfl, rfl, rfl, rfl, rfl, hp⟩ ?step
  rintro n L ⟨a, b, c, text, met, h1, h2, h3, h4, h5, h6, h7⟩
  have sub : ∀ p ∈ ([(Str.ofString "form", .val (.tup [.int f1, .int f2, .int f3'])), (Str.ofString "a", .val (.int a)), (Str.ofString "b", .val (.int b)), (Str.ofString "c", .val (.int c)), (Str.ofString "text", .val (.str (sT text))), (Str.ofString "met", .lst (met.map f3))] : Loc), L.lookup p.1 = some p.2 :=
    subC h1 (subC h2 (subC h3 (subC h4 (subC h5 (subC h6 subN)))))
  cases n with
  | zero => cases h7
  | succ n =>
    unfold riv at h7
    split at h7
    · rename_i hc
      right
      refine ⟨n, rfl, evSubB _ (evPeekB (x := Str.ofString "met") rfl (evBTo (by got_up) hc)) sub, ?_⟩
      split at h7
      · rename_i hl
        refine eGo (gSub _ ?_ sub)
        refine gCons (coAppend rfl rfl (by unfold szOk; simp; omega) rfl rfl (fun _ => rfl) rfl (by got_up)) ?_
        split at h7
        · rename_i hneg
          refine gCons (coIfT (by got_up) (by kct_strs) (coCons (coAug rfl (by got_up) (augS (r := [32]) rfl (by simp; omega)) rfl) (coCons (coSwap2 (by got_up) rfl rfl rfl rfl rfl rfl rfl rfl) coNil))) ?_
          exact gNil ⟨a, _, _, _, met ++ [(a, b, c)], rfl, rfl, rfl, rfl, rfl, by rw [List.map_append]; rfl, h7⟩
        · rename_i hneg
          refine gCons (coIfF (by got_up) (by kct_strs) (coCons (coAug rfl (by got_up) (augS (r := [9]) rfl (by simp; omega)) rfl) (coCons (coSwap2 (by got_up) rfl rfl rfl rfl rfl rfl rfl rfl) coNil))) ?_
          exact gNil ⟨_, _, c, _, met ++ [(a, b, c)], rfl, rfl, rfl, rfl, rfl, by rw [List.map_append]; rfl, h7⟩
      · cases h7
    · rename_i hc
      left
      cases h7
      refine ⟨evSubB _ (evPeekB (x := Str.ofString "met") rfl (evBTo (by got_up) (eq_false_of_ne_true hc))) sub, ?_⟩
      refine coSub ?_ (subL sub)
      exact coFreeze (x := Str.ofString "met") rfl (coStop (coRet (evTo (d := .tup [.str (sT text), .lst (met.map f3)]) (by got_up) rfl)) rfl)
end
section
set_option maxHeartbeats 2000000

theorem t_d2 {prog : Program} {w : World} {k : Nat} {a b n : Int} (hc : decide ((Builtin.Int.intBits a : Int) - n ≤ 4000) = true) (hb : b ≠ 0) (hs : sm b = true) : VSpec prog w (KP w) (k + 1) (.ref 36) [.int a, .int b, .int n] (.tup [.int (a.fdiv b), .int (a.fmod b)]) := by
  refine' vspecC (xs := [Str.ofString "a", Str.ofString "b", Str.ofString "n"]) (ho := ?ho) (hcd := ?hcd) (hb := ?hb) (hs := ?hs) (hx := ?hx) (hn := ?hn) (hl := rfl) (o := .ret _) (hr := rfl) (h := ?h)
  case ho => rfl
  case hcd => rfl
  case hb => intro vs h; match vs, h with | [a, b, c], _ => rfl
  case hs => rfl
  case hx => rfl
  case hn => decide
  exact coStop (coIfT (by got_up) hc (coStop (coRet (by got_up)) rfl)) rfl

noncomputable def u2 (ds : List Int) (n : Int) : Nat → Int → Int → Option Int
  | 0, _, _ => none
  | f + 1, L, R => if (L + 1 == R) = true then (if 0 ≤ L ∧ L < 2 ^ 63 then ds[L.toNat]? else none)
    else match u2 ds n f ((L + R).fdiv (2 ^ (1 : Int).toNat)) R, u2 ds n f L ((L + R).fdiv (2 ^ (1 : Int).toNat)) with
      | some a, some b => if sm ((L + R).fdiv (2 ^ (1 : Int).toNat) - L) = true ∧ 0 ≤ ((L + R).fdiv (2 ^ (1 : Int).toNat) - L) * n ∧ ((L + R).fdiv (2 ^ (1 : Int).toNat) - L) * n ≤ 1000000 ∧ sm a = true then
          some (a * 2 ^ (((L + R).fdiv (2 ^ (1 : Int).toNat) - L) * n).toNat + b) else none
      | _, _ => none
noncomputable def du (ds : List Int) (n : Int) : Option Int := if ds.length ≤ 1000 then (if ds.isEmpty = true then some 0 else u2 ds n 10 0 ds.length) else none

theorem t_du {prog : Program} {w : World} {k : Nat} {ds : List Int} {n r : Int} (hp : du ds n = some r) : VSpec prog w (KP w) (k + 11) (.ref 57) [.lst (ds.map .int), .int n] (.int r) := by
  refine' vspecN (k := k + 10) (xs := [Str.ofString "digits", Str.ofString "n"]) (ho := ?ho) (hcd := ?hcd) (hb := ?hb) (hs := ?hs) (hx := ?hx) (hn := ?hn) (hl := rfl) (o := .ret _) (hr := rfl) (h := ?h)
  case ho => rfl
  case hcd => rfl
  case hb => intro vs h; match vs, h with | [a, b], _ => rfl
  case hs => rfl
  case hx => rfl
  case hn => decide
  refine coDef (c := 56) (P := 52) (ln := 91) (cl := 4) (qual := Str.ofString "_digits2int.<locals>.inner") (q0 := Str.ofString "_digits2int.<locals>.") ⟨.inr ⟨rfl, rfl, rfl, rfl, rfl⟩⟩ rfl rfl rfl rfl rfl rfl rfl (fun _ => rfl) rfl rfl rfl rfl fun f fd I hcs => ?_
  have F : NestFn fd _ _ _ _ _ := ⟨I, hcs, rfl⟩
  clear I hcs
  have key : ∀ (fuel : Nat) (L R r : Int), u2 ds n fuel L R = some r → ∀ (k : Nat) (sc : Scope) (ρ : Loc) (e1 e2 : Expr) (np pos : Pos), sc.more = cellsMore fd.closure → (sc.names.lookup (Str.ofString "inner") = some .local ∨ sc.names.lookup (Str.ofString "inner") = some .cell ∨ sc.names.lookup (Str.ofString "inner") = some .free) →
      ρ.lookup (Str.ofString "inner") = some (.val (.fn f fd)) → ρ.lookup (Str.ofString "digits") = some (.val (.lst (ds.map .int))) → ρ.lookup (Str.ofString "n") = some (.val (.int n)) → noStar e1 = true → noStar e2 = true →
      EvS prog w (KP w) (k + fuel) sc ρ e1 (.int L) → EvS prog w (KP w) (k + fuel) sc ρ e2 (.int R) → EvS prog w (KP w) (k + fuel) sc ρ (.Call (.Name (Str.ofString "inner") np) [e1, e2] [] pos) (.int r) := by
    intro fuel
    induction fuel with
    | zero => intro L R r h; cases h
    | succ fuel ih =>
      intro L R r h k sc ρ e1 e2 np pos hm hk h1 h2 h3 n1 n2 he1 he2
      have hcap : capL [Str.ofString "digits", Str.ofString "n", Str.ofString "inner"] ρ = [(Str.ofString "digits", .val (.lst (ds.map .int))), (Str.ofString "n", .val (.int n)), (Str.ofString "inner", .val (.fn f fd))] := by
        simp only [capL, h1, h2, h3]
      refine' evClos (k := k + fuel) (xs := [Str.ofString "L", Str.ofString "R"]) (fs := [Str.ofString "digits", Str.ofString "n", Str.ofString "inner"]) (o := .ret (.int r)) h1 hk F hm (.cons n1 he1 (.cons n2 he2 .nil)) (by simp) ?hbb rfl (by decide) rfl rfl rfl ?hbody
      case hbb => rintro fd' ⟨cl, doc, pm, cv, ct, rfl⟩ vs h; match vs, h with | [a, b], _ => rfl
      rw [hcap]
      unfold u2 at h
      split at h
      · rename_i hc
        split at h
        · rename_i hb
          exact coStop (coIfT (by got_up) hc (coStop (coRet (evItemI (by got_up) (by got_up) hb.1 hb.2 h rfl)) rfl)) rfl
        · cases h
      · rename_i hc
        refine coCons (coIfF (by got_up) (eq_false_of_ne_true hc) coNil) ?_
        split at h
        · rename_i a b ha hb
          split at h
          · rename_i hq
            obtain ⟨q1, q2, q3, q4⟩ := hq
            cases h
            refine coCons (coAssign (by got_up) rfl fun _ _ => rfl) ?_
            refine coCons (coAssign (by got_up) rfl fun _ _ => rfl) ?_
            refine coStop (coRet (evBin (evLsh (ih _ _ _ ha k _ _ _ _ _ _ rfl (.inr (.inr rfl)) rfl rfl rfl rfl rfl (by got_up) (by got_up)) (by got_up) q2 q3 q4) (ih _ _ _ hb k _ _ _ _ _ _ rfl (.inr (.inr rfl)) rfl rfl rfl rfl rfl (by got_up) (by got_up)) rfl)) rfl
          · cases h
        · cases h
  unfold du at hp
  split at hp
  · rename_i hlen
    have hz : szOk (ds.map D.int) = true := by unfold szOk; simp; omega
    split at hp
    · rename_i he
      cases hp
      exact coStop (coRet (evIfF (evTruL (by got_up) hz rfl) (by simpa using he) (by got_up))) rfl
    · rename_i he
      exact coStop (coRet (evIfT (evTruL (by got_up) hz rfl) (by simpa using he) (key 10 0 ds.length r hp k _ _ _ _ _ _ rfl (.inr (.inl rfl)) rfl rfl rfl rfl rfl (by got_up) (evTo (d := .int ((ds.map D.int).length : Nat)) (by got_up) (by simp))))) rfl
  · cases hp
end
section
set_option maxHeartbeats 2000000

noncomputable def i2 (n : Int) : Nat → Int → Int → Int → List Int → Option (List Int)
  | 0, _, _, _, _ => none
  | f + 1, x, L, R, ds => if (L + 1 == R) = true then (if 0 ≤ L ∧ L < ds.length ∧ ds.length ≤ 1000 then some (ds.set L.toNat x) else none)
    else if sm ((L + R).fdiv (2 ^ (1 : Int).toNat) - L) = true ∧ 0 ≤ ((L + R).fdiv (2 ^ (1 : Int).toNat) - L) * n ∧ ((L + R).fdiv (2 ^ (1 : Int).toNat) - L) * n ≤ 1000000 ∧ sm (x.fdiv (2 ^ (((L + R).fdiv (2 ^ (1 : Int).toNat) - L) * n).toNat)) = true then
        match i2 n f (Builtin.bitXor x (x.fdiv (2 ^ (((L + R).fdiv (2 ^ (1 : Int).toNat) - L) * n).toNat) * 2 ^ (((L + R).fdiv (2 ^ (1 : Int).toNat) - L) * n).toNat)) L ((L + R).fdiv (2 ^ (1 : Int).toNat)) ds with
        | some ds1 => i2 n f (x.fdiv (2 ^ (((L + R).fdiv (2 ^ (1 : Int).toNat) - L) * n).toNat)) ((L + R).fdiv (2 ^ (1 : Int).toNat)) R ds1
        | none => none
      else none
noncomputable def i2F (a n : Int) : Option (List Int) := if n ≠ 0 ∧ sm n = true ∧ 0 ≤ ((Builtin.Int.intBits a : Int) + n - 1).fdiv n ∧ ((Builtin.Int.intBits a : Int) + n - 1).fdiv n ≤ 1000 then
    (if (a != 0) = true then i2 n 10 a 0 (((Builtin.Int.intBits a : Int) + n - 1).fdiv n).toNat (List.replicate (((Builtin.Int.intBits a : Int) + n - 1).fdiv n).toNat 0)
     else some (List.replicate (((Builtin.Int.intBits a : Int) + n - 1).fdiv n).toNat 0))
  else none

theorem rep1 (n : Nat) : (List.replicate n [D.int 0]).flatten = (List.replicate n (0 : Int)).map .int := by
  induction n with
  | zero => rfl
  | succ n ih => rw [List.replicate_succ, List.replicate_succ, List.flatten_cons, ih]; rfl
theorem evNTo {prog : Program} {w : World} {K : Frag} {k : Nat} {sc : Scope} {ρ : Loc} {e : Expr} {l l' : List D} (h : EvN prog w K k sc ρ e l) (q : l = l') : EvN prog w K k sc ρ e l' := q ▸ h

theorem coClosMutE {prog : Program} {w : World} {K : Frag} {k : Nat} {sc scope : Scope} {ρ : Loc} {g name qual x : Str} {params : Arguments} {body : List Stmt} {np pos p3 : Pos} {es : List Expr} {ds : List D} {f : Addr} {fd : FuncData} {xs fs : List Str} {r : Vr} {l l' : List D} {cap : Loc} (hg : ρ.lookup g = some (.val (.fn f fd))) (hk : sc.names.lookup g = some .local ∨ sc.names.lookup g = some .cell ∨ sc.names.lookup g = some .free)
    (F : NestFn fd name qual params body scope) (hm : sc.more = cellsMore fd.closure) (L : EvL prog w K (k + 1) sc ρ es ds) (hne : es ≠ [])
    (hb : ∀ fd', (∃ cl doc pm cv ct, fd' = fnX name qual params body scope cl .none .none doc pm none cv ct) → ∀ vs : List Value, vs.length = xs.length → bindArgs fd' ⟨vs, []⟩ = pure (xs.zip vs))
    (hx : xs.all (fun x => decide (scope.names.lookup x = some .local)) = true) (hn : xs.Nodup) (hl : ds.length = xs.length) (hfs : fs.all (fun x => decide (scope.names.lookup x = some .free)) = true)
    (hxr : ρ.lookup x = some r) (hrl : listV r = some l) (hxf : scope.names.lookup x = some .free)
    (hs : ∀ env, swapsWith (.Call (.Name g np) es [] pos) none p3.line env = pure false) (hcap : capL fs ρ = cap)
    (h : ∃ o ρ', Cos prog w K k { scope with more := cellsMore fd.closure } (locsOf xs ds ++ ((x, .bor l) :: cap)) body o ∧ outL o = some ρ' ∧ ρ'.lookup x = some (.bor l')) : Co prog w K (k + 1) sc ρ (.Expr (.Call (.Name g np) es [] pos) p3) (.go (setL ρ x (likeL r l'))) := by
  obtain ⟨o, ρ', h1, h2, h3⟩ := h
  subst hcap
  exact coClosMut hg hk F hm L hne hb hx hn hl hfs hxr hrl hxf h2 h3 hs h1

theorem coClosMutG {prog : Program} {w : World} {K : Frag} {k : Nat} {sc scope : Scope} {ρ : Loc} {g name qual x : Str} {params : Arguments} {body : List Stmt} {np pos p3 : Pos} {es : List Expr} {ds : List D} {f : Addr} {fd : FuncData} {xs fs : List Str} {r : Vr} {l l' : List D} {cap : Loc} (hg : ρ.lookup g = some (.val (.fn f fd))) (hk : sc.names.lookup g = some .local ∨ sc.names.lookup g = some .cell ∨ sc.names.lookup g = some .free)
    (F : NestFn fd name qual params body scope) (hm : sc.more = cellsMore fd.closure) (L : EvL prog w K (k + 1) sc ρ es ds) (hne : es ≠ [])
    (hb : ∀ fd', (∃ cl doc pm cv ct, fd' = fnX name qual params body scope cl .none .none doc pm none cv ct) → ∀ vs : List Value, vs.length = xs.length → bindArgs fd' ⟨vs, []⟩ = pure (xs.zip vs))
    (hx : xs.all (fun x => decide (scope.names.lookup x = some .local)) = true) (hn : xs.Nodup) (hl : ds.length = xs.length) (hfs : fs.all (fun x => decide (scope.names.lookup x = some .free)) = true)
    (hxr : ρ.lookup x = some r) (hrl : listV r = some l) (hxf : scope.names.lookup x = some .free)
    (hs : ∀ env, swapsWith (.Call (.Name g np) es [] pos) none p3.line env = pure false) (hcap : capL fs ρ = cap)
    (h : GoE prog w K k { scope with more := cellsMore fd.closure } (locsOf xs ds ++ ((x, .bor l) :: cap)) body fun L => L.lookup x = some (.bor l')) : Co prog w K (k + 1) sc ρ (.Expr (.Call (.Name g np) es [] pos) p3) (.go (setL ρ x (likeL r l'))) := by
  obtain ⟨ρ', h1, h2⟩ := h
  exact coClosMutE hg hk F hm L hne hb hx hn hl hfs hxr hrl hxf hs hcap ⟨_, _, h1, rfl, h2⟩

theorem t_i2 {prog : Program} {w : World} {k : Nat} {a n : Int} {r : List Int} (hp : i2F a n = some r) : VSpec prog w (KP w) (k + 11) (.ref 50) [.int a, .int n] (.lst (r.map .int)) := by
  refine' vspecN (k := k + 10) (xs := [Str.ofString "a", Str.ofString "n"]) (ho := ?ho) (hcd := ?hcd) (hb := ?hb) (hs := ?hs) (hx := ?hx) (hn := ?hn) (hl := rfl) (o := .ret _) (hr := rfl) (h := ?h)
  case ho => rfl
  case hcd => rfl
  case hb => intro vs h; match vs, h with | [a, b], _ => rfl
  case hs => rfl
  case hx => rfl
  case hn => decide
  unfold i2F at hp
  split at hp
  · rename_i hc
    obtain ⟨c1, c2, c3, c4⟩ := hc
    refine coCons (coNewN (evNTo (evNMul (by got_up) (by got_up) (Nat.le_refl _) c3 (by omega)) (rep1 _)) rfl fun _ _ => rfl) ?_
    refine coDef (c := 49) (P := 45) (ln := 76) (cl := 4) (qual := Str.ofString "_int2digits.<locals>.inner") (q0 := Str.ofString "_int2digits.<locals>.") ⟨.inl ⟨rfl, rfl, rfl, rfl, rfl⟩⟩ rfl rfl rfl rfl rfl rfl rfl (fun _ => rfl) rfl rfl rfl rfl fun f fd I hcs => ?_
    have F : NestFn fd _ _ _ _ _ := ⟨I, hcs, rfl⟩
    clear I hcs
    have key : ∀ (fuel : Nat) (x L R : Int) (ds ds' : List Int), i2 n fuel x L R ds = some ds' → ∀ (k : Nat) (sc : Scope) (ρ : Loc) (r : Vr) (e1 e2 e3 : Expr) (np pos p3 : Pos), sc.more = cellsMore fd.closure → (sc.names.lookup (Str.ofString "inner") = some .local ∨ sc.names.lookup (Str.ofString "inner") = some .cell ∨ sc.names.lookup (Str.ofString "inner") = some .free) →
        ρ.lookup (Str.ofString "inner") = some (.val (.fn f fd)) → ρ.lookup (Str.ofString "n") = some (.val (.int n)) → ρ.lookup (Str.ofString "a_digits") = some r → listV r = some (ds.map .int) → noStar e1 = true → noStar e2 = true → noStar e3 = true →
        EvS prog w (KP w) (k + fuel) sc ρ e1 (.int x) → EvS prog w (KP w) (k + fuel) sc ρ e2 (.int L) → EvS prog w (KP w) (k + fuel) sc ρ e3 (.int R) →
        (∀ env, swapsWith (.Call (.Name (Str.ofString "inner") np) [e1, e2, e3] [] pos) none p3.line env = pure false) →
        Co prog w (KP w) (k + fuel) sc ρ (.Expr (.Call (.Name (Str.ofString "inner") np) [e1, e2, e3] [] pos) p3) (.go (setL ρ (Str.ofString "a_digits") (likeL r (ds'.map .int)))) := by
      intro fuel
      induction fuel with
      | zero => intro x L R ds ds' h; cases h
      | succ fuel ih =>
        intro x L R ds ds' h k sc ρ r e1 e2 e3 np pos p3 hm hk h1 h2 h3 hr n1 n2 n3 he1 he2 he3 hsw
        have hcap : capL [Str.ofString "n", Str.ofString "inner"] ρ = [(Str.ofString "n", .val (.int n)), (Str.ofString "inner", .val (.fn f fd))] := by
          simp only [capL, h1, h2]
        unfold i2 at h
        split at h
        · rename_i hc
          split at h
          · rename_i hb
            cases h
            refine' coClosMutE (k := k + fuel) (x := Str.ofString "a_digits") (xs := [Str.ofString "x", Str.ofString "L", Str.ofString "R"]) (fs := [Str.ofString "n", Str.ofString "inner"]) h1 hk F hm (.cons n1 he1 (.cons n2 he2 (.cons n3 he3 .nil))) (by simp) ?hbb rfl (by decide) rfl rfl h3 hr rfl hsw hcap
              ⟨_, _, coStop (coIfT (by got_up) hc (coCons (coSetItem (r := .bor _) rfl rfl rfl (by got_up) (by got_up) hb.1 (by simpa using hb.2.1) (by unfold szOk; simp; omega) fun _ => rfl) (coStop coRet0L rfl))) rfl, rfl, by rw [lkS]; simp [likeL, List.map_set]⟩
            rintro fd' ⟨cl, doc, pm, cv, ct, rfl⟩ vs h; match vs, h with | [a, b, c], _ => rfl
          · cases h
        · rename_i hc
          split at h
          · rename_i hq
            obtain ⟨q1, q2, q3, q4⟩ := hq
            split at h
            · rename_i ds1 h5
              refine' coClosMutG (k := k + fuel) (x := Str.ofString "a_digits") (xs := [Str.ofString "x", Str.ofString "L", Str.ofString "R"]) (fs := [Str.ofString "n", Str.ofString "inner"]) h1 hk F hm (.cons n1 he1 (.cons n2 he2 (.cons n3 he3 .nil))) (by simp) ?hbc rfl (by decide) rfl rfl h3 hr rfl hsw hcap ?_
              case hbc => rintro fd' ⟨cl, doc, pm, cv, ct, rfl⟩ vs h; match vs, h with | [a, b, c], _ => rfl
              refine gCons (coIfF (by got_up) (eq_false_of_ne_true hc) coNil) ?_
              refine gCons (coAssign (by got_up) rfl fun _ _ => rfl) ?_
              refine gCons (coAssign (by got_up) rfl fun _ _ => rfl) ?_
              refine gCons (coAssign (by got_up) rfl fun _ _ => rfl) ?_
              refine gCons (coAssign (by got_up) rfl fun _ _ => rfl) ?_
              refine gCons (ih _ _ _ _ _ h5 k _ _ (.bor _) _ _ _ _ _ _ rfl (.inr (.inr rfl)) rfl rfl rfl rfl rfl rfl rfl (by got_up) (by got_up) (by got_up) fun _ => rfl) ?_
              refine gCons (ih _ _ _ _ _ h k _ _ (.bor _) _ _ _ _ _ _ rfl (.inr (.inr rfl)) rfl rfl rfl rfl rfl rfl rfl (by got_up) (by got_up) (by got_up) fun _ => rfl) ?_
              exact gNil (by rw [lkS]; rfl)
            · cases h
          · cases h
    have hz : szOk ((List.replicate (((Builtin.Int.intBits a : Int) + n - 1).fdiv n).toNat (0 : Int)).map D.int) = true := by unfold szOk; simp; omega
    split at hp
    · rename_i ha
      refine coCons (coIfT (c := a != 0) (by got_up) ha (coCons (key 10 a 0 _ _ r hp k _ _ (.lst _) _ _ _ _ _ _ rfl (.inr (.inl rfl)) rfl rfl rfl rfl rfl rfl rfl (by got_up) (by got_up) (evPeek (x := Str.ofString "a_digits") rfl (evTo (d := .int (((List.replicate (((Builtin.Int.intBits a : Int) + n - 1).fdiv n).toNat (0 : Int)).map D.int).length : Nat)) (by got_up) (by simp)) rfl) fun _ => rfl) coNil)) ?_
      exact coFreeze (x := Str.ofString "a_digits") rfl (coStop (coRet (by got_up)) rfl)
    · rename_i ha
      cases hp
      refine coCons (coIfF (c := a != 0) (by got_up) (eq_false_of_ne_true ha) coNil) ?_
      exact coFreeze (x := Str.ofString "a_digits") rfl (coStop (coRet (by got_up)) rfl)
  · cases hp
end
section
set_option maxHeartbeats 2000000

noncomputable def dl (b n : Int) : List Int → Int → List Int → Option (Int × List Int)
  | [], r, qs => some (r, qs)
  | d :: ds, r, qs => if sm r = true ∧ decide ((Builtin.Int.intBits (r * 2 ^ n.toNat + d) : Int) - n ≤ 4000) = true ∧ qs.length ≤ 1000 then
      dl b n ds ((r * 2 ^ n.toNat + d).fmod b) (qs ++ [(r * 2 ^ n.toNat + d).fdiv b]) else none
noncomputable def dpF (a b : Int) : Option (Int × Int) := if b ≠ 0 ∧ sm b = true ∧ (Builtin.Int.intBits b : Int) ≤ 1000000 then
    match i2F a (Builtin.Int.intBits b) with
    | some ds => match dl b (Builtin.Int.intBits b) ds.reverse 0 [] with
      | some (r, qs) => if qs.length ≤ 1000 then (match du qs.reverse (Builtin.Int.intBits b) with
        | some q => some (q, r)
        | none => none) else none
      | none => none
    | none => none
  else none
noncomputable def id1 (a b : Int) : Option (Int × Int) := if a < 0 then (match dpF (Builtin.bitNot a) b with
    | some (q, r) => some (Builtin.bitNot q, b + Builtin.bitNot r)
    | none => none) else dpF a b
noncomputable def idF (a b : Int) : Option (Int × Int) := if b < 0 then (match id1 (-a) (-b) with
    | some (q, r) => some (q, -r)
    | none => none) else if b = 0 then none else id1 a b
noncomputable def pr (r : Int × Int) : D := .tup [.int r.1, .int r.2]

theorem t_dp {prog : Program} {w : World} {k : Nat} {a b : Int} {r : Int × Int} (hp : dpF a b = some r) : VSpec prog w (KP w) (k + 12) (.ref 64) [.int a, .int b] (pr r) := by
  refine' vspecC (k := k + 11) (xs := [Str.ofString "a", Str.ofString "b"]) (ho := ?ho) (hcd := ?hcd) (hb := ?hb) (hs := ?hs) (hx := ?hx) (hn := ?hn) (hl := rfl) (o := .ret _) (hr := rfl) (h := ?h)
  case ho => rfl
  case hcd => rfl
  case hb => intro vs h; match vs, h with | [a, b], _ => rfl
  case hs => rfl
  case hx => rfl
  case hn => decide
  unfold dpF at hp
  split at hp
  · rename_i hc
    obtain ⟨c1, c2, c3⟩ := hc
    split at hp
    · rename_i ds hds
      split at hp
      · rename_i r' qs hdl
        split at hp
        · rename_i hql
          split at hp
          · rename_i q hq
            cases hp
            refine coCons (coAssign (by got_up) rfl fun _ _ => rfl) ?_
            refine coCons (coAssign (d := .lst (ds.map .int)) (evCall rfl (by kp_flats) (by fold_lay) (by kbo_bools) (List.cons_ne_nil _ _) (t_i2 hds)) rfl fun _ _ => rfl) ?_
            refine coCons (coAssign (by got_up) rfl fun _ _ => rfl) ?_
            refine coCons (coNew rfl) ?_
            refine' cFor (itRev rfl (by kp_flats) rfl (by got_up)) rfl (fun _ _ => rfl) (fun es L => ∃ es' r1 qs1, es = es'.map D.int ∧ L.lookup (Str.ofString "b") = some (.val (.int b)) ∧ L.lookup (Str.ofString "n") = some (.val (.int (Builtin.Int.intBits b))) ∧
              L.lookup (Str.ofString "r") = some (.val (.int r1)) ∧ L.lookup (Str.ofString "q_digits") = some (.lst (qs1.map .int)) ∧ dl b (Builtin.Int.intBits b) es' r1 qs1 = some (r', qs))
              ⟨ds.reverse, 0, [], by simp, rfl, rfl, rfl, rfl, hdl⟩ ?step ?fin
            case step =>
              rintro d es L ⟨es', r1, qs1, he, h1, h2, h3, h4, h5⟩
              cases es' with
              | nil => cases he
              | cons x es' =>
                cases he
                unfold dl at h5
                split at h5
                · rename_i hh
                  obtain ⟨g1, g2, g3⟩ := hh
                  refine eGo (gSub _ ?_ (subC (lkS (v := .val (.int x)) (x := Str.ofString "a_digit")) (subC (lkN (by rfl) h1) (subC (lkN (by rfl) h2) (subC (lkN (by rfl) h3) (subC (lkN (by rfl) h4) subN))))))
                  refine gCons (coUnpackT (xs := [Str.ofString "q_digit", Str.ofString "r"]) (evCall rfl (by kp_flats) (by fold_lay) (by kbo_bools) (List.cons_ne_nil _ _) (t_d2 (k := k + 10) g2 c1 c2)) rfl rfl rfl (fun _ => rfl) (fun _ _ => rfl)) ?_
                  refine gCons (coAppend rfl rfl (by unfold szOk; simp; omega) rfl rfl (fun _ => rfl) rfl (by got_up)) ?_
                  exact gNil ⟨es', _, qs1 ++ [_], rfl, rfl, rfl, rfl, by rw [List.map_append]; rfl, h5⟩
                · cases h5
            case fin =>
              rintro L ⟨es', r1, qs1, he, h1, h2, h3, h4, h5⟩
              cases es' with
              | cons x es' => cases he
              | nil =>
                unfold dl at h5
                cases h5
                refine coSub ?_ (subL (subC h2 (subC h3 (subC h4 subN))))
                refine coCons (coReverse (r := .lst _) rfl rfl rfl (by unfold szOk; simp; omega) rfl (fun _ => rfl) fun _ => rfl) ?_
                refine coFreeze (x := Str.ofString "q_digits") (l := (qs.map D.int).reverse) rfl ?_
                refine coCons (coAssign (d := .int q) (evCall (ds := [.lst (qs.reverse.map .int), .int (Builtin.Int.intBits b)]) rfl (by kp_flats) (by fold_lay) (.cons rfl (evTo (d := .lst ((qs.map D.int).reverse)) (by got_up) (by rw [List.map_reverse])) (by kbo_bools)) (List.cons_ne_nil _ _) (t_du hq)) rfl fun _ _ => rfl) ?_
                exact coStop (coRet (evTo (d := .tup [.int q, .int r']) (by got_up) rfl)) rfl
          · cases hp
        · cases hp
      · cases hp
    · cases hp
  · cases hp

theorem t_id0 {prog : Program} {w : World} {k : Nat} {a b : Int} {r : Int × Int} (hb : 0 < b) (hn : ¬ a < 0) (hp : dpF a b = some r) : VSpec prog w (KP w) (k + 13) (.ref 71) [.int a, .int b] (pr r) := by
  refine' vspecC (k := k + 12) (xs := [Str.ofString "a", Str.ofString "b"]) (ho := ?ho) (hcd := ?hcd) (hb := ?hb) (hs := ?hs) (hx := ?hx) (hn := ?hn) (hl := rfl) (o := .ret _) (hr := rfl) (h := ?h)
  case ho => rfl
  case hcd => rfl
  case hb => intro vs h; match vs, h with | [a, b], _ => rfl
  case hs => rfl
  case hx => rfl
  case hn => decide
  refine coStop (coIfF (by got_up) (by simp; omega) ?_) rfl
  refine coStop (coIfF (by got_up) (by simp; omega) ?_) rfl
  refine coStop (coIfF (by got_up) (by simp; omega) ?_) rfl
  exact coStop (coRet (evCall rfl (by kp_flats) (by fold_lay) (by kbo_bools) (List.cons_ne_nil _ _) (t_dp hp))) rfl

theorem t_id1 {prog : Program} {w : World} {k : Nat} {a b : Int} {r : Int × Int} (hb : 0 < b) (hp : id1 a b = some r) : VSpec prog w (KP w) (k + 14) (.ref 71) [.int a, .int b] (pr r) := by
  unfold id1 at hp
  split at hp
  · rename_i hn
    split at hp
    · rename_i q r' hd
      cases hp
      refine' vspecC (k := k + 13) (xs := [Str.ofString "a", Str.ofString "b"]) (ho := ?ho) (hcd := ?hcd) (hb := ?hb) (hs := ?hs) (hx := ?hx) (hn := ?hn) (hl := rfl) (o := .ret _) (hr := rfl) (h := ?h)
      case ho => rfl
      case hcd => rfl
      case hb => intro vs h; match vs, h with | [a, b], _ => rfl
      case hs => rfl
      case hx => rfl
      case hn => decide
      refine coStop (coIfF (by got_up) (by simp; omega) ?_) rfl
      refine coStop (coIfF (by got_up) (by simp; omega) ?_) rfl
      refine coStop (coIfT (by got_up) (by simp; omega) ?_) rfl
      have hnn : ¬ Builtin.bitNot a < 0 := by unfold Builtin.bitNot; omega
      refine coCons (coUnpackT (xs := [Str.ofString "q", Str.ofString "r"]) (evCall rfl (by kp_flats) (by fold_lay) (by kbo_bools) (List.cons_ne_nil _ _) (t_id0 hb hnn hd)) rfl rfl rfl (fun _ => rfl) (fun _ _ => rfl)) ?_
      exact coStop (coRet (evTo (d := .tup [.int (Builtin.bitNot q), .int (b + Builtin.bitNot r')]) (by got_up) rfl)) rfl
    · cases hp
  · rename_i hn
    exact t_id0 (k := k + 1) hb hn hp

theorem t_id {prog : Program} {w : World} {k : Nat} {a b : Int} {r : Int × Int} (hp : idF a b = some r) : VSpec prog w (KP w) (k + 15) (.ref 71) [.int a, .int b] (pr r) := by
  unfold idF at hp
  split at hp
  · rename_i hn
    split at hp
    · rename_i q r' hd
      cases hp
      refine' vspecC (k := k + 14) (xs := [Str.ofString "a", Str.ofString "b"]) (ho := ?ho) (hcd := ?hcd) (hb := ?hb) (hs := ?hs) (hx := ?hx) (hn := ?hn) (hl := rfl) (o := .ret _) (hr := rfl) (h := ?h)
      case ho => rfl
      case hcd => rfl
      case hb => intro vs h; match vs, h with | [a, b], _ => rfl
      case hs => rfl
      case hx => rfl
      case hn => decide
      refine coStop (coIfF (by got_up) (by simp; omega) ?_) rfl
      refine coStop (coIfT (by got_up) (by simp; omega) ?_) rfl
      refine coCons (coUnpackT (xs := [Str.ofString "q", Str.ofString "r"]) (evCall rfl (by kp_flats) (by fold_lay) (by kbo_bools) (List.cons_ne_nil _ _) (t_id1 (by omega) hd)) rfl rfl rfl (fun _ => rfl) (fun _ _ => rfl)) ?_
      exact coStop (coRet (evTo (d := .tup [.int q, .int (-r')]) (by got_up) rfl)) rfl
    · cases hp
  · split at hp
    · cases hp
    · exact t_id1 (k := k + 1) (by omega) hp
end
section
set_option maxHeartbeats 2000000

noncomputable def bk : List Nat → Int → Int → Int → Int → Int × Int × Int × Int
  | [], a, b, c, d => (a, b, c, d)
  | x :: r, a, b, c, d => if (x == 32) = true then bk r a (a + b) c (c + d) else bk r (a + b) b (c + d) d
noncomputable def eu : Nat → Int → Int → Option Int
  | 0, _, _ => none
  | f + 1, m, o => if (o != 0) = true then eu f o (m.fmod o) else some m
noncomputable def eu2 : List Int → Int → Option Int
  | [], m => some m
  | x :: xs, m => match eu 200 m x with
    | some g => eu2 xs g
    | none => none
noncomputable def bkF (t : List Nat) : Option (List (Int × Int)) := if t.all (· < 128) = true then
    match bk t 1 0 0 1 with
    | (a, b, c, d) => match eu2 [(if d - a < 0 then -(d - a) else d - a), b] c with
      | some m => match idF c m, idF (d - a) m, idF (-b) m with
        | some p, some q, some r => some [p, q, r]
        | _, _, _ => none
      | none => none
  else none

theorem sgnEq (x : Nat) : ((⟨#[x]⟩ : Str) == sT [32]) = (x == 32) := by
  by_cases h : x = 32
  · subst h; rfl
  · have h1 : ((⟨#[x]⟩ : Str) == sT [32]) = false := beqF fun q => h (by unfold sT at q; simpa using q)
    rw [h1]; simp [h]

theorem t_back {prog : Program} {w : World} {k : Nat} {t : List Nat} {r : List (Int × Int)} (hp : bkF t = some r) : VSpec prog w (KP w) (k + 16) (.ref 210) [.str (sT t)] (.lst (r.map pr)) := by
  refine' vspecC (k := k + 15) (xs := [Str.ofString "text"]) (ho := ?ho) (hcd := ?hcd) (hb := ?hb) (hs := ?hs) (hx := ?hx) (hn := ?hn) (hl := rfl) (o := .ret _) (hr := rfl) (h := ?h)
  case ho => rfl
  case hcd => rfl
  case hb => intro vs h; match vs, h with | [a], _ => rfl
  case hs => rfl
  case hx => rfl
  case hn => decide
  unfold bkF at hp
  split at hp
  · rename_i hasc
    split at hp
    rename_i a b c d hbk
    split at hp
    · rename_i m hm
      split at hp
      · rename_i p q r' hp1 hp2 hp3
        cases hp
        refine coCons (coUnpackT (xs := [Str.ofString "a", Str.ofString "b", Str.ofString "c", Str.ofString "d"]) (by got_up) rfl rfl rfl (fun _ => rfl) (fun _ _ => rfl)) ?_
        refine' cFor (itStr (x := sT t) (by got_up) ?hasc) rfl (fun _ _ => rfl) (fun es L => ∃ t' a1 b1 c1 d1, es = t'.map (fun c => D.str ⟨#[c]⟩) ∧ L.lookup (Str.ofString "a") = some (.val (.int a1)) ∧ L.lookup (Str.ofString "b") = some (.val (.int b1)) ∧
          L.lookup (Str.ofString "c") = some (.val (.int c1)) ∧ L.lookup (Str.ofString "d") = some (.val (.int d1)) ∧ bk t' a1 b1 c1 d1 = (a, b, c, d)) ⟨t, 1, 0, 0, 1, ?hsg, rfl, rfl, rfl, rfl, hbk⟩ ?step ?fin
        case hasc => unfold sT; simpa using hasc
        case hsg => unfold signsD sT; rfl
        case step =>
          rintro dd es L ⟨t', a1, b1, c1, d1, he, h1, h2, h3, h4, h5⟩
          cases t' with
          | nil => cases he
          | cons x t' =>
            cases he
            refine eGo (gSub _ ?_ (subC (lkS (v := .val (.str ⟨#[x]⟩)) (x := Str.ofString "sign")) (subC (lkN (by rfl) h1) (subC (lkN (by rfl) h2) (subC (lkN (by rfl) h3) (subC (lkN (by rfl) h4) subN))))))
            unfold bk at h5
            split at h5
            · rename_i hx
              refine gCons (coIfT (evBTo (d := ((⟨#[x]⟩ : Str) == sT [32])) (by got_up) (sgnEq x)) hx (coCons (coSwap2 (by got_up) rfl rfl rfl rfl rfl rfl rfl rfl) coNil)) ?_
              exact gNil ⟨t', _, _, _, _, rfl, rfl, rfl, rfl, rfl, h5⟩
            · rename_i hx
              refine gCons (coIfF (evBTo (d := ((⟨#[x]⟩ : Str) == sT [32])) (by got_up) (sgnEq x)) (eq_false_of_ne_true hx) (coCons (coSwap2 (by got_up) rfl rfl rfl rfl rfl rfl rfl rfl) coNil)) ?_
              exact gNil ⟨t', _, _, _, _, rfl, rfl, rfl, rfl, rfl, h5⟩
        case fin =>
          rintro L ⟨t', a1, b1, c1, d1, he, h1, h2, h3, h4, h5⟩
          cases t' with
          | cons x t' => cases he
          | nil =>
            unfold bk at h5
            cases h5
            refine coSub ?_ (subL (subC h1 (subC h2 (subC h3 (subC h4 subN)))))
            refine coCons (coAssign (by got_up) rfl fun _ _ => rfl) ?_
            refine' cFor (ds := [.int (if d - a < 0 then -(d - a) else d - a), .int b]) (itTup (by got_up)) rfl (fun _ _ => rfl) (fun es L => ∃ xs m1, es = xs.map D.int ∧ L.lookup (Str.ofString "a") = some (.val (.int a)) ∧ L.lookup (Str.ofString "b") = some (.val (.int b)) ∧
              L.lookup (Str.ofString "c") = some (.val (.int c)) ∧ L.lookup (Str.ofString "d") = some (.val (.int d)) ∧ L.lookup (Str.ofString "measure") = some (.val (.int m1)) ∧ eu2 xs m1 = some m) ⟨[(if d - a < 0 then -(d - a) else d - a), b], c, rfl, rfl, rfl, rfl, rfl, rfl, hm⟩ ?step2 ?fin2
            case step2 =>
              rintro dd es L ⟨xs, m1, he, h1, h2, h3, h4, h5, h6⟩
              cases xs with
              | nil => cases he
              | cons x xs =>
                cases he
                unfold eu2 at h6
                split at h6
                · rename_i g hg
                  refine eGo (gSub _ ?_ (subC (lkS (v := .val (.int x)) (x := Str.ofString "other")) (subC (lkN (by rfl) h1) (subC (lkN (by rfl) h2) (subC (lkN (by rfl) h3) (subC (lkN (by rfl) h4) (subC (lkN (by rfl) h5) subN)))))))
                  refine' gWhile (n := 200) (fun n L => ∃ m2 o2, L.lookup (Str.ofString "a") = some (.val (.int a)) ∧ L.lookup (Str.ofString "b") = some (.val (.int b)) ∧
                    L.lookup (Str.ofString "c") = some (.val (.int c)) ∧ L.lookup (Str.ofString "d") = some (.val (.int d)) ∧ L.lookup (Str.ofString "measure") = some (.val (.int m2)) ∧ L.lookup (Str.ofString "other") = some (.val (.int o2)) ∧ eu n m2 o2 = some g) ⟨m1, x, rfl, rfl, rfl, rfl, rfl, rfl, hg⟩ ?wstep
                  rintro n L ⟨m2, o2, g1, g2, g3, g4, g5, g6, g7⟩
                  have sub : ∀ p ∈ ([(Str.ofString "a", .val (.int a)), (Str.ofString "b", .val (.int b)), (Str.ofString "c", .val (.int c)), (Str.ofString "d", .val (.int d)), (Str.ofString "measure", .val (.int m2)), (Str.ofString "other", .val (.int o2))] : Loc), L.lookup p.1 = some p.2 :=
                    subC g1 (subC g2 (subC g3 (subC g4 (subC g5 (subC g6 subN)))))
                  cases n with
                  | zero => cases g7
                  | succ n =>
                    unfold eu at g7
                    split at g7
                    · rename_i ho
                      have ho' : o2 ≠ 0 := by simpa using ho
                      right
                      refine ⟨n, rfl, evSubB _ (evBTo (d := o2 != 0) (by got_up) ho) sub, ?_⟩
                      refine eGo (gSub _ ?_ sub)
                      refine gCons (coUnpackT (xs := [Str.ofString "measure", Str.ofString "other"]) (by got_up) rfl rfl rfl (fun _ => rfl) (fun env O => swappedC O (.inl rfl) rfl rfl)) ?_
                      exact gNil ⟨_, _, rfl, rfl, rfl, rfl, rfl, rfl, g7⟩
                    · rename_i ho
                      left
                      cases g7
                      refine ⟨evSubB _ (evBTo (d := o2 != 0) (by got_up) (eq_false_of_ne_true ho)) sub, ?_⟩
                      exact gNil ⟨xs, _, rfl, g1, g2, g3, g4, g5, h6⟩
                · cases h6
            case fin2 =>
              rintro L ⟨xs, m1, he, h1, h2, h3, h4, h5, h6⟩
              cases xs with
              | cons x xs => cases he
              | nil =>
                unfold eu2 at h6
                cases h6
                refine coSub ?_ (subL (subC h1 (subC h2 (subC h3 (subC h4 (subC h5 subN))))))
                refine coStop (coRet (evComp [Str.ofString "measure"] (itTup (ds := [.int c, .int (d - a), .int (-b)]) (by got_up)) rfl rfl rfl rfl ?hc rfl fun _ _ => rfl)) rfl
                case hc =>
                  exact .keep testNil (evCall rfl (by kp_flats) (by fold_lay) (by kbo_bools) (List.cons_ne_nil _ _) (t_id hp1)) (.keep testNil (evCall rfl (by kp_flats) (by fold_lay) (by kbo_bools) (List.cons_ne_nil _ _) (t_id hp2)) (.keep testNil (evCall rfl (by kp_flats) (by fold_lay) (by kbo_bools) (List.cons_ne_nil _ _) (t_id hp3)) .nil))
      · cases hp
    · cases hp
  · cases hp
end
section
set_option maxHeartbeats 2000000

noncomputable def rn : Nat → T3 → Int → T3 → List Int → Option (List Int)
  | 0, _, _, _, _ => none
  | n + 1, f, root, (a, b, c), runs => if ((runs == []) || (!((a, b, c) == f) && decide ((runs.length : Int) < 99))) = true then
      match idF (root - b) (2 * a) with
      | some (run, x) => if runs.length ≤ 1000 ∧ sm (2 * run) = true ∧ sm a = true ∧ sm (a * run) = true ∧ sm b = true then
          rn n f root (a + (b + 2 * run * a) + (a * run * run + b * run + c), (b + 2 * run * a) + 2 * (a * run * run + b * run + c), a * run * run + b * run + c) (runs ++ [run])
        else none
      | none => none
    else if runs.length ≤ 1000 then some runs else none
noncomputable def rnF (f : T3) (root : Int) : Option (List Int) := rn 100 f root f []

theorem t_runs {prog : Program} {w : World} {k : Nat} {f : T3} {root : Int} {r : List Int} (hp : rnF f root = some r) : VSpec prog w (KP w) (k + 16) (.ref 217) [f3 f, .int root] (.lst (r.map .int)) := by
  refine' vspecC (k := k + 15) (xs := [Str.ofString "form", Str.ofString "root"]) (ho := ?ho) (hcd := ?hcd) (hb := ?hb) (hs := ?hs) (hx := ?hx) (hn := ?hn) (hl := rfl) (o := .ret _) (hr := rfl) (h := ?h)
  case ho => rfl
  case hcd => rfl
  case hb => intro vs h; match vs, h with | [a, b], _ => rfl
  case hs => rfl
  case hx => rfl
  case hn => decide
  obtain ⟨f1, f2, f3'⟩ := f
  unfold f3
  refine coCons (coUnpackT (xs := [Str.ofString "a", Str.ofString "b", Str.ofString "c"]) (by got_up) rfl rfl rfl (fun _ => rfl) (fun _ _ => rfl)) ?_
  refine coCons (coNew rfl) ?_
  refine' cWhile (n := 100) (fun n L => ∃ a b c runs, L.lookup (Str.ofString "form") = some (.val (.tup [.int f1, .int f2, .int f3'])) ∧ L.lookup (Str.ofString "root") = some (.val (.int root)) ∧ L.lookup (Str.ofString "a") = some (.val (.int a)) ∧ L.lookup (Str.ofString "b") = some (.val (.int b)) ∧ L.lookup (Str.ofString "c") = some (.val (.int c)) ∧
      L.lookup (Str.ofString "runs") = some (.lst (runs.map .int)) ∧ rn n (f1, f2, f3') root (a, b, c) runs = some r)
    ⟨f1, f2, f3', [], rfl, rfl, rfl, rfl, rfl, rfl, hp⟩ ?step
  rintro n L ⟨a, b, c, runs, h1, h2, h3, h4, h5, h6, h7⟩
  have sub : ∀ p ∈ ([(Str.ofString "form", .val (.tup [.int f1, .int f2, .int f3'])), (Str.ofString "root", .val (.int root)), (Str.ofString "a", .val (.int a)), (Str.ofString "b", .val (.int b)), (Str.ofString "c", .val (.int c)), (Str.ofString "runs", .lst (runs.map .int))] : Loc), L.lookup p.1 = some p.2 :=
    subC h1 (subC h2 (subC h3 (subC h4 (subC h5 (subC h6 subN)))))
  have hz' : runs.length ≤ 100000 → szOk (runs.map D.int) = true := fun h => by unfold szOk; simpa using h
  have hlen : (((runs.map D.int).length : Nat) : Int) = (runs.length : Int) := by simp
  cases n with
  | zero => cases h7
  | succ n =>
    unfold rn at h7
    split at h7
    · rename_i hc
      split at h7
      · rename_i run x hid
        split at h7
        · rename_i hq
          obtain ⟨q1, q2, q3, q4, q5⟩ := hq
          have hz := hz' (Nat.le_trans q1 (by decide))
          right
          refine ⟨n, rfl, evSubB _ (evPeekB (x := Str.ofString "runs") rfl (evBTo (d := (runs == []) || (!((a, b, c) == (f1, f2, f3')) && decide ((((runs.map D.int).length : Nat) : Int) < 99))) (by got_up) (by rw [hlen]; exact hc))) sub, ?_⟩
          refine eGo (gSub _ ?_ sub)
          refine gCons (coAssign (evItem (c := pr (run, x)) (evCall rfl (by kp_flats) (by fold_lay) (by kbo_bools) (List.cons_ne_nil _ _) (t_id hid)) (by got_up) rfl rfl) rfl fun _ _ => rfl) ?_
          refine gCons (coAppend rfl rfl hz rfl rfl (fun _ => rfl) rfl (by got_up)) ?_
          refine gCons (coSwap2 (by got_up) rfl rfl rfl rfl rfl rfl rfl rfl) ?_
          refine gCons (coSwap2 (by got_up) rfl rfl rfl rfl rfl rfl rfl rfl) ?_
          exact gNil ⟨_, _, _, runs ++ [run], rfl, rfl, rfl, rfl, rfl, by rw [List.map_append]; rfl, h7⟩
        · cases h7
      · cases h7
    · rename_i hc
      left
      split at h7
      · rename_i hl
        cases h7
        have hz := hz' (Nat.le_trans hl (by decide))
        refine ⟨evSubB _ (evPeekB (x := Str.ofString "runs") rfl (evBTo (d := (r == []) || (!((a, b, c) == (f1, f2, f3')) && decide ((((r.map D.int).length : Nat) : Int) < 99))) (by got_up) (by rw [hlen]; exact eq_false_of_ne_true hc))) sub, ?_⟩
        refine coSub ?_ (subL sub)
        exact coFreeze (x := Str.ofString "runs") rfl (coStop (coRet (by got_up)) rfl)
      · cases h7
end
section
set_option maxHeartbeats 2000000

noncomputable def needE (w : Int) : List Int := if w = 2 then [1] else if w = 6 then [1, 3] else if w = 10 then [1, 2, 5] else if w = 18 then [1, 2, 4, 9] else if w = 22 then [1, 2, 3, 5, 11] else []
noncomputable def cpL (base : Int) : List Int → List (Int × Int) → Option (List (Int × Int))
  | [], d => some d
  | t :: r, d => if sm base = true ∧ d.length ≤ 1000 then match d.lookup (t - 1) with
    | some v => if sm v = true then cpL base r ((t, v * base) :: d) else none
    | none => match d.lookup (t.fdiv (2 ^ (1 : Int).toNat)) with
      | some v => if sm v = true ∧ sm (v * v) = true then
          (if (!(t - t.fdiv (2 ^ (1 : Int).toNat) == t.fdiv (2 ^ (1 : Int).toNat))) = true then
            (if (t - t.fdiv (2 ^ (1 : Int).toNat) == t.fdiv (2 ^ (1 : Int).toNat) + 1) = true then cpL base r ((t, v * v * base) :: d) else none)
           else cpL base r ((t, v * v) :: d)) else none
      | none => none
    else none
noncomputable def cpF (w base : Int) : Option (List (Int × Int)) := match needE w with
  | [] => none
  | f :: r => if 0 ≤ f ∧ f ≤ 1000000 ∧ sm base = true then cpL base r [(f, base ^ f.toNat)] else none

noncomputable def tl (p0 p1 : Int) (l0 l1 : List Int) : List T3 → List Int → Option (List Int)
  | [], told => some told
  | (a, _, _) :: r, told => if told.length ≤ 1000 then
      tl p0 p1 l0 l1 r (told ++ [if (a.fmod p0 != 0) = true then (if (l0.any fun y => y == a.fmod p0) = true then 1 else -1) else (if (l1.any fun y => y == a.fmod p1) = true then 1 else -1)]) else none
noncomputable def sgF (met : List T3) (p0 p1 : Int) (l0 l1 : List Int) : Option Int := if p0 ≠ 0 ∧ p1 ≠ 0 ∧ l0.length ≤ 100 ∧ l1.length ≤ 100 ∧ met.length ≤ 1000 then
    match tl p0 p1 l0 l1 met [], met with
    | some told, (a, _, _) :: _ =>
      match cpF ((if (a.fmod p0 != 0) = true then p0 else p1) - 1) (a.fmod (if (a.fmod p0 != 0) = true then p0 else p1)) with
      | some d => match d.lookup ((if (a.fmod p0 != 0) = true then p0 else p1).fdiv 2) with
        | some pw => match idF pw (if (a.fmod p0 != 0) = true then p0 else p1) with
          | some (_, rest) => if told.length ≤ 1000 then some (if (told == List.replicate met.length (if (rest == 1) = true then rest else rest - (if (a.fmod p0 != 0) = true then p0 else p1))) = true then (if (rest == 1) = true then rest else rest - (if (a.fmod p0 != 0) = true then p0 else p1)) else 0) else none
          | none => none
        | none => none
      | none => none
    | _, _ => none
  else none

theorem rep1i (x : Int) (n : Nat) : (List.replicate n [D.int x]).flatten = (List.replicate n x).map .int := by
  induction n with
  | zero => rfl
  | succ n ih => rw [List.replicate_succ, List.replicate_succ, List.flatten_cons, ih]; rfl
theorem ifI (c : Bool) (x y : Int) : (if c = true then D.int x else D.int y) = D.int (if c = true then x else y) := by cases c <;> rfl

theorem t_sign {prog : Program} {w : World} {k : Nat} {met : List T3} {p0 p1 : Int} {l0 l1 : List Int} {r : Int} (hcp : ∀ (k : Nat) (v b : Int) (d : List (Int × Int)), cpF v b = some d → VSpec prog w (KP w) (k + 1) (.ref 29) [.int v, .int b, .int 1] (.dct d)) (hp : sgF met p0 p1 l0 l1 = some r) :
    VSpec prog w (KP w) (k + 16) (.ref 205) [.lst (met.map f3), .tup [.int p0, .int p1], .lst [.lst (l0.map .int), .lst (l1.map .int)]] (.int r) := by
  refine' vspecC (k := k + 15) (xs := [Str.ofString "met", Str.ofString "primes", Str.ofString "places"]) (ho := ?ho) (hcd := ?hcd) (hb := ?hb) (hs := ?hs) (hx := ?hx) (hn := ?hn) (hl := rfl) (o := .ret _) (hr := rfl) (h := ?h)
  case ho => rfl
  case hcd => rfl
  case hb => intro vs h; match vs, h with | [a, b, c], _ => rfl
  case hs => rfl
  case hx => rfl
  case hn => decide
  unfold sgF at hp
  split at hp
  · rename_i hc
    obtain ⟨c1, c2, c3, c4, c5⟩ := hc
    split at hp
    · rename_i told a x1 x2 mr htl
      generalize hpp : (if (a.fmod p0 != 0) = true then p0 else p1) = p at hp
      have hp0 : p ≠ 0 := by rw [← hpp]; split <;> assumption
      refine coCons (coNew rfl) ?_
      refine' cFor (itList (ds := ((a, x1, x2) :: mr).map f3) (by got_up)) rfl (fun _ _ => rfl) (fun es L => ∃ ms td, es = ms.map f3 ∧ L.lookup (Str.ofString "met") = some (.val (.lst (((a, x1, x2) :: mr).map f3))) ∧ L.lookup (Str.ofString "primes") = some (.val (.tup [.int p0, .int p1])) ∧
        L.lookup (Str.ofString "places") = some (.val (.lst [.lst (l0.map .int), .lst (l1.map .int)])) ∧ L.lookup (Str.ofString "told") = some (.lst (td.map .int)) ∧ tl p0 p1 l0 l1 ms td = some told) ⟨_, [], rfl, rfl, rfl, rfl, rfl, htl⟩ ?step ?fin
      case step =>
        rintro dd es L ⟨ms, td, he, h1, h2, h3, h4, h5⟩
        cases ms with
        | nil => cases he
        | cons m ms =>
          obtain ⟨a, y1, y2⟩ := m
          cases he
          refine eGo (gSub _ ?_ (subC (lkS (v := .val (.tup [.int a, .int y1, .int y2])) (x := Str.ofString "form")) (subC (lkN (by rfl) h1) (subC (lkN (by rfl) h2) (subC (lkN (by rfl) h3) (subC (lkN (by rfl) h4) subN))))))
          unfold tl at h5
          split at h5
          · rename_i hl
            by_cases hk : (a.fmod p0 != 0) = true
            · rw [if_pos hk] at h5
              refine gCons (coAssign (d := .int 0) (evIfT (c := a.fmod p0 != 0) (by got_up) hk (by got_up)) rfl fun _ _ => rfl) ?_
              refine gCons (coAppend (d := .int (if (l0.any fun y => y == a.fmod p0) = true then 1 else -1)) rfl rfl (by unfold szOk; simp; omega) rfl rfl (fun _ => rfl) rfl (evTo (d := if (l0.any fun y => y == a.fmod p0) = true then .int 1 else .int (-1)) (evIf (c := l0.any fun y => y == a.fmod p0) (by got_up) ?hv) (ifI _ _ _))) ?_
              case hv => split <;> got_up
              exact gNil ⟨ms, td ++ [_], rfl, rfl, rfl, rfl, by rw [List.map_append]; rfl, h5⟩
            · rw [if_neg hk] at h5
              refine gCons (coAssign (d := .int 1) (evIfF (c := a.fmod p0 != 0) (by got_up) (eq_false_of_ne_true hk) (by got_up)) rfl fun _ _ => rfl) ?_
              refine gCons (coAppend (d := .int (if (l1.any fun y => y == a.fmod p1) = true then 1 else -1)) rfl rfl (by unfold szOk; simp; omega) rfl rfl (fun _ => rfl) rfl (evTo (d := if (l1.any fun y => y == a.fmod p1) = true then .int 1 else .int (-1)) (evIf (c := l1.any fun y => y == a.fmod p1) (by got_up) ?hw) (ifI _ _ _))) ?_
              case hw => split <;> got_up
              exact gNil ⟨ms, td ++ [_], rfl, rfl, rfl, rfl, by rw [List.map_append]; rfl, h5⟩
          · cases h5
      case fin =>
        rintro L ⟨ms, td, he, h1, h2, h3, h4, h5⟩
        cases ms with
        | cons m ms => cases he
        | nil =>
          unfold tl at h5
          cases h5
          split at hp
          · rename_i dl hd
            split at hp
            · rename_i pw hlk
              split at hp
              · rename_i q rest hid
                split at hp
                · rename_i htl2
                  cases hp
                  refine coSub ?_ (subL (subC h1 (subC h2 (subC h3 (subC h4 subN)))))
                  refine coCons (coAssign (d := .int p) (evTo (d := if (a.fmod p0 != 0) = true then .int p0 else .int p1) (evIf (c := a.fmod p0 != 0) (by got_up) ?hv1) ((ifI _ _ _).trans (by rw [hpp]))) rfl fun _ _ => rfl) ?_
                  case hv1 => split <;> got_up
                  refine coCons (coAssign (d := .int pw) (evItemD (l := dl) (evCall (ds := [.int (p - 1), .int (a.fmod p), .int 1]) rfl (by kp_flats) (by fold_lay) (by kbo_bools) (List.cons_ne_nil _ _) (hcp (k + 14) _ _ _ hd)) (by got_up) hlk rfl) rfl fun _ _ => rfl) ?_
                  refine coCons (coAssign (d := .int rest) (evItem (c := pr (q, rest)) (evCall rfl (by kp_flats) (by fold_lay) (by kbo_bools) (List.cons_ne_nil _ _) (t_id hid)) (by got_up) rfl rfl) rfl fun _ _ => rfl) ?_
                  refine coCons (coAssign (d := .int (if (rest == 1) = true then rest else rest - p)) (evTo (d := if (rest == 1) = true then .int rest else .int (rest - p)) (evIf (c := rest == 1) (by got_up) ?hv2) (ifI _ _ _)) rfl fun _ _ => rfl) ?_
                  case hv2 => split <;> got_up
                  generalize (if (rest == 1) = true then rest else rest - p) = sg
                  have hz : szOk (((a, x1, x2) :: mr).map f3) = true := by unfold szOk; simp at c5 ⊢; omega
                  refine coFreeze (x := Str.ofString "told") rfl ?_
                  refine coStop (coRet (evTo (d := if (told == List.replicate ((a, x1, x2) :: mr).length sg) = true then .int sg else .int 0) (evIf (c := told == List.replicate ((a, x1, x2) :: mr).length sg) (evCmpB (b := .lst ((List.replicate ((a, x1, x2) :: mr).length sg).map .int)) (by got_up) (evTo (evOfN (evNMul (a := [.int sg]) (x := ((((a, x1, x2) :: mr).map f3).length : Nat)) (by got_up) (by got_up) (Nat.le_refl _) (by omega) ?hlen)) ?heq) cEqInts rfl) ?hv3) (ifI _ _ _))) rfl
                  case hlen => simp at c5 ⊢; omega
                  case heq => rw [rep1i]; simp
                  case hv3 => split <;> got_up
                · cases hp
              · cases hp
            · cases hp
          · cases hp
    · cases hp
  · cases hp
end
section
set_option maxHeartbeats 2000000

noncomputable def cw (text : Bool) (El : List Int) : Nat → S3 → S3 → S3 → Bool
  | 0, _, _, _ => false
  | f + 1, ws, seen, need => decide (ws.1.length < 500) && decide (seen.1.length < 500) && decide (need.1.length < 60) &&
    (if ws.1.isEmpty then need.1.isPerm El && (text || walkT need.2.1 need.1.length)
     else if text then ws.1.all fun x => if (seen.1.contains x || decide (x ≤ 1)) = true then cw text El f (ws.1.erase x, ws.2.1, ws.2.2) seen need
        else cw text El f (if (Builtin.bitAnd x 1 != 0) = true then addS (addS (ws.1.erase x, ws.2.1, ws.2.2) (x.fdiv (2 ^ (1 : Int).toNat))) (x.fdiv (2 ^ (1 : Int).toNat) + 1) else addS (ws.1.erase x, ws.2.1, ws.2.2) (x.fdiv (2 ^ (1 : Int).toNat))) (addS seen x) (addS need (x.fdiv (2 ^ (1 : Int).toNat)))
     else match popT ws.2.1 ws.2.2 with
      | some (x, T', K') => if (seen.1.contains x || decide (x ≤ 1)) = true then cw text El f (ws.1.erase x, T', K') seen need
        else cw text El f (if (Builtin.bitAnd x 1 != 0) = true then addS (addS (ws.1.erase x, T', K') (x.fdiv (2 ^ (1 : Int).toNat))) (x.fdiv (2 ^ (1 : Int).toNat) + 1) else addS (ws.1.erase x, T', K') (x.fdiv (2 ^ (1 : Int).toNat))) (addS seen x) (addS need (x.fdiv (2 ^ (1 : Int).toNat)))
      | none => false)
noncomputable def s30 : S3 := ([], .fresh 0 0 true, [])
theorem cw_2 : ∀ text, cw text [1] 40 (addS s30 2) s30 s30 = true := by intro t; cases t <;> decide +kernel
theorem cw_6 : ∀ text, cw text [1, 3] 40 (addS s30 6) s30 s30 = true := by intro t; cases t <;> decide +kernel
theorem cw_10 : ∀ text, cw text [1, 2, 5] 40 (addS s30 10) s30 s30 = true := by intro t; cases t <;> decide +kernel
theorem cw_18 : ∀ text, cw text [1, 2, 4, 9] 40 (addS s30 18) s30 s30 = true := by intro t; cases t <;> decide +kernel
theorem cw_22 : ∀ text, cw text [1, 2, 3, 5, 11] 40 (addS s30 22) s30 s30 = true := by intro t; cases t <;> decide +kernel
theorem cw_all {v : Int} (h : needE v ≠ []) : (∀ text, cw text (needE v) 40 (addS s30 v) s30 s30 = true) ∧ (needE v).Pairwise (· ≤ ·) ∧ (needE v).length ≤ 10 := by
  by_cases h1 : v = 2
  · subst h1; exact ⟨cw_2, by decide, by decide⟩
  · by_cases h2 : v = 6
    · subst h2; exact ⟨cw_6, by decide, by decide⟩
    · by_cases h3 : v = 10
      · subst h3; exact ⟨cw_10, by decide, by decide⟩
      · by_cases h4 : v = 18
        · subst h4; exact ⟨cw_18, by decide, by decide⟩
        · by_cases h5 : v = 22
          · subst h5; exact ⟨cw_22, by decide, by decide⟩
          · exact absurd (by unfold needE; simp [h1, h2, h3, h4, h5]) h

theorem evPow {prog : Program} {w : World} {K : Frag} {k : Nat} {sc : Scope} {ρ : Loc} {l r : Expr} {pos : Pos} {a b : Int} (hl : EvS prog w K k sc ρ l (.int a)) (hr : EvS prog w K k sc ρ r (.int b)) (h0 : 0 ≤ b) (h1 : b ≤ 1000000) (h2 : sm a = true) : EvS prog w K k sc ρ (.BinOp l .Pow r pos) (.int (a ^ b.toNat)) := evBin hl hr (if_pos ⟨h0, h1, h2⟩)

theorem cForItr {prog : Program} {w : World} {K : Frag} {k : Nat} {sc : Scope} {ρ : Loc} {x y : Str} {py px pos : Pos} {body rest : List Stmt} {l : List D} {i : Nat} {o : Out} (ρ₂ : Loc) (hx : isAny sc x = true) (hy : isVar sc y = true) (hl : ρ.lookup x = some (.itr l i)) (hi : i ≤ l.length) (hsub : ∀ z r, ρ₂.lookup z = some r → ρ.lookup z = some r) (hno : ρ₂.lookup x = none)
    (Inv : List D → Loc → Prop) (h0 : Inv (l.drop i) ρ₂) (step : ∀ d ds L, Inv (d :: ds) L → CosE prog w K k sc (setL L y (.val d)) body (Inv ds)) (fin : ∀ L, Inv [] L → Cos prog w K k sc L rest o) : Cos prog w K k sc ρ (.For (.Name y py) (.Name x px) body [] pos :: rest) o := by
  have key : ∀ ds L, Inv ds L → ∃ L', ForR prog w K k sc y body ds L (.go L') ∧ Inv [] L' := by
    intro ds
    induction ds with
    | nil => intro L h; exact ⟨L, .stop, h⟩
    | cons d ds ih =>
      intro L h
      obtain ⟨L₁, hb, h₁⟩ := step d ds L h
      obtain ⟨L', hr, h'⟩ := ih L₁ h₁
      rcases hb with hb | hb
      · exact ⟨L', .step hb hr, h'⟩
      · exact ⟨L', .cont hb hr, h'⟩
  obtain ⟨L', hr, h'⟩ := key _ ρ₂ h0
  exact coCons (coForItr ρ₂ hx hy hl hi hsub hno hr) (fin L' h')

theorem t_cp {prog : Program} {w : World} {k : Nat} {v base : Int} {r : List (Int × Int)} (hp : cpF v base = some r) : VSpec prog w (KP w) (k + 1) (.ref 29) [.int v, .int base, .int 1] (.dct r) := by
  refine' vspecD (c := 28) (ds' := [.int v, .int base, .int 1, .bool false]) (xs := [Str.ofString "w", Str.ofString "base", Str.ofString "more_than", Str.ofString "show"]) (ho := ?ho) (hcd := ?hcd) (hb := ?hb) (hs := ?hs) (hcell := ?hcell) (hx := ?hx) (hn := ?hn) (o := .ret _) (hr := rfl) (h := ?h)
  case ho => rfl
  case hcd => rfl
  case hb => 
    intro s Z vs X hv
    unfold HasL at hv
    obtain ⟨v1, r1, rfl, h1, hv⟩ := hv
    unfold HasL at hv
    obtain ⟨v2, r2, rfl, h2, hv⟩ := hv
    unfold HasL at hv
    obtain ⟨v3, r3, rfl, h3, hv⟩ := hv
    unfold HasL at hv
    subst hv
    refine ⟨[v1, v2, v3, .bool false], rfl, hasL_cons h1 (hasL_cons h2 (hasL_cons h3 (hasL_cons (mkB _) hasL_nil))), ?_⟩
    exact binds_K X rfl rfl rfl rfl rfl
  case hs => rfl
  case hcell => rfl
  case hx => rfl
  case hn => decide
  case h =>
    unfold cpF at hp
    split at hp
    · cases hp
    · rename_i f0 rest hE
      split at hp
      · rename_i hf0
        obtain ⟨hchk, hsort, hlen⟩ := cw_all (v := v) (by rw [hE]; simp)
        have hchk := hchk (w.params.followText "set-order")
        refine coCons (coNewSet rfl (by kp_flats) rfl fun _ _ => rfl) ?_
        refine coCons (coNewSet rfl (by kp_flats) rfl fun _ _ => rfl) ?_
        refine coCons (coSet1 (c := 28) rfl rfl rfl rfl (by got_up) fun _ _ => rfl) ?_
        refine' cWhilePop (n := 40) rfl rfl rfl (fun _ _ => rfl) (fun _ => rfl) (fun n L => ∃ (ws seen need : S3) (wc : Int), L.lookup (Str.ofString "ws") = some (set3 w ws) ∧ L.lookup (Str.ofString "seen") = some (set3 w seen) ∧ L.lookup (Str.ofString "need") = some (set3 w need) ∧
          L.lookup (Str.ofString "base") = some (.val (.int base)) ∧ L.lookup (Str.ofString "more_than") = some (.val (.int 1)) ∧ L.lookup (Str.ofString "show") = some (.val (.bool false)) ∧ cw (w.params.followText "set-order") (needE v) n ws seen need = true)
          ⟨addS s30 v, s30, s30, v, rfl, rfl, rfl, rfl, rfl, rfl, hchk⟩ ?step
        rintro n L ⟨ws, seen, need, wc, h1, h2, h3, h4, h5, h6, h7⟩
        cases n with
        | zero => cases h7
        | succ n =>
          unfold cw at h7
          rw [Bool.and_eq_true, Bool.and_eq_true, Bool.and_eq_true, decide_eq_true_eq, decide_eq_true_eq, decide_eq_true_eq] at h7
          obtain ⟨⟨⟨z1, z2⟩, z3⟩, h7⟩ := h7
          refine ⟨ws.1, ws.2.1, ws.2.2, h1, fun hnil => ?_, fun hne => ?_⟩
          · rw [if_pos (by rw [hnil]; rfl), Bool.and_eq_true] at h7
            have hperm : need.1.Perm (needE v) := List.isPerm_iff.mp h7.1
            have hT : w.params.followText "set-order" = true ∨ walkT need.2.1 need.1.length = true := by simpa using h7.2
            refine coSub (ρ' := [(Str.ofString "need", setV w need.1 need.2.1 need.2.2), (Str.ofString "base", .val (.int base)), (Str.ofString "show", .val (.bool false))]) ?_ (subL (subC h3 (subC h4 (subC h6 subN))))
            have hne : need.1.isEmpty = false := by
              have := hperm.length_eq
              rw [hE] at this
              cases q : need.1 with
              | nil => rw [q] at this; simp at this
              | cons _ _ => rfl
            refine coCons (coNewDict rfl) ?_
            refine coCons (coIfF (evNotB (evTruSet rfl rfl)) (by rw [hne]; rfl) coNil) ?_
            refine coCons (coIter rfl (by kp_flats) rfl rfl (evSortedSet (El := needE v) rfl (by kp_flats) rfl rfl hT (by omega) hperm hsort) fun _ _ => rfl) ?_
            rw [hE]
            refine coCons (coNext (i := 0) rfl (by kp_flats) rfl rfl rfl rfl fun _ _ => rfl) ?_
            refine coCons (coIfF (c := false) (by got_up) rfl coNil) ?_
            refine coCons (coSetDct rfl rfl (evPow (by got_up) (by got_up) hf0.1 hf0.2.1 hf0.2.2) (by got_up) (Nat.zero_le _) fun _ => rfl) ?_
            refine' cForItr [(Str.ofString "base", .val (.int base)), (Str.ofString "show", .val (.bool false)), (Str.ofString "d", dctV [(f0, base ^ f0.toNat)])] rfl rfl rfl (by simp) (subL (subC rfl (subC rfl (subC rfl subN)))) rfl
              (fun es L => ∃ ts dl, es = ts.map D.int ∧ L.lookup (Str.ofString "base") = some (.val (.int base)) ∧ L.lookup (Str.ofString "show") = some (.val (.bool false)) ∧ L.lookup (Str.ofString "d") = some (dctV dl) ∧ cpL base ts dl = some r) ⟨rest, _, rfl, rfl, rfl, rfl, hp⟩ ?fstep ?ffin
            case fstep =>
              rintro dd es L ⟨ts, dl, he, g1, g2, g3, g4⟩
              cases ts with
              | nil => cases he
              | cons t ts =>
                cases he
                refine eGo (gSub _ ?_ (subC (lkS (v := .val (.int t)) (x := Str.ofString "this")) (subC (lkN (by rfl) g1) (subC (lkN (by rfl) g2) (subC (lkN (by rfl) g3) subN)))))
                unfold cpL at g4
                split at g4
                · rename_i hq
                  obtain ⟨b1, b2⟩ := hq
                  split at g4
                  · rename_i v1 hv1
                    split at g4
                    · rename_i b3
                      refine gCons (coIfT (evInDct rfl rfl (by got_up)) (by rw [hv1]; rfl) (coCons (coIfF (c := false) (by got_up) rfl coNil) (coCons (coSetDct rfl rfl (evMul (evGetDct rfl rfl (by got_up) hv1 rfl) (by got_up) b3) (by got_up) b2 fun _ => rfl) coNil))) ?_
                      exact gNil ⟨ts, _, rfl, rfl, rfl, rfl, g4⟩
                    · cases g4
                  · rename_i hv0
                    split at g4
                    · rename_i v1 hv1
                      split at g4
                      · rename_i b3
                        obtain ⟨b3, b4⟩ := b3
                        split at g4
                        · rename_i b5
                          split at g4
                          · rename_i b6
                            refine gCons (coIfF (evInDct rfl rfl (by got_up)) (by rw [hv0]; rfl) (coCons (coAssign (by got_up) rfl fun _ _ => rfl) (coCons (coAssign (by got_up) rfl fun _ _ => rfl) (coCons (coAssert (evBTo (evInDct rfl rfl (by got_up)) (by rw [hv1]; rfl))) (coCons (coIfF (c := false) (by got_up) rfl coNil) (coCons (coAssign (evMul (evGetDct rfl rfl (by got_up) hv1 rfl) (evGetDct rfl rfl (by got_up) hv1 rfl) b3) rfl fun _ _ => rfl)
                              (coCons (coIfT (c := !(t - t.fdiv (2 ^ (1 : Int).toNat) == t.fdiv (2 ^ (1 : Int).toNat))) (by got_up) b5 (coCons (coAssert (evBTo (d := t - t.fdiv (2 ^ (1 : Int).toNat) == t.fdiv (2 ^ (1 : Int).toNat) + 1) (by got_up) b6)) (coCons (coIfF (c := false) (by got_up) rfl coNil) (coCons (coAug (b := .int base) rfl (by got_up) (if_pos b4) rfl) coNil)))) (coCons (coSetDct rfl rfl (by got_up) (by got_up) b2 fun _ => rfl) coNil)))))))) ?_
                            exact gNil ⟨ts, _, rfl, rfl, rfl, rfl, g4⟩
                          · cases g4
                        · rename_i b5
                          refine gCons (coIfF (evInDct rfl rfl (by got_up)) (by rw [hv0]; rfl) (coCons (coAssign (by got_up) rfl fun _ _ => rfl) (coCons (coAssign (by got_up) rfl fun _ _ => rfl) (coCons (coAssert (evBTo (evInDct rfl rfl (by got_up)) (by rw [hv1]; rfl))) (coCons (coIfF (c := false) (by got_up) rfl coNil) (coCons (coAssign (evMul (evGetDct rfl rfl (by got_up) hv1 rfl) (evGetDct rfl rfl (by got_up) hv1 rfl) b3) rfl fun _ _ => rfl)
                            (coCons (coIfF (c := !(t - t.fdiv (2 ^ (1 : Int).toNat) == t.fdiv (2 ^ (1 : Int).toNat))) (by got_up) (eq_false_of_ne_true b5) coNil) (coCons (coSetDct rfl rfl (by got_up) (by got_up) b2 fun _ => rfl) coNil)))))))) ?_
                          exact gNil ⟨ts, _, rfl, rfl, rfl, rfl, g4⟩
                      · cases g4
                    · cases g4
                · cases g4
            case ffin =>
              rintro L ⟨ts, dl, he, g1, g2, g3, g4⟩
              cases ts with
              | cons t ts => cases he
              | nil =>
                unfold cpL at g4
                cases g4
                exact coStop (coRetDct rfl g3) rfl
          · have hne' : ws.1.isEmpty = false := by cases q : ws.1 with | nil => exact absurd q hne | cons _ _ => rfl
            rw [if_neg (by rw [hne']; exact Bool.false_ne_true)] at h7
            have hT : w.params.followText "set-order" = true ∨ (popT ws.2.1 ws.2.2).isSome = true := by
              cases htx : w.params.followText "set-order" with
              | true => exact .inl rfl
              | false =>
                rw [htx, if_neg Bool.false_ne_true] at h7
                refine .inr ?_
                split at h7
                · rename_i q; rw [q]; rfl
                · cases h7
            refine ⟨hT, n, rfl, fun x T' K' hx hpop => ?_⟩
            have h8 : (if (seen.1.contains x || decide (x ≤ 1)) = true then cw (w.params.followText "set-order") (needE v) n (ws.1.erase x, T', K') seen need
                else cw (w.params.followText "set-order") (needE v) n (if (Builtin.bitAnd x 1 != 0) = true then addS (addS (ws.1.erase x, T', K') (x.fdiv (2 ^ (1 : Int).toNat))) (x.fdiv (2 ^ (1 : Int).toNat) + 1) else addS (ws.1.erase x, T', K') (x.fdiv (2 ^ (1 : Int).toNat))) (addS seen x) (addS need (x.fdiv (2 ^ (1 : Int).toNat)))) = true := by
              rcases hpop with ⟨q1, q2, q3⟩ | ⟨q1, q⟩
              · rw [if_pos q1] at h7
                subst q2; subst q3
                exact List.all_eq_true.mp h7 x hx
              · rw [q1, if_neg Bool.false_ne_true, q] at h7
                rw [q1]
                exact h7
            clear h7
            have sub : ∀ p ∈ ([(Str.ofString "w", .val (.int x)), (Str.ofString "ws", setV w (ws.1.erase x) T' K'), (Str.ofString "seen", setV w seen.1 seen.2.1 seen.2.2), (Str.ofString "need", setV w need.1 need.2.1 need.2.2), (Str.ofString "base", .val (.int base)), (Str.ofString "more_than", .val (.int 1)), (Str.ofString "show", .val (.bool false))] : Loc),
                (setL (setL L (Str.ofString "ws") (setV w (ws.1.erase x) T' K')) (Str.ofString "w") (.val (.int x))).lookup p.1 = some p.2 :=
              subC lkS (subC (lkN (by rfl) lkS) (subC (lkN (by rfl) (lkN (by rfl) h2)) (subC (lkN (by rfl) (lkN (by rfl) h3)) (subC (lkN (by rfl) (lkN (by rfl) h4)) (subC (lkN (by rfl) (lkN (by rfl) h5)) (subC (lkN (by rfl) (lkN (by rfl) h6)) subN))))))
            have hel : (ws.1.erase x).length < 500 := Nat.lt_of_le_of_lt (List.length_erase_le ..) z1
            have hin : ∀ (y : Int) (l : List Int), (insI y l).length ≤ l.length + 1 := fun y l => by unfold insI; split <;> simp
            refine eSub _ ?_ sub
            split at h8
            · rename_i hc
              exact ⟨_, .inr (coStop (coIfT (evOr2 (evInSet rfl rfl (by got_up)) (by got_up)) hc (coStop coCont rfl)) rfl), (ws.1.erase x, T', K'), seen, need, x, rfl, rfl, rfl, rfl, rfl, rfl, h8⟩
            · rename_i hc
              refine eGo ?_
              refine gCons (coIfF (evOr2 (evInSet rfl rfl (by got_up)) (by got_up)) (eq_false_of_ne_true hc) coNil) ?_
              refine gCons (coSetAdd rfl rfl (Nat.lt_trans z2 (by decide)) rfl rfl (fun _ => rfl) (fun _ => rfl) (by got_up)) ?_
              refine gCons (coAssign (by got_up) rfl fun _ _ => rfl) ?_
              refine gCons (coSetAdd rfl rfl (Nat.lt_trans z3 (by decide)) rfl rfl (fun _ => rfl) (fun _ => rfl) (by got_up)) ?_
              refine gCons (coSetAdd rfl rfl (Nat.lt_trans hel (by decide)) rfl rfl (fun _ => rfl) (fun _ => rfl) (by got_up)) ?_
              by_cases hb : (Builtin.bitAnd x 1 != 0) = true
              · rw [if_pos hb] at h8
                refine gCons (coIfT (c := Builtin.bitAnd x 1 != 0) (by got_up) hb (coCons (coSetAdd rfl rfl (Nat.lt_of_le_of_lt (hin _ _) (by omega)) rfl rfl (fun _ => rfl) (fun _ => rfl) (by got_up)) coNil)) ?_
                exact gNil ⟨_, _, _, x, rfl, rfl, rfl, rfl, rfl, rfl, h8⟩
              · rw [if_neg hb] at h8
                refine gCons (coIfF (c := Builtin.bitAnd x 1 != 0) (by got_up) (eq_false_of_ne_true hb) coNil) ?_
                exact gNil ⟨_, _, _, x, rfl, rfl, rfl, rfl, rfl, rfl, h8⟩
      · cases hp
end
section
set_option maxHeartbeats 2000000

structure WsR where
  count : List Int
  b : Int
  n : Int
  nt : Int
  deriving DecidableEq
noncomputable def wl : List Nat → List Int → Int → Int → Int → Option WsR
  | [], count, b, n, nt => some ⟨count, b, n, nt⟩
  | x :: r, count, b, n, nt => if (x == 32) = true then wl r count (b + 1) (n + 1) nt
    else if (x == 9) = true then
      if 0 ≤ b ∧ b ≤ 1000 ∧ count.length ≤ 1000 then
        if decide ((count.length : Int) ≤ b) = true then
          match (count ++ List.replicate (b - count.length + 1).toNat 0)[b.toNat]? with
          | some c => if (count ++ List.replicate (b - count.length + 1).toNat 0).length ≤ 3000 then wl r ((count ++ List.replicate (b - count.length + 1).toNat 0).set b.toNat (c + 1)) 0 (n + 1) (nt + 1) else none
          | none => none
        else match count[b.toNat]? with
          | some c => wl r (count.set b.toNat (c + 1)) 0 (n + 1) (nt + 1)
          | none => none
      else none
    else none
noncomputable def wsD (t : List Nat) (r : WsR) : D := .obj 161 [(Str.ofString "raw", .str (sT t)), (Str.ofString "n", .int r.n), (Str.ofString "nt", .int r.nt), (Str.ofString "norm", .tup [.tup (r.count.map .int), .int r.b]), (Str.ofString "is_simple", .bool (decide ((r.count.length : Int) ≤ 1)))]
noncomputable def wsF (t : List Nat) : Option WsR := if t.all (· < 128) = true then (match wl t [] 0 0 0 with
  | some r => if r.count.length ≤ 1000 then some r else none
  | none => none) else none

section
variable {prog : Program} {w : World} {K : Frag} {k : Nat} {sc : Scope} {ρ ρ₁ ρ₂ : Loc} {C x dx : Addr} {F F₁ F₂ : List (Str × D)}
theorem iForI {self nm y : Str} {p0 p1 py pos : Pos} {body rest : List Stmt} {t : Str} {attr : Option Value} (hself : ρ.lookup self = some (.val (.adr x))) (hk : sc.names.lookup self = some .local ∨ sc.names.lookup self = some .cell ∨ sc.names.lookup self = some .free) (hnm : F.lookup nm = some (.str t)) (hasc : t.cps.all (· < 128) = true)
    (hg : plainGet K C nm = true) (hh : hasDictIn K C = true) (ha : findIn K (.ref C) nm = some attr) (hn : noGet K attr = true) (hy : isVar sc y = true)
    (Inv : List D → Loc → Prop) (h0 : Inv (signsD t) ρ) (step : ∀ d ds L, Inv (d :: ds) L → CosE prog w K k sc (setL L y (.val d)) body (Inv ds))
    (fin : ∀ L, Inv [] L → CoI prog w K k C x dx sc L F (fun env => execs rest env) ρ₂ F₂) : CoI prog w K k C x dx sc ρ F (fun env => execs (.For (.Name y py) (.Attribute (.Name self p0) nm p1) body [] pos :: rest) env) ρ₂ F₂ := by
  have key : ∀ ds L, Inv ds L → ∃ L', ForR prog w K k sc y body ds L (.go L') ∧ Inv [] L' := by
    intro ds
    induction ds with
    | nil => intro L h; exact ⟨L, .stop, h⟩
    | cons d ds ih =>
      intro L h
      obtain ⟨L₁, hb, h₁⟩ := step d ds L h
      obtain ⟨L', hr, h'⟩ := ih L₁ h₁
      rcases hb with hb | hb
      · exact ⟨L', .step hb hr, h'⟩
      · exact ⟨L', .cont hb hr, h'⟩
  obtain ⟨L', hr, h'⟩ := key _ ρ h0
  exact iCons (iFor hself hk hnm hasc hg hh ha hn hy hr) (fin L' h')
theorem iFreeze {t : Env → Sem Flow} {y : Str} {l : List D} (hl : ρ.lookup y = some (.lst l)) (h : CoI prog w K k C x dx sc (setL ρ y (.val (.lst l))) F t ρ₁ F₁) : CoI prog w K k C x dx sc ρ F t ρ₁ F₁ :=
  fun env O A hB m Z own hid es n s Q E R W S ro hF hlen P => by
  have q := coFreeze (prog := prog) (w := w) (K := K) (k := k) (sc := sc) (t := fun _ => pure Flow.next) (o := .go (setL ρ y (.val (.lst l)))) hl (fun env O A hB m Z own hid s Q E R W S ro P => wpAny_pure (P m Z own s.heap (s.toks, s.drawn) (ZLe.refl _ _) S ro)) env O A hB m Z own (instHid C x dx es n hid) s (fun _ s' => wpAny (model prog w) A (t env) Q E s') E R W S ro fun m' Z' own' h' tk' z S' ro' =>
    h env O A hB m' Z' own' hid es n { s with heap := h', toks := tk'.1, drawn := tk'.2 } Q E R W S' ro' (hF.mono z.1) hlen fun m₂ Z₂ own₂ es₂ n₂ h₂ tk₂ z₂ S₂ ro₂ hF₂ hl₂ => P m₂ Z₂ own₂ es₂ n₂ h₂ tk₂ (z.tr z₂) S₂ ro₂ hF₂ hl₂
  exact wpAny_bind (m := (pure Flow.next : Sem Flow)) (f := fun _ => t env) q
theorem iEnd : CoI prog w K k C x dx sc ρ F (fun env => execs [] env) [] F := iSub iNil fun y r e => by cases e
end

theorem sgnEqT (x : Nat) : ((⟨#[x]⟩ : Str) == sT [9]) = (x == 9) := by
  by_cases h : x = 9
  · subst h; rfl
  · have h1 : ((⟨#[x]⟩ : Str) == sT [9]) = false := beqF fun q => h (by unfold sT at q; simpa using q)
    rw [h1]; simp [h]

theorem t_ws {prog : Program} {w : World} {k : Nat} {t : List Nat} {r : WsR} (hp : wsF t = some r) : VSpec prog w (KP w) (k + 2) (.ref 161) [.str (sT t)] (wsD t r) := by
  refine' vspecI (C := 161) (fI := 116) (xs := [Str.ofString "self", Str.ofString "ws"]) (ρ' := []) (hm := c161m) (hi := c161i) (hf := c161f) (ho := ?ho) (hcd := ?hcd) (hb := ?hb) (hs := ?hs) (hcell := ?hcell) (hx := ?hx) (hn := ?hn) (hl := rfl) (h := ?h)
  case ho => rfl
  case hcd => rfl
  case hb => intro vs h; match vs, h with | [a, b], _ => rfl
  case hs => rfl
  case hcell => rfl
  case hx => rfl
  case hn => decide
  intro x dx
  unfold wsF at hp
  split at hp
  · rename_i hasc
    split at hp
    · rename_i r' hwl
      split at hp
      · rename_i hlen
        cases hp
        obtain ⟨tS, hS⟩ := @c161S w
        obtain ⟨tT, hT⟩ := @c161T w
        refine iCons (iSet (d := .str (sT t)) rfl (.inl rfl) rfl (by got_up) c161s c161p (c161t (by simp)) c161h (by decide) fun _ => rfl) ?_
        refine iCons (iLift (coSwap2 (d1 := .str (sT [32])) (d2 := .str (sT [9])) (evTup (.cons rfl (evClsAttr rfl gWs c161y c161r hS rfl fun _ => mkS _ _) (.cons rfl (evClsAttr rfl gWs c161y c161r hT rfl fun _ => mkS _ _) .nil)) rfl) rfl rfl rfl rfl rfl rfl rfl rfl)) ?_
        refine iCons (iLift (coNew rfl)) ?_
        refine iCons (iLift (coAssign3 (by got_up) rfl rfl rfl fun _ _ => rfl)) ?_
        refine' iForI (t := sT t) rfl (.inl rfl) rfl ?hasc (c161g (by simp)).1 c161h (c161g (by simp)).2 noGetN rfl
          (fun es L => ∃ t' count b n nt, es = t'.map (fun c => D.str ⟨#[c]⟩) ∧ L.lookup (Str.ofString "self") = some (.val (.adr x)) ∧ L.lookup (Str.ofString "S") = some (.val (.str (sT [32]))) ∧ L.lookup (Str.ofString "T") = some (.val (.str (sT [9]))) ∧
            L.lookup (Str.ofString "count") = some (.lst (count.map .int)) ∧ L.lookup (Str.ofString "b") = some (.val (.int b)) ∧ L.lookup (Str.ofString "n") = some (.val (.int n)) ∧ L.lookup (Str.ofString "nt") = some (.val (.int nt)) ∧ wl t' count b n nt = some r)
          ⟨t, [], 0, 0, 0, ?hsg, rfl, rfl, rfl, rfl, rfl, rfl, rfl, hwl⟩ ?step ?fin
        case hasc => unfold sT; simpa using hasc
        case hsg => unfold signsD sT; rfl
        case step =>
          rintro dd es L ⟨t', count, b, n, nt, he, h1, h2, h3, h4, h5, h6, h7, h8⟩
          cases t' with
          | nil => cases he
          | cons y t' =>
            cases he
            refine eGo (gSub _ ?_ (subC (lkS (v := .val (.str ⟨#[y]⟩)) (x := Str.ofString "ch")) (subC (lkN (by rfl) h1) (subC (lkN (by rfl) h2) (subC (lkN (by rfl) h3) (subC (lkN (by rfl) h4) (subC (lkN (by rfl) h5) (subC (lkN (by rfl) h6) (subC (lkN (by rfl) h7) subN)))))))))
            unfold wl at h8
            split at h8
            · rename_i hy
              refine gCons (coIfT (evBTo (d := ((⟨#[y]⟩ : Str) == sT [32])) (by got_up) (sgnEq y)) hy (coCons (coAssign (by got_up) rfl fun _ _ => rfl) (coCons (coAssign (by got_up) rfl fun _ _ => rfl) coNil))) ?_
              exact gNil ⟨t', _, _, _, _, rfl, rfl, rfl, rfl, rfl, rfl, rfl, rfl, h8⟩
            · rename_i hy
              split at h8
              · rename_i hy9
                split at h8
                · rename_i hq
                  obtain ⟨q1, q2, q3⟩ := hq
                  have hz : szOk (count.map D.int) = true := by unfold szOk; simp; omega
                  have hlen' : (((count.map D.int).length : Nat) : Int) = (count.length : Int) := by simp
                  split at h8
                  · rename_i hge
                    split at h8
                    · rename_i c hc
                      split at h8
                      · rename_i hz3
                        have hge' : (count.length : Int) ≤ b := of_decide_eq_true hge
                        have hbl : b < ((count ++ List.replicate (b - count.length + 1).toNat (0 : Int)).length : Nat) := by
                          have := (List.getElem?_eq_some_iff.mp hc).1
                          omega
                        have hz4 : szOk ((count ++ List.replicate (b - count.length + 1).toNat (0 : Int)).map D.int) = true := by unfold szOk; rw [List.length_map]; exact decide_eq_true (by omega)
                        refine gCons (coIfF (evBTo (d := ((⟨#[y]⟩ : Str) == sT [32])) (by got_up) (sgnEq y)) (eq_false_of_ne_true hy) (coCons (coIfT (evBTo (d := ((⟨#[y]⟩ : Str) == sT [9])) (by got_up) (sgnEqT y)) hy9
                          (coCons (coAssign (by got_up) rfl fun _ _ => rfl) (coCons (coAssign (by got_up) rfl fun _ _ => rfl)
                          (coCons (coIfT (evPeekB (x := Str.ofString "count") rfl (evBTo (d := decide ((((count.map D.int).length : Nat) : Int) ≤ b)) (by got_up) (by rw [hlen']; exact hge))) rfl
                            (coFreeze (x := Str.ofString "count") rfl (coCons (coNewN (l := (count ++ List.replicate (b - count.length + 1).toNat (0 : Int)).map D.int) (evNTo (evNAdd (by got_up) (evOfN (evNMul (a := [.int 0]) (x := b - count.length + 1) (by got_up) (evTo (d := .int (b - (((count.map D.int).length : Nat) : Int) + 1)) (by got_up) (by rw [hlen'])) (Nat.le_refl _) (by omega) (by omega))) ?hz5) ?heq5) rfl fun _ _ => rfl) coNil)))
                          (coCons (coSetItem (r := .lst _) (n := b) (d := .int (c + 1)) rfl rfl rfl (evPeek (x := Str.ofString "count") rfl (evBin (a := .int c) (evItemI (by got_up) (by got_up) q1 (by omega) hc rfl) (by got_up) rfl) rfl) (by got_up) q1 (by rw [List.length_map]; exact hbl) hz4 fun _ => rfl)
                          (coCons (coAssign (by got_up) rfl fun _ _ => rfl) coNil)))))) coNil)) ?_
                        case hz5 => rw [rep1i, ← List.map_append]; exact hz4
                        case heq5 => rw [rep1i, ← List.map_append]
                        exact gNil ⟨t', _, _, _, _, rfl, rfl, rfl, rfl, by rw [List.map_set]; rfl, rfl, rfl, rfl, h8⟩
                      · cases h8
                    · cases h8
                  · rename_i hge
                    split at h8
                    · rename_i c hc
                      have hbl : b < (count.length : Nat) := by
                        have := (List.getElem?_eq_some_iff.mp hc).1
                        omega
                      refine gCons (coIfF (evBTo (d := ((⟨#[y]⟩ : Str) == sT [32])) (by got_up) (sgnEq y)) (eq_false_of_ne_true hy) (coCons (coIfT (evBTo (d := ((⟨#[y]⟩ : Str) == sT [9])) (by got_up) (sgnEqT y)) hy9
                          (coCons (coAssign (by got_up) rfl fun _ _ => rfl) (coCons (coAssign (by got_up) rfl fun _ _ => rfl)
                          (coCons (coIfF (evPeekB (x := Str.ofString "count") rfl (evBTo (d := decide ((((count.map D.int).length : Nat) : Int) ≤ b)) (by got_up) (by rw [hlen']; exact eq_false_of_ne_true hge))) rfl coNil)
                          (coCons (coSetItem (r := .lst _) (n := b) (d := .int (c + 1)) rfl rfl rfl (evPeek (x := Str.ofString "count") rfl (evBin (a := .int c) (evItemI (by got_up) (by got_up) q1 (by omega) hc rfl) (by got_up) rfl) rfl) (by got_up) q1 (by rw [List.length_map]; exact hbl) hz fun _ => rfl)
                          (coCons (coAssign (by got_up) rfl fun _ _ => rfl) coNil)))))) coNil)) ?_
                      exact gNil ⟨t', _, _, _, _, rfl, rfl, rfl, rfl, by rw [List.map_set]; rfl, rfl, rfl, rfl, h8⟩
                    · cases h8
                · cases h8
              · cases h8
        case fin =>
          rintro L ⟨t', count, b, n, nt, he, h1, h2, h3, h4, h5, h6, h7, h8⟩
          cases t' with
          | cons y t' => cases he
          | nil =>
            unfold wl at h8
            cases h8
            have hz : szOk (count.map D.int) = true := by unfold szOk; simp at hlen ⊢; omega
            refine iSub (ρ' := [(Str.ofString "self", .val (.adr x)), (Str.ofString "count", .lst (count.map .int)), (Str.ofString "b", .val (.int b)), (Str.ofString "n", .val (.int n)), (Str.ofString "nt", .val (.int nt))]) ?_ (subL (subC h1 (subC h4 (subC h5 (subC h6 (subC h7 subN))))))
            refine iCons (iSet (d := .int n) rfl (.inl rfl) rfl (by got_up) c161s c161p (c161t (by simp)) c161h (by simp) fun _ => rfl) ?_
            refine iCons (iSet (d := .int nt) rfl (.inl rfl) rfl (by got_up) c161s c161p (c161t (by simp)) c161h (by simp) fun _ => rfl) ?_
            refine iFreeze (y := Str.ofString "count") rfl ?_
            refine iCons (iSet (d := .tup [.tup (count.map .int), .int b]) rfl (.inl rfl) rfl (by got_up) c161s c161p (c161t (by simp)) c161h (by simp) fun _ => rfl) ?_
            refine iCons (iSet (d := .bool (decide ((count.length : Int) ≤ 1))) rfl (.inl rfl) rfl (evTo (d := .bool (decide ((((count.map D.int).length : Nat) : Int) ≤ 1))) (by got_up) (by simp)) c161s c161p (c161t (by simp)) c161h (by simp) fun _ => rfl) ?_
            exact iEnd
      · cases hp
    · cases hp
  · cases hp
end
section
set_option maxHeartbeats 2000000

noncomputable abbrev RV := List Nat × List T3
noncomputable def key3 (t : T3) : Int := 100 * t.1 + t.2.1
noncomputable def rvs : List T3 → S3 → List RV → Option (List RV)
  | [], _, rv => some rv
  | f :: r, seen, rv => if rv.length ≤ 1000 then (if (!seen.1.contains (key3 f)) = true then match rivF f with
      | some q => if seen.1.length + (q.2.map key3).length < 1000 ∧ q.2.length ≤ 1000 then rvs r ((q.2.map key3).foldl addS seen) (rv ++ [q]) else none
      | none => none
    else rvs r seen rv) else none
noncomputable def rvsF (fs : List T3) : Option (List RV) := if fs.length ≤ 1000 then rvs fs ([], .fresh 0 0 true, []) [] else none

theorem t_rivers {prog : Program} {w : World} {k : Nat} {fs : List T3} {r : List RV} (hp : rvsF fs = some r) : VSpec prog w (KP w) (k + 2) (.ref 198) [.lst (fs.map f3)] (.lst (r.map rivD)) := by
  refine' vspecC (k := k + 1) (xs := [Str.ofString "forms"]) (ho := ?ho) (hcd := ?hcd) (hb := ?hb) (hs := ?hs) (hx := ?hx) (hn := ?hn) (hl := rfl) (o := .ret _) (hr := rfl) (h := ?h)
  case ho => rfl
  case hcd => rfl
  case hb => intro vs h; match vs, h with | [a], _ => rfl
  case hs => rfl
  case hx => rfl
  case hn => decide
  unfold rvsF at hp
  split at hp
  · rename_i hfs
    refine coCons (coNew rfl) ?_
    refine coCons (coNewSet rfl (by kp_flats) rfl fun _ _ => rfl) ?_
    refine' cFor (itList (ds := fs.map f3) (by got_up)) rfl (fun _ _ => rfl) (fun es L => ∃ (ts : List T3) (seen : S3) (rv : List RV), es = ts.map f3 ∧ L.lookup (Str.ofString "rivers") = some (.lst (rv.map rivD)) ∧ L.lookup (Str.ofString "seen") = some (set3 w seen) ∧ rvs ts seen rv = some r)
      ⟨fs, ([], .fresh 0 0 true, []), [], rfl, rfl, rfl, hp⟩ ?step ?fin
    case step =>
      rintro dd es L ⟨ts, seen, rv, he, h1, h2, h3⟩
      cases ts with
      | nil => cases he
      | cons f ts =>
        obtain ⟨a, b, c⟩ := f
        cases he
        refine eGo (gSub _ ?_ (subC (lkS (v := .val (.tup [.int a, .int b, .int c])) (x := Str.ofString "form")) (subC (lkN (by rfl) h1) (subC (lkN (by rfl) h2) subN))))
        unfold rvs at h3
        split at h3
        · rename_i hl
          split at h3
          · rename_i hc
            split at h3
            · rename_i q hq
              split at h3
              · rename_i hz
                obtain ⟨z1, z2⟩ := hz
                obtain ⟨tx, met⟩ := q
                refine gCons (coIfT (evNotInSet (v := key3 (a, b, c)) rfl rfl (evTo (d := .int (100 * a + b)) (by got_up) rfl)) hc (coCons (coAssign (d := rivD (tx, met)) (evCall (ds := [f3 (a, b, c)]) rfl (by kp_flats) (by fold_lay) (by kbo_bools) (List.cons_ne_nil _ _) (t_river hq)) rfl fun _ _ => rfl)
                  (coCons (coSetUpdate (S := seen) (ns := met.map key3) rfl rfl z1 rfl rfl (fun _ => rfl) (fun _ => rfl) (evComp (ds := met.map f3) (es := (met.map key3).map D.int) [] (itList (by got_up)) rfl rfl rfl rfl ?hcr ?hz2 fun _ _ => rfl))
                  (coCons (coAppend (d := rivD (tx, met)) rfl rfl (by unfold szOk; simp; omega) rfl rfl (fun _ => rfl) rfl (by got_up)) coNil)))) ?_
                case hcr =>
                  show CompR prog w (KP w) (k + 1) _ [] _ _ _ (met.map f3) ((met.map key3).map D.int)
                  clear h3 z1 z2 hq
                  induction met with
                  | nil => exact .nil
                  | cons m ms ih =>
                    obtain ⟨a', b', c'⟩ := m
                    exact .keep testNil (evTo (d := .int (100 * a' + b')) (by got_up) rfl) ih
                case hz2 => unfold szOk; simp at z2 ⊢; omega
                exact gNil ⟨ts, _, rv ++ [(tx, met)], rfl, by rw [List.map_append]; rfl, rfl, h3⟩
              · cases h3
            · cases h3
          · rename_i hc
            refine gCons (coIfF (evNotInSet (v := key3 (a, b, c)) rfl rfl (evTo (d := .int (100 * a + b)) (by got_up) rfl)) (eq_false_of_ne_true hc) coNil) ?_
            exact gNil ⟨ts, _, _, rfl, rfl, rfl, h3⟩
        · cases h3
    case fin =>
      rintro L ⟨ts, seen, rv, he, h1, h2, h3⟩
      cases ts with
      | cons f ts => cases he
      | nil =>
        unfold rvs at h3
        cases h3
        refine coSub ?_ (subL (subC h1 subN))
        exact coFreeze (x := Str.ofString "rivers") rfl (coStop (coRet (by got_up)) rfl)
  · cases hp
end
section
open Builtin Builtin.Str
set_option maxHeartbeats 2000000

theorem cForRet {prog : Program} {w : World} {K : Frag} {k : Nat} {sc : Scope} {ρ : Loc} {x : Str} {px pos : Pos} {iter : Expr} {body rest : List Stmt} {ds : List D} {r : D} (hi : ItS prog w K k sc ρ iter ds) (hx : isVar sc x = true) (hs : ∀ env v, foldedSetIterable iter env v = pure v)
    (Inv : List D → Loc → Prop) (h0 : Inv ds ρ) (step : ∀ d ds L, Inv (d :: ds) L → CosE prog w K k sc (setL L x (.val d)) body (Inv ds) ∨ Cos prog w K k sc (setL L x (.val d)) body (.ret r))
    (fin : ∀ L, Inv [] L → Cos prog w K k sc L rest (.ret r)) : Cos prog w K k sc ρ (.For (.Name x px) iter body [] pos :: rest) (.ret r) := by
  have key : ∀ ds L, Inv ds L → (∃ L', ForR prog w K k sc x body ds L (.go L') ∧ Inv [] L') ∨ ForR prog w K k sc x body ds L (.ret r) := by
    intro ds
    induction ds with
    | nil => intro L h; exact .inl ⟨L, .stop, h⟩
    | cons d ds ih =>
      intro L h
      rcases step d ds L h with ⟨L₁, hb, h₁⟩ | hb
      · rcases ih L₁ h₁ with ⟨L', hr, h'⟩ | hr
        · rcases hb with hb | hb
          · exact .inl ⟨L', .step hb hr, h'⟩
          · exact .inl ⟨L', .cont hb hr, h'⟩
        · rcases hb with hb | hb
          · exact .inr (.step hb hr)
          · exact .inr (.cont hb hr)
      · exact .inr (.ret hb)
  rcases key ds ρ h0 with ⟨L', hr, h'⟩ | hr
  · exact coCons (coFor hi hx hr hs) (fin L' h')
  · exact coStop (coFor hi hx hr hs) rfl

noncomputable def emL (G : Str) (ep : Int) : List Str → Int → Option Bool
  | [], _ => some true
  | u :: r, sp => if u.length ≤ 100000 then (if decide (occ1 G u (fromIndex G.length sp) (min (fromIndex G.length ep) G.length) < 0) = true then some false
    else emL G ep r (occ1 G u (fromIndex G.length sp) (min (fromIndex G.length ep) G.length) + u.length)) else none
noncomputable def partsE (W M : Str) : List Str := partsBetween W (occurrences W M 0 W.length (W.length + 1)) M.length
noncomputable def emF (want got : Str) : Option Bool := if want.length ≤ 10000 ∧ got.length ≤ 10000 ∧ (occurrences want (sT [46, 46, 46]) 0 want.length 1).isEmpty = false ∧ (decide (want.length < (sT [46, 46, 46]).length) || decide (strKind want < strKind (sT [46, 46, 46]))) = false ∧ (occurrences want (sT [46, 46, 46]) 0 want.length (want.length + 1)).isEmpty = false then
    match partsE want (sT [46, 46, 46]) with
    | [u0, u1, u2] => if u0.length = 0 ∧ u2.length = 0 then emL got got.length [u0, u1, u2] 0 else none
    | _ => none
  else none

theorem t_em {prog : Program} {w : World} {k : Nat} {want got : Str} {r : Bool} (hp : emF want got = some r) : VSpec prog w (KP w) (k + 1) (.ref 99) [.str want, .str got] (.bool r) := by
  refine' vspecC (xs := [Str.ofString "want", Str.ofString "got"]) (ho := ?ho) (hcd := ?hcd) (hb := ?hb) (hs := ?hs) (hx := ?hx) (hn := ?hn) (hl := rfl) (o := .ret _) (hr := rfl) (h := ?h)
  case ho => rfl
  case hcd => rfl
  case hb => intro vs h; match vs, h with | [a, b], _ => rfl
  case hs => rfl
  case hx => rfl
  case hn => decide
  unfold emF at hp
  split at hp
  · rename_i hc
    obtain ⟨c1, c2, c3, c4, c5⟩ := hc
    split at hp
    · rename_i u0 u1 u2 hu
      split at hp
      · rename_i hz
        obtain ⟨z0, z2⟩ := hz
        have hg : got.length ≤ 100000 := by omega
        have e0 : ((u0.length : Int) != 0) = false := by rw [z0]; rfl
        have e2 : ((u2.length : Int) != 0) = false := by rw [z2]; rfl
        refine coCons (coIfF (evNotInS (x := want) (y := sT [46, 46, 46]) (evGc rfl gEM fun _ => mkS _ _) (by got_up) rfl) (by rw [c3]; rfl) coNil) ?_
        refine coCons (coAssign (d := .lst ([u0, u1, u2].map .str)) (evMeth (T := "str") (id := "str.split") (ds := [.str (sT [46, 46, 46])]) (by got_up) typS F.plainAttrs_str F.slot_str_split F.type_str_split (fun _ => rfl) rfl (.cons rfl (evGc rfl gEM fun _ => mkS _ _) .nil) rfl (by rw [← hu]; exact vSplit c4 rfl c5 (by omega) (by unfold partsE at hu; rw [hu]; simp))) rfl fun _ _ => rfl) ?_
        refine coCons (coAssert (evBTo (d := decide ((2 : Int) ≤ ((([u0, u1, u2].map D.str).length : Nat) : Int))) (by got_up) rfl)) ?_
        refine coCons (coSwap2 (d1 := .int 0) (d2 := .int got.length) (by got_up) rfl rfl rfl rfl rfl rfl rfl rfl) ?_
        refine coCons (coAssign (d := .str u0) (evItemL (by got_up) (by got_up) (by decide) (by decide) rfl rfl) rfl fun _ _ => rfl) ?_
        refine coCons (coIfF (evTruS (by got_up) (by omega) rfl) e0 coNil) ?_
        refine coCons (coAssign (d := .str u2) (evLast (n := -1) (by got_up) (by got_up) (by simp) (by simp) rfl rfl rfl) rfl fun _ _ => rfl) ?_
        refine coCons (coIfF (evTruS (by got_up) (by omega) rfl) e2 coNil) ?_
        refine coCons (coIfF (c := decide ((got.length : Int) < 0)) (by got_up) (decide_eq_false (by omega)) coNil) ?_
        refine' cForRet (itList (ds := [u0, u1, u2].map D.str) (by got_up)) rfl (fun _ _ => rfl) (fun es L => ∃ us sp, es = us.map D.str ∧ L.lookup (Str.ofString "got") = some (.val (.str got)) ∧ L.lookup (Str.ofString "startpos") = some (.val (.int sp)) ∧ L.lookup (Str.ofString "endpos") = some (.val (.int got.length)) ∧ emL got got.length us sp = some r)
          ⟨[u0, u1, u2], 0, rfl, rfl, rfl, rfl, hp⟩ ?step ?fin
        case step =>
          rintro dd es L ⟨us, sp, he, h1, h2, h3, h4⟩
          cases us with
          | nil => cases he
          | cons u us =>
            cases he
            have sub : ∀ p ∈ ([(Str.ofString "w", .val (.str u)), (Str.ofString "got", .val (.str got)), (Str.ofString "startpos", .val (.int sp)), (Str.ofString "endpos", .val (.int got.length))] : Loc), (setL L (Str.ofString "w") (.val (.str u))).lookup p.1 = some p.2 := subC lkS (subC (lkN (by rfl) h1) (subC (lkN (by rfl) h2) (subC (lkN (by rfl) h3) subN)))
            unfold emL at h4
            split at h4
            · rename_i hul
              split at h4
              · rename_i hneg
                cases h4
                right
                refine coSub ?_ (subL sub)
                refine coCons (coAssign (d := .int (occ1 got u (fromIndex got.length sp) (min (fromIndex got.length got.length) got.length))) (evMeth (T := "str") (id := "str.find") (ds := [.str u, .int sp, .int got.length]) (by got_up) typS F.plainAttrs_str F.slot_str_find F.type_str_find (fun _ => rfl) rfl (by kbo_bools) rfl vFind4) rfl fun _ _ => rfl) ?_
                exact coStop (coIfT (by got_up) hneg (coStop (coRet (by got_up)) rfl)) rfl
              · rename_i hneg
                left
                refine eGo (gSub _ ?_ sub)
                refine gCons (coAssign (d := .int (occ1 got u (fromIndex got.length sp) (min (fromIndex got.length got.length) got.length))) (evMeth (T := "str") (id := "str.find") (ds := [.str u, .int sp, .int got.length]) (by got_up) typS F.plainAttrs_str F.slot_str_find F.type_str_find (fun _ => rfl) rfl (by kbo_bools) rfl vFind4) rfl fun _ _ => rfl) ?_
                refine gCons (coIfF (by got_up) (eq_false_of_ne_true hneg) coNil) ?_
                refine gCons (coAug (b := .int u.length) rfl (by got_up) rfl rfl) ?_
                exact gNil ⟨us, _, rfl, rfl, rfl, rfl, h4⟩
            · cases h4
        case fin =>
          rintro L ⟨us, sp, he, h1, h2, h3, h4⟩
          cases us with
          | cons u us => cases he
          | nil =>
            unfold emL at h4
            cases h4
            exact coStop (coRet (by got_up)) rfl
      · cases hp
    · cases hp
  · cases hp
end
section
open Builtin Builtin.Str
set_option maxHeartbeats 2000000

/-! the search of a river's text in a doubled one -/
noncomputable def hasG (y : List Nat) : List Nat → Bool
  | [] => y.isEmpty
  | x :: r => y.isPrefixOf (x :: r) || hasG y r
theorem occ_none1 (y : List Nat) (n : Nat) : ∀ (r : List Nat) (i free cnt : Nat), 1 ≤ cnt → occG y n 1 r i free cnt = []
  | [], i, free, cnt, h => by unfold occG; rw [show decide (cnt < 1) = false from decide_eq_false (by omega)]; rfl
  | x :: r, i, free, cnt, h => by
    unfold occG
    rw [show decide (cnt < 1) = false from decide_eq_false (by omega)]
    exact occ_none1 y n r _ _ _ h
theorem occ_has (y : List Nat) : ∀ (r : List Nat) (i free : Nat), free ≤ i → (hasG y r = false → occG y y.length 1 r i free 0 = []) ∧ (hasG y r = true → ∃ k l, occG y y.length 1 r i free 0 = k :: l ∧ k + y.length ≤ i + r.length)
  | [], i, free, hf => by
    unfold occG hasG
    have hb : Nat.ble free i = true := Nat.ble_eq.mpr hf
    rw [hb]
    constructor
    · intro h; rw [h]; rfl
    · intro h; rw [h]
      refine ⟨i, [], rfl, ?_⟩
      rw [List.isEmpty_iff] at h; subst h; simp
  | x :: r, i, free, hf => by
    have hb : Nat.ble free i = true := Nat.ble_eq.mpr hf
    obtain ⟨h1, h2⟩ := occ_has y r (i + 1) free (by omega)
    unfold hasG
    rw [show occG y y.length 1 (x :: r) i free 0 = if (decide (0 < 1) && (Nat.ble free i && y.isPrefixOf (x :: r))) = true then i :: occG y y.length 1 r (i + 1) (i + y.length) 1 else occG y y.length 1 r (i + 1) free 0 from rfl]
    rw [hb]
    cases q : y.isPrefixOf (x :: r) with
    | true =>
      constructor
      · intro h; cases h
      · intro _
        exact ⟨i, _, rfl, by have := (pre_iff.mp q).1; omega⟩
    | false =>
      constructor
      · intro h; exact h1 h
      · intro h
        obtain ⟨k, l, e1, e2⟩ := h2 h
        exact ⟨k, l, e1, by rw [List.length_cons]; omega⟩

theorem dots_mid (lim : Nat) (hl : 2 ≤ lim) : ∀ (t : List Nat) (i free : Nat), t.all (fun x => Nat.blt x 46) = true → free ≤ i → occG [46, 46, 46] 3 lim (t ++ [46, 46, 46]) i free 1 = [i + t.length]
  | [], i, free, ht, hf => by
    have h1 : decide (1 < lim) = true := decide_eq_true (by omega)
    have hb : Nat.ble free i = true := Nat.ble_eq.mpr hf
    show (if (decide (1 < lim) && (Nat.ble free i && true)) = true then i :: occG [46, 46, 46] 3 lim [46, 46] (i + 1) (i + 3) 2 else _) = _
    rw [h1, hb]
    have e2 : Nat.ble (i + 3) (i + 1 + 1 + 1) = true := Nat.ble_eq.mpr (by omega)
    have e3 : Nat.ble (i + 3) (i + 1) = false := by rw [← Bool.not_eq_true, Nat.ble_eq]; omega
    have e4 : Nat.ble (i + 3) (i + 1 + 1) = false := by rw [← Bool.not_eq_true, Nat.ble_eq]; omega
    simp [occG, e3, e4]
  | x :: t, i, free, ht, hf => by
    rw [List.all_cons, Bool.and_eq_true] at ht
    have hx : x < 46 := by have := ht.1; rw [Nat.blt_eq] at this; exact this
    have ih := dots_mid lim hl t (i + 1) free ht.2 (by omega)
    have q : ([46, 46, 46] : List Nat).isPrefixOf (x :: (t ++ [46, 46, 46])) = false := by
      show ((46 == x) && _) = false
      rw [show ((46 : Nat) == x) = false from beq_eq_false_iff_ne.mpr (by omega)]; rfl
    show occG [46, 46, 46] 3 lim (x :: (t ++ [46, 46, 46])) i free 1 = _
    unfold occG
    rw [q, Bool.and_false, Bool.and_false]
    show occG [46, 46, 46] 3 lim (t ++ [46, 46, 46]) (i + 1) free 1 = _
    rw [ih, List.length_cons]
    congr 1
    omega
theorem dots_all (lim : Nat) (hl : 2 ≤ lim) (t : List Nat) (ht : t.all (fun x => Nat.blt x 46) = true) : occG [46, 46, 46] 3 lim (46 :: 46 :: 46 :: (t ++ [46, 46, 46])) 0 0 0 = [0, 3 + t.length] := by
  have h0 : decide (0 < lim) = true := decide_eq_true (by omega)
  have e := dots_mid lim hl t 3 3 ht (Nat.le_refl _)
  have s1 : occG [46, 46, 46] 3 lim (46 :: 46 :: (t ++ [46, 46, 46])) 1 3 1 = occG [46, 46, 46] 3 lim (46 :: (t ++ [46, 46, 46])) 2 3 1 := by
    rw [occG]
    rw [show Nat.ble 3 1 = false from rfl, Bool.false_and, Bool.and_false]; rfl
  have s2 : occG [46, 46, 46] 3 lim (46 :: (t ++ [46, 46, 46])) 2 3 1 = occG [46, 46, 46] 3 lim (t ++ [46, 46, 46]) 3 3 1 := by
    rw [occG]
    rw [show Nat.ble 3 2 = false from rfl, Bool.false_and, Bool.and_false]; rfl
  rw [occG]
  rw [h0]
  show 0 :: occG [46, 46, 46] 3 lim (46 :: 46 :: (t ++ [46, 46, 46])) 1 3 1 = _
  rw [s1, s2, e]

theorem strSub_list (x : List Nat) (i j : Nat) : strSub (sT x) i j = sT ((x.drop i).take (j - i)) := by
  unfold strSub
  show (⟨x.toArray.extract i j⟩ : Str) = _
  rw [List.extract_toArray, List.extract_eq_take_drop]
  rfl
theorem kind_small (t : List Nat) (h : t.all (fun x => Nat.blt x 47) = true) : Builtin.Str.strKind (sT t) = 1 := by
  unfold Builtin.Str.strKind
  have : (sT t).cps.all (fun x => decide (x < 256)) = true := by
    show t.toArray.all _ = true
    rw [List.all_toArray, List.all_eq_true]
    intro x hx
    have := List.all_eq_true.mp h x hx
    rw [Nat.blt_eq] at this
    exact decide_eq_true (by omega)
  rw [if_pos this]

theorem em_of {t g : List Nat} (ht : t.all (fun x => Nat.blt x 46) = true) (hn : t.length ≤ 1000) (hg : g.length ≤ 2000) : emF (sT (46 :: 46 :: 46 :: (t ++ [46, 46, 46]))) (sT g) = some (hasG t g) := by
  have wl : (sT (46 :: 46 :: 46 :: (t ++ [46, 46, 46]))).length = t.length + 6 := by rw [sT_length]; simp
  have o2 : occurrences (sT (46 :: 46 :: 46 :: (t ++ [46, 46, 46]))) (sT [46, 46, 46]) 0 (t.length + 6) (t.length + 6 + 1) = [0, 3 + t.length] := by
    have := occ_list (46 :: 46 :: 46 :: (t ++ [46, 46, 46])) [46, 46, 46] 0 (t.length + 6 + 1) (Nat.zero_le _)
    rw [show (46 :: 46 :: 46 :: (t ++ [46, 46, 46])).length = t.length + 6 by simp] at this
    rw [this]
    exact dots_all _ (by omega) t ht
  have o1 : (occurrences (sT (46 :: 46 :: 46 :: (t ++ [46, 46, 46]))) (sT [46, 46, 46]) 0 (t.length + 6) 1).isEmpty = false := by
    have := occ_list (46 :: 46 :: 46 :: (t ++ [46, 46, 46])) [46, 46, 46] 0 1 (Nat.zero_le _)
    rw [show (46 :: 46 :: 46 :: (t ++ [46, 46, 46])).length = t.length + 6 by simp] at this
    rw [this]
    rfl
  have kk : Builtin.Str.strKind (sT (46 :: 46 :: 46 :: (t ++ [46, 46, 46]))) = 1 := kind_small _ (by
    have h2 : t.all (fun x => Nat.blt x 47) = true := List.all_eq_true.mpr fun x hx => by
      have := List.all_eq_true.mp ht x hx
      rw [Nat.blt_eq] at this ⊢; omega
    simp [h2])
  unfold emF
  rw [wl, sT_length, o2]
  rw [if_pos ⟨by omega, by omega, o1, by
    rw [kk, kind_small [46, 46, 46] rfl, sT_length]
    simp, rfl⟩]
  have pp : partsE (sT (46 :: 46 :: 46 :: (t ++ [46, 46, 46]))) (sT [46, 46, 46]) = [sT [], sT t, sT []] := by
    unfold partsE
    rw [wl, o2]
    unfold partsBetween
    rw [wl]
    show [strSub _ 0 0, strSub _ (0 + 3) (3 + t.length), strSub _ (3 + t.length + 3) (t.length + 6)] = _
    rw [strSub_list, strSub_list, strSub_list]
    congr 1
    congr 1
    · congr 1
      show List.take (3 + t.length - (0 + 3)) (t ++ [46, 46, 46]) = t
      rw [show 3 + t.length - (0 + 3) = t.length by omega]
      simp
    · congr 1
      rw [show t.length + 6 - (3 + t.length + 3) = 0 by omega]
      simp
  rw [pp]
  dsimp only
  rw [if_pos ⟨rfl, rfl⟩]
  have gl : (sT g).length = g.length := sT_length g
  have f0 : ∀ n : Nat, n ≤ g.length → fromIndex g.length (n : Int) = n := fun n h => by
    show (max 0 (if (n : Int) < 0 then (n : Int) + g.length else n)).toNat = n
    rw [if_neg (by omega)]
    omega
  have o0 : ∀ n : Nat, n ≤ g.length → occ1 (sT g) (sT []) n g.length = n := fun n h => by
    unfold occ1
    have := occ_list g [] n 1 h
    rw [this]
    cases g.drop n with
    | nil => unfold occG; rw [show Nat.ble n n = true from Nat.ble_eq.mpr (Nat.le_refl _)]; rfl
    | cons x r => unfold occG; rw [show Nat.ble n n = true from Nat.ble_eq.mpr (Nat.le_refl _)]; rfl
  unfold emL
  rw [if_pos (show (sT []).length ≤ 100000 by decide), gl, f0 g.length (Nat.le_refl _), Nat.min_self]
  rw [show fromIndex g.length (0 : Int) = 0 from f0 0 (Nat.zero_le _), o0 0 (Nat.zero_le _)]
  rw [if_neg (by simp)]
  unfold emL
  rw [if_pos (show (sT t).length ≤ 100000 by rw [sT_length]; omega), gl, f0 g.length (Nat.le_refl _), Nat.min_self]
  rw [show ((((0 : Nat) : Int)) + ((sT []).length : Nat) : Int) = ((0 : Nat) : Int) from rfl, f0 0 (Nat.zero_le _)]
  have oc := occ_list g t 0 1 (Nat.zero_le _)
  obtain ⟨h1, h2⟩ := occ_has t g 0 0 (Nat.le_refl _)
  rw [List.drop_zero] at oc
  cases q : hasG t g with
  | false =>
    have : occ1 (sT g) (sT t) 0 g.length = -1 := by unfold occ1; rw [oc, h1 q]
    rw [this]
    rfl
  | true =>
    obtain ⟨k, l, e1, e2⟩ := h2 q
    have e3 : occ1 (sT g) (sT t) 0 g.length = k := by unfold occ1; rw [oc, e1]
    rw [e3, if_neg (by simp)]
    unfold emL
    rw [if_pos (show (sT []).length ≤ 100000 by decide), gl, f0 g.length (Nat.le_refl _), Nat.min_self, sT_length]
    rw [show ((k : Int) + (t.length : Nat) : Int) = ((k + t.length : Nat) : Int) by simp, f0 _ (by omega), o0 _ (by omega)]
    rw [if_neg (by simp; omega)]
    rfl
end
section
open Builtin Builtin.Str
set_option maxHeartbeats 2000000

/-! values told ahead of their use -/
noncomputable def fI {α : Type} (x : Int) (k : Int → α) : α := match x with
  | .ofNat n => (match n with
    | 0 => k (.ofNat 0)
    | m + 1 => k (.ofNat (m + 1)))
  | .negSucc n => (match n with
    | 0 => k (.negSucc 0)
    | m + 1 => k (.negSucc (m + 1)))
theorem fI_eq {α : Type} (x : Int) (k : Int → α) : fI x k = k x := by
  unfold fI
  cases x with
  | ofNat n => cases n <;> rfl
  | negSucc n => cases n <;> rfl

noncomputable def rivX : Nat → T3 → Bool → Int → Int → Int → Option (List Nat × List T3)
  | 0, _, _, _, _, _ => none
  | n + 1, f, first, a, b, c => if (first || !((a, b, c) == f)) = true then
      fI (a + b + c) fun s => (if s < 0 then fI (b + 2 * a) fun y => (match rivX n f false a y s with
          | some (t, m) => some (32 :: t, (a, b, c) :: m)
          | none => none)
        else fI (b + 2 * c) fun y => (match rivX n f false s y c with
          | some (t, m) => some (9 :: t, (a, b, c) :: m)
          | none => none))
    else some ([], [])
theorem rivX_riv (f : T3) : ∀ (n : Nat) (first : Bool) (a b c : Int) (text : List Nat) (met : List T3) (t : List Nat) (m : List T3), (met == []) = first → met.length + n ≤ 1000 → text.length + n ≤ 1000 → rivX n f first a b c = some (t, m) → riv n f (a, b, c) text met = some (text ++ t, met ++ m)
  | 0, _, _, _, _, _, _, _, _, _, _, _, h => by cases h
  | n + 1, first, a, b, c, text, met, t, m, hf, h1, h2, h => by
    unfold rivX at h
    unfold riv
    rw [hf]
    split at h
    · rename_i q
      rw [if_pos q, if_pos ⟨by omega, by omega⟩]
      rw [fI_eq] at h
      split at h
      · rename_i q2
        rw [if_pos q2]
        rw [fI_eq] at h
        split at h
        · rename_i t' m' e
          cases h
          rw [rivX_riv f n false _ _ _ (text ++ [32]) (met ++ [(a, b, c)]) t' m' (by cases met <;> rfl) (by simp; omega) (by simp; omega) e]
          simp
        · cases h
      · rename_i q2
        rw [if_neg q2]
        rw [fI_eq] at h
        split at h
        · rename_i t' m' e
          cases h
          rw [rivX_riv f n false _ _ _ (text ++ [9]) (met ++ [(a, b, c)]) t' m' (by cases met <;> rfl) (by simp; omega) (by simp; omega) e]
          simp
        · cases h
    · rename_i q
      rw [if_neg q]
      cases h
      simp
theorem rivX_ok {f : T3} {r : List Nat × List T3} (h : rivX 200 f true f.1 f.2.1 f.2.2 = some r) : rivF f = some r := by
  obtain ⟨t, m⟩ := r
  have := rivX_riv f 200 true f.1 f.2.1 f.2.2 [] [] t m rfl (by decide) (by decide) h
  simpa [rivF] using this

noncomputable def rnX : Nat → T3 → Int → Bool → Int → Int → Int → Option (List Int)
  | 0, _, _, _, _, _, _ => none
  | n + 1, f, root, first, a, b, c => if (first || (!((a, b, c) == f) && Nat.ble 1 n)) = true then
      (match idF (root - b) (2 * a) with
      | some (run, _) => fI run fun run => if (sm (2 * run) && (sm a && (sm (a * run) && sm b))) = true then
          fI (b + 2 * run * a) fun y => fI (a * run * run + b * run + c) fun z => fI (a + y + z) fun x => fI (y + 2 * z) fun y' =>
          (match rnX n f root false x y' z with
          | some l => some (run :: l)
          | none => none)
        else none
      | none => none)
    else some []
theorem rnX_rn (f : T3) (root : Int) : ∀ (n : Nat) (first : Bool) (a b c : Int) (runs l : List Int), (runs == []) = first → runs.length + n = 100 → rnX n f root first a b c = some l → rn n f root (a, b, c) runs = some (runs ++ l)
  | 0, _, _, _, _, _, _, _, _, h => by cases h
  | n + 1, first, a, b, c, runs, l, hf, hn, h => by
    unfold rnX at h
    unfold rn
    rw [hf]
    have e : decide ((runs.length : Int) < 99) = Nat.ble 1 n := by
      have hn' : runs.length + (n + 1) = 100 := hn
      rw [Bool.eq_iff_iff, decide_eq_true_iff]
      constructor
      · intro h
        have h' : (runs.length : Int) < 99 := h
        have : 1 ≤ n := by omega
        exact Nat.ble_eq.mpr this
      · intro h
        have : 1 ≤ n := Nat.ble_eq.mp h
        show (runs.length : Int) < 99
        omega
    rw [e]
    split at h
    · rename_i q
      rw [if_pos q]
      split at h
      · rename_i run x hid
        try rw [hid]
        rw [fI_eq] at h
        split at h
        · rename_i hs
          simp only [Bool.and_eq_true] at hs
          try dsimp only
          rw [if_pos ⟨by omega, hs.1, hs.2.1, hs.2.2.1, hs.2.2.2⟩]
          rw [fI_eq, fI_eq, fI_eq, fI_eq] at h
          split at h
          · rename_i l' hl'
            cases h
            rw [rnX_rn f root n false _ _ _ (runs ++ [run]) l' (by cases runs <;> rfl) (by simp; omega) hl']
            simp
          · cases h
        · cases h
      · cases h
    · rename_i q
      rw [if_neg q]
      cases h
      rw [if_pos (by omega)]
      simp
theorem rnX_ok {f : T3} {root : Int} {l : List Int} (h : rnX 100 f root true f.1 f.2.1 f.2.2 = some l) : rnF f root = some l := by
  have := rnX_rn f root 100 true f.1 f.2.1 f.2.2 [] l rfl (by decide) h
  simpa [rnF] using this

theorem pick_range (x : List Nat) : ∀ (n c : Nat), (List.range' c n).filterMap (x[·]?) = (x.drop c).take n
  | 0, c => by simp
  | n + 1, c => by
    rw [List.range'_succ, List.filterMap_cons, pick_range x n (c + 1)]
    by_cases h : c < x.length
    · rw [List.getElem?_eq_getElem h, List.drop_eq_getElem_cons h]
      rfl
    · rw [List.getElem?_eq_none (by omega), List.drop_eq_nil_of_le (show x.length ≤ c by omega), List.drop_eq_nil_of_le (show x.length ≤ c + 1 by omega)]
      simp
theorem slice_any (x : List Nat) (lo hi : Option Int) (c m : Nat) (hm : c + m ≤ x.length) (e : strSliceIndices lo hi 1 x.length = List.range' c m) : Txt.slice (sT x) lo hi = sT ((x.drop c).take m) := by
  unfold Txt.slice
  rw [sT_length, e]
  split
  · rename_i q
    have q' : m = x.length := by simpa using q
    subst q'
    have : c = 0 := by omega
    subst this
    simp
  · show (⟨((List.range' c m).filterMap (fun i => (x.toArray)[i]?)).toArray⟩ : Str) = ⟨_⟩
    rw [← pick_range]
    simp
theorem slice_drop (x : List Nat) (c : Nat) (h : c ≤ x.length) : Txt.slice (sT x) (some (c : Int)) none = sT (x.drop c) := by
  rw [slice_any x (some (c : Int)) none c (x.length - c) (by omega)]
  · rw [List.take_of_length_le (by simp)]
  · unfold strSliceIndices
    dsimp only
    rw [List.range'_eq_map_range, ← sliceRange_one]
    congr 1
    rw [if_pos (by decide), if_neg (by omega)]
    omega
theorem slice_take (x : List Nat) (c : Nat) (h : c ≤ x.length) : Txt.slice (sT x) none (some (c : Int)) = sT (x.take c) := by
  rw [slice_any x none (some (c : Int)) 0 c (by omega)]
  · rfl
  · unfold strSliceIndices
    dsimp only
    rw [List.range'_eq_map_range, show c = c - 0 by omega, ← sliceRange_one]
    congr 1
    rw [if_pos (by decide), if_neg (by omega)]
    omega
end
section
set_option maxHeartbeats 2000000

noncomputable def rootF (p : Int) : Int := maxI ((rangeL 0 21 1).filter fun x => decide (x * x < p))

structure DrawOk (p : Int) (rv : List RV) (f : T3) (t : List Nat) (met : List T3) (c : Nat) (g : T3) (runs : List Int) (ws : WsR) : Prop where
  hr : rivF f = some (t, met)
  hb : bkF t = some [(f.1, 0), (f.2.1, 0), (f.2.2, 0)]
  htl : t.length ≤ 1000
  hml : met.length ≤ 1000
  ho : Builtin.Str.occurrences (sT t) (sT [9]) 0 (sT t).length 1 = [] → False
  hf : Txt.find (sT t) (sT [9]) + 1 = c
  hc : c ≤ t.length
  hm0 : met.length ≠ 0
  hm : met[c % met.length]? = some g
  hn : rnF g (rootF p) = some runs
  hw : wsF (t.drop c ++ t.take c) = some ws
  hb0 : ws.b = 0
  hrl : runs.length ≤ 1000
  hre : runs.isEmpty = false
  hrk : rangeOk 0 (maxI runs + 1) 1 = true
  hrz : (rangeL 0 (maxI runs + 1) 1).length ≤ 1000
  hwc : ws.count = (rangeL 0 (maxI runs + 1) 1).map fun k => ((runs.count k : Nat) : Int)
  he : ∀ r ∈ rv, r.1.length ≤ 1000 ∧ emF (sT (46 :: 46 :: 46 :: (t ++ [46, 46, 46]))) (sT (r.1 ++ r.1)) = some (hasG t (r.1 ++ r.1)) ∧ (hasG t (r.1 ++ r.1) && ((t.length : Int) == (r.1.length : Int))) = r.2.any (fun y => y == f)

noncomputable def bkB (f : T3) (t : List Nat) : Bool := match bkF t with
  | some [(a, x), (b, y), (c, z)] => a == f.1 && (x == 0 && (b == f.2.1 && (y == 0 && (c == f.2.2 && z == 0))))
  | _ => false
theorem bkB_ok {f : T3} {t : List Nat} (h : bkB f t = true) : bkF t = some [(f.1, 0), (f.2.1, 0), (f.2.2, 0)] := by
  unfold bkB at h
  split at h
  · rename_i a x b y c z e
    simp only [Bool.and_eq_true, beq_iff_eq] at h
    obtain ⟨rfl, rfl, rfl, rfl, rfl, rfl⟩ := h
    exact e
  · cases h
noncomputable def emB (f : T3) (t : List Nat) (r : RV) : Bool := Nat.ble r.1.length 1000 && ((hasG t (r.1 ++ r.1) && Nat.beq t.length r.1.length) == r.2.any (fun y => y == f))
noncomputable def runB (p : Int) (t : List Nat) (met : List T3) (c : Nat) : Bool := match met[c % met.length]? with
  | some g => (match rnX 100 g (rootF p) true g.1 g.2.1 g.2.2 with
    | some runs => (match wsF (t.drop c ++ t.take c) with
      | some ws => ws.b == 0 && (Nat.ble runs.length 1000 && (!runs.isEmpty && (rangeOk 0 (maxI runs + 1) 1 && (Nat.ble (rangeL 0 (maxI runs + 1) 1).length 1000 && decide (ws.count = (rangeL 0 (maxI runs + 1) 1).map fun k => ((runs.count k : Nat) : Int))))))
      | none => false)
    | none => false)
  | none => false
noncomputable def drawC (p : Int) (rv : List RV) (f : T3) (t : List Nat) (met : List T3) : Bool := t.all (fun x => Nat.blt x 46) && (Nat.ble t.length 1000 && (Nat.ble met.length 1000 && (!met.isEmpty && (bkB f t && (rv.all (emB f t) && (match occG [9] 1 1 t 0 0 0 with
  | k :: _ => Nat.ble (k + 1) t.length && runB p t met (k + 1)
  | [] => false))))))
noncomputable def drawB (p : Int) (rv : List RV) (f : T3) : Bool := match rivX 200 f true f.1 f.2.1 f.2.2 with
  | some (t, met) => drawC p rv f t met
  | none => false

theorem drawB_ok {p : Int} {rv : List RV} {f : T3} (h : drawB p rv f = true) : ∃ t met c g runs ws, DrawOk p rv f t met c g runs ws := by
  unfold drawB at h
  split at h
  · rename_i t met hr
    unfold drawC at h
    simp only [Bool.and_eq_true] at h
    obtain ⟨h1, h2, h3, h4, h5, h6, h7⟩ := h
    have h2 : t.length ≤ 1000 := Nat.ble_eq.mp h2
    have h3 : met.length ≤ 1000 := Nat.ble_eq.mp h3
    split at h7
    · rename_i k l ho
      simp only [Bool.and_eq_true] at h7
      obtain ⟨h7, h8⟩ := h7
      have h7 : k + 1 ≤ t.length := Nat.ble_eq.mp h7
      unfold runB at h8
      split at h8
      · rename_i g hg
        split at h8
        · rename_i runs hn
          split at h8
          · rename_i ws hw
            simp only [Bool.and_eq_true] at h8
            obtain ⟨a1, a2, a3, a4, a5, a6⟩ := h8
            have oo := occ_list t [9] 0 1 (Nat.zero_le _)
            rw [List.drop_zero] at oo
            rw [show ([9] : List Nat).length = 1 from rfl, ho] at oo
            refine ⟨t, met, k + 1, g, runs, ws, ?_⟩
            exact {
              hr := rivX_ok hr
              hb := bkB_ok h5
              htl := h2
              hml := h3
              ho := fun q => by rw [sT_length, oo] at q; cases q
              hf := by
                unfold Txt.find
                rw [sT_length, oo]
                rfl
              hc := h7
              hm0 := fun q => by rw [List.length_eq_zero_iff] at q; subst q; cases h4
              hm := hg
              hn := rnX_ok hn
              hw := hw
              hb0 := by simpa using a1
              hrl := Nat.ble_eq.mp a2
              hre := by simpa using a3
              hrk := a4
              hrz := Nat.ble_eq.mp a5
              hwc := of_decide_eq_true a6
              he := fun r hr => by
                have := List.all_eq_true.mp h6 r hr
                unfold emB at this
                simp only [Bool.and_eq_true] at this
                obtain ⟨b1, b2⟩ := this
                have b1 : r.1.length ≤ 1000 := Nat.ble_eq.mp b1
                refine ⟨b1, em_of h1 h2 (by rw [List.length_append]; omega), ?_⟩
                rw [← beq_iff_eq.mp b2]
                congr 1
                rw [Bool.eq_iff_iff, beq_iff_eq, Nat.beq_eq]
                omega }
          · cases h8
        · cases h8
      · cases h8
    · cases h7
  · cases h
end
section
set_option maxHeartbeats 2000000

noncomputable def ws0 : WsR := ⟨[], 0, 0, 0⟩
noncomputable def sOf (p0 p1 : Int) (l0 l1 : List Int) (r : RV) : Int := (sgF r.2 p0 p1 l0 l1).getD 0
noncomputable def wOf (r : RV) : WsR := (wsF r.1).getD ws0
noncomputable def unitOf (p : Int) : Int := if (p == 3) = true then 6 else 2
noncomputable def termOf (sg : List Int) (wss : List WsR) (i : Nat) : Int := sg.getD i 0 * ((wss.getD i ws0).n - 2 * (wss.getD i ws0).nt)

/-- what the law asks of a pair of primes, ahead of the drawn form -/
structure PairOk (p0 p1 : Int) (fs : List T3) (rv : List RV) (l0 l1 sg : List Int) (wss : List WsR) (c0 c1 t : Int) : Prop where
  hp0 : sm p0 = true
  hf : formsF (p0 * p1) = some fs
  hfl : fs.length ≤ 900
  hf0 : 0 < fs.length
  hr : rvsF fs = some rv
  hrl : rv.length ≤ 900
  hro : rangeOk 0 rv.length 1 = true
  h0 : sqF p0 = some l0
  h1 : sqF p1 = some l1
  hs : ∀ r ∈ rv, sgF r.2 p0 p1 l0 l1 = some (sOf p0 p1 l0 l1 r)
  hsg : rv.map (sOf p0 p1 l0 l1) = sg
  hw : ∀ r ∈ rv, wsF r.1 = some (wOf r)
  hws : rv.map wOf = wss
  hsm : ∀ s ∈ sg, sm s = true
  hc0 : redF p0 = some c0
  hc1 : redF p1 = some c1
  ht : ((List.range rv.length).map (termOf sg wss)).foldl (· + ·) 0 = t
  hz : (sg.any fun y => y == 0) = false
  hq : sm (48 * c0) = true
  hu : sm (unitOf p0) = true
  hd : idF (48 * c0 * c1) (unitOf p0 * unitOf p1) = some (t, 0)
  n0 : sm (p0 * (p0 - 1) - 4 * l0.foldl (· + ·) 0) = true
  e0 : (p0 * (p0 - 1) - 4 * l0.foldl (· + ·) 0) * unitOf p0 = 4 * p0 * c0
  m0 : sm (4 * p0) = true
  n1 : sm (p1 * (p1 - 1) - 4 * l1.foldl (· + ·) 0) = true
  e1 : (p1 * (p1 - 1) - 4 * l1.foldl (· + ·) 0) * unitOf p1 = 4 * p1 * c1
  m1 : sm (4 * p1) = true
  hp1 : sm p1 = true
  hdr : ∀ f ∈ fs, drawB (p0 * p1) rv f = true

noncomputable def pairB (p0 p1 : Int) (fs : List T3) (rv : List RV) (l0 l1 sg : List Int) (wss : List WsR) (c0 c1 t : Int) : Bool :=
  sm p0 && (sm p1 && (Nat.ble fs.length 900 && (Nat.ble 1 fs.length && (Nat.ble rv.length 900 && (rangeOk 0 rv.length 1 && (decide (rv.map (fun r => sgF r.2 p0 p1 l0 l1) = sg.map some) && (decide (rv.map (fun r => wsF r.1) = wss.map some) && (sg.all sm &&
  (decide (((List.range rv.length).map (termOf sg wss)).foldl (· + ·) 0 = t) && (!(sg.any fun y => y == 0) && (sm (48 * c0) && (sm (unitOf p0) && (decide (idF (48 * c0 * c1) (unitOf p0 * unitOf p1) = some (t, 0)) &&
  (sm (p0 * (p0 - 1) - 4 * l0.foldl (· + ·) 0) && (decide ((p0 * (p0 - 1) - 4 * l0.foldl (· + ·) 0) * unitOf p0 = 4 * p0 * c0) && (sm (4 * p0) &&
  (sm (p1 * (p1 - 1) - 4 * l1.foldl (· + ·) 0) && (decide ((p1 * (p1 - 1) - 4 * l1.foldl (· + ·) 0) * unitOf p1 = 4 * p1 * c1) && sm (4 * p1)))))))))))))))))))

theorem map_some {α β : Type} {g : α → Option β} {d : β} : ∀ {xs : List α} {ys : List β}, xs.map g = ys.map some → (∀ x ∈ xs, g x = some ((g x).getD d)) ∧ xs.map (fun x => (g x).getD d) = ys
  | [], [], _ => ⟨fun x h => (by cases h), rfl⟩
  | [], _ :: _, h => by cases h
  | _ :: _, [], h => by cases h
  | x :: xs, y :: ys, h => by
    rw [List.map_cons, List.map_cons, List.cons.injEq] at h
    obtain ⟨a, b⟩ := map_some (d := d) h.2
    refine ⟨fun z hz => ?_, ?_⟩
    · rcases List.mem_cons.mp hz with rfl | hz
      · rw [h.1]; rfl
      · exact a z hz
    · rw [List.map_cons, b, h.1]; rfl

theorem pairB_ok {p0 p1 : Int} {fs : List T3} {rv : List RV} {l0 l1 sg : List Int} {wss : List WsR} {c0 c1 t : Int} (hf : formsF (p0 * p1) = some fs) (hr : rvsF fs = some rv) (h0 : sqF p0 = some l0) (h1 : sqF p1 = some l1) (hc0 : redF p0 = some c0) (hc1 : redF p1 = some c1)
    (hdr : fs.all (drawB (p0 * p1) rv) = true) (h : pairB p0 p1 fs rv l0 l1 sg wss c0 c1 t = true) : PairOk p0 p1 fs rv l0 l1 sg wss c0 c1 t := by
  unfold pairB at h
  simp only [Bool.and_eq_true] at h
  obtain ⟨a1, a2, a3, a4, a5, a6, a7, a8, a9, b1, b2, b3, b4, b5, b6, b7, b8, b9, c2, c3⟩ := h
  obtain ⟨s1, s2⟩ := map_some (d := 0) (of_decide_eq_true a7)
  obtain ⟨w1, w2⟩ := map_some (d := ws0) (of_decide_eq_true a8)
  exact {
    hp0 := a1
    hf := hf
    hfl := Nat.ble_eq.mp a3
    hf0 := Nat.ble_eq.mp a4
    hr := hr
    hrl := Nat.ble_eq.mp a5
    hro := a6
    h0 := h0
    h1 := h1
    hs := s1
    hsg := s2
    hw := w1
    hws := w2
    hsm := fun s hs => List.all_eq_true.mp a9 s hs
    hc0 := hc0
    hc1 := hc1
    ht := of_decide_eq_true b1
    hz := by simpa using b2
    hq := b3
    hu := b4
    hd := of_decide_eq_true b5
    n0 := b6
    e0 := of_decide_eq_true b7
    m0 := b8
    n1 := b9
    e1 := of_decide_eq_true c2
    m1 := c3
    hp1 := a2
    hdr := fun f hf => List.all_eq_true.mp hdr f hf
  }
end
section
theorem all_app {α : Type} {p : α → Bool} {x y : List α} (h : x.all p = true) (h' : y.all p = true) : (x ++ y).all p = true := by rw [List.all_append, h, h']; rfl
theorem sqE3 : sqF 3 = some [1] := by decide +kernel
theorem reE3 : redF 3 = some 1 := by decide +kernel
theorem sqE7 : sqF 7 = some [1, 4, 2] := by decide +kernel
theorem reE7 : redF 7 = some 1 := by decide +kernel
theorem sqE11 : sqF 11 = some [1, 4, 9, 5, 3] := by decide +kernel
theorem reE11 : redF 11 = some 1 := by decide +kernel
theorem sqE19 : sqF 19 = some [1, 4, 9, 16, 6, 17, 11, 7, 5] := by decide +kernel
theorem reE19 : redF 19 = some 1 := by decide +kernel
theorem sqE23 : sqF 23 = some [1, 4, 9, 16, 2, 13, 3, 18, 12, 8, 6] := by decide +kernel
theorem reE23 : redF 23 = some 3 := by decide +kernel
noncomputable def fs21_0 : List T3 := [(1, 1, (-5)), (1, (-1), (-5)), (5, 1, (-1)), (5, (-1), (-1)), (1, 3, (-3)), (1, (-3), (-3)), (3, 3, (-1)), (3, (-3), (-1))]
noncomputable def fs21 : List T3 := fs21_0
noncomputable def rv21 : List RV := [([32, 9, 32, 32], [(1, 1, (-5)), (1, 3, (-3)), (1, (-3), (-3)), (1, (-1), (-5))]), ([9, 9, 32, 9], [(5, 1, (-1)), (5, (-1), (-1)), (3, (-3), (-1)), (3, 3, (-1))])]
theorem fsE21 : formsF 21 = some fs21 := by decide +kernel
theorem rvE21 : rvsF fs21 = some rv21 := by decide +kernel
theorem drE21_0 : fs21_0.all (drawB 21 rv21) = true := by decide +kernel
theorem drE21 : fs21.all (drawB 21 rv21) = true := drE21_0
noncomputable def fs33_0 : List T3 := [(1, 1, (-8)), (1, (-1), (-8)), (8, 1, (-1)), (8, (-1), (-1)), (2, 1, (-4)), (2, (-1), (-4)), (4, 1, (-2)), (4, (-1), (-2)), (1, 3, (-6)), (1, (-3), (-6)), (6, 3, (-1)), (6, (-3), (-1)), (2, 3, (-3)), (2, (-3), (-3)), (3, 3, (-2)), (3, (-3), (-2)), (1, 5, (-2)), (1, (-5), (-2)), (2, 5, (-1)), (2, (-5), (-1))]
noncomputable def fs33 : List T3 := fs33_0
noncomputable def rv33 : List RV := [([32, 32, 9, 9, 32, 9, 9, 32, 32, 32], [(1, 1, (-8)), (1, 3, (-6)), (1, 5, (-2)), (4, 1, (-2)), (3, (-3), (-2)), (3, 3, (-2)), (4, (-1), (-2)), (1, (-5), (-2)), (1, (-3), (-6)), (1, (-1), (-8))]), ([9, 9, 9, 32, 32, 9, 32, 32, 9, 9], [(8, 1, (-1)), (8, (-1), (-1)), (6, (-3), (-1)), (2, (-5), (-1)), (2, (-1), (-4)), (2, 3, (-3)), (2, (-3), (-3)), (2, 1, (-4)), (2, 5, (-1)), (6, 3, (-1))])]
theorem fsE33 : formsF 33 = some fs33 := by decide +kernel
theorem rvE33 : rvsF fs33 = some rv33 := by decide +kernel
theorem drE33_0 : fs33_0.all (drawB 33 rv33) = true := by decide +kernel
theorem drE33 : fs33.all (drawB 33 rv33) = true := drE33_0
noncomputable def fs57_0 : List T3 := [(1, 1, (-14)), (1, (-1), (-14)), (14, 1, (-1)), (14, (-1), (-1)), (2, 1, (-7)), (2, (-1), (-7)), (7, 1, (-2)), (7, (-1), (-2)), (1, 3, (-12)), (1, (-3), (-12)), (12, 3, (-1)), (12, (-3), (-1)), (2, 3, (-6)), (2, (-3), (-6)), (6, 3, (-2)), (6, (-3), (-2)), (3, 3, (-4)), (3, (-3), (-4)), (4, 3, (-3)), (4, (-3), (-3))]
noncomputable def fs57_1 : List T3 := [(1, 5, (-8)), (1, (-5), (-8)), (8, 5, (-1)), (8, (-5), (-1)), (2, 5, (-4)), (2, (-5), (-4)), (4, 5, (-2)), (4, (-5), (-2)), (1, 7, (-2)), (1, (-7), (-2)), (2, 7, (-1)), (2, (-7), (-1))]
noncomputable def fs57 : List T3 := fs57_0 ++ (fs57_1)
noncomputable def rv57 : List RV := [([32, 32, 32, 9, 9, 9, 32, 9, 32, 9, 9, 9, 32, 32, 32, 32], [(1, 1, (-14)), (1, 3, (-12)), (1, 5, (-8)), (1, 7, (-2)), (6, 3, (-2)), (7, (-1), (-2)), (4, (-5), (-2)), (4, 3, (-3)), (4, (-3), (-3)), (4, 5, (-2)), (7, 1, (-2)), (6, (-3), (-2)), (1, (-7), (-2)), (1, (-5), (-8)), (1, (-3), (-12)), (1, (-1), (-14))]), ([9, 9, 9, 9, 32, 32, 32, 9, 32, 9, 32, 32, 32, 9, 9, 9], [(14, 1, (-1)), (14, (-1), (-1)), (12, (-3), (-1)), (8, (-5), (-1)), (2, (-7), (-1)), (2, (-3), (-6)), (2, 1, (-7)), (2, 5, (-4)), (3, (-3), (-4)), (3, 3, (-4)), (2, (-5), (-4)), (2, (-1), (-7)), (2, 3, (-6)), (2, 7, (-1)), (8, 5, (-1)), (12, 3, (-1))])]
theorem fsE57 : formsF 57 = some fs57 := by decide +kernel
theorem rvE57 : rvsF fs57 = some rv57 := by decide +kernel
theorem drE57_0 : fs57_0.all (drawB 57 rv57) = true := by decide +kernel
theorem drE57_1 : fs57_1.all (drawB 57 rv57) = true := by decide +kernel
theorem drE57 : fs57.all (drawB 57 rv57) = true := all_app drE57_0 (drE57_1)
noncomputable def fs69_0 : List T3 := [(1, 1, (-17)), (1, (-1), (-17)), (17, 1, (-1)), (17, (-1), (-1)), (1, 3, (-15)), (1, (-3), (-15)), (15, 3, (-1)), (15, (-3), (-1)), (3, 3, (-5)), (3, (-3), (-5)), (5, 3, (-3)), (5, (-3), (-3)), (1, 5, (-11)), (1, (-5), (-11)), (11, 5, (-1)), (11, (-5), (-1)), (1, 7, (-5)), (1, (-7), (-5)), (5, 7, (-1)), (5, (-7), (-1))]
noncomputable def fs69 : List T3 := fs69_0
noncomputable def rv69 : List RV := [([32, 32, 32, 9, 32, 9, 32, 32, 32, 32], [(1, 1, (-17)), (1, 3, (-15)), (1, 5, (-11)), (1, 7, (-5)), (3, (-3), (-5)), (3, 3, (-5)), (1, (-7), (-5)), (1, (-5), (-11)), (1, (-3), (-15)), (1, (-1), (-17))]), ([9, 9, 9, 9, 32, 9, 32, 9, 9, 9], [(17, 1, (-1)), (17, (-1), (-1)), (15, (-3), (-1)), (11, (-5), (-1)), (5, (-7), (-1)), (5, 3, (-3)), (5, (-3), (-3)), (5, 7, (-1)), (11, 5, (-1)), (15, 3, (-1))])]
theorem fsE69 : formsF 69 = some fs69 := by decide +kernel
theorem rvE69 : rvsF fs69 = some rv69 := by decide +kernel
theorem drE69_0 : fs69_0.all (drawB 69 rv69) = true := by decide +kernel
theorem drE69 : fs69.all (drawB 69 rv69) = true := drE69_0
noncomputable def fs77_0 : List T3 := [(1, 1, (-19)), (1, (-1), (-19)), (19, 1, (-1)), (19, (-1), (-1)), (1, 3, (-17)), (1, (-3), (-17)), (17, 3, (-1)), (17, (-3), (-1)), (1, 5, (-13)), (1, (-5), (-13)), (13, 5, (-1)), (13, (-5), (-1)), (1, 7, (-7)), (1, (-7), (-7)), (7, 7, (-1)), (7, (-7), (-1))]
noncomputable def fs77 : List T3 := fs77_0
noncomputable def rv77 : List RV := [([32, 32, 32, 9, 32, 32, 32, 32], [(1, 1, (-19)), (1, 3, (-17)), (1, 5, (-13)), (1, 7, (-7)), (1, (-7), (-7)), (1, (-5), (-13)), (1, (-3), (-17)), (1, (-1), (-19))]), ([9, 9, 9, 9, 32, 9, 9, 9], [(19, 1, (-1)), (19, (-1), (-1)), (17, (-3), (-1)), (13, (-5), (-1)), (7, (-7), (-1)), (7, 7, (-1)), (13, 5, (-1)), (17, 3, (-1))])]
theorem fsE77 : formsF 77 = some fs77 := by decide +kernel
theorem rvE77 : rvsF fs77 = some rv77 := by decide +kernel
theorem drE77_0 : fs77_0.all (drawB 77 rv77) = true := by decide +kernel
theorem drE77 : fs77.all (drawB 77 rv77) = true := drE77_0
noncomputable def fs133_0 : List T3 := [(1, 1, (-33)), (1, (-1), (-33)), (33, 1, (-1)), (33, (-1), (-1)), (3, 1, (-11)), (3, (-1), (-11)), (11, 1, (-3)), (11, (-1), (-3)), (1, 3, (-31)), (1, (-3), (-31)), (31, 3, (-1)), (31, (-3), (-1)), (1, 5, (-27)), (1, (-5), (-27)), (27, 5, (-1)), (27, (-5), (-1)), (3, 5, (-9)), (3, (-5), (-9)), (9, 5, (-3)), (9, (-5), (-3))]
noncomputable def fs133_1 : List T3 := [(1, 7, (-21)), (1, (-7), (-21)), (21, 7, (-1)), (21, (-7), (-1)), (3, 7, (-7)), (3, (-7), (-7)), (7, 7, (-3)), (7, (-7), (-3)), (1, 9, (-13)), (1, (-9), (-13)), (13, 9, (-1)), (13, (-9), (-1)), (1, 11, (-3)), (1, (-11), (-3)), (3, 11, (-1)), (3, (-11), (-1))]
noncomputable def fs133 : List T3 := fs133_0 ++ (fs133_1)
noncomputable def rv133 : List RV := [([32, 32, 32, 32, 32, 9, 9, 9, 32, 9, 9, 9, 32, 32, 32, 32, 32, 32], [(1, 1, (-33)), (1, 3, (-31)), (1, 5, (-27)), (1, 7, (-21)), (1, 9, (-13)), (1, 11, (-3)), (9, 5, (-3)), (11, (-1), (-3)), (7, (-7), (-3)), (7, 7, (-3)), (11, 1, (-3)), (9, (-5), (-3)), (1, (-11), (-3)), (1, (-9), (-13)), (1, (-7), (-21)), (1, (-5), (-27)), (1, (-3), (-31)), (1, (-1), (-33))]), ([9, 9, 9, 9, 9, 9, 32, 32, 32, 9, 32, 32, 32, 9, 9, 9, 9, 9], [(33, 1, (-1)), (33, (-1), (-1)), (31, (-3), (-1)), (27, (-5), (-1)), (21, (-7), (-1)), (13, (-9), (-1)), (3, (-11), (-1)), (3, (-5), (-9)), (3, 1, (-11)), (3, 7, (-7)), (3, (-7), (-7)), (3, (-1), (-11)), (3, 5, (-9)), (3, 11, (-1)), (13, 9, (-1)), (21, 7, (-1)), (27, 5, (-1)), (31, 3, (-1))])]
theorem fsE133 : formsF 133 = some fs133 := by decide +kernel
theorem rvE133 : rvsF fs133 = some rv133 := by decide +kernel
theorem drE133_0 : fs133_0.all (drawB 133 rv133) = true := by decide +kernel
theorem drE133_1 : fs133_1.all (drawB 133 rv133) = true := by decide +kernel
theorem drE133 : fs133.all (drawB 133 rv133) = true := all_app drE133_0 (drE133_1)
noncomputable def fs161_0 : List T3 := [(1, 1, (-40)), (1, (-1), (-40)), (40, 1, (-1)), (40, (-1), (-1)), (2, 1, (-20)), (2, (-1), (-20)), (20, 1, (-2)), (20, (-1), (-2)), (4, 1, (-10)), (4, (-1), (-10)), (10, 1, (-4)), (10, (-1), (-4)), (5, 1, (-8)), (5, (-1), (-8)), (8, 1, (-5)), (8, (-1), (-5)), (1, 3, (-38)), (1, (-3), (-38)), (38, 3, (-1)), (38, (-3), (-1))]
noncomputable def fs161_1 : List T3 := [(2, 3, (-19)), (2, (-3), (-19)), (19, 3, (-2)), (19, (-3), (-2)), (1, 5, (-34)), (1, (-5), (-34)), (34, 5, (-1)), (34, (-5), (-1)), (2, 5, (-17)), (2, (-5), (-17)), (17, 5, (-2)), (17, (-5), (-2)), (1, 7, (-28)), (1, (-7), (-28)), (28, 7, (-1)), (28, (-7), (-1)), (2, 7, (-14)), (2, (-7), (-14)), (14, 7, (-2)), (14, (-7), (-2))]
noncomputable def fs161_2 : List T3 := [(4, 7, (-7)), (4, (-7), (-7)), (7, 7, (-4)), (7, (-7), (-4)), (1, 9, (-20)), (1, (-9), (-20)), (20, 9, (-1)), (20, (-9), (-1)), (2, 9, (-10)), (2, (-9), (-10)), (10, 9, (-2)), (10, (-9), (-2)), (4, 9, (-5)), (4, (-9), (-5)), (5, 9, (-4)), (5, (-9), (-4)), (1, 11, (-10)), (1, (-11), (-10)), (10, 11, (-1)), (10, (-11), (-1))]
noncomputable def fs161_3 : List T3 := [(2, 11, (-5)), (2, (-11), (-5)), (5, 11, (-2)), (5, (-11), (-2))]
noncomputable def fs161 : List T3 := fs161_0 ++ (fs161_1 ++ (fs161_2 ++ (fs161_3)))
noncomputable def rv161 : List RV := [([32, 32, 32, 32, 32, 9, 32, 32, 32, 32, 32, 9, 9, 32, 32, 9, 32, 32, 9, 9, 32, 32, 32, 32, 32, 9, 32, 32, 32, 32, 32, 32], [(1, 1, (-40)), (1, 3, (-38)), (1, 5, (-34)), (1, 7, (-28)), (1, 9, (-20)), (1, 11, (-10)), (2, (-9), (-10)), (2, (-5), (-17)), (2, (-1), (-20)), (2, 3, (-19)), (2, 7, (-14)), (2, 11, (-5)), (8, 1, (-5)), (4, (-9), (-5)), (4, (-1), (-10)), (4, 7, (-7)), (4, (-7), (-7)), (4, 1, (-10)), (4, 9, (-5)), (8, (-1), (-5)), (2, (-11), (-5)), (2, (-7), (-14)), (2, (-3), (-19)), (2, 1, (-20)), (2, 5, (-17)), (2, 9, (-10)), (1, (-11), (-10)), (1, (-9), (-20)), (1, (-7), (-28)), (1, (-5), (-34)), (1, (-3), (-38)), (1, (-1), (-40))]), ([9, 9, 9, 9, 9, 9, 32, 9, 9, 9, 9, 9, 32, 32, 9, 9, 32, 9, 9, 32, 32, 9, 9, 9, 9, 9, 32, 9, 9, 9, 9, 9], [(40, 1, (-1)), (40, (-1), (-1)), (38, (-3), (-1)), (34, (-5), (-1)), (28, (-7), (-1)), (20, (-9), (-1)), (10, (-11), (-1)), (10, 9, (-2)), (17, 5, (-2)), (20, 1, (-2)), (19, (-3), (-2)), (14, (-7), (-2)), (5, (-11), (-2)), (5, (-1), (-8)), (5, 9, (-4)), (10, 1, (-4)), (7, (-7), (-4)), (7, 7, (-4)), (10, (-1), (-4)), (5, (-9), (-4)), (5, 1, (-8)), (5, 11, (-2)), (14, 7, (-2)), (19, 3, (-2)), (20, (-1), (-2)), (17, (-5), (-2)), (10, (-9), (-2)), (10, 11, (-1)), (20, 9, (-1)), (28, 7, (-1)), (34, 5, (-1)), (38, 3, (-1))])]
theorem fsE161 : formsF 161 = some fs161 := by decide +kernel
theorem rvE161 : rvsF fs161 = some rv161 := by decide +kernel
theorem drE161_0 : fs161_0.all (drawB 161 rv161) = true := by decide +kernel
theorem drE161_1 : fs161_1.all (drawB 161 rv161) = true := by decide +kernel
theorem drE161_2 : fs161_2.all (drawB 161 rv161) = true := by decide +kernel
theorem drE161_3 : fs161_3.all (drawB 161 rv161) = true := by decide +kernel
theorem drE161 : fs161.all (drawB 161 rv161) = true := all_app drE161_0 (all_app drE161_1 (all_app drE161_2 (drE161_3)))
noncomputable def fs209_0 : List T3 := [(1, 1, (-52)), (1, (-1), (-52)), (52, 1, (-1)), (52, (-1), (-1)), (2, 1, (-26)), (2, (-1), (-26)), (26, 1, (-2)), (26, (-1), (-2)), (4, 1, (-13)), (4, (-1), (-13)), (13, 1, (-4)), (13, (-1), (-4)), (1, 3, (-50)), (1, (-3), (-50)), (50, 3, (-1)), (50, (-3), (-1)), (2, 3, (-25)), (2, (-3), (-25)), (25, 3, (-2)), (25, (-3), (-2))]
noncomputable def fs209_1 : List T3 := [(5, 3, (-10)), (5, (-3), (-10)), (10, 3, (-5)), (10, (-3), (-5)), (1, 5, (-46)), (1, (-5), (-46)), (46, 5, (-1)), (46, (-5), (-1)), (2, 5, (-23)), (2, (-5), (-23)), (23, 5, (-2)), (23, (-5), (-2)), (1, 7, (-40)), (1, (-7), (-40)), (40, 7, (-1)), (40, (-7), (-1)), (2, 7, (-20)), (2, (-7), (-20)), (20, 7, (-2)), (20, (-7), (-2))]
noncomputable def fs209_2 : List T3 := [(4, 7, (-10)), (4, (-7), (-10)), (10, 7, (-4)), (10, (-7), (-4)), (5, 7, (-8)), (5, (-7), (-8)), (8, 7, (-5)), (8, (-7), (-5)), (1, 9, (-32)), (1, (-9), (-32)), (32, 9, (-1)), (32, (-9), (-1)), (2, 9, (-16)), (2, (-9), (-16)), (16, 9, (-2)), (16, (-9), (-2)), (4, 9, (-8)), (4, (-9), (-8)), (8, 9, (-4)), (8, (-9), (-4))]
noncomputable def fs209_3 : List T3 := [(1, 11, (-22)), (1, (-11), (-22)), (22, 11, (-1)), (22, (-11), (-1)), (2, 11, (-11)), (2, (-11), (-11)), (11, 11, (-2)), (11, (-11), (-2)), (1, 13, (-10)), (1, (-13), (-10)), (10, 13, (-1)), (10, (-13), (-1)), (2, 13, (-5)), (2, (-13), (-5)), (5, 13, (-2)), (5, (-13), (-2))]
noncomputable def fs209 : List T3 := fs209_0 ++ (fs209_1 ++ (fs209_2 ++ (fs209_3)))
noncomputable def rv209 : List RV := [([32, 32, 32, 32, 32, 32, 9, 32, 32, 9, 32, 32, 9, 9, 9, 9, 9, 9, 32, 9, 9, 9, 9, 9, 9, 32, 32, 9, 32, 32, 9, 32, 32, 32, 32, 32, 32, 32], [(1, 1, (-52)), (1, 3, (-50)), (1, 5, (-46)), (1, 7, (-40)), (1, 9, (-32)), (1, 11, (-22)), (1, 13, (-10)), (4, (-7), (-10)), (4, 1, (-13)), (4, 9, (-8)), (5, (-7), (-8)), (5, 3, (-10)), (5, 13, (-2)), (16, 9, (-2)), (23, 5, (-2)), (26, 1, (-2)), (25, (-3), (-2)), (20, (-7), (-2)), (11, (-11), (-2)), (11, 11, (-2)), (20, 7, (-2)), (25, 3, (-2)), (26, (-1), (-2)), (23, (-5), (-2)), (16, (-9), (-2)), (5, (-13), (-2)), (5, (-3), (-10)), (5, 7, (-8)), (4, (-9), (-8)), (4, (-1), (-13)), (4, 7, (-10)), (1, (-13), (-10)), (1, (-11), (-22)), (1, (-9), (-32)), (1, (-7), (-40)), (1, (-5), (-46)), (1, (-3), (-50)), (1, (-1), (-52))]), ([9, 9, 9, 9, 9, 9, 9, 32, 9, 9, 32, 9, 9, 32, 32, 32, 32, 32, 32, 9, 32, 32, 32, 32, 32, 32, 9, 9, 32, 9, 9, 32, 9, 9, 9, 9, 9, 9], [(52, 1, (-1)), (52, (-1), (-1)), (50, (-3), (-1)), (46, (-5), (-1)), (40, (-7), (-1)), (32, (-9), (-1)), (22, (-11), (-1)), (10, (-13), (-1)), (10, 7, (-4)), (13, (-1), (-4)), (8, (-9), (-4)), (8, 7, (-5)), (10, (-3), (-5)), (2, (-13), (-5)), (2, (-9), (-16)), (2, (-5), (-23)), (2, (-1), (-26)), (2, 3, (-25)), (2, 7, (-20)), (2, 11, (-11)), (2, (-11), (-11)), (2, (-7), (-20)), (2, (-3), (-25)), (2, 1, (-26)), (2, 5, (-23)), (2, 9, (-16)), (2, 13, (-5)), (10, 3, (-5)), (8, (-7), (-5)), (8, 9, (-4)), (13, 1, (-4)), (10, (-7), (-4)), (10, 13, (-1)), (22, 11, (-1)), (32, 9, (-1)), (40, 7, (-1)), (46, 5, (-1)), (50, 3, (-1))])]
theorem fsE209 : formsF 209 = some fs209 := by decide +kernel
theorem rvE209 : rvsF fs209 = some rv209 := by decide +kernel
theorem drE209_0 : fs209_0.all (drawB 209 rv209) = true := by decide +kernel
theorem drE209_1 : fs209_1.all (drawB 209 rv209) = true := by decide +kernel
theorem drE209_2 : fs209_2.all (drawB 209 rv209) = true := by decide +kernel
theorem drE209_3 : fs209_3.all (drawB 209 rv209) = true := by decide +kernel
theorem drE209 : fs209.all (drawB 209 rv209) = true := all_app drE209_0 (all_app drE209_1 (all_app drE209_2 (drE209_3)))
noncomputable def fs253_0 : List T3 := [(1, 1, (-63)), (1, (-1), (-63)), (63, 1, (-1)), (63, (-1), (-1)), (3, 1, (-21)), (3, (-1), (-21)), (21, 1, (-3)), (21, (-1), (-3)), (7, 1, (-9)), (7, (-1), (-9)), (9, 1, (-7)), (9, (-1), (-7)), (1, 3, (-61)), (1, (-3), (-61)), (61, 3, (-1)), (61, (-3), (-1)), (1, 5, (-57)), (1, (-5), (-57)), (57, 5, (-1)), (57, (-5), (-1))]
noncomputable def fs253_1 : List T3 := [(3, 5, (-19)), (3, (-5), (-19)), (19, 5, (-3)), (19, (-5), (-3)), (1, 7, (-51)), (1, (-7), (-51)), (51, 7, (-1)), (51, (-7), (-1)), (3, 7, (-17)), (3, (-7), (-17)), (17, 7, (-3)), (17, (-7), (-3)), (1, 9, (-43)), (1, (-9), (-43)), (43, 9, (-1)), (43, (-9), (-1)), (1, 11, (-33)), (1, (-11), (-33)), (33, 11, (-1)), (33, (-11), (-1))]
noncomputable def fs253_2 : List T3 := [(3, 11, (-11)), (3, (-11), (-11)), (11, 11, (-3)), (11, (-11), (-3)), (1, 13, (-21)), (1, (-13), (-21)), (21, 13, (-1)), (21, (-13), (-1)), (3, 13, (-7)), (3, (-13), (-7)), (7, 13, (-3)), (7, (-13), (-3)), (1, 15, (-7)), (1, (-15), (-7)), (7, 15, (-1)), (7, (-15), (-1))]
noncomputable def fs253 : List T3 := fs253_0 ++ (fs253_1 ++ (fs253_2))
noncomputable def rv253 : List RV := [([32, 32, 32, 32, 32, 32, 32, 9, 9, 32, 32, 32, 32, 9, 32, 32, 32, 32, 9, 9, 32, 32, 32, 32, 32, 32, 32, 32], [(1, 1, (-63)), (1, 3, (-61)), (1, 5, (-57)), (1, 7, (-51)), (1, 9, (-43)), (1, 11, (-33)), (1, 13, (-21)), (1, 15, (-7)), (9, 1, (-7)), (3, (-13), (-7)), (3, (-7), (-17)), (3, (-1), (-21)), (3, 5, (-19)), (3, 11, (-11)), (3, (-11), (-11)), (3, (-5), (-19)), (3, 1, (-21)), (3, 7, (-17)), (3, 13, (-7)), (9, (-1), (-7)), (1, (-15), (-7)), (1, (-13), (-21)), (1, (-11), (-33)), (1, (-9), (-43)), (1, (-7), (-51)), (1, (-5), (-57)), (1, (-3), (-61)), (1, (-1), (-63))]), ([9, 9, 9, 9, 9, 9, 9, 9, 32, 32, 9, 9, 9, 9, 32, 9, 9, 9, 9, 32, 32, 9, 9, 9, 9, 9, 9, 9], [(63, 1, (-1)), (63, (-1), (-1)), (61, (-3), (-1)), (57, (-5), (-1)), (51, (-7), (-1)), (43, (-9), (-1)), (33, (-11), (-1)), (21, (-13), (-1)), (7, (-15), (-1)), (7, (-1), (-9)), (7, 13, (-3)), (17, 7, (-3)), (21, 1, (-3)), (19, (-5), (-3)), (11, (-11), (-3)), (11, 11, (-3)), (19, 5, (-3)), (21, (-1), (-3)), (17, (-7), (-3)), (7, (-13), (-3)), (7, 1, (-9)), (7, 15, (-1)), (21, 13, (-1)), (33, 11, (-1)), (43, 9, (-1)), (51, 7, (-1)), (57, 5, (-1)), (61, 3, (-1))])]
theorem fsE253 : formsF 253 = some fs253 := by decide +kernel
theorem rvE253 : rvsF fs253 = some rv253 := by decide +kernel
theorem drE253_0 : fs253_0.all (drawB 253 rv253) = true := by decide +kernel
theorem drE253_1 : fs253_1.all (drawB 253 rv253) = true := by decide +kernel
theorem drE253_2 : fs253_2.all (drawB 253 rv253) = true := by decide +kernel
theorem drE253 : fs253.all (drawB 253 rv253) = true := all_app drE253_0 (all_app drE253_1 (drE253_2))
noncomputable def fs437_0 : List T3 := [(1, 1, (-109)), (1, (-1), (-109)), (109, 1, (-1)), (109, (-1), (-1)), (1, 3, (-107)), (1, (-3), (-107)), (107, 3, (-1)), (107, (-3), (-1)), (1, 5, (-103)), (1, (-5), (-103)), (103, 5, (-1)), (103, (-5), (-1)), (1, 7, (-97)), (1, (-7), (-97)), (97, 7, (-1)), (97, (-7), (-1)), (1, 9, (-89)), (1, (-9), (-89)), (89, 9, (-1)), (89, (-9), (-1))]
noncomputable def fs437_1 : List T3 := [(1, 11, (-79)), (1, (-11), (-79)), (79, 11, (-1)), (79, (-11), (-1)), (1, 13, (-67)), (1, (-13), (-67)), (67, 13, (-1)), (67, (-13), (-1)), (1, 15, (-53)), (1, (-15), (-53)), (53, 15, (-1)), (53, (-15), (-1)), (1, 17, (-37)), (1, (-17), (-37)), (37, 17, (-1)), (37, (-17), (-1)), (1, 19, (-19)), (1, (-19), (-19)), (19, 19, (-1)), (19, (-19), (-1))]
noncomputable def fs437 : List T3 := fs437_0 ++ (fs437_1)
noncomputable def rv437 : List RV := [([32, 32, 32, 32, 32, 32, 32, 32, 32, 9, 32, 32, 32, 32, 32, 32, 32, 32, 32, 32], [(1, 1, (-109)), (1, 3, (-107)), (1, 5, (-103)), (1, 7, (-97)), (1, 9, (-89)), (1, 11, (-79)), (1, 13, (-67)), (1, 15, (-53)), (1, 17, (-37)), (1, 19, (-19)), (1, (-19), (-19)), (1, (-17), (-37)), (1, (-15), (-53)), (1, (-13), (-67)), (1, (-11), (-79)), (1, (-9), (-89)), (1, (-7), (-97)), (1, (-5), (-103)), (1, (-3), (-107)), (1, (-1), (-109))]), ([9, 9, 9, 9, 9, 9, 9, 9, 9, 9, 32, 9, 9, 9, 9, 9, 9, 9, 9, 9], [(109, 1, (-1)), (109, (-1), (-1)), (107, (-3), (-1)), (103, (-5), (-1)), (97, (-7), (-1)), (89, (-9), (-1)), (79, (-11), (-1)), (67, (-13), (-1)), (53, (-15), (-1)), (37, (-17), (-1)), (19, (-19), (-1)), (19, 19, (-1)), (37, 17, (-1)), (53, 15, (-1)), (67, 13, (-1)), (79, 11, (-1)), (89, 9, (-1)), (97, 7, (-1)), (103, 5, (-1)), (107, 3, (-1))])]
theorem fsE437 : formsF 437 = some fs437 := by decide +kernel
theorem rvE437 : rvsF fs437 = some rv437 := by decide +kernel
theorem drE437_0 : fs437_0.all (drawB 437 rv437) = true := by decide +kernel
theorem drE437_1 : fs437_1.all (drawB 437 rv437) = true := by decide +kernel
theorem drE437 : fs437.all (drawB 437 rv437) = true := all_app drE437_0 (drE437_1)
theorem prE3_7 : PairOk 3 7 fs21 rv21 [1] [1, 4, 2] [1, (-1)] [⟨[0, 1], 2, 4, 1⟩, ⟨[2, 1], 0, 4, 3⟩] 1 1 4 := pairB_ok fsE21 rvE21 sqE3 sqE7 reE3 reE7 drE21 (by decide +kernel)
theorem prE3_11 : PairOk 3 11 fs33 rv33 [1] [1, 4, 9, 5, 3] [1, (-1)] [⟨[2, 1, 1], 3, 10, 4⟩, ⟨[4, 0, 2], 0, 10, 6⟩] 1 1 4 := pairB_ok fsE33 rvE33 sqE3 sqE11 reE3 reE11 drE33 (by decide +kernel)
theorem prE3_19 : PairOk 3 19 fs57 rv57 [1] [1, 4, 9, 16, 6, 17, 11, 7, 5] [1, (-1)] [⟨[4, 2, 0, 1], 4, 16, 7⟩, ⟨[6, 1, 0, 2], 0, 16, 9⟩] 1 1 4 := pairB_ok fsE57 rvE57 sqE3 sqE19 reE3 reE19 drE57 (by decide +kernel)
theorem prE3_23 : PairOk 3 23 fs69 rv69 [1] [1, 4, 9, 16, 2, 13, 3, 18, 12, 8, 6] [1, (-1)] [⟨[0, 1, 0, 1], 4, 10, 2⟩, ⟨[6, 2], 0, 10, 8⟩] 1 3 12 := pairB_ok fsE69 rvE69 sqE3 sqE23 reE3 reE23 drE69 (by decide +kernel)
theorem prE7_3 : PairOk 7 3 fs21 rv21 [1, 4, 2] [1] [1, (-1)] [⟨[0, 1], 2, 4, 1⟩, ⟨[2, 1], 0, 4, 3⟩] 1 1 4 := pairB_ok fsE21 rvE21 sqE7 sqE3 reE7 reE3 drE21 (by decide +kernel)
theorem prE7_11 : PairOk 7 11 fs77 rv77 [1, 4, 2] [1, 4, 9, 5, 3] [1, (-1)] [⟨[0, 0, 0, 1], 4, 8, 1⟩, ⟨[6, 1], 0, 8, 7⟩] 1 1 12 := pairB_ok fsE77 rvE77 sqE7 sqE11 reE7 reE11 drE77 (by decide +kernel)
theorem prE7_19 : PairOk 7 19 fs133 rv133 [1, 4, 2] [1, 4, 9, 16, 6, 17, 11, 7, 5] [1, (-1)] [⟨[4, 1, 0, 0, 0, 1], 6, 18, 6⟩, ⟨[10, 0, 0, 2], 0, 18, 12⟩] 1 1 12 := pairB_ok fsE133 rvE133 sqE7 sqE19 reE7 reE19 drE133 (by decide +kernel)
theorem prE7_23 : PairOk 7 23 fs161 rv161 [1, 4, 2] [1, 4, 9, 16, 2, 13, 3, 18, 12, 8, 6] [1, (-1)] [⟨[2, 0, 2, 0, 0, 3], 6, 32, 7⟩, ⟨[20, 3, 2], 0, 32, 25⟩] 1 3 36 := pairB_ok fsE161 rvE161 sqE7 sqE23 reE7 reE23 drE161 (by decide +kernel)
theorem prE11_3 : PairOk 11 3 fs33 rv33 [1, 4, 9, 5, 3] [1] [1, (-1)] [⟨[2, 1, 1], 3, 10, 4⟩, ⟨[4, 0, 2], 0, 10, 6⟩] 1 1 4 := pairB_ok fsE33 rvE33 sqE11 sqE3 reE11 reE3 drE33 (by decide +kernel)
theorem prE11_7 : PairOk 11 7 fs77 rv77 [1, 4, 9, 5, 3] [1, 4, 2] [1, (-1)] [⟨[0, 0, 0, 1], 4, 8, 1⟩, ⟨[6, 1], 0, 8, 7⟩] 1 1 12 := pairB_ok fsE77 rvE77 sqE11 sqE7 reE11 reE7 drE77 (by decide +kernel)
theorem prE11_19 : PairOk 11 19 fs209 rv209 [1, 4, 9, 5, 3] [1, 4, 9, 16, 6, 17, 11, 7, 5] [1, (-1)] [⟨[10, 1, 4, 0, 0, 0, 1], 7, 38, 16⟩, ⟨[16, 4, 0, 0, 0, 0, 2], 0, 38, 22⟩] 1 1 12 := pairB_ok fsE209 rvE209 sqE11 sqE19 reE11 reE19 drE209 (by decide +kernel)
theorem prE11_23 : PairOk 11 23 fs253 rv253 [1, 4, 9, 5, 3] [1, 4, 9, 16, 2, 13, 3, 18, 12, 8, 6] [1, (-1)] [⟨[2, 0, 0, 0, 2, 0, 0, 1], 8, 28, 5⟩, ⟨[20, 1, 2], 0, 28, 23⟩] 1 3 36 := pairB_ok fsE253 rvE253 sqE11 sqE23 reE11 reE23 drE253 (by decide +kernel)
theorem prE19_3 : PairOk 19 3 fs57 rv57 [1, 4, 9, 16, 6, 17, 11, 7, 5] [1] [1, (-1)] [⟨[4, 2, 0, 1], 4, 16, 7⟩, ⟨[6, 1, 0, 2], 0, 16, 9⟩] 1 1 4 := pairB_ok fsE57 rvE57 sqE19 sqE3 reE19 reE3 drE57 (by decide +kernel)
theorem prE19_7 : PairOk 19 7 fs133 rv133 [1, 4, 9, 16, 6, 17, 11, 7, 5] [1, 4, 2] [1, (-1)] [⟨[4, 1, 0, 0, 0, 1], 6, 18, 6⟩, ⟨[10, 0, 0, 2], 0, 18, 12⟩] 1 1 12 := pairB_ok fsE133 rvE133 sqE19 sqE7 reE19 reE7 drE133 (by decide +kernel)
theorem prE19_11 : PairOk 19 11 fs209 rv209 [1, 4, 9, 16, 6, 17, 11, 7, 5] [1, 4, 9, 5, 3] [1, (-1)] [⟨[10, 1, 4, 0, 0, 0, 1], 7, 38, 16⟩, ⟨[16, 4, 0, 0, 0, 0, 2], 0, 38, 22⟩] 1 1 12 := pairB_ok fsE209 rvE209 sqE19 sqE11 reE19 reE11 drE209 (by decide +kernel)
theorem prE19_23 : PairOk 19 23 fs437 rv437 [1, 4, 9, 16, 6, 17, 11, 7, 5] [1, 4, 9, 16, 2, 13, 3, 18, 12, 8, 6] [1, (-1)] [⟨[0, 0, 0, 0, 0, 0, 0, 0, 0, 1], 10, 20, 1⟩, ⟨[18, 1], 0, 20, 19⟩] 1 3 36 := pairB_ok fsE437 rvE437 sqE19 sqE23 reE19 reE23 drE437 (by decide +kernel)
theorem prE23_3 : PairOk 23 3 fs69 rv69 [1, 4, 9, 16, 2, 13, 3, 18, 12, 8, 6] [1] [1, (-1)] [⟨[0, 1, 0, 1], 4, 10, 2⟩, ⟨[6, 2], 0, 10, 8⟩] 3 1 12 := pairB_ok fsE69 rvE69 sqE23 sqE3 reE23 reE3 drE69 (by decide +kernel)
theorem prE23_7 : PairOk 23 7 fs161 rv161 [1, 4, 9, 16, 2, 13, 3, 18, 12, 8, 6] [1, 4, 2] [1, (-1)] [⟨[2, 0, 2, 0, 0, 3], 6, 32, 7⟩, ⟨[20, 3, 2], 0, 32, 25⟩] 3 1 36 := pairB_ok fsE161 rvE161 sqE23 sqE7 reE23 reE7 drE161 (by decide +kernel)
theorem prE23_11 : PairOk 23 11 fs253 rv253 [1, 4, 9, 16, 2, 13, 3, 18, 12, 8, 6] [1, 4, 9, 5, 3] [1, (-1)] [⟨[2, 0, 0, 0, 2, 0, 0, 1], 8, 28, 5⟩, ⟨[20, 1, 2], 0, 28, 23⟩] 3 1 36 := pairB_ok fsE253 rvE253 sqE23 sqE11 reE23 reE11 drE253 (by decide +kernel)
theorem prE23_19 : PairOk 23 19 fs437 rv437 [1, 4, 9, 16, 2, 13, 3, 18, 12, 8, 6] [1, 4, 9, 16, 6, 17, 11, 7, 5] [1, (-1)] [⟨[0, 0, 0, 0, 0, 0, 0, 0, 0, 1], 10, 20, 1⟩, ⟨[18, 1], 0, 20, 19⟩] 3 1 36 := pairB_ok fsE437 rvE437 sqE23 sqE19 reE23 reE19 drE437 (by decide +kernel)
noncomputable def P5 : List Int := [3, 7, 11, 19, 23]
theorem pairs (i j : Nat) (hi : i < 5) (hj : j < 4) : ∃ a b fs rv l0 l1 sg wss c0 c1 t, P5[i]? = some a ∧ (P5.filter fun x => !(x == a))[j]? = some b ∧ PairOk a b fs rv l0 l1 sg wss c0 c1 t := by
  have hi : i = 0 ∨ i = 1 ∨ i = 2 ∨ i = 3 ∨ i = 4 := by omega
  have hj : j = 0 ∨ j = 1 ∨ j = 2 ∨ j = 3 := by omega
  rcases hi with rfl | rfl | rfl | rfl | rfl <;> rcases hj with rfl | rfl | rfl | rfl
  · exact ⟨3, 7, _, _, _, _, _, _, _, _, _, rfl, rfl, prE3_7⟩
  · exact ⟨3, 11, _, _, _, _, _, _, _, _, _, rfl, rfl, prE3_11⟩
  · exact ⟨3, 19, _, _, _, _, _, _, _, _, _, rfl, rfl, prE3_19⟩
  · exact ⟨3, 23, _, _, _, _, _, _, _, _, _, rfl, rfl, prE3_23⟩
  · exact ⟨7, 3, _, _, _, _, _, _, _, _, _, rfl, rfl, prE7_3⟩
  · exact ⟨7, 11, _, _, _, _, _, _, _, _, _, rfl, rfl, prE7_11⟩
  · exact ⟨7, 19, _, _, _, _, _, _, _, _, _, rfl, rfl, prE7_19⟩
  · exact ⟨7, 23, _, _, _, _, _, _, _, _, _, rfl, rfl, prE7_23⟩
  · exact ⟨11, 3, _, _, _, _, _, _, _, _, _, rfl, rfl, prE11_3⟩
  · exact ⟨11, 7, _, _, _, _, _, _, _, _, _, rfl, rfl, prE11_7⟩
  · exact ⟨11, 19, _, _, _, _, _, _, _, _, _, rfl, rfl, prE11_19⟩
  · exact ⟨11, 23, _, _, _, _, _, _, _, _, _, rfl, rfl, prE11_23⟩
  · exact ⟨19, 3, _, _, _, _, _, _, _, _, _, rfl, rfl, prE19_3⟩
  · exact ⟨19, 7, _, _, _, _, _, _, _, _, _, rfl, rfl, prE19_7⟩
  · exact ⟨19, 11, _, _, _, _, _, _, _, _, _, rfl, rfl, prE19_11⟩
  · exact ⟨19, 23, _, _, _, _, _, _, _, _, _, rfl, rfl, prE19_23⟩
  · exact ⟨23, 3, _, _, _, _, _, _, _, _, _, rfl, rfl, prE23_3⟩
  · exact ⟨23, 7, _, _, _, _, _, _, _, _, _, rfl, rfl, prE23_7⟩
  · exact ⟨23, 11, _, _, _, _, _, _, _, _, _, rfl, rfl, prE23_11⟩
  · exact ⟨23, 19, _, _, _, _, _, _, _, _, _, rfl, rfl, prE23_19⟩
end
section
open Builtin Builtin.Str
set_option maxHeartbeats 8000000
theorem k161 {w : World} : keepIn (KP w) (.ref 161) = true := by kernel_rfl
theorem keepW {prog : Program} {w : World} : KeepOk prog w (KP w) (.ref 161) := fun h X => keeps_K k161 h X
theorem szMap {α β : Type} {l : List α} {g : α → β} {n : Nat} (h : l.length ≤ n) (hn : n ≤ 100000) : szOk (l.map g) = true := by unfold szOk; simp; omega

noncomputable def lawB (w : World) : List Stmt := match (KP w).lookup 222 with | some ⟨_, _, .func d, _⟩ => (match d.body with | .stmts b => b | _ => []) | _ => []
noncomputable def lawS (w : World) : Scope := match (KP w).lookup 222 with | some ⟨_, _, .func d, _⟩ => d.scope | _ => default

theorem walkC {prog : Program} {w : World} {p : Int} {rv : List RV} {f : T3} {t : List Nat} {met : List T3} {c : Nat} {g : T3} {runs : List Int} {ws : WsR} (U : DrawOk p rv f t met c g runs ws) (hrl : rv.length ≤ 900) (hp : 0 < p) : Cos prog w (KP w) 40 (lawS w)
    [(Str.ofString "product", .val (.int p)), (Str.ofString "drawn", .val (f3 f)), (Str.ofString "rivers", .val (.lst (rv.map rivD)))] ((lawB w).drop 16) (.ret (.bool true)) := by
    have htl := U.htl
    have hml := U.hml
    have hz : (sT t).length ≤ 100000 := by rw [sT_length]; omega
    refine coCons (coUnpackT (xs := [Str.ofString "text", Str.ofString "met"]) (ds := [.str (sT t), .lst (met.map f3)]) (evCall (ds := [f3 f]) rfl (by kp_flats) (by fold_lay) (by kbo_bools) (List.cons_ne_nil _ _) (t_river U.hr)) rfl rfl rfl (fun _ => rfl) (fun _ _ => rfl)) ?_
    refine coCons (coIfF (c := false) (evCmpB (a := .lst [.tup [.int f.1, .int 0], .tup [.int f.2.1, .int 0], .tup [.int f.2.2, .int 0]]) (b := .lst [.tup [.int f.1, .int 0], .tup [.int f.2.1, .int 0], .tup [.int f.2.2, .int 0]]) (evCall (ds := [.str (sT t)]) rfl (by kp_flats) (by fold_lay) (by kbo_bools) (List.cons_ne_nil _ _) (t_back U.hb))
      (evComp [] (ds := [.int f.1, .int f.2.1, .int f.2.2]) (itTup (evTo (d := f3 f) (by got_up) rfl)) rfl rfl rfl rfl (.keep testNil (by got_up) (.keep testNil (by got_up) (.keep testNil (by got_up) .nil))) rfl fun _ _ => rfl) cNe32 rfl) rfl coNil) ?_
    refine coCons (coAssign (d := .int (c : Int)) (evTo (d := .int (Txt.find (sT t) (sT [9]) + 1)) (evBin (a := .int (Txt.find (sT t) (sT [9]))) (evMeth (T := "str") (id := "str.index") (ds := [.str (sT [9])]) (by got_up) typS F.plainAttrs_str F.slot_str_index F.type_str_index (fun _ => rfl) rfl (.cons rfl (evConst rfl) .nil) rfl (vIndexS (by rw [List.isEmpty_eq_false_iff]; exact U.ho))) (by got_up) rfl) (by rw [U.hf])) rfl (fun _ _ => rfl)) ?_
    have hml' : szOk (met.map f3) = true := szMap hml (by decide)
    have hm0 := U.hm0
    have hrs : ((rangeL 0 21 1).filter fun x => decide (x * x < p)).length ≤ 1000 := Nat.le_trans (List.length_filter_le _ _) (by decide)
    have hmx : ∀ x ∈ rangeL 0 21 1, sm x = true := by decide
    have hne : ((rangeL 0 21 1).filter fun x => decide (x * x < p)).isEmpty = false := by
      rw [List.isEmpty_eq_false_iff]
      exact List.ne_nil_of_mem (a := 0) (List.mem_filter.mpr ⟨by decide, decide_eq_true (by omega)⟩)
    refine coCons (coAssign (d := .lst (runs.map .int)) (evCall (ds := [f3 g, .int (rootF p)]) rfl (by kp_flats) (by fold_lay) (.cons rfl (evItemL (n := ((c % met.length : Nat) : Int)) (by got_up) (evTo (d := .int ((c : Int).fmod (met.map f3).length)) (evFmod (by got_up) (evCall (ds := [.lst (met.map f3)]) rfl (by kp_flats) (by fold_lay) (by kbo_bools) (List.cons_ne_nil _ _) (vLenL hml')) (by rw [List.length_map]; omega)) (by rw [List.length_map, fmod_nat])) (by omega) (by have := Nat.mod_lt c (Nat.pos_of_ne_zero hm0); omega) (by rw [Int.toNat_natCast, List.getElem?_map, U.hm]; rfl) rfl)
      (.cons rfl (evCall (ds := [.lst (((rangeL 0 21 1).filter fun x => decide (x * x < p)).map .int)]) rfl (by kp_flats) (by fold_lay) (.cons rfl (evComp [Str.ofString "product"] (ds := (rangeL 0 21 1).map .int) (itRange1 (b := 21) rfl grange rfl (by got_up) rfl) rfl rfl rfl rfl
        (compFilter (p := fun x => decide (x * x < p)) (fun v => by got_up) (rangeL 0 21 1) fun v hv => testOne (evCmpB (evMul (by got_up) (by got_up) (hmx v hv)) (by got_up) rfl rfl)) rfl fun _ _ => rfl) .nil) (List.cons_ne_nil _ _) (vMaxI hne)) .nil)) (List.cons_ne_nil _ _) (t_runs U.hn)) rfl (fun _ _ => ?sw)) ?_
    case sw => first | rfl | exact swaps_cell (by assumption) rfl
    have hrl := U.hrl
    have hrd : szOk (runs.map D.int) = true := szMap hrl (by decide)
    have hcz := U.hc
    refine coCons (coIfF (c := false) (evCmpB (a := .tup [.tup (ws.count.map .int), .int ws.b]) (b := .tup [.tup (ws.count.map .int), .int ws.b])
      (evObjAttr (C := 161) (evCall (ds := [.str (sT (t.drop c ++ t.take c))]) rfl (by kp_flats) keepW (.cons rfl (evTo (evAddS (evSliceS (by got_up) (.some (by got_up)) .none hz) (evSliceS (by got_up) .none (.some (by got_up)) hz) ?z1) ?z2) .nil) (List.cons_ne_nil _ _) (t_ws U.hw)) rfl (c161g (by simp)).1 c161h (c161g (by simp)).2 rfl fun _ => rfl)
      (evTo (d := .tup [.tup ((rangeL 0 (maxI runs + 1) 1).map fun k => .int ((runs.count k : Nat) : Int)), .int 0]) (evTup (.cons rfl (evCall (ds := [.lst ((rangeL 0 (maxI runs + 1) 1).map fun k => .int ((runs.count k : Nat) : Int))]) rfl (by kp_flats) (by fold_lay) (.cons rfl (evComp [Str.ofString "runs"] (ds := (rangeL 0 (maxI runs + 1) 1).map .int) (itRange1 (b := maxI runs + 1) rfl grange rfl (evBin (a := .int (maxI runs)) (evCall (ds := [.lst (runs.map .int)]) rfl (by kp_flats) (by fold_lay) (by kbo_bools) (List.cons_ne_nil _ _) (vMaxI U.hre)) (by got_up) rfl) U.hrk) rfl rfl rfl rfl
        (compMap (fun v => evCountI (by got_up) (by got_up) rfl (fun _ => rfl) rfl) _) (szMap U.hrz (by decide)) fun _ _ => rfl) .nil) (List.cons_ne_nil _ _) (vTuple (szMap U.hrz (by decide)))) (by kbo_bools)) rfl) (by rw [U.hwc, U.hb0, List.map_map]; rfl)) cNeNorm rfl) rfl coNil) ?_
    case z1 => rw [slice_drop t c hcz, slice_take t c hcz, sT_length, sT_length, List.length_drop, List.length_take]; omega
    case z2 => rw [slice_drop t c hcz, slice_take t c hcz, sT_app]
    refine' cFor (itList (ds := rv.map rivD) (by got_up)) rfl (fun _ _ => rfl) (fun es L => ∃ rs : List RV, es = rs.map rivD ∧ (∀ r ∈ rs, r ∈ rv) ∧ L.lookup (Str.ofString "text") = some (.val (.str (sT t))) ∧ L.lookup (Str.ofString "drawn") = some (.val (f3 f)))
      ⟨rv, rfl, fun r h => h, rfl, rfl⟩ ?step ?fin
    case step =>
      rintro dd es L ⟨rs, he, hm, h1, h2⟩
      cases rs with
      | nil => cases he
      | cons r rs =>
        cases he
        obtain ⟨e1, e2, e3⟩ := U.he r (hm r (.head _))
        have hz1 : (sT r.1).length ≤ 100000 := by rw [sT_length]; omega
        refine eGo (gSub _ ?_ (subC (lkS (v := .val (rivD r)) (x := Str.ofString "river")) (subC (lkN (by rfl) h1) (subC (lkN (by rfl) h2) subN))))
        have r0 : ∀ {ρ : Loc} {sc : Scope} {e i : Expr} {pos : Pos}, EvS prog w (KP w) 40 sc ρ e (rivD r) → EvS prog w (KP w) 40 sc ρ i (.int 0) → notSlice i = true → EvS prog w (KP w) 40 sc ρ (.Subscript e i pos) (.str (sT r.1)) := fun h1 h2 h3 => evItem h1 h2 rfl h3
        have r1 : ∀ {ρ : Loc} {sc : Scope} {e i : Expr} {pos : Pos}, EvS prog w (KP w) 40 sc ρ e (rivD r) → EvS prog w (KP w) 40 sc ρ i (.int 1) → notSlice i = true → EvS prog w (KP w) 40 sc ρ (.Subscript e i pos) (.lst (r.2.map f3)) := fun h1 h2 h3 => evItem h1 h2 rfl h3
        refine gCons (coAssign (d := .bool (hasG t (r.1 ++ r.1))) (evCall (ds := [.str (sT (46 :: 46 :: 46 :: (t ++ [46, 46, 46]))), .str (sT (r.1 ++ r.1))]) rfl (by kp_flats) (by fold_lay) (.cons rfl (evTo (d := .str (sT [46, 46, 46] ++ sT t ++ sT [46, 46, 46])) (evAddS (evAddS (evConst rfl) (by got_up) ?y1) (evConst rfl) ?y2) (by rw [sT_app, sT_app]; simp)) (.cons rfl (evTo (d := .str (sT r.1 ++ sT r.1)) (evAddS (r0 (by got_up) (by got_up) rfl) (r0 (by got_up) (by got_up) rfl) ?y3) (by rw [sT_app])) .nil)) (List.cons_ne_nil _ _) (t_em e2)) rfl (fun _ _ => rfl)) ?_
        case y1 => rw [sT_length, sT_length]; simp; omega
        case y2 => rw [sT_app, sT_length, sT_length]; simp; omega
        case y3 => rw [sT_length]; omega
        refine gCons (coIfF (c := false) (evCmpB (a := .bool (hasG t (r.1 ++ r.1) && ((t.length : Int) == (r.1.length : Int)))) (b := .bool (r.2.any fun y => y == f)) (evAndS (by got_up) (evCmp (a := .int t.length) (b := .int r.1.length) (evTo (d := .int (sT t).length) (evCall (ds := [.str (sT t)]) rfl (by kp_flats) (by fold_lay) (by kbo_bools) (List.cons_ne_nil _ _) (vLenS hz)) (by rw [sT_length])) (evTo (d := .int (sT r.1).length) (evCall (ds := [.str (sT r.1)]) rfl (by kp_flats) (by fold_lay) (.cons rfl (r0 (by got_up) (by got_up) rfl) .nil) (List.cons_ne_nil _ _) (vLenS hz1)) (by rw [sT_length])) rfl rfl))
          (evCmp (by got_up) (r1 (by got_up) (by got_up) rfl) cIn3 rfl) (cNeBF e3) rfl) rfl coNil) ?_
        exact gNil ⟨rs, rfl, fun r h => hm r (.tail _ h), rfl, rfl⟩
    case fin =>
      rintro L -
      exact coStop (coRet (by got_up)) rfl

theorem walkB {prog : Program} {w : World} {a b : Int} {fs : List T3} {rv : List RV} {l0 l1 sg : List Int} {wss : List WsR} {c0 c1 tt : Int} (P : PairOk a b fs rv l0 l1 sg wss c0 c1 tt) {f : T3} (hf : f ∈ fs) (qa : 0 < a) (qb : 0 < b) : Cos prog w (KP w) 40 (lawS w)
    [(Str.ofString "primes", .val (.tup [.int a, .int b])), (Str.ofString "product", .val (.int (a * b))), (Str.ofString "drawn", .val (f3 f)), (Str.ofString "rivers", .val (.lst (rv.map rivD))), (Str.ofString "places", .val (.lst [.lst (l0.map .int), .lst (l1.map .int)])), (Str.ofString "signs", .val (.lst (sg.map .int))), (Str.ofString "leads", .val (.lst (rv.map fun r => wsD r.1 (wOf r))))]
    ((lawB w).drop 11) (.ret (.bool true)) := by
    have hp0 := P.hp0
    have hp1 := P.hp1
    have hrl := P.hrl
    have hrs : szOk (rv.map rivD) = true := szMap hrl (by decide)
    have hro := P.hro
    have hsgl : sg.length = rv.length := by rw [← P.hsg, List.length_map]
    have hlen : (rv.map rivD).length = rv.length := List.length_map _
    have hrng : (rangeL 0 rv.length 1).map D.int = (List.range rv.length).map fun i : Nat => D.int (i : Int) := by rw [rangeL_nat, List.map_map]; rfl
    refine coCons (coAssign (d := .int tt) (evTo (evCall (ds := [.lst (((List.range rv.length).map (termOf sg wss)).map .int)]) rfl (by kp_flats) (by fold_lay) (.cons rfl (evTo (evComp [Str.ofString "signs", Str.ofString "leads"] (ds := (List.range rv.length).map fun i : Nat => D.int (i : Int)) (es := (List.range rv.length).map fun i => D.int (termOf sg wss i))
        (by rw [← hrng]; exact itRange1 rfl grange rfl (evTo (d := .int (rv.map rivD).length) (evCall rfl (by kp_flats) (by fold_lay) (by kbo_bools) (List.cons_ne_nil _ _) (vLenL hrs)) (by rw [hlen])) hro) rfl rfl rfl rfl
        (compMem _ ?a4) (szMap (n := 900) (by rw [List.length_range]; exact hrl) (by decide)) fun _ _ => rfl) (by rw [List.map_map]; rfl)) .nil) (List.cons_ne_nil _ _) vSum) (by rw [P.ht])) rfl (fun _ _ => rfl)) ?_
    case a4 =>
      intro i hi
      have hi' : i < rv.length := List.mem_range.mp hi
      have e1 : sg[i]? = some (sg.getD i 0) := by rw [List.getD_eq_getElem?_getD, List.getElem?_eq_getElem (by omega)]; rfl
      have e2 : (rv.map fun r => wsD r.1 (wOf r))[i]? = some (wsD (rv[i]).1 (wss.getD i ws0)) := by
        rw [← P.hws, List.getElem?_map, List.getD_eq_getElem?_getD, List.getElem?_map, List.getElem?_eq_getElem hi']
        rfl
      have e3 : sm (sg.getD i 0) = true := P.hsm _ (List.mem_of_getElem? e1)
      refine evMul (evItemI (n := i) (by got_up) (by got_up) (by omega) (by omega) (by rw [Int.toNat_natCast]; exact e1) rfl) (evBin (evObjAttr (C := 161) (evItemL (n := i) (by got_up) (by got_up) (by omega) (by omega) (by rw [Int.toNat_natCast]; exact e2) rfl) rfl (c161g (by simp)).1 c161h (c161g (by simp)).2 rfl fun _ => rfl)
        (evMul (by got_up) (evObjAttr (C := 161) (evItemL (n := i) (by got_up) (by got_up) (by omega) (by omega) (by rw [Int.toNat_natCast]; exact e2) rfl) rfl (c161g (by simp)).1 c161h (c161g (by simp)).2 rfl fun _ => rfl) rfl) rfl) e3
    refine coCons (coAssignComp [] (ds := [.int a, .int b]) (es := [.int c0, .int c1]) (itTup (by got_up)) rfl rfl rfl rfl
      (.keep testNil (evCall rfl (by kp_flats) (by fold_lay) (by kbo_bools) (List.cons_ne_nil _ _) (t_red P.hc0)) (.keep testNil (evCall rfl (by kp_flats) (by fold_lay) (by kbo_bools) (List.cons_ne_nil _ _) (t_red P.hc1)) .nil)) rfl (fun _ _ => rfl) rfl rfl rfl) ?_
    have unit : ∀ {prog : Program} {k : Nat} {sc : Scope} {ρ : Loc} {x : Int} {t : Expr} {p : Pos} {c6 c2 : Expr} , EvB prog w (KP w) k sc ρ t (x == 3) → EvS prog w (KP w) k sc ρ c6 (.int 6) → EvS prog w (KP w) k sc ρ c2 (.int 2) → EvS prog w (KP w) k sc ρ (.IfExp t c6 c2 p) (.int (unitOf x)) := fun {_ _ _ _ x _ _ _ _} h1 h2 h3 => by
      unfold unitOf
      by_cases q : (x == 3) = true
      · rw [if_pos q]; exact evIfT h1 q h2
      · rw [if_neg q]; exact evIfF h1 (eq_false_of_ne_true q) h3
    refine coCons (coAssignComp [] (ds := [.int a, .int b]) (es := [.int (unitOf a), .int (unitOf b)]) (itTup (by got_up)) rfl rfl rfl rfl
      (.keep testNil (unit (by got_up) (by got_up) (by got_up)) (.keep testNil (unit (by got_up) (by got_up) (by got_up)) .nil)) rfl (fun _ _ => rfl) rfl rfl rfl) ?_
    refine coCons (coIfF (c := (sg.any fun y => y == 0) || false) (evOr2 (evCmpB (by got_up) (by got_up) cInInts rfl) (evCmpB (a := .tup [.int tt, .int 0]) (b := .tup [.int tt, .int 0]) (evCall (ds := [.int (48 * c0 * c1), .int (unitOf a * unitOf b)]) rfl (by kp_flats) (by fold_lay) ?b1 (List.cons_ne_nil _ _) (t_id P.hd)) (by got_up) (cNe2 rfl rfl) rfl)) (by rw [P.hz]; rfl) coNil) ?_
    case b1 =>
      have hq := P.hq
      have hu := P.hu
      refine .cons rfl (evMul (evMul (by got_up) (evItemL (n := 0) (d := .int c0) (by got_up) (by got_up) (by decide) (by decide) rfl rfl) (by decide)) (evItemL (n := 1) (d := .int c1) (by got_up) (by got_up) (by decide) (by decide) rfl rfl) hq) (.cons rfl (evMul (evItemL (n := 0) (d := .int (unitOf a)) (by got_up) (by got_up) (by decide) (by decide) rfl rfl) (evItemL (n := 1) (d := .int (unitOf b)) (by got_up) (by got_up) (by decide) (by decide) rfl rfl) hu) .nil)
    have ha := P.hp0
    have hb := P.hp1
    refine coCons (coFor (ds := [.int 0, .int 1]) (itRange1 (b := 2) rfl grange rfl (by got_up) rfl) rfl (.step (coCons (coIfF (c := (((a * (a - 1) - 4 * l0.foldl (· + ·) 0) * unitOf a) != (4 * a * c0))) (evCmpB (a := .int ((a * (a - 1) - 4 * l0.foldl (· + ·) 0) * unitOf a)) (b := .int (4 * a * c0))
        (evMul (evBin (a := .int (a * (a - 1))) (b := .int (4 * l0.foldl (· + ·) 0)) (evMul (evItem (c := .tup [.int a, .int b]) (i := .int 0) (d := .int a) (by got_up) (by got_up) rfl rfl) (evBin (evItem (c := .tup [.int a, .int b]) (i := .int 0) (d := .int a) (by got_up) (by got_up) rfl rfl) (by got_up) rfl) ha) (evMul (by got_up) (evCall (ds := [.lst (l0.map .int)]) rfl (by kp_flats) (by fold_lay) (.cons rfl (evItemL (n := 0) (d := .lst (l0.map .int)) (by got_up) (by got_up) (by decide) (by decide) rfl rfl) .nil) (List.cons_ne_nil _ _) vSum) (by decide)) rfl) (evItemL (n := 0) (d := .int (unitOf a)) (by got_up) (by got_up) (by decide) (by decide) rfl rfl) P.n0)
        (evMul (evMul (by got_up) (evItem (c := .tup [.int a, .int b]) (i := .int 0) (d := .int a) (by got_up) (by got_up) rfl rfl) (by decide)) (evItemL (n := 0) (d := .int c0) (by got_up) (by got_up) (by decide) (by decide) rfl rfl) P.m0) rfl rfl) (by rw [P.e0]; exact bne_self_eq_false _) coNil) coNil) (.step (coCons (coIfF (c := (((b * (b - 1) - 4 * l1.foldl (· + ·) 0) * unitOf b) != (4 * b * c1))) (evCmpB (a := .int ((b * (b - 1) - 4 * l1.foldl (· + ·) 0) * unitOf b)) (b := .int (4 * b * c1))
        (evMul (evBin (a := .int (b * (b - 1))) (b := .int (4 * l1.foldl (· + ·) 0)) (evMul (evItem (c := .tup [.int a, .int b]) (i := .int 1) (d := .int b) (by got_up) (by got_up) rfl rfl) (evBin (evItem (c := .tup [.int a, .int b]) (i := .int 1) (d := .int b) (by got_up) (by got_up) rfl rfl) (by got_up) rfl) hb) (evMul (by got_up) (evCall (ds := [.lst (l1.map .int)]) rfl (by kp_flats) (by fold_lay) (.cons rfl (evItemL (n := 1) (d := .lst (l1.map .int)) (by got_up) (by got_up) (by decide) (by decide) rfl rfl) .nil) (List.cons_ne_nil _ _) vSum) (by decide)) rfl) (evItemL (n := 1) (d := .int (unitOf b)) (by got_up) (by got_up) (by decide) (by decide) rfl rfl) P.n1)
        (evMul (evMul (by got_up) (evItem (c := .tup [.int a, .int b]) (i := .int 1) (d := .int b) (by got_up) (by got_up) rfl rfl) (by decide)) (evItemL (n := 1) (d := .int c1) (by got_up) (by got_up) (by decide) (by decide) rfl rfl) P.m1) rfl rfl) (by rw [P.e1]; exact bne_self_eq_false _) coNil) coNil) .stop)) fun _ _ => rfl) ?_
    refine coSub (ρ' := [(Str.ofString "product", .val (.int (a * b))), (Str.ofString "drawn", .val (f3 f)), (Str.ofString "rivers", .val (.lst (rv.map rivD)))]) ?_ (subL (subC rfl (subC rfl (subC rfl subN))))
    obtain ⟨t, met, c, g, runs, ws, D⟩ := drawB_ok (P.hdr f hf)
    exact walkC D P.hrl (Int.mul_pos qa qb)
end
section
open Builtin Builtin.Str
set_option maxHeartbeats 8000000

theorem walkA2 {prog : Program} {w : World} {a b : Int} {fs : List T3} {rv : List RV} {l0 l1 sg : List Int} {wss : List WsR} {c0 c1 tt : Int} (P : PairOk a b fs rv l0 l1 sg wss c0 c1 tt) {f : T3} (hf : f ∈ fs) (qa : 0 < a) (qb : 0 < b) : Cos prog w (KP w) 40 (lawS w)
    [(Str.ofString "primes", .val (.tup [.int a, .int b])), (Str.ofString "product", .val (.int (a * b))), (Str.ofString "forms", .val (.lst (fs.map f3))), (Str.ofString "drawn", .val (f3 f))] ((lawB w).drop 7) (.ret (.bool true)) := by
    have hp0 := P.hp0
    have hp1 := P.hp1
    have hfl := P.hfl
    have hrl := P.hrl
    have hrs : szOk (rv.map rivD) = true := szMap hrl (by decide)
    refine coCons (coAssign (d := .lst (rv.map rivD)) (evCall rfl (by kp_flats) (by fold_lay) (by kbo_bools) (List.cons_ne_nil _ _) (t_rivers P.hr)) rfl (fun _ _ => rfl)) ?_
    refine coCons (coAssign (d := .lst [.lst (l0.map .int), .lst (l1.map .int)]) (evComp [] (ds := [.int a, .int b]) (itTup (by got_up)) rfl rfl rfl rfl
      (.keep testNil (evCall rfl (by kp_flats) (by fold_lay) (by kbo_bools) (List.cons_ne_nil _ _) (t_sq P.h0)) (.keep testNil (evCall rfl (by kp_flats) (by fold_lay) (by kbo_bools) (List.cons_ne_nil _ _) (t_sq P.h1)) .nil)) rfl fun _ _ => rfl) rfl (fun env O => swaps_cell O rfl)) ?_
    refine coCons (coAssign (d := .lst (sg.map .int)) (evTo (evComp [Str.ofString "primes", Str.ofString "places"] (ds := rv.map rivD) (es := rv.map fun r => D.int (sOf a b l0 l1 r)) (itList (by got_up)) rfl rfl rfl rfl
      (compMem rv fun r hr => evCall (ds := [.lst (r.2.map f3), .tup [.int a, .int b], .lst [.lst (l0.map .int), .lst (l1.map .int)]]) rfl (by kp_flats) (by fold_lay) (.cons rfl (evItem (c := rivD r) (i := .int 1) (by got_up) (by got_up) rfl rfl) (by kbo_bools)) (List.cons_ne_nil _ _) (t_sign (fun _ _ _ _ h => t_cp h) (P.hs r hr))) hrs fun _ _ => rfl) (by rw [← P.hsg, List.map_map]; rfl)) rfl (fun env O => swaps_cell O rfl)) ?_
    refine coCons (coAssign (d := .lst (rv.map fun r => wsD r.1 (wOf r))) (evComp [] (ds := rv.map rivD) (itList (by got_up)) rfl rfl rfl rfl
      (compMem rv fun r hr => evCall (ds := [.str (sT r.1)]) rfl (by kp_flats) keepW (.cons rfl (evItem (c := rivD r) (i := .int 0) (by got_up) (by got_up) rfl rfl) .nil) (List.cons_ne_nil _ _) (t_ws (P.hw r hr))) hrs fun _ _ => rfl) rfl (fun env O => swaps_cell O rfl)) ?_
    refine coSub (ρ' := [(Str.ofString "primes", .val (.tup [.int a, .int b])), (Str.ofString "product", .val (.int (a * b))), (Str.ofString "drawn", .val (f3 f)), (Str.ofString "rivers", .val (.lst (rv.map rivD))), (Str.ofString "places", .val (.lst [.lst (l0.map .int), .lst (l1.map .int)])), (Str.ofString "signs", .val (.lst (sg.map .int))), (Str.ofString "leads", .val (.lst (rv.map fun r => wsD r.1 (wOf r))))]) ?_ (subL (subC rfl (subC rfl (subC rfl (subC rfl (subC rfl (subC rfl (subC rfl subN))))))))
    exact walkB P hf qa qb
theorem walkA {prog : Program} {w : World} (ns : List Int) (hns : ns.length ≤ 63) : Cos prog w (KP w) 40 (lawS w) [(Str.ofString "script", .val (.lst (ns.map .int)))] (lawB w) (.ret (.bool true)) := by
    have hl0 : (pickI ns none (some 18) none).length ≤ 63 := Nat.le_trans (pickI_le ns none (some 18) none) hns
    refine coCons (coAssign (d := .lst (((pickI ns none (some 18) none).map (fun x => x.fmod 5040)).map .int)) ?a1 rfl (fun env O => swaps_cell O rfl)) ?_
    case a1 =>
      refine evTo (evComp [] (ds := (pickI ns none (some 18) none).map .int) (es := (pickI ns none (some 18) none).map fun x => D.int (x.fmod 5040)) (itList (evTo (evSliceL (by got_up) .none (.some (by got_up)) .none (by decide) (szMap hns (by decide))) (congrArg D.lst (pickD_ints _ _ _ _)))) rfl rfl rfl rfl (compMap (fun v => by got_up) _) (szMap hl0 (by decide)) fun _ _ => rfl) (by rw [List.map_map]; rfl)
    have hl1 : ((pickI ns none (some 18) none).map (fun x => x.fmod 5040)).length ≤ 63 := by rw [List.length_map]; exact hl0
    generalize (pickI ns none (some 18) none).map (fun x => x.fmod 5040) = dr at hl1
    refine coCons (coUnpackL (xs := [Str.ofString "first", Str.ofString "second", Str.ofString "third"]) (ds := [.int ((pickI dr (some 0) none (some 3)).foldl (· + ·) 0), .int ((pickI dr (some 1) none (some 3)).foldl (· + ·) 0), .int ((pickI dr (some 2) none (some 3)).foldl (· + ·) 0)]) (evComp [Str.ofString "draws"] (ds := (rangeL 0 3 1).map .int) (itRange1 rfl grange rfl (by got_up) rfl) rfl rfl rfl rfl ?a2 rfl fun _ _ => rfl) rfl rfl rfl (fun _ => rfl) (fun _ _ => rfl)) ?_
    case a2 =>
      exact .keep testNil (evCall (ds := [.lst ((pickI dr (some 0) none (some 3)).map .int)]) rfl (by kp_flats) (by fold_lay) (.cons rfl (evTo (evSliceL (by got_up) (.some (by got_up)) .none (.some (by got_up)) (by decide) (szMap hl1 (by decide))) (congrArg D.lst (pickD_ints _ _ _ _))) .nil) (List.cons_ne_nil _ _) vSum)
        (.keep testNil (evCall (ds := [.lst ((pickI dr (some 1) none (some 3)).map .int)]) rfl (by kp_flats) (by fold_lay) (.cons rfl (evTo (evSliceL (by got_up) (.some (by got_up)) .none (.some (by got_up)) (by decide) (szMap hl1 (by decide))) (congrArg D.lst (pickD_ints _ _ _ _))) .nil) (List.cons_ne_nil _ _) vSum)
        (.keep testNil (evCall (ds := [.lst ((pickI dr (some 2) none (some 3)).map .int)]) rfl (by kp_flats) (by fold_lay) (.cons rfl (evTo (evSliceL (by got_up) (.some (by got_up)) .none (.some (by got_up)) (by decide) (szMap hl1 (by decide))) (congrArg D.lst (pickD_ints _ _ _ _))) .nil) (List.cons_ne_nil _ _) vSum) .nil))
    generalize (pickI dr (some 0) none (some 3)).foldl (· + ·) 0 = s0
    generalize (pickI dr (some 1) none (some 3)).foldl (· + ·) 0 = s1
    generalize (pickI dr (some 2) none (some 3)).foldl (· + ·) 0 = s2
    obtain ⟨i, hi, ei⟩ := fmod_small s0 5 (by decide)
    obtain ⟨j, hj, ej⟩ := fmod_small s1 4 (by decide)
    have ei : s0.fmod 5 = i := ei
    have ej : s1.fmod 4 = j := ej
    obtain ⟨a, b, fs, rv, l0, l1, sg, wss, c0, c1, tt, pa, pb, P⟩ := pairs i j hi hj
    refine coCons (coAssign (d := .int a) (evItem (c := .tup (P5.map .int)) (i := .int i) (evTo (d := .tup [.int 3, .int 7, .int 11, .int 19, .int 23]) (by got_up) rfl) (evTo (d := .int (s0.fmod 5)) (by got_up) (by rw [ei])) (itemT (by rw [List.getElem?_map, pa]; rfl) (by omega)) rfl) rfl (fun _ _ => rfl)) ?_
    refine coCons (coAssign (d := .tup [.int a, .int b]) (evTup (.cons rfl (by got_up) (.cons rfl (evItemI (n := j) (evComp [Str.ofString "one"] (ds := P5.map .int) (itTup (evTo (d := .tup [.int 3, .int 7, .int 11, .int 19, .int 23]) (by got_up) rfl)) rfl rfl rfl rfl ?a3 rfl fun _ _ => rfl) (evTo (d := .int (s1.fmod 4)) (by got_up) (by rw [ej])) (by omega) (by omega) (by simpa using pb) rfl) .nil)) rfl) rfl (fun _ _ => rfl)) ?_
    case a3 => exact compFilter (p := fun x => !(x == a)) (fun v => by got_up) P5 (fun v _ => testOne (by got_up))
    have hp0 := P.hp0
    have hp1 := P.hp1
    refine coCons (coAssign (d := .int (a * b)) (by got_up) rfl (fun _ _ => rfl)) ?_
    refine coCons (coAssign (d := .lst (fs.map f3)) (evCall rfl (by kp_flats) (by fold_lay) (by kbo_bools) (List.cons_ne_nil _ _) (t_forms P.hf)) rfl (fun _ _ => rfl)) ?_
    obtain ⟨m, hm, em⟩ := fmod_small s2 fs.length P.hf0
    have hfl := P.hfl
    have hfs : szOk (fs.map f3) = true := szMap hfl (by decide)
    obtain ⟨f, hf⟩ : ∃ f, fs[m]? = some f := ⟨_, List.getElem?_eq_getElem hm⟩
    refine coCons (coAssign (d := f3 f) (evItemL (n := m) (by got_up) (evTo (d := .int (s2.fmod (fs.map f3).length)) (evFmod (by got_up) (evCall rfl (by kp_flats) (by fold_lay) (by kbo_bools) (List.cons_ne_nil _ _) (vLenL hfs)) (by rw [List.length_map]; have := P.hf0; omega)) (by rw [List.length_map, em])) (by omega) (by omega) (by rw [List.getElem?_map, Int.toNat_natCast, hf]; rfl) rfl) rfl (fun _ _ => rfl)) ?_
    have q5 : ∀ x ∈ P5, (0 : Int) < x := by decide
    refine coSub (ρ' := [(Str.ofString "primes", .val (.tup [.int a, .int b])), (Str.ofString "product", .val (.int (a * b))), (Str.ofString "forms", .val (.lst (fs.map f3))), (Str.ofString "drawn", .val (f3 f))]) ?_ (subL (subC rfl (subC rfl (subC rfl (subC rfl subN)))))
    exact walkA2 P (List.mem_of_getElem? hf) (q5 a (List.mem_of_getElem? pa)) (q5 b (List.mem_filter.mp (List.mem_of_getElem? pb)).1)
end
end Mine
end
section
open PySem PySem.W PyProof.Rows
namespace Mine
noncomputable def qV : Program := view PySem.Challenge.pw_sn0087_01 [31]
noncomputable def looseL : List Str := [Str.ofString "_wall", Str.ofString "compute_powers", Str.ofString "_DIV_LIMIT", Str.ofString "_div2n1n", Str.ofString "_div3n2n", Str.ofString "_int2digits", Str.ofString "_digits2int", Str.ofString "_divmod_pos", Str.ofString "int_divmod", Str.ofString "ONE_THIRD", Str.ofString "ONE_SIXTH", Str.ofString "TWO_THIRD", Str.ofString "rgb_to_hls", Str.ofString "hls_to_rgb", Str.ofString "_v", Str.ofString "ELLIPSIS_MARKER", Str.ofString "_ellipsis_match", Str.ofString "Whitespace", Str.ofString "_law_squares", Str.ofString "_law_reduced", Str.ofString "_law_forms", Str.ofString "_law_river", Str.ofString "_law_rivers", Str.ofString "_law_sign", Str.ofString "_law_back", Str.ofString "_law_runs"]
noncomputable def asL : List Addr := [2, 3, 15, 17, 18, 20, 21, 22, 23, 25, 26, 28, 29, 30, 32, 33, 35, 36, 37, 39, 40, 42, 43, 44, 46, 47, 49, 50, 51, 53, 54, 56, 57, 58, 60, 61, 63, 64, 65, 67, 68, 70, 71, 72, 74, 75, 77, 78, 79, 81, 82, 84, 85, 86, 88, 89, 91, 92, 93, 95, 96, 98, 99, 110, 112, 113, 115, 116, 117, 119, 120, 122, 123, 124, 126, 127, 129, 130, 131, 133, 134, 136, 137, 138, 140, 141, 143, 144, 145, 147, 148, 150, 151, 152, 154, 155, 157, 158, 159, 160, 161, 162, 163, 166, 168, 169, 171, 172, 173, 175, 176, 178, 179, 180, 182, 183, 185, 186, 187, 189, 190, 192, 193, 194, 197, 198, 199, 201, 202, 204, 205, 206, 209, 210, 211, 213, 214, 216, 217, 218, 221, 222]
theorem asL_ok (P : Params) : asL = (K0 P).map (·.1) := by kernel_rfl
noncomputable def H0 : Hook := kmHook K0 asL asL_ok [52, 45]
theorem left0F (w : World) : (openEnds treeTable PySem.Challenge.pw_sn0087_01 (w.withFollow "special-get-raises" false) 2726).map (fun s => (openSeen qV looseL (importedModules PySem.Challenge.pw_sn0087_01.main.body) (fun s => xlAt qV [] s && recOk [] s) true s, Hook.obs H0 s)) = some (openGood qV looseL, Hook.val H0 (w.withFollow "special-get-raises" false)) := by kernel_rfl
theorem left0T (w : World) : (openEnds treeTable PySem.Challenge.pw_sn0087_01 (w.withFollow "special-get-raises" true) 2726).map (fun s => (openSeen qV looseL (importedModules PySem.Challenge.pw_sn0087_01.main.body) (fun s => xlAt qV [] s && recOk [] s) true s, Hook.obs H0 s)) = some (openGood qV looseL, Hook.val H0 (w.withFollow "special-get-raises" true)) := by kernel_rfl
theorem left0 : LeftO PySem.Challenge.pw_sn0087_01 qV looseL (fun s => xlAt qV [] s && recOk [] s) (Hook.obs H0) (Hook.val H0) 2726 := fun w =>
  byRow2 "special-get-raises" (P := fun w => (openEnds treeTable PySem.Challenge.pw_sn0087_01 w 2726).map (fun s => (openSeen qV looseL (importedModules PySem.Challenge.pw_sn0087_01.main.body) (fun s => xlAt qV [] s && recOk [] s) true s, Hook.obs H0 s)) = some (openGood qV looseL, Hook.val H0 w)) left0F left0T w
theorem row_ok : PySem.Challenge.rw_sn0087_01.row.wellSaid = true := by kernel_rfl
theorem law_said : PySem.Challenge.rw_sn0087_01.wellSaid = true := by
  delta OpenLaw.wellSaid
  iterate 18 (with_reducible refine Bool.and_eq_true_iff.mpr ⟨?_, by kernel_rfl⟩)
  exact row_ok
end Mine
end
open PySem PySem.W PyProof.Rows PySem.Flt
open Builtin Builtin.Str
set_option maxHeartbeats 8000000
theorem PySem.Challenge.cw_sn0087_01_holds : PySem.Challenge.rw_sn0087_01.Holds := by
  w_on
  refine holds_law Mine.law_said fun said => ?_
  refine' holds_open (q := Mine.qV) (loose := Mine.looseL) (Xt := fun s => xlAt Mine.qV [] s && recOk [] s) (XP := XL Mine.qV []) (Yf := Hook.obs Mine.H0) (Ya := Hook.val Mine.H0) (YP := Hook.says Mine.H0) (N := 2726) Mine.left0 (Hook.of Mine.H0) (Hook.keeps Mine.H0) (fun s e => xl_of s (Bool.and_eq_true_iff.mp e).1) XL.keeps (by rfl) (by rfl) (by rfl) (fun s e => recFacts_of (Bool.and_eq_true_iff.mp e).2) (by rfl) said (by decide +kernel) ⟨rfl, rfl, rfl, rfl, rfl, by decide +kernel⟩ ?hw ?hc
  case hw => w_witness2
  intro w s₀ s₁ mg mb G Y fa o pm cd doc dV kV ho hd hcd hD hmg hg args vals as hpre hlay hrd hwl hlo
  have KX := km_in_of Y
  km_tabs Y
  have X := (Ground.X G).1
  have V := (Ground.X G).2
  refine Ground.open G ?_
  intro T B D TE TW
  try (refine guard_noD D (by decide +kernel) ?_; clear D)
  have c1 : CodeHd s₁.heap 49 45 := codeHd_of_K KX (by kernel_rfl)
  have c2 : CodeHd s₁.heap 56 52 := codeHd_of_K KX (by kernel_rfl)
  clear hmg
  wrow_args hpre hlay hrd hwl hlo
  have he := Dflts.none hD rfl
  subst he
  have he := Dflts.noKw hD
  subst he
  first | refine callC_kw (enter_call ?_) | refine enter_call ?_
  refine' Mine.lawEnter (x := Str.ofString "script") (K := Mine.KP w) (prog := PySem.Challenge.rw_sn0087_01.row.prog) KX T hT8 c1 c2 ?hw ?hL ?hI ho (fd_plain hd) hcd ?hb ?hs ?hx hg ?hn ?hr ?hp ?k1 ?k2 ?hlen ?walk
  case hw => assumption
  case hL => assumption
  case hI => assumption
  case hlen => assumption
  case hn => exact raisesW_false (by wrow_none_raised)
  case hr => exact fun _ => .bool true
  case hp => exact postW_of (by wrow_shape) (by wtm_val) (by str_meet; first | done | w_fin)
  case hb => rfl
  case hs => kernel_rfl
  case hx => kernel_rfl
  case k1 => kernel_rfl
  case k2 => kernel_rfl
  case walk =>
    clear ho hd hcd T X V B TE TW KX hT8 c1 c2 G Y
    intro ns hns
    exact Mine.walkA ns hns

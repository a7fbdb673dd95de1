import PyProof.Rows.All
import Wide.All
import OpenK.AllK
import Wide.FinOn
import KE.KNestM
import KE.KWhile
import KE.KSetAt
import KE.BitLaws
import KE.KMulAny
import KE.IntBitsLaws
import KE.KRevIter
import KE.KPop
import KE.KDictAnyGet
import KE.KSlice
import KE.KEqDict
import Lean
import PySem.Challenge.RW_to0084_01
set_option Elab.async false
open PySem PySem.W PyProof.Rows PySem.Calls
-- HD
section
open PySem PySem.W PyProof.Rows PySem.Calls
set_option Elab.async false
set_option maxRecDepth 100000
namespace Mine
noncomputable section
noncomputable abbrev pw : Program := PySem.Challenge.pw_to0084_01
/-- the statements of the top, by number -/
noncomputable def stm (i : Nat) : Stmt := (pw.main.body[i]?).getD (.Pass ⟨0, 0, 0, 0⟩)
noncomputable def fdArgs : Stmt → Arguments
  | .FunctionDef _ a _ _ _ _ _ _ _ _ => a
  | _ => default
noncomputable def fdBody : Stmt → List Stmt
  | .FunctionDef _ _ b _ _ _ _ _ _ _ => b
  | _ => []
noncomputable def fdScope : Stmt → Scope
  | .FunctionDef _ _ _ _ _ _ sc _ _ _ => sc
  | _ => pw.main.scope
noncomputable def mkFd (i : Nat) (name qualname : Str) (globals : Addr) (dv kw doc pm code ct : Value) (blt : Addr) : FuncData :=
  { name, qualname, params := fdArgs (stm i), body := .stmts (fdBody (stm i)), scope := fdScope (stm i), globals, closure := [], defaults := dv, kwdefaults := kw, doc, pyModule := pm, annotations := none, code, closureTuple := ct, builtins := blt }
noncomputable def kv (P : Params) (x : Str) (t : Tok) (v : Value) : DictEntry := ⟨PyData.keyHash P x, .str x t, v⟩
noncomputable def ki (k : Int) (t : Tok) (h : Int) (v : Value) : DictEntry := ⟨h, .int k t, v⟩
/-- the table b3_exceptions as its statement writes it -/
noncomputable def constInt : Option Expr → Int
  | some (.Constant (.int i) _ _) => i
  | _ => 0
noncomputable def constStr : Expr → Str
  | .Constant (.str s) _ _ => s
  | _ => Str.empty
noncomputable def dictKeys : Stmt → List (Option Expr)
  | .Assign _ (.Dict ks _ _) _ => ks
  | _ => []
noncomputable def dictVals : Stmt → List Expr
  | .Assign _ (.Dict _ vs _) _ => vs
  | _ => []
noncomputable def b3Items : List (Int × Str) := ((dictKeys (stm 12)).map constInt).zip ((dictVals (stm 12)).map constStr)
/-- the entries with their tokens: three a pair from t on -/
noncomputable def ent3 (t : Nat) : List (Int × Str) → List DictEntry
  | [] => []
  | (k, x) :: r => ki k t k (.str x (t + 1)) :: ent3 (t + 3) r
noncomputable def ent2 (t : Nat) : List (Int × Str) → List DictEntry
  | [] => []
  | (k, x) :: r => ki k t k (.str x (t + 1)) :: ent2 (t + 2) r
noncomputable def b3Chunk (c : Nat) : List (Int × Str) := (b3Items.drop (17 * c)).take 17
noncomputable def b3Entries : List DictEntry := ent3 358 (b3Items.take 646) ++ ent2 2296 (b3Items.drop 646)
noncomputable def dictOb (es : List DictEntry) : Obj := ⟨.type "dict", none, .dict es.toArray es.length, #[]⟩
noncomputable def b3Sub (c : Nat) : Obj := dictOb (ent3 (358 + 51 * c) (b3Chunk c))
noncomputable def ob_83_12 (_ : Params) : Obj := ⟨.type "dict", none, .dict b3Entries.toArray 650, #[]⟩

noncomputable def ob_84_12 (_ : Params) : Obj := b3Sub 1
noncomputable def ob_85_12 (_ : Params) : Obj := b3Sub 2
noncomputable def ob_86_12 (_ : Params) : Obj := b3Sub 3
noncomputable def ob_87_12 (_ : Params) : Obj := b3Sub 4
noncomputable def ob_88_12 (_ : Params) : Obj := b3Sub 5
noncomputable def ob_89_12 (_ : Params) : Obj := b3Sub 6
noncomputable def ob_90_12 (_ : Params) : Obj := b3Sub 7
noncomputable def ob_91_12 (_ : Params) : Obj := b3Sub 8
noncomputable def ob_92_12 (_ : Params) : Obj := b3Sub 9
noncomputable def ob_93_12 (_ : Params) : Obj := b3Sub 10
noncomputable def ob_94_12 (_ : Params) : Obj := b3Sub 11
noncomputable def ob_95_12 (_ : Params) : Obj := b3Sub 12
noncomputable def ob_96_12 (_ : Params) : Obj := b3Sub 13
noncomputable def ob_97_12 (_ : Params) : Obj := b3Sub 14
noncomputable def ob_98_12 (_ : Params) : Obj := b3Sub 15
noncomputable def ob_99_12 (_ : Params) : Obj := b3Sub 16
noncomputable def ob_100_12 (_ : Params) : Obj := b3Sub 17
noncomputable def ob_101_12 (_ : Params) : Obj := b3Sub 18
noncomputable def ob_102_12 (_ : Params) : Obj := b3Sub 19
noncomputable def ob_103_12 (_ : Params) : Obj := b3Sub 20
noncomputable def ob_104_12 (_ : Params) : Obj := b3Sub 21
noncomputable def ob_105_12 (_ : Params) : Obj := b3Sub 22
noncomputable def ob_106_12 (_ : Params) : Obj := b3Sub 23
noncomputable def ob_107_12 (_ : Params) : Obj := b3Sub 24
noncomputable def ob_108_12 (_ : Params) : Obj := b3Sub 25
noncomputable def ob_109_12 (_ : Params) : Obj := b3Sub 26
noncomputable def ob_110_12 (_ : Params) : Obj := b3Sub 27
noncomputable def ob_111_12 (_ : Params) : Obj := b3Sub 28
noncomputable def ob_112_12 (_ : Params) : Obj := b3Sub 29
noncomputable def ob_113_12 (_ : Params) : Obj := b3Sub 30
noncomputable def ob_114_12 (_ : Params) : Obj := b3Sub 31
noncomputable def ob_115_12 (_ : Params) : Obj := b3Sub 32
noncomputable def ob_116_12 (_ : Params) : Obj := b3Sub 33
noncomputable def ob_117_12 (_ : Params) : Obj := b3Sub 34
noncomputable def ob_118_12 (_ : Params) : Obj := b3Sub 35
noncomputable def ob_119_12 (_ : Params) : Obj := b3Sub 36
noncomputable def ob_120_12 (_ : Params) : Obj := b3Sub 37
noncomputable def ob_11_a (_ : Params) : Obj := ⟨.type "tuple", none, .seq [].toArray 0, [].toArray⟩
noncomputable def ob_12_a (_ : Params) : Obj := ⟨.none, none, .fields [].toArray, [].toArray⟩
noncomputable def ob_13_a (_ : Params) : Obj := ⟨.type "code", none, .fields [.str (Str.ofString "<module>") 182, .str (Str.ofString "<module>") 183, .str (Str.ofString "/claim/cut.py") 184, .int 1 0, .int 0 0, .int 0 0, .int 0 0, .int 0 0, .ref (nat_lit 11), .bool false, .int 181 0, .ref (nat_lit 12), .none, .none, .none, .none, .int 185 0, .int 1 0, .str (Str.ofString "/claim/cut.py") 186].toArray, [].toArray⟩
noncomputable def ob_14_a (_ : Params) : Obj := ⟨.type "frame", none, .plain, [some (.ref (nat_lit 13)), some (.ref (nat_lit 3)), some (.ref (nat_lit 3)), none, some (.str (Str.ofString "__main__") 164), none, some (.ref (nat_lit 0))].toArray⟩
noncomputable def ob_3_9 (P : Params) : Obj := ⟨.type "dict", none, .dict [kv P (Str.ofString "__name__") 165 (.str (Str.ofString "cpy313.stringprep") 289), kv P (Str.ofString "__doc__") 166 (.none), kv P (Str.ofString "__package__") 167 (.none), kv P (Str.ofString "__loader__") 168 (.builtin "__main__.__loader__#opaque"), kv P (Str.ofString "__spec__") 169 (.none), kv P (Str.ofString "__annotations__") 170 (.ref (nat_lit 6)), kv P (Str.ofString "__builtins__") 171 (.ref (nat_lit 4)), kv P (Str.ofString "__file__") 173 (.str (Str.ofString "/claim/cut.py") 172), kv P (Str.ofString "__cached__") 174 (.none), kv P (Str.ofString "compute_powers") 208 (.ref (nat_lit 22)), kv P (Str.ofString "_DIV_LIMIT") 210 (.int 4000 209), kv P (Str.ofString "_div2n1n") 227 (.ref (nat_lit 29)), kv P (Str.ofString "_div3n2n") 241 (.ref (nat_lit 36)), kv P (Str.ofString "_int2digits") 252 (.ref (nat_lit 43)), kv P (Str.ofString "_digits2int") 263 (.ref (nat_lit 50)), kv P (Str.ofString "_divmod_pos") 278 (.ref (nat_lit 57)), kv P (Str.ofString "int_divmod") 288 (.ref (nat_lit 64))].toArray 17, [].toArray⟩
noncomputable def ob_12_9 (_ : Params) : Obj := ⟨.none, none, .fields [.int 2 0, .int 0 0, .ref (nat_lit 21), .int 44 0, .int 0 0, .ref (nat_lit 28), .int 60 0, .int 0 0, .ref (nat_lit 35), .int 70 0, .int 0 0, .ref (nat_lit 42), .int 86 0, .int 0 0, .ref (nat_lit 49), .int 95 0, .int 0 0, .ref (nat_lit 56), .int 106 0, .int 0 0, .ref (nat_lit 63)].toArray, [].toArray⟩
noncomputable def ob_15_9 (_ : Params) : Obj := ⟨.type "tuple", none, .seq [.bool false].toArray 0, [].toArray⟩
noncomputable def ob_16_9 (_ : Params) : Obj := ⟨.type "tuple", none, .seq [].toArray 0, [].toArray⟩
noncomputable def ob_17_9 (_ : Params) : Obj := ⟨.none, none, .fields [].toArray, [].toArray⟩
noncomputable def ob_18_9 (_ : Params) : Obj := ⟨.type "tuple", none, .seq [.str (Str.ofString "w") 192, .str (Str.ofString "base") 193, .str (Str.ofString "more_than") 194, .str (Str.ofString "show") 195, .str (Str.ofString "seen") 196, .str (Str.ofString "need") 197, .str (Str.ofString "ws") 198, .str (Str.ofString "lo") 199, .str (Str.ofString "d") 200, .str (Str.ofString "it") 201, .str (Str.ofString "first") 202, .str (Str.ofString "this") 203, .str (Str.ofString "hi") 204, .str (Str.ofString "sq") 205].toArray 0, [].toArray⟩
noncomputable def ob_19_9 (_ : Params) : Obj := ⟨.type "tuple", none, .seq [].toArray 0, [].toArray⟩
noncomputable def ob_20_9 (_ : Params) : Obj := ⟨.none, none, .func (mkFd 1 (Str.ofString "compute_powers") (Str.ofString "compute_powers") 0 (.none) (.none) (.none) (.none) (.none) (.none) 0), [].toArray⟩
noncomputable def ob_21_9 (_ : Params) : Obj := ⟨.type "code", none, .fields [.str (Str.ofString "compute_powers") 189, .str (Str.ofString "compute_powers") 190, .str (Str.ofString "/claim/cut.py") 191, .int 2 0, .int 4 0, .int 0 0, .int 0 0, .int 3 0, .ref (nat_lit 16), .bool true, .int 181 0, .ref (nat_lit 17), .none, .ref (nat_lit 18), .ref (nat_lit 19), .ref (nat_lit 20), .int 206 0, .int 2 0, .str (Str.ofString "/claim/cut.py") 207].toArray, [].toArray⟩
noncomputable def ob_22_9 (_ : Params) : Obj := ⟨.type "function", none, .func (mkFd 1 (Str.ofString "compute_powers") (Str.ofString "compute_powers") 3 (.ref (nat_lit 15)) (.none) (.none) (.str (Str.ofString "cpy313._pylong") 187) (.ref (nat_lit 21)) (.none) 0), [].toArray⟩
noncomputable def ob_23_9 (_ : Params) : Obj := ⟨.type "tuple", none, .seq [].toArray 0, [].toArray⟩
noncomputable def ob_24_9 (_ : Params) : Obj := ⟨.none, none, .fields [].toArray, [].toArray⟩
noncomputable def ob_25_9 (_ : Params) : Obj := ⟨.type "tuple", none, .seq [.str (Str.ofString "a") 214, .str (Str.ofString "b") 215, .str (Str.ofString "n") 216, .str (Str.ofString "pad") 217, .str (Str.ofString "half_n") 218, .str (Str.ofString "mask") 219, .str (Str.ofString "b1") 220, .str (Str.ofString "b2") 221, .str (Str.ofString "q1") 222, .str (Str.ofString "r") 223, .str (Str.ofString "q2") 224].toArray 0, [].toArray⟩
noncomputable def ob_26_9 (_ : Params) : Obj := ⟨.type "tuple", none, .seq [].toArray 0, [].toArray⟩
noncomputable def ob_27_9 (_ : Params) : Obj := ⟨.none, none, .func (mkFd 3 (Str.ofString "_div2n1n") (Str.ofString "_div2n1n") 0 (.none) (.none) (.none) (.none) (.none) (.none) 0), [].toArray⟩
noncomputable def ob_28_9 (_ : Params) : Obj := ⟨.type "code", none, .fields [.str (Str.ofString "_div2n1n") 211, .str (Str.ofString "_div2n1n") 212, .str (Str.ofString "/claim/cut.py") 213, .int 44 0, .int 3 0, .int 0 0, .int 0 0, .int 3 0, .ref (nat_lit 23), .bool true, .int 181 0, .ref (nat_lit 24), .none, .ref (nat_lit 25), .ref (nat_lit 26), .ref (nat_lit 27), .int 225 0, .int 44 0, .str (Str.ofString "/claim/cut.py") 226].toArray, [].toArray⟩
noncomputable def ob_29_9 (_ : Params) : Obj := ⟨.type "function", none, .func (mkFd 3 (Str.ofString "_div2n1n") (Str.ofString "_div2n1n") 3 (.none) (.none) (.none) (.str (Str.ofString "cpy313._pylong") 187) (.ref (nat_lit 28)) (.none) 0), [].toArray⟩
noncomputable def ob_30_9 (_ : Params) : Obj := ⟨.type "tuple", none, .seq [].toArray 0, [].toArray⟩
noncomputable def ob_31_9 (_ : Params) : Obj := ⟨.none, none, .fields [].toArray, [].toArray⟩
noncomputable def ob_32_9 (_ : Params) : Obj := ⟨.type "tuple", none, .seq [.str (Str.ofString "a12") 231, .str (Str.ofString "a3") 232, .str (Str.ofString "b") 233, .str (Str.ofString "b1") 234, .str (Str.ofString "b2") 235, .str (Str.ofString "n") 236, .str (Str.ofString "q") 237, .str (Str.ofString "r") 238].toArray 0, [].toArray⟩
noncomputable def ob_33_9 (_ : Params) : Obj := ⟨.type "tuple", none, .seq [].toArray 0, [].toArray⟩
noncomputable def ob_34_9 (_ : Params) : Obj := ⟨.none, none, .func (mkFd 4 (Str.ofString "_div3n2n") (Str.ofString "_div3n2n") 0 (.none) (.none) (.none) (.none) (.none) (.none) 0), [].toArray⟩
noncomputable def ob_35_9 (_ : Params) : Obj := ⟨.type "code", none, .fields [.str (Str.ofString "_div3n2n") 228, .str (Str.ofString "_div3n2n") 229, .str (Str.ofString "/claim/cut.py") 230, .int 60 0, .int 6 0, .int 0 0, .int 0 0, .int 3 0, .ref (nat_lit 30), .bool true, .int 181 0, .ref (nat_lit 31), .none, .ref (nat_lit 32), .ref (nat_lit 33), .ref (nat_lit 34), .int 239 0, .int 60 0, .str (Str.ofString "/claim/cut.py") 240].toArray, [].toArray⟩
noncomputable def ob_36_9 (_ : Params) : Obj := ⟨.type "function", none, .func (mkFd 4 (Str.ofString "_div3n2n") (Str.ofString "_div3n2n") 3 (.none) (.none) (.none) (.str (Str.ofString "cpy313._pylong") 187) (.ref (nat_lit 35)) (.none) 0), [].toArray⟩
noncomputable def ob_37_9 (_ : Params) : Obj := ⟨.type "tuple", none, .seq [].toArray 0, [].toArray⟩
noncomputable def ob_38_9 (_ : Params) : Obj := ⟨.none, none, .fields [].toArray, [].toArray⟩
noncomputable def ob_39_9 (_ : Params) : Obj := ⟨.type "tuple", none, .seq [.str (Str.ofString "a") 245, .str (Str.ofString "n") 246].toArray 0, [].toArray⟩
noncomputable def ob_40_9 (_ : Params) : Obj := ⟨.type "tuple", none, .seq [.str (Str.ofString "n") 247, .str (Str.ofString "a_digits") 248, .str (Str.ofString "inner") 249].toArray 0, [].toArray⟩
noncomputable def ob_41_9 (_ : Params) : Obj := ⟨.none, none, .func (mkFd 5 (Str.ofString "_int2digits") (Str.ofString "_int2digits") 0 (.none) (.none) (.none) (.none) (.none) (.none) 0), [].toArray⟩
noncomputable def ob_42_9 (_ : Params) : Obj := ⟨.type "code", none, .fields [.str (Str.ofString "_int2digits") 242, .str (Str.ofString "_int2digits") 243, .str (Str.ofString "/claim/cut.py") 244, .int 70 0, .int 2 0, .int 0 0, .int 0 0, .int 3 0, .ref (nat_lit 37), .bool true, .int 181 0, .ref (nat_lit 38), .none, .ref (nat_lit 39), .ref (nat_lit 40), .ref (nat_lit 41), .int 250 0, .int 70 0, .str (Str.ofString "/claim/cut.py") 251].toArray, [].toArray⟩
noncomputable def ob_43_9 (_ : Params) : Obj := ⟨.type "function", none, .func (mkFd 5 (Str.ofString "_int2digits") (Str.ofString "_int2digits") 3 (.none) (.none) (.none) (.str (Str.ofString "cpy313._pylong") 187) (.ref (nat_lit 42)) (.none) 0), [].toArray⟩
noncomputable def ob_44_9 (_ : Params) : Obj := ⟨.type "tuple", none, .seq [].toArray 0, [].toArray⟩
noncomputable def ob_45_9 (_ : Params) : Obj := ⟨.none, none, .fields [].toArray, [].toArray⟩
noncomputable def ob_46_9 (_ : Params) : Obj := ⟨.type "tuple", none, .seq [.str (Str.ofString "digits") 256, .str (Str.ofString "n") 257].toArray 0, [].toArray⟩
noncomputable def ob_47_9 (_ : Params) : Obj := ⟨.type "tuple", none, .seq [.str (Str.ofString "digits") 258, .str (Str.ofString "n") 259, .str (Str.ofString "inner") 260].toArray 0, [].toArray⟩
noncomputable def ob_48_9 (_ : Params) : Obj := ⟨.none, none, .func (mkFd 6 (Str.ofString "_digits2int") (Str.ofString "_digits2int") 0 (.none) (.none) (.none) (.none) (.none) (.none) 0), [].toArray⟩
noncomputable def ob_49_9 (_ : Params) : Obj := ⟨.type "code", none, .fields [.str (Str.ofString "_digits2int") 253, .str (Str.ofString "_digits2int") 254, .str (Str.ofString "/claim/cut.py") 255, .int 86 0, .int 2 0, .int 0 0, .int 0 0, .int 3 0, .ref (nat_lit 44), .bool true, .int 181 0, .ref (nat_lit 45), .none, .ref (nat_lit 46), .ref (nat_lit 47), .ref (nat_lit 48), .int 261 0, .int 86 0, .str (Str.ofString "/claim/cut.py") 262].toArray, [].toArray⟩
noncomputable def ob_50_9 (_ : Params) : Obj := ⟨.type "function", none, .func (mkFd 6 (Str.ofString "_digits2int") (Str.ofString "_digits2int") 3 (.none) (.none) (.none) (.str (Str.ofString "cpy313._pylong") 187) (.ref (nat_lit 49)) (.none) 0), [].toArray⟩
noncomputable def ob_51_9 (_ : Params) : Obj := ⟨.type "tuple", none, .seq [].toArray 0, [].toArray⟩
noncomputable def ob_52_9 (_ : Params) : Obj := ⟨.none, none, .fields [].toArray, [].toArray⟩
noncomputable def ob_53_9 (_ : Params) : Obj := ⟨.type "tuple", none, .seq [.str (Str.ofString "a") 267, .str (Str.ofString "b") 268, .str (Str.ofString "n") 269, .str (Str.ofString "a_digits") 270, .str (Str.ofString "r") 271, .str (Str.ofString "q_digits") 272, .str (Str.ofString "a_digit") 273, .str (Str.ofString "q_digit") 274, .str (Str.ofString "q") 275].toArray 0, [].toArray⟩
noncomputable def ob_54_9 (_ : Params) : Obj := ⟨.type "tuple", none, .seq [].toArray 0, [].toArray⟩
noncomputable def ob_55_9 (_ : Params) : Obj := ⟨.none, none, .func (mkFd 7 (Str.ofString "_divmod_pos") (Str.ofString "_divmod_pos") 0 (.none) (.none) (.none) (.none) (.none) (.none) 0), [].toArray⟩
noncomputable def ob_56_9 (_ : Params) : Obj := ⟨.type "code", none, .fields [.str (Str.ofString "_divmod_pos") 264, .str (Str.ofString "_divmod_pos") 265, .str (Str.ofString "/claim/cut.py") 266, .int 95 0, .int 2 0, .int 0 0, .int 0 0, .int 3 0, .ref (nat_lit 51), .bool true, .int 181 0, .ref (nat_lit 52), .none, .ref (nat_lit 53), .ref (nat_lit 54), .ref (nat_lit 55), .int 276 0, .int 95 0, .str (Str.ofString "/claim/cut.py") 277].toArray, [].toArray⟩
noncomputable def ob_57_9 (_ : Params) : Obj := ⟨.type "function", none, .func (mkFd 7 (Str.ofString "_divmod_pos") (Str.ofString "_divmod_pos") 3 (.none) (.none) (.none) (.str (Str.ofString "cpy313._pylong") 187) (.ref (nat_lit 56)) (.none) 0), [].toArray⟩
noncomputable def ob_58_9 (_ : Params) : Obj := ⟨.type "tuple", none, .seq [].toArray 0, [].toArray⟩
noncomputable def ob_59_9 (_ : Params) : Obj := ⟨.none, none, .fields [].toArray, [].toArray⟩
noncomputable def ob_60_9 (_ : Params) : Obj := ⟨.type "tuple", none, .seq [.str (Str.ofString "a") 282, .str (Str.ofString "b") 283, .str (Str.ofString "q") 284, .str (Str.ofString "r") 285].toArray 0, [].toArray⟩
noncomputable def ob_61_9 (_ : Params) : Obj := ⟨.type "tuple", none, .seq [].toArray 0, [].toArray⟩
noncomputable def ob_62_9 (_ : Params) : Obj := ⟨.none, none, .func (mkFd 8 (Str.ofString "int_divmod") (Str.ofString "int_divmod") 0 (.none) (.none) (.none) (.none) (.none) (.none) 0), [].toArray⟩
noncomputable def ob_63_9 (_ : Params) : Obj := ⟨.type "code", none, .fields [.str (Str.ofString "int_divmod") 279, .str (Str.ofString "int_divmod") 280, .str (Str.ofString "/claim/cut.py") 281, .int 106 0, .int 2 0, .int 0 0, .int 0 0, .int 3 0, .ref (nat_lit 58), .bool true, .int 181 0, .ref (nat_lit 59), .none, .ref (nat_lit 60), .ref (nat_lit 61), .ref (nat_lit 62), .int 286 0, .int 106 0, .str (Str.ofString "/claim/cut.py") 287].toArray, [].toArray⟩
noncomputable def ob_64_9 (_ : Params) : Obj := ⟨.type "function", none, .func (mkFd 8 (Str.ofString "int_divmod") (Str.ofString "int_divmod") 3 (.none) (.none) (.none) (.str (Str.ofString "cpy313._pylong") 187) (.ref (nat_lit 63)) (.none) 0), [].toArray⟩
noncomputable def ob_3_10 (P : Params) : Obj := ⟨.type "dict", none, .dict [kv P (Str.ofString "__name__") 165 (.str (Str.ofString "cpy313.stringprep") 289), kv P (Str.ofString "__doc__") 166 (.none), kv P (Str.ofString "__package__") 167 (.none), kv P (Str.ofString "__loader__") 168 (.builtin "__main__.__loader__#opaque"), kv P (Str.ofString "__spec__") 169 (.none), kv P (Str.ofString "__annotations__") 170 (.ref (nat_lit 6)), kv P (Str.ofString "__builtins__") 171 (.ref (nat_lit 4)), kv P (Str.ofString "__file__") 173 (.str (Str.ofString "/claim/cut.py") 172), kv P (Str.ofString "__cached__") 174 (.none), kv P (Str.ofString "compute_powers") 208 (.ref (nat_lit 22)), kv P (Str.ofString "_DIV_LIMIT") 210 (.int 4000 209), kv P (Str.ofString "_div2n1n") 227 (.ref (nat_lit 29)), kv P (Str.ofString "_div3n2n") 241 (.ref (nat_lit 36)), kv P (Str.ofString "_int2digits") 252 (.ref (nat_lit 43)), kv P (Str.ofString "_digits2int") 263 (.ref (nat_lit 50)), kv P (Str.ofString "_divmod_pos") 278 (.ref (nat_lit 57)), kv P (Str.ofString "int_divmod") 288 (.ref (nat_lit 64)), kv P (Str.ofString "b1_set") 350 (.ref (nat_lit 72))].toArray 18, [].toArray⟩
noncomputable def ob_65_10 (_ : Params) : Obj := ⟨.type "list", none, .seq [.int 173 291, .int 847 292, .int 6150 293, .int 6155 294, .int 6156 295, .int 6157 296, .int 8203 297, .int 8204 298, .int 8205 299, .int 8288 300, .int 65279 301].toArray 0, [].toArray⟩
noncomputable def ob_66_10 (_ : Params) : Obj := ⟨.type "range", none, .fields [.int 65024 302, .int 65040 303, .int 1 304].toArray, [].toArray⟩
noncomputable def ob_67_10 (_ : Params) : Obj := ⟨.type "list", none, .seq [.int 65024 307, .int 65025 308, .int 65026 309, .int 65027 310, .int 65028 311, .int 65029 312, .int 65030 313, .int 65031 314, .int 65032 315, .int 65033 316, .int 65034 317, .int 65035 318, .int 65036 319, .int 65037 320, .int 65038 321, .int 65039 322].toArray 18, [].toArray⟩
noncomputable def ob_68_10 (_ : Params) : Obj := ⟨.type "range_iterator", none, .fields [.int 65040 0, .int 0 0, .int 1 0].toArray, [].toArray⟩
noncomputable def ob_69_10 (_ : Params) : Obj := ⟨.type "tuple", none, .seq [].toArray 0, [].toArray⟩
noncomputable def ob_70_10 (_ : Params) : Obj := ⟨.type "StopIteration", none, .fields [.ref (nat_lit 69), .none, .none, .none, .bool false, .none].toArray, [].toArray⟩
noncomputable def ob_71_10 (_ : Params) : Obj := ⟨.type "list", none, .seq [.int 173 291, .int 847 292, .int 6150 293, .int 6155 294, .int 6156 295, .int 6157 296, .int 8203 297, .int 8204 298, .int 8205 299, .int 8288 300, .int 65279 301, .int 65024 307, .int 65025 308, .int 65026 309, .int 65027 310, .int 65028 311, .int 65029 312, .int 65030 313, .int 65031 314, .int 65032 315, .int 65033 316, .int 65034 317, .int 65035 318, .int 65036 319, .int 65037 320, .int 65038 321, .int 65039 322].toArray 0, [].toArray⟩
noncomputable def ob_72_10 (P : Params) : Obj := ⟨.type "set", none, .set [(65024, .int 65024 307), (65025, .int 65025 308), (65026, .int 65026 309), (65027, .int 65027 310), (65028, .int 65028 311), (65029, .int 65029 312), (6150, .int 6150 293), (65030, .int 65030 313), (65031, .int 65031 314), (65032, .int 65032 315), (65033, .int 65033 316), (6155, .int 6155 294), (6156, .int 6156 295), (6157, .int 6157 296), (8203, .int 8203 297), (8204, .int 8204 298), (8205, .int 8205 299), (65034, .int 65034 317), (65035, .int 65035 318), (65036, .int 65036 319), (65037, .int 65037 320), (65038, .int 65038 321), (65039, .int 65039 322), (173, .int 173 291), (847, .int 847 292), (8288, .int 8288 300), (65279, .int 65279 301)].toArray 29 { mask := 127, place := #[0, 1, 2, 3, 4, 5, 6, 7, 8, 9, 10, 11, 12, 13, 14, 15, 16, 17, 18, 19, 20, 21, 22, 45, 79, 96, 127], dummies := #[], finger := 0, led := !P.followText "set-order", moves := 2, plain := true }, [].toArray⟩
noncomputable def ob_73_10 (_ : Params) : Obj := ⟨.type "list_iterator", none, .fields [.none, .int 27 0].toArray, [].toArray⟩
noncomputable def ob_74_10 (_ : Params) : Obj := ⟨.type "tuple", none, .seq [].toArray 0, [].toArray⟩
noncomputable def ob_75_10 (_ : Params) : Obj := ⟨.type "StopIteration", none, .fields [.ref (nat_lit 74), .none, .none, .none, .bool false, .none].toArray, [].toArray⟩
noncomputable def ob_3_11 (P : Params) : Obj := ⟨.type "dict", none, .dict [kv P (Str.ofString "__name__") 165 (.str (Str.ofString "cpy313.stringprep") 289), kv P (Str.ofString "__doc__") 166 (.none), kv P (Str.ofString "__package__") 167 (.none), kv P (Str.ofString "__loader__") 168 (.builtin "__main__.__loader__#opaque"), kv P (Str.ofString "__spec__") 169 (.none), kv P (Str.ofString "__annotations__") 170 (.ref (nat_lit 6)), kv P (Str.ofString "__builtins__") 171 (.ref (nat_lit 4)), kv P (Str.ofString "__file__") 173 (.str (Str.ofString "/claim/cut.py") 172), kv P (Str.ofString "__cached__") 174 (.none), kv P (Str.ofString "compute_powers") 208 (.ref (nat_lit 22)), kv P (Str.ofString "_DIV_LIMIT") 210 (.int 4000 209), kv P (Str.ofString "_div2n1n") 227 (.ref (nat_lit 29)), kv P (Str.ofString "_div3n2n") 241 (.ref (nat_lit 36)), kv P (Str.ofString "_int2digits") 252 (.ref (nat_lit 43)), kv P (Str.ofString "_digits2int") 263 (.ref (nat_lit 50)), kv P (Str.ofString "_divmod_pos") 278 (.ref (nat_lit 57)), kv P (Str.ofString "int_divmod") 288 (.ref (nat_lit 64)), kv P (Str.ofString "b1_set") 350 (.ref (nat_lit 72)), kv P (Str.ofString "in_table_b1") 357 (.ref (nat_lit 82))].toArray 19, [].toArray⟩
noncomputable def ob_12_11 (_ : Params) : Obj := ⟨.none, none, .fields [.int 2 0, .int 0 0, .ref (nat_lit 21), .int 44 0, .int 0 0, .ref (nat_lit 28), .int 60 0, .int 0 0, .ref (nat_lit 35), .int 70 0, .int 0 0, .ref (nat_lit 42), .int 86 0, .int 0 0, .ref (nat_lit 49), .int 95 0, .int 0 0, .ref (nat_lit 56), .int 106 0, .int 0 0, .ref (nat_lit 63), .int 119 0, .int 0 0, .ref (nat_lit 81)].toArray, [].toArray⟩
noncomputable def ob_76_11 (_ : Params) : Obj := ⟨.type "tuple", none, .seq [].toArray 0, [].toArray⟩
noncomputable def ob_77_11 (_ : Params) : Obj := ⟨.none, none, .fields [].toArray, [].toArray⟩
noncomputable def ob_78_11 (_ : Params) : Obj := ⟨.type "tuple", none, .seq [.str (Str.ofString "code") 354].toArray 0, [].toArray⟩
noncomputable def ob_79_11 (_ : Params) : Obj := ⟨.type "tuple", none, .seq [].toArray 0, [].toArray⟩
noncomputable def ob_80_11 (_ : Params) : Obj := ⟨.none, none, .func (mkFd 11 (Str.ofString "in_table_b1") (Str.ofString "in_table_b1") 0 (.none) (.none) (.none) (.none) (.none) (.none) 0), [].toArray⟩
noncomputable def ob_81_11 (_ : Params) : Obj := ⟨.type "code", none, .fields [.str (Str.ofString "in_table_b1") 351, .str (Str.ofString "in_table_b1") 352, .str (Str.ofString "/claim/cut.py") 353, .int 119 0, .int 1 0, .int 0 0, .int 0 0, .int 3 0, .ref (nat_lit 76), .bool true, .int 181 0, .ref (nat_lit 77), .none, .ref (nat_lit 78), .ref (nat_lit 79), .ref (nat_lit 80), .int 355 0, .int 119 0, .str (Str.ofString "/claim/cut.py") 356].toArray, [].toArray⟩
noncomputable def ob_82_11 (_ : Params) : Obj := ⟨.type "function", none, .func (mkFd 11 (Str.ofString "in_table_b1") (Str.ofString "in_table_b1") 3 (.none) (.none) (.none) (.str (Str.ofString "cpy313.stringprep") 289) (.ref (nat_lit 81)) (.none) 0), [].toArray⟩
noncomputable def ob_3_12 (P : Params) : Obj := ⟨.type "dict", none, .dict [kv P (Str.ofString "__name__") 165 (.str (Str.ofString "cpy313.stringprep") 289), kv P (Str.ofString "__doc__") 166 (.none), kv P (Str.ofString "__package__") 167 (.none), kv P (Str.ofString "__loader__") 168 (.builtin "__main__.__loader__#opaque"), kv P (Str.ofString "__spec__") 169 (.none), kv P (Str.ofString "__annotations__") 170 (.ref (nat_lit 6)), kv P (Str.ofString "__builtins__") 171 (.ref (nat_lit 4)), kv P (Str.ofString "__file__") 173 (.str (Str.ofString "/claim/cut.py") 172), kv P (Str.ofString "__cached__") 174 (.none), kv P (Str.ofString "compute_powers") 208 (.ref (nat_lit 22)), kv P (Str.ofString "_DIV_LIMIT") 210 (.int 4000 209), kv P (Str.ofString "_div2n1n") 227 (.ref (nat_lit 29)), kv P (Str.ofString "_div3n2n") 241 (.ref (nat_lit 36)), kv P (Str.ofString "_int2digits") 252 (.ref (nat_lit 43)), kv P (Str.ofString "_digits2int") 263 (.ref (nat_lit 50)), kv P (Str.ofString "_divmod_pos") 278 (.ref (nat_lit 57)), kv P (Str.ofString "int_divmod") 288 (.ref (nat_lit 64)), kv P (Str.ofString "b1_set") 350 (.ref (nat_lit 72)), kv P (Str.ofString "in_table_b1") 357 (.ref (nat_lit 82)), kv P (Str.ofString "b3_exceptions") 2308 (.ref (nat_lit 83))].toArray 20, [].toArray⟩
noncomputable def ob_121_12 (_ : Params) : Obj := ⟨.type "dict", none, .dict [ki 120742 2296 120742 (.str (Str.mk #[967]) 2297), ki 120743 2298 120743 (.str (Str.mk #[968]) 2299), ki 120744 2300 120744 (.str (Str.mk #[969]) 2301), ki 120763 2302 120763 (.str (Str.mk #[963]) 2303)].toArray 4, [].toArray⟩
noncomputable def ob_3_21 (P : Params) : Obj := ⟨.type "dict", none, .dict [kv P (Str.ofString "__name__") 165 (.str (Str.ofString "cpy313.traceback") 2337), kv P (Str.ofString "__doc__") 166 (.none), kv P (Str.ofString "__package__") 167 (.none), kv P (Str.ofString "__loader__") 168 (.builtin "__main__.__loader__#opaque"), kv P (Str.ofString "__spec__") 169 (.none), kv P (Str.ofString "__annotations__") 170 (.ref (nat_lit 6)), kv P (Str.ofString "__builtins__") 171 (.ref (nat_lit 4)), kv P (Str.ofString "__file__") 173 (.str (Str.ofString "/claim/cut.py") 172), kv P (Str.ofString "__cached__") 174 (.none), kv P (Str.ofString "compute_powers") 208 (.ref (nat_lit 22)), kv P (Str.ofString "_DIV_LIMIT") 210 (.int 4000 209), kv P (Str.ofString "_div2n1n") 227 (.ref (nat_lit 29)), kv P (Str.ofString "_div3n2n") 241 (.ref (nat_lit 36)), kv P (Str.ofString "_int2digits") 252 (.ref (nat_lit 43)), kv P (Str.ofString "_digits2int") 263 (.ref (nat_lit 50)), kv P (Str.ofString "_divmod_pos") 278 (.ref (nat_lit 57)), kv P (Str.ofString "int_divmod") 288 (.ref (nat_lit 64)), kv P (Str.ofString "b1_set") 350 (.ref (nat_lit 72)), kv P (Str.ofString "in_table_b1") 357 (.ref (nat_lit 82)), kv P (Str.ofString "b3_exceptions") 2308 (.ref (nat_lit 83)), kv P (Str.ofString "map_table_b3") 2316 (.ref (nat_lit 128)), kv P (Str.ofString "ENDMARKER") 2320 (.int 0 2319), kv P (Str.ofString "NT_OFFSET") 2322 (.int 256 2321), kv P (Str.ofString "ISNONTERMINAL") 2329 (.ref (nat_lit 135)), kv P (Str.ofString "ISEOF") 2336 (.ref (nat_lit 142)), kv P (Str.ofString "_MAX_STRING_SIZE") 2340 (.int 40 2339), kv P (Str.ofString "_MOVE_COST") 2342 (.int 2 2341)].toArray 27, [].toArray⟩
noncomputable def ob_12_21 (_ : Params) : Obj := ⟨.none, none, .fields [.int 2 0, .int 0 0, .ref (nat_lit 21), .int 44 0, .int 0 0, .ref (nat_lit 28), .int 60 0, .int 0 0, .ref (nat_lit 35), .int 70 0, .int 0 0, .ref (nat_lit 42), .int 86 0, .int 0 0, .ref (nat_lit 49), .int 95 0, .int 0 0, .ref (nat_lit 56), .int 106 0, .int 0 0, .ref (nat_lit 63), .int 119 0, .int 0 0, .ref (nat_lit 81), .int 122 0, .int 0 0, .ref (nat_lit 127), .int 130 0, .int 0 0, .ref (nat_lit 134), .int 132 0, .int 0 0, .ref (nat_lit 141)].toArray, [].toArray⟩
noncomputable def ob_122_21 (_ : Params) : Obj := ⟨.type "tuple", none, .seq [].toArray 0, [].toArray⟩
noncomputable def ob_123_21 (_ : Params) : Obj := ⟨.none, none, .fields [].toArray, [].toArray⟩
noncomputable def ob_124_21 (_ : Params) : Obj := ⟨.type "tuple", none, .seq [.str (Str.ofString "code") 2312, .str (Str.ofString "r") 2313].toArray 0, [].toArray⟩
noncomputable def ob_125_21 (_ : Params) : Obj := ⟨.type "tuple", none, .seq [].toArray 0, [].toArray⟩
noncomputable def ob_126_21 (_ : Params) : Obj := ⟨.none, none, .func (mkFd 13 (Str.ofString "map_table_b3") (Str.ofString "map_table_b3") 0 (.none) (.none) (.none) (.none) (.none) (.none) 0), [].toArray⟩
noncomputable def ob_127_21 (_ : Params) : Obj := ⟨.type "code", none, .fields [.str (Str.ofString "map_table_b3") 2309, .str (Str.ofString "map_table_b3") 2310, .str (Str.ofString "/claim/cut.py") 2311, .int 122 0, .int 1 0, .int 0 0, .int 0 0, .int 3 0, .ref (nat_lit 122), .bool true, .int 181 0, .ref (nat_lit 123), .none, .ref (nat_lit 124), .ref (nat_lit 125), .ref (nat_lit 126), .int 2314 0, .int 122 0, .str (Str.ofString "/claim/cut.py") 2315].toArray, [].toArray⟩
noncomputable def ob_128_21 (_ : Params) : Obj := ⟨.type "function", none, .func (mkFd 13 (Str.ofString "map_table_b3") (Str.ofString "map_table_b3") 3 (.none) (.none) (.none) (.str (Str.ofString "cpy313.stringprep") 289) (.ref (nat_lit 127)) (.none) 0), [].toArray⟩
noncomputable def ob_129_21 (_ : Params) : Obj := ⟨.type "tuple", none, .seq [].toArray 0, [].toArray⟩
noncomputable def ob_130_21 (_ : Params) : Obj := ⟨.none, none, .fields [].toArray, [].toArray⟩
noncomputable def ob_131_21 (_ : Params) : Obj := ⟨.type "tuple", none, .seq [.str (Str.ofString "x") 2326].toArray 0, [].toArray⟩
noncomputable def ob_132_21 (_ : Params) : Obj := ⟨.type "tuple", none, .seq [].toArray 0, [].toArray⟩
noncomputable def ob_133_21 (_ : Params) : Obj := ⟨.none, none, .func (mkFd 17 (Str.ofString "ISNONTERMINAL") (Str.ofString "ISNONTERMINAL") 0 (.none) (.none) (.none) (.none) (.none) (.none) 0), [].toArray⟩
noncomputable def ob_134_21 (_ : Params) : Obj := ⟨.type "code", none, .fields [.str (Str.ofString "ISNONTERMINAL") 2323, .str (Str.ofString "ISNONTERMINAL") 2324, .str (Str.ofString "/claim/cut.py") 2325, .int 130 0, .int 1 0, .int 0 0, .int 0 0, .int 3 0, .ref (nat_lit 129), .bool true, .int 181 0, .ref (nat_lit 130), .none, .ref (nat_lit 131), .ref (nat_lit 132), .ref (nat_lit 133), .int 2327 0, .int 130 0, .str (Str.ofString "/claim/cut.py") 2328].toArray, [].toArray⟩
noncomputable def ob_135_21 (_ : Params) : Obj := ⟨.type "function", none, .func (mkFd 17 (Str.ofString "ISNONTERMINAL") (Str.ofString "ISNONTERMINAL") 3 (.none) (.none) (.none) (.str (Str.ofString "cpy313.token") 2317) (.ref (nat_lit 134)) (.none) 0), [].toArray⟩
noncomputable def ob_136_21 (_ : Params) : Obj := ⟨.type "tuple", none, .seq [].toArray 0, [].toArray⟩
noncomputable def ob_137_21 (_ : Params) : Obj := ⟨.none, none, .fields [].toArray, [].toArray⟩
noncomputable def ob_138_21 (_ : Params) : Obj := ⟨.type "tuple", none, .seq [.str (Str.ofString "x") 2333].toArray 0, [].toArray⟩
noncomputable def ob_139_21 (_ : Params) : Obj := ⟨.type "tuple", none, .seq [].toArray 0, [].toArray⟩
noncomputable def ob_140_21 (_ : Params) : Obj := ⟨.none, none, .func (mkFd 18 (Str.ofString "ISEOF") (Str.ofString "ISEOF") 0 (.none) (.none) (.none) (.none) (.none) (.none) 0), [].toArray⟩
noncomputable def ob_141_21 (_ : Params) : Obj := ⟨.type "code", none, .fields [.str (Str.ofString "ISEOF") 2330, .str (Str.ofString "ISEOF") 2331, .str (Str.ofString "/claim/cut.py") 2332, .int 132 0, .int 1 0, .int 0 0, .int 0 0, .int 3 0, .ref (nat_lit 136), .bool true, .int 181 0, .ref (nat_lit 137), .none, .ref (nat_lit 138), .ref (nat_lit 139), .ref (nat_lit 140), .int 2334 0, .int 132 0, .str (Str.ofString "/claim/cut.py") 2335].toArray, [].toArray⟩
noncomputable def ob_142_21 (_ : Params) : Obj := ⟨.type "function", none, .func (mkFd 18 (Str.ofString "ISEOF") (Str.ofString "ISEOF") 3 (.none) (.none) (.none) (.str (Str.ofString "cpy313.token") 2317) (.ref (nat_lit 141)) (.none) 0), [].toArray⟩
noncomputable def ob_3_31 (P : Params) : Obj := ⟨.type "dict", none, .dict [kv P (Str.ofString "__name__") 165 (.str (Str.ofString "law_to0084_01") 2373), kv P (Str.ofString "__doc__") 166 (.none), kv P (Str.ofString "__package__") 167 (.none), kv P (Str.ofString "__loader__") 168 (.builtin "__main__.__loader__#opaque"), kv P (Str.ofString "__spec__") 169 (.none), kv P (Str.ofString "__annotations__") 170 (.ref (nat_lit 6)), kv P (Str.ofString "__builtins__") 171 (.ref (nat_lit 4)), kv P (Str.ofString "__file__") 173 (.str (Str.ofString "/claim/cut.py") 172), kv P (Str.ofString "__cached__") 174 (.none), kv P (Str.ofString "compute_powers") 208 (.ref (nat_lit 22)), kv P (Str.ofString "_DIV_LIMIT") 210 (.int 4000 209), kv P (Str.ofString "_div2n1n") 227 (.ref (nat_lit 29)), kv P (Str.ofString "_div3n2n") 241 (.ref (nat_lit 36)), kv P (Str.ofString "_int2digits") 252 (.ref (nat_lit 43)), kv P (Str.ofString "_digits2int") 263 (.ref (nat_lit 50)), kv P (Str.ofString "_divmod_pos") 278 (.ref (nat_lit 57)), kv P (Str.ofString "int_divmod") 288 (.ref (nat_lit 64)), kv P (Str.ofString "b1_set") 350 (.ref (nat_lit 72)), kv P (Str.ofString "in_table_b1") 357 (.ref (nat_lit 82)), kv P (Str.ofString "b3_exceptions") 2308 (.ref (nat_lit 83)), kv P (Str.ofString "map_table_b3") 2316 (.ref (nat_lit 128)), kv P (Str.ofString "ENDMARKER") 2320 (.int 0 2319), kv P (Str.ofString "NT_OFFSET") 2322 (.int 256 2321), kv P (Str.ofString "ISNONTERMINAL") 2329 (.ref (nat_lit 135)), kv P (Str.ofString "ISEOF") 2336 (.ref (nat_lit 142)), kv P (Str.ofString "_MAX_STRING_SIZE") 2340 (.int 40 2339), kv P (Str.ofString "_MOVE_COST") 2342 (.int 2 2341), kv P (Str.ofString "_CASE_COST") 2344 (.int 1 2343), kv P (Str.ofString "_substitution_cost") 2352 (.ref (nat_lit 149)), kv P (Str.ofString "_levenshtein_distance") 2372 (.ref (nat_lit 156)), kv P (Str.ofString "_law_pieces") 2380 (.ref (nat_lit 163)), kv P (Str.ofString "_law_prepared") 2386 (.ref (nat_lit 168)), kv P (Str.ofString "_law_twice") 2394 (.ref (nat_lit 175)), kv P (Str.ofString "_law_walked") 2408 (.ref (nat_lit 182)), kv P (Str.ofString "_law_told") 2424 (.ref (nat_lit 189)), kv P (Str.ofString "law") 2430 (.ref (nat_lit 194))].toArray 36, [].toArray⟩
noncomputable def ob_12_31 (_ : Params) : Obj := ⟨.none, none, .fields [.int 2 0, .int 0 0, .ref (nat_lit 21), .int 44 0, .int 0 0, .ref (nat_lit 28), .int 60 0, .int 0 0, .ref (nat_lit 35), .int 70 0, .int 0 0, .ref (nat_lit 42), .int 86 0, .int 0 0, .ref (nat_lit 49), .int 95 0, .int 0 0, .ref (nat_lit 56), .int 106 0, .int 0 0, .ref (nat_lit 63), .int 119 0, .int 0 0, .ref (nat_lit 81), .int 122 0, .int 0 0, .ref (nat_lit 127), .int 130 0, .int 0 0, .ref (nat_lit 134), .int 132 0, .int 0 0, .ref (nat_lit 141), .int 138 0, .int 0 0, .ref (nat_lit 148), .int 144 0, .int 0 0, .ref (nat_lit 155), .int 183 0, .int 0 0, .ref (nat_lit 162), .int 185 0, .int 0 0, .ref (nat_lit 167), .int 187 0, .int 0 0, .ref (nat_lit 174), .int 189 0, .int 0 0, .ref (nat_lit 181), .int 200 0, .int 0 0, .ref (nat_lit 188), .int 208 0, .int 0 0, .ref (nat_lit 193)].toArray, [].toArray⟩
noncomputable def ob_143_31 (_ : Params) : Obj := ⟨.type "tuple", none, .seq [].toArray 0, [].toArray⟩
noncomputable def ob_144_31 (_ : Params) : Obj := ⟨.none, none, .fields [].toArray, [].toArray⟩
noncomputable def ob_145_31 (_ : Params) : Obj := ⟨.type "tuple", none, .seq [.str (Str.ofString "ch_a") 2348, .str (Str.ofString "ch_b") 2349].toArray 0, [].toArray⟩
noncomputable def ob_146_31 (_ : Params) : Obj := ⟨.type "tuple", none, .seq [].toArray 0, [].toArray⟩
noncomputable def ob_147_31 (_ : Params) : Obj := ⟨.none, none, .func (mkFd 23 (Str.ofString "_substitution_cost") (Str.ofString "_substitution_cost") 0 (.none) (.none) (.none) (.none) (.none) (.none) 0), [].toArray⟩
noncomputable def ob_148_31 (_ : Params) : Obj := ⟨.type "code", none, .fields [.str (Str.ofString "_substitution_cost") 2345, .str (Str.ofString "_substitution_cost") 2346, .str (Str.ofString "/claim/cut.py") 2347, .int 138 0, .int 2 0, .int 0 0, .int 0 0, .int 3 0, .ref (nat_lit 143), .bool true, .int 181 0, .ref (nat_lit 144), .none, .ref (nat_lit 145), .ref (nat_lit 146), .ref (nat_lit 147), .int 2350 0, .int 138 0, .str (Str.ofString "/claim/cut.py") 2351].toArray, [].toArray⟩
noncomputable def ob_149_31 (_ : Params) : Obj := ⟨.type "function", none, .func (mkFd 23 (Str.ofString "_substitution_cost") (Str.ofString "_substitution_cost") 3 (.none) (.none) (.none) (.str (Str.ofString "cpy313.traceback") 2337) (.ref (nat_lit 148)) (.none) 0), [].toArray⟩
noncomputable def ob_150_31 (_ : Params) : Obj := ⟨.type "tuple", none, .seq [].toArray 0, [].toArray⟩
noncomputable def ob_151_31 (_ : Params) : Obj := ⟨.none, none, .fields [].toArray, [].toArray⟩
noncomputable def ob_152_31 (_ : Params) : Obj := ⟨.type "tuple", none, .seq [.str (Str.ofString "a") 2356, .str (Str.ofString "b") 2357, .str (Str.ofString "max_cost") 2358, .str (Str.ofString "pre") 2359, .str (Str.ofString "post") 2360, .str (Str.ofString "row") 2361, .str (Str.ofString "result") 2362, .str (Str.ofString "bindex") 2363, .str (Str.ofString "bchar") 2364, .str (Str.ofString "distance") 2365, .str (Str.ofString "minimum") 2366, .str (Str.ofString "index") 2367, .str (Str.ofString "substitute") 2368, .str (Str.ofString "insert_delete") 2369].toArray 0, [].toArray⟩
noncomputable def ob_153_31 (_ : Params) : Obj := ⟨.type "tuple", none, .seq [].toArray 0, [].toArray⟩
noncomputable def ob_154_31 (_ : Params) : Obj := ⟨.none, none, .func (mkFd 24 (Str.ofString "_levenshtein_distance") (Str.ofString "_levenshtein_distance") 0 (.none) (.none) (.none) (.none) (.none) (.none) 0), [].toArray⟩
noncomputable def ob_155_31 (_ : Params) : Obj := ⟨.type "code", none, .fields [.str (Str.ofString "_levenshtein_distance") 2353, .str (Str.ofString "_levenshtein_distance") 2354, .str (Str.ofString "/claim/cut.py") 2355, .int 144 0, .int 3 0, .int 0 0, .int 0 0, .int 3 0, .ref (nat_lit 150), .bool true, .int 181 0, .ref (nat_lit 151), .none, .ref (nat_lit 152), .ref (nat_lit 153), .ref (nat_lit 154), .int 2370 0, .int 144 0, .str (Str.ofString "/claim/cut.py") 2371].toArray, [].toArray⟩
noncomputable def ob_156_31 (_ : Params) : Obj := ⟨.type "function", none, .func (mkFd 24 (Str.ofString "_levenshtein_distance") (Str.ofString "_levenshtein_distance") 3 (.none) (.none) (.none) (.str (Str.ofString "cpy313.traceback") 2337) (.ref (nat_lit 155)) (.none) 0), [].toArray⟩
noncomputable def ob_157_31 (_ : Params) : Obj := ⟨.type "tuple", none, .seq [].toArray 0, [].toArray⟩
noncomputable def ob_158_31 (_ : Params) : Obj := ⟨.none, none, .fields [].toArray, [].toArray⟩
noncomputable def ob_159_31 (_ : Params) : Obj := ⟨.type "tuple", none, .seq [].toArray 0, [].toArray⟩
noncomputable def ob_160_31 (_ : Params) : Obj := ⟨.type "tuple", none, .seq [].toArray 0, [].toArray⟩
noncomputable def ob_161_31 (_ : Params) : Obj := ⟨.none, none, .func (mkFd 26 (Str.ofString "_law_pieces") (Str.ofString "_law_pieces") 0 (.none) (.none) (.none) (.none) (.none) (.none) 0), [].toArray⟩
noncomputable def ob_162_31 (_ : Params) : Obj := ⟨.type "code", none, .fields [.str (Str.ofString "_law_pieces") 2375, .str (Str.ofString "_law_pieces") 2376, .str (Str.ofString "/claim/cut.py") 2377, .int 183 0, .int 0 0, .int 0 0, .int 0 0, .int 3 0, .ref (nat_lit 157), .bool true, .int 181 0, .ref (nat_lit 158), .none, .ref (nat_lit 159), .ref (nat_lit 160), .ref (nat_lit 161), .int 2378 0, .int 183 0, .str (Str.ofString "/claim/cut.py") 2379].toArray, [].toArray⟩
noncomputable def ob_163_31 (_ : Params) : Obj := ⟨.type "function", none, .func (mkFd 26 (Str.ofString "_law_pieces") (Str.ofString "_law_pieces") 3 (.none) (.none) (.none) (.str (Str.ofString "law_to0084_01") 2373) (.ref (nat_lit 162)) (.none) 0), [].toArray⟩
noncomputable def ob_164_31 (_ : Params) : Obj := ⟨.type "tuple", none, .seq [].toArray 0, [].toArray⟩
noncomputable def ob_165_31 (_ : Params) : Obj := ⟨.none, none, .fields [].toArray, [].toArray⟩
noncomputable def ob_166_31 (_ : Params) : Obj := ⟨.none, none, .func (mkFd 27 (Str.ofString "_law_prepared") (Str.ofString "_law_prepared") 0 (.none) (.none) (.none) (.none) (.none) (.none) 0), [].toArray⟩
noncomputable def ob_167_31 (_ : Params) : Obj := ⟨.type "code", none, .fields [.str (Str.ofString "_law_prepared") 2381, .str (Str.ofString "_law_prepared") 2382, .str (Str.ofString "/claim/cut.py") 2383, .int 185 0, .int 1 0, .int 0 0, .int 0 0, .int 3 0, .ref (nat_lit 164), .bool true, .int 181 0, .ref (nat_lit 165), .none, .none, .none, .ref (nat_lit 166), .int 2384 0, .int 185 0, .str (Str.ofString "/claim/cut.py") 2385].toArray, [].toArray⟩
noncomputable def ob_168_31 (_ : Params) : Obj := ⟨.type "function", none, .func (mkFd 27 (Str.ofString "_law_prepared") (Str.ofString "_law_prepared") 3 (.none) (.none) (.none) (.str (Str.ofString "law_to0084_01") 2373) (.ref (nat_lit 167)) (.none) 0), [].toArray⟩
noncomputable def ob_169_31 (_ : Params) : Obj := ⟨.type "tuple", none, .seq [].toArray 0, [].toArray⟩
noncomputable def ob_170_31 (_ : Params) : Obj := ⟨.none, none, .fields [].toArray, [].toArray⟩
noncomputable def ob_171_31 (_ : Params) : Obj := ⟨.type "tuple", none, .seq [.str (Str.ofString "text") 2390, .str (Str.ofString "name") 2391].toArray 0, [].toArray⟩
noncomputable def ob_172_31 (_ : Params) : Obj := ⟨.type "tuple", none, .seq [].toArray 0, [].toArray⟩
noncomputable def ob_173_31 (_ : Params) : Obj := ⟨.none, none, .func (mkFd 28 (Str.ofString "_law_twice") (Str.ofString "_law_twice") 0 (.none) (.none) (.none) (.none) (.none) (.none) 0), [].toArray⟩
noncomputable def ob_174_31 (_ : Params) : Obj := ⟨.type "code", none, .fields [.str (Str.ofString "_law_twice") 2387, .str (Str.ofString "_law_twice") 2388, .str (Str.ofString "/claim/cut.py") 2389, .int 187 0, .int 2 0, .int 0 0, .int 0 0, .int 3 0, .ref (nat_lit 169), .bool true, .int 181 0, .ref (nat_lit 170), .none, .ref (nat_lit 171), .ref (nat_lit 172), .ref (nat_lit 173), .int 2392 0, .int 187 0, .str (Str.ofString "/claim/cut.py") 2393].toArray, [].toArray⟩
noncomputable def ob_175_31 (_ : Params) : Obj := ⟨.type "function", none, .func (mkFd 28 (Str.ofString "_law_twice") (Str.ofString "_law_twice") 3 (.none) (.none) (.none) (.str (Str.ofString "law_to0084_01") 2373) (.ref (nat_lit 174)) (.none) 0), [].toArray⟩
noncomputable def ob_176_31 (_ : Params) : Obj := ⟨.type "tuple", none, .seq [].toArray 0, [].toArray⟩
noncomputable def ob_177_31 (_ : Params) : Obj := ⟨.none, none, .fields [].toArray, [].toArray⟩
noncomputable def ob_178_31 (_ : Params) : Obj := ⟨.type "tuple", none, .seq [.str (Str.ofString "heads") 2398, .str (Str.ofString "most") 2399, .str (Str.ofString "found") 2400, .str (Str.ofString "waiting") 2401, .str (Str.ofString "row") 2402, .str (Str.ofString "key") 2403, .str (Str.ofString "used") 2404, .str (Str.ofString "rule") 2405].toArray 0, [].toArray⟩
noncomputable def ob_179_31 (_ : Params) : Obj := ⟨.type "tuple", none, .seq [].toArray 0, [].toArray⟩
noncomputable def ob_180_31 (_ : Params) : Obj := ⟨.none, none, .func (mkFd 29 (Str.ofString "_law_walked") (Str.ofString "_law_walked") 0 (.none) (.none) (.none) (.none) (.none) (.none) 0), [].toArray⟩
noncomputable def ob_181_31 (_ : Params) : Obj := ⟨.type "code", none, .fields [.str (Str.ofString "_law_walked") 2395, .str (Str.ofString "_law_walked") 2396, .str (Str.ofString "/claim/cut.py") 2397, .int 189 0, .int 2 0, .int 0 0, .int 0 0, .int 3 0, .ref (nat_lit 176), .bool true, .int 181 0, .ref (nat_lit 177), .none, .ref (nat_lit 178), .ref (nat_lit 179), .ref (nat_lit 180), .int 2406 0, .int 189 0, .str (Str.ofString "/claim/cut.py") 2407].toArray, [].toArray⟩
noncomputable def ob_182_31 (_ : Params) : Obj := ⟨.type "function", none, .func (mkFd 29 (Str.ofString "_law_walked") (Str.ofString "_law_walked") 3 (.none) (.none) (.none) (.str (Str.ofString "law_to0084_01") 2373) (.ref (nat_lit 181)) (.none) 0), [].toArray⟩
noncomputable def ob_183_31 (_ : Params) : Obj := ⟨.type "tuple", none, .seq [].toArray 0, [].toArray⟩
noncomputable def ob_184_31 (_ : Params) : Obj := ⟨.none, none, .fields [].toArray, [].toArray⟩
noncomputable def ob_185_31 (_ : Params) : Obj := ⟨.type "tuple", none, .seq [.str (Str.ofString "numbers") 2412, .str (Str.ofString "pascal") 2413, .str (Str.ofString "iotas") 2414, .str (Str.ofString "a") 2415, .str (Str.ofString "b") 2416, .str (Str.ofString "c") 2417, .str (Str.ofString "e") 2418, .str (Str.ofString "n") 2419, .str (Str.ofString "m") 2420, .str (Str.ofString "brought") 2421].toArray 0, [].toArray⟩
noncomputable def ob_186_31 (_ : Params) : Obj := ⟨.type "tuple", none, .seq [].toArray 0, [].toArray⟩
noncomputable def ob_187_31 (_ : Params) : Obj := ⟨.none, none, .func (mkFd 30 (Str.ofString "_law_told") (Str.ofString "_law_told") 0 (.none) (.none) (.none) (.none) (.none) (.none) 0), [].toArray⟩
noncomputable def ob_188_31 (_ : Params) : Obj := ⟨.type "code", none, .fields [.str (Str.ofString "_law_told") 2409, .str (Str.ofString "_law_told") 2410, .str (Str.ofString "/claim/cut.py") 2411, .int 200 0, .int 3 0, .int 0 0, .int 0 0, .int 3 0, .ref (nat_lit 183), .bool true, .int 181 0, .ref (nat_lit 184), .none, .ref (nat_lit 185), .ref (nat_lit 186), .ref (nat_lit 187), .int 2422 0, .int 200 0, .str (Str.ofString "/claim/cut.py") 2423].toArray, [].toArray⟩
noncomputable def ob_189_31 (_ : Params) : Obj := ⟨.type "function", none, .func (mkFd 30 (Str.ofString "_law_told") (Str.ofString "_law_told") 3 (.none) (.none) (.none) (.str (Str.ofString "law_to0084_01") 2373) (.ref (nat_lit 188)) (.none) 0), [].toArray⟩
noncomputable def ob_190_31 (_ : Params) : Obj := ⟨.type "tuple", none, .seq [].toArray 0, [].toArray⟩
noncomputable def ob_191_31 (_ : Params) : Obj := ⟨.none, none, .fields [].toArray, [].toArray⟩
noncomputable def ob_192_31 (_ : Params) : Obj := ⟨.none, none, .func (mkFd 31 (Str.ofString "law") (Str.ofString "law") 0 (.none) (.none) (.none) (.none) (.none) (.none) 0), [].toArray⟩
noncomputable def ob_193_31 (_ : Params) : Obj := ⟨.type "code", none, .fields [.str (Str.ofString "law") 2425, .str (Str.ofString "law") 2426, .str (Str.ofString "/claim/cut.py") 2427, .int 208 0, .int 1 0, .int 0 0, .int 0 0, .int 3 0, .ref (nat_lit 190), .bool true, .int 181 0, .ref (nat_lit 191), .none, .none, .none, .ref (nat_lit 192), .int 2428 0, .int 208 0, .str (Str.ofString "/claim/cut.py") 2429].toArray, [].toArray⟩
noncomputable def ob_194_31 (_ : Params) : Obj := ⟨.type "function", none, .func (mkFd 31 (Str.ofString "law") (Str.ofString "law") 3 (.none) (.none) (.none) (.str (Str.ofString "law_to0084_01") 2373) (.ref (nat_lit 193)) (.none) 0), [].toArray⟩
noncomputable def tr_a (P : Params) : BT := (.node (boot_o_0 P) (.node (boot_o_1 P) (.node (boot_o_3 P) (.node (boot_o_7 P) .nil .nil) (.node (ob_11_a P) .nil .nil)) (.node (boot_o_5 P) (.node (boot_o_9 P) .nil .nil) (.node (ob_13_a P) .nil .nil))) (.node (boot_o_2 P) (.node (boot_o_4 P) (.node (boot_o_8 P) .nil .nil) (.node (ob_12_a P) .nil .nil)) (.node (boot_o_6 P) (.node (boot_o_10 P) .nil .nil) (.node (ob_14_a P) .nil .nil))))
noncomputable def tr_b (P : Params) : BT := (.node (boot_o_0 P) (.node (boot_o_1 P) (.node (boot_o_3 P) (.node (boot_o_7 P) .nil .nil) (.node (ob_11_a P) .nil .nil)) (.node (boot_o_5 P) (.node (boot_o_9 P) .nil .nil) (.node (ob_13_a P) .nil .nil))) (.node (boot_o_2 P) (.node (boot_o_4 P) (.node (boot_o_8 P) .nil .nil) (.node (ob_12_a P) .nil .nil)) (.node (boot_o_6 P) (.node (boot_o_10 P) .nil .nil) (.node (ob_14_a P) .nil .nil))))
noncomputable def tr_9 (P : Params) : BT := (.node (boot_o_0 P) (.node (boot_o_1 P) (.node (ob_3_9 P) (.node (boot_o_7 P) (.node (ob_15_9 P) (.node (ob_31_9 P) (.node (ob_63_9 P) .nil .nil) .nil) (.node (ob_47_9 P) .nil .nil)) (.node (ob_23_9 P) (.node (ob_39_9 P) .nil .nil) (.node (ob_55_9 P) .nil .nil))) (.node (ob_11_a P) (.node (ob_19_9 P) (.node (ob_35_9 P) .nil .nil) (.node (ob_51_9 P) .nil .nil)) (.node (ob_27_9 P) (.node (ob_43_9 P) .nil .nil) (.node (ob_59_9 P) .nil .nil)))) (.node (boot_o_5 P) (.node (boot_o_9 P) (.node (ob_17_9 P) (.node (ob_33_9 P) .nil .nil) (.node (ob_49_9 P) .nil .nil)) (.node (ob_25_9 P) (.node (ob_41_9 P) .nil .nil) (.node (ob_57_9 P) .nil .nil))) (.node (ob_13_a P) (.node (ob_21_9 P) (.node (ob_37_9 P) .nil .nil) (.node (ob_53_9 P) .nil .nil)) (.node (ob_29_9 P) (.node (ob_45_9 P) .nil .nil) (.node (ob_61_9 P) .nil .nil))))) (.node (boot_o_2 P) (.node (boot_o_4 P) (.node (boot_o_8 P) (.node (ob_16_9 P) (.node (ob_32_9 P) (.node (ob_64_9 P) .nil .nil) .nil) (.node (ob_48_9 P) .nil .nil)) (.node (ob_24_9 P) (.node (ob_40_9 P) .nil .nil) (.node (ob_56_9 P) .nil .nil))) (.node (ob_12_9 P) (.node (ob_20_9 P) (.node (ob_36_9 P) .nil .nil) (.node (ob_52_9 P) .nil .nil)) (.node (ob_28_9 P) (.node (ob_44_9 P) .nil .nil) (.node (ob_60_9 P) .nil .nil)))) (.node (boot_o_6 P) (.node (boot_o_10 P) (.node (ob_18_9 P) (.node (ob_34_9 P) .nil .nil) (.node (ob_50_9 P) .nil .nil)) (.node (ob_26_9 P) (.node (ob_42_9 P) .nil .nil) (.node (ob_58_9 P) .nil .nil))) (.node (ob_14_a P) (.node (ob_22_9 P) (.node (ob_38_9 P) .nil .nil) (.node (ob_54_9 P) .nil .nil)) (.node (ob_30_9 P) (.node (ob_46_9 P) .nil .nil) (.node (ob_62_9 P) .nil .nil))))))
noncomputable def tr_10 (P : Params) : BT := (.node (boot_o_0 P) (.node (boot_o_1 P) (.node (ob_3_10 P) (.node (boot_o_7 P) (.node (ob_15_9 P) (.node (ob_31_9 P) (.node (ob_63_9 P) .nil .nil) .nil) (.node (ob_47_9 P) .nil .nil)) (.node (ob_23_9 P) (.node (ob_39_9 P) (.node (ob_71_10 P) .nil .nil) .nil) (.node (ob_55_9 P) .nil .nil))) (.node (ob_11_a P) (.node (ob_19_9 P) (.node (ob_35_9 P) (.node (ob_67_10 P) .nil .nil) .nil) (.node (ob_51_9 P) .nil .nil)) (.node (ob_27_9 P) (.node (ob_43_9 P) (.node (ob_75_10 P) .nil .nil) .nil) (.node (ob_59_9 P) .nil .nil)))) (.node (boot_o_5 P) (.node (boot_o_9 P) (.node (ob_17_9 P) (.node (ob_33_9 P) (.node (ob_65_10 P) .nil .nil) .nil) (.node (ob_49_9 P) .nil .nil)) (.node (ob_25_9 P) (.node (ob_41_9 P) (.node (ob_73_10 P) .nil .nil) .nil) (.node (ob_57_9 P) .nil .nil))) (.node (ob_13_a P) (.node (ob_21_9 P) (.node (ob_37_9 P) (.node (ob_69_10 P) .nil .nil) .nil) (.node (ob_53_9 P) .nil .nil)) (.node (ob_29_9 P) (.node (ob_45_9 P) .nil .nil) (.node (ob_61_9 P) .nil .nil))))) (.node (boot_o_2 P) (.node (boot_o_4 P) (.node (boot_o_8 P) (.node (ob_16_9 P) (.node (ob_32_9 P) (.node (ob_64_9 P) .nil .nil) .nil) (.node (ob_48_9 P) .nil .nil)) (.node (ob_24_9 P) (.node (ob_40_9 P) (.node (ob_72_10 P) .nil .nil) .nil) (.node (ob_56_9 P) .nil .nil))) (.node (ob_12_9 P) (.node (ob_20_9 P) (.node (ob_36_9 P) (.node (ob_68_10 P) .nil .nil) .nil) (.node (ob_52_9 P) .nil .nil)) (.node (ob_28_9 P) (.node (ob_44_9 P) .nil .nil) (.node (ob_60_9 P) .nil .nil)))) (.node (boot_o_6 P) (.node (boot_o_10 P) (.node (ob_18_9 P) (.node (ob_34_9 P) (.node (ob_66_10 P) .nil .nil) .nil) (.node (ob_50_9 P) .nil .nil)) (.node (ob_26_9 P) (.node (ob_42_9 P) (.node (ob_74_10 P) .nil .nil) .nil) (.node (ob_58_9 P) .nil .nil))) (.node (ob_14_a P) (.node (ob_22_9 P) (.node (ob_38_9 P) (.node (ob_70_10 P) .nil .nil) .nil) (.node (ob_54_9 P) .nil .nil)) (.node (ob_30_9 P) (.node (ob_46_9 P) .nil .nil) (.node (ob_62_9 P) .nil .nil))))))
noncomputable def tr_11 (P : Params) : BT := (.node (boot_o_0 P) (.node (boot_o_1 P) (.node (ob_3_11 P) (.node (boot_o_7 P) (.node (ob_15_9 P) (.node (ob_31_9 P) (.node (ob_63_9 P) .nil .nil) .nil) (.node (ob_47_9 P) (.node (ob_79_11 P) .nil .nil) .nil)) (.node (ob_23_9 P) (.node (ob_39_9 P) (.node (ob_71_10 P) .nil .nil) .nil) (.node (ob_55_9 P) .nil .nil))) (.node (ob_11_a P) (.node (ob_19_9 P) (.node (ob_35_9 P) (.node (ob_67_10 P) .nil .nil) .nil) (.node (ob_51_9 P) .nil .nil)) (.node (ob_27_9 P) (.node (ob_43_9 P) (.node (ob_75_10 P) .nil .nil) .nil) (.node (ob_59_9 P) .nil .nil)))) (.node (boot_o_5 P) (.node (boot_o_9 P) (.node (ob_17_9 P) (.node (ob_33_9 P) (.node (ob_65_10 P) .nil .nil) .nil) (.node (ob_49_9 P) (.node (ob_81_11 P) .nil .nil) .nil)) (.node (ob_25_9 P) (.node (ob_41_9 P) (.node (ob_73_10 P) .nil .nil) .nil) (.node (ob_57_9 P) .nil .nil))) (.node (ob_13_a P) (.node (ob_21_9 P) (.node (ob_37_9 P) (.node (ob_69_10 P) .nil .nil) .nil) (.node (ob_53_9 P) .nil .nil)) (.node (ob_29_9 P) (.node (ob_45_9 P) (.node (ob_77_11 P) .nil .nil) .nil) (.node (ob_61_9 P) .nil .nil))))) (.node (boot_o_2 P) (.node (boot_o_4 P) (.node (boot_o_8 P) (.node (ob_16_9 P) (.node (ob_32_9 P) (.node (ob_64_9 P) .nil .nil) .nil) (.node (ob_48_9 P) (.node (ob_80_11 P) .nil .nil) .nil)) (.node (ob_24_9 P) (.node (ob_40_9 P) (.node (ob_72_10 P) .nil .nil) .nil) (.node (ob_56_9 P) .nil .nil))) (.node (ob_12_11 P) (.node (ob_20_9 P) (.node (ob_36_9 P) (.node (ob_68_10 P) .nil .nil) .nil) (.node (ob_52_9 P) .nil .nil)) (.node (ob_28_9 P) (.node (ob_44_9 P) (.node (ob_76_11 P) .nil .nil) .nil) (.node (ob_60_9 P) .nil .nil)))) (.node (boot_o_6 P) (.node (boot_o_10 P) (.node (ob_18_9 P) (.node (ob_34_9 P) (.node (ob_66_10 P) .nil .nil) .nil) (.node (ob_50_9 P) (.node (ob_82_11 P) .nil .nil) .nil)) (.node (ob_26_9 P) (.node (ob_42_9 P) (.node (ob_74_10 P) .nil .nil) .nil) (.node (ob_58_9 P) .nil .nil))) (.node (ob_14_a P) (.node (ob_22_9 P) (.node (ob_38_9 P) (.node (ob_70_10 P) .nil .nil) .nil) (.node (ob_54_9 P) .nil .nil)) (.node (ob_30_9 P) (.node (ob_46_9 P) (.node (ob_78_11 P) .nil .nil) .nil) (.node (ob_62_9 P) .nil .nil))))))
noncomputable def tr_12 (P : Params) : BT := (.node (boot_o_0 P) (.node (boot_o_1 P) (.node (ob_3_12 P) (.node (boot_o_7 P) (.node (ob_15_9 P) (.node (ob_31_9 P) (.node (ob_63_9 P) .nil .nil) (.node (ob_95_12 P) .nil .nil)) (.node (ob_47_9 P) (.node (ob_79_11 P) .nil .nil) (.node (ob_111_12 P) .nil .nil))) (.node (ob_23_9 P) (.node (ob_39_9 P) (.node (ob_71_10 P) .nil .nil) (.node (ob_103_12 P) .nil .nil)) (.node (ob_55_9 P) (.node (ob_87_12 P) .nil .nil) (.node (ob_119_12 P) .nil .nil)))) (.node (ob_11_a P) (.node (ob_19_9 P) (.node (ob_35_9 P) (.node (ob_67_10 P) .nil .nil) (.node (ob_99_12 P) .nil .nil)) (.node (ob_51_9 P) (.node (ob_83_12 P) .nil .nil) (.node (ob_115_12 P) .nil .nil))) (.node (ob_27_9 P) (.node (ob_43_9 P) (.node (ob_75_10 P) .nil .nil) (.node (ob_107_12 P) .nil .nil)) (.node (ob_59_9 P) (.node (ob_91_12 P) .nil .nil) .nil)))) (.node (boot_o_5 P) (.node (boot_o_9 P) (.node (ob_17_9 P) (.node (ob_33_9 P) (.node (ob_65_10 P) .nil .nil) (.node (ob_97_12 P) .nil .nil)) (.node (ob_49_9 P) (.node (ob_81_11 P) .nil .nil) (.node (ob_113_12 P) .nil .nil))) (.node (ob_25_9 P) (.node (ob_41_9 P) (.node (ob_73_10 P) .nil .nil) (.node (ob_105_12 P) .nil .nil)) (.node (ob_57_9 P) (.node (ob_89_12 P) .nil .nil) (.node (ob_121_12 P) .nil .nil)))) (.node (ob_13_a P) (.node (ob_21_9 P) (.node (ob_37_9 P) (.node (ob_69_10 P) .nil .nil) (.node (ob_101_12 P) .nil .nil)) (.node (ob_53_9 P) (.node (ob_85_12 P) .nil .nil) (.node (ob_117_12 P) .nil .nil))) (.node (ob_29_9 P) (.node (ob_45_9 P) (.node (ob_77_11 P) .nil .nil) (.node (ob_109_12 P) .nil .nil)) (.node (ob_61_9 P) (.node (ob_93_12 P) .nil .nil) .nil))))) (.node (boot_o_2 P) (.node (boot_o_4 P) (.node (boot_o_8 P) (.node (ob_16_9 P) (.node (ob_32_9 P) (.node (ob_64_9 P) .nil .nil) (.node (ob_96_12 P) .nil .nil)) (.node (ob_48_9 P) (.node (ob_80_11 P) .nil .nil) (.node (ob_112_12 P) .nil .nil))) (.node (ob_24_9 P) (.node (ob_40_9 P) (.node (ob_72_10 P) .nil .nil) (.node (ob_104_12 P) .nil .nil)) (.node (ob_56_9 P) (.node (ob_88_12 P) .nil .nil) (.node (ob_120_12 P) .nil .nil)))) (.node (ob_12_11 P) (.node (ob_20_9 P) (.node (ob_36_9 P) (.node (ob_68_10 P) .nil .nil) (.node (ob_100_12 P) .nil .nil)) (.node (ob_52_9 P) (.node (ob_84_12 P) .nil .nil) (.node (ob_116_12 P) .nil .nil))) (.node (ob_28_9 P) (.node (ob_44_9 P) (.node (ob_76_11 P) .nil .nil) (.node (ob_108_12 P) .nil .nil)) (.node (ob_60_9 P) (.node (ob_92_12 P) .nil .nil) .nil)))) (.node (boot_o_6 P) (.node (boot_o_10 P) (.node (ob_18_9 P) (.node (ob_34_9 P) (.node (ob_66_10 P) .nil .nil) (.node (ob_98_12 P) .nil .nil)) (.node (ob_50_9 P) (.node (ob_82_11 P) .nil .nil) (.node (ob_114_12 P) .nil .nil))) (.node (ob_26_9 P) (.node (ob_42_9 P) (.node (ob_74_10 P) .nil .nil) (.node (ob_106_12 P) .nil .nil)) (.node (ob_58_9 P) (.node (ob_90_12 P) .nil .nil) .nil))) (.node (ob_14_a P) (.node (ob_22_9 P) (.node (ob_38_9 P) (.node (ob_70_10 P) .nil .nil) (.node (ob_102_12 P) .nil .nil)) (.node (ob_54_9 P) (.node (ob_86_12 P) .nil .nil) (.node (ob_118_12 P) .nil .nil))) (.node (ob_30_9 P) (.node (ob_46_9 P) (.node (ob_78_11 P) .nil .nil) (.node (ob_110_12 P) .nil .nil)) (.node (ob_62_9 P) (.node (ob_94_12 P) .nil .nil) .nil))))))
noncomputable def tr_21 (P : Params) : BT := (.node (boot_o_0 P) (.node (boot_o_1 P) (.node (ob_3_21 P) (.node (boot_o_7 P) (.node (ob_15_9 P) (.node (ob_31_9 P) (.node (ob_63_9 P) (.node (ob_127_21 P) .nil .nil) .nil) (.node (ob_95_12 P) .nil .nil)) (.node (ob_47_9 P) (.node (ob_79_11 P) .nil .nil) (.node (ob_111_12 P) .nil .nil))) (.node (ob_23_9 P) (.node (ob_39_9 P) (.node (ob_71_10 P) (.node (ob_135_21 P) .nil .nil) .nil) (.node (ob_103_12 P) .nil .nil)) (.node (ob_55_9 P) (.node (ob_87_12 P) .nil .nil) (.node (ob_119_12 P) .nil .nil)))) (.node (ob_11_a P) (.node (ob_19_9 P) (.node (ob_35_9 P) (.node (ob_67_10 P) (.node (ob_131_21 P) .nil .nil) .nil) (.node (ob_99_12 P) .nil .nil)) (.node (ob_51_9 P) (.node (ob_83_12 P) .nil .nil) (.node (ob_115_12 P) .nil .nil))) (.node (ob_27_9 P) (.node (ob_43_9 P) (.node (ob_75_10 P) (.node (ob_139_21 P) .nil .nil) .nil) (.node (ob_107_12 P) .nil .nil)) (.node (ob_59_9 P) (.node (ob_91_12 P) .nil .nil) (.node (ob_123_21 P) .nil .nil))))) (.node (boot_o_5 P) (.node (boot_o_9 P) (.node (ob_17_9 P) (.node (ob_33_9 P) (.node (ob_65_10 P) (.node (ob_129_21 P) .nil .nil) .nil) (.node (ob_97_12 P) .nil .nil)) (.node (ob_49_9 P) (.node (ob_81_11 P) .nil .nil) (.node (ob_113_12 P) .nil .nil))) (.node (ob_25_9 P) (.node (ob_41_9 P) (.node (ob_73_10 P) (.node (ob_137_21 P) .nil .nil) .nil) (.node (ob_105_12 P) .nil .nil)) (.node (ob_57_9 P) (.node (ob_89_12 P) .nil .nil) (.node (ob_121_12 P) .nil .nil)))) (.node (ob_13_a P) (.node (ob_21_9 P) (.node (ob_37_9 P) (.node (ob_69_10 P) (.node (ob_133_21 P) .nil .nil) .nil) (.node (ob_101_12 P) .nil .nil)) (.node (ob_53_9 P) (.node (ob_85_12 P) .nil .nil) (.node (ob_117_12 P) .nil .nil))) (.node (ob_29_9 P) (.node (ob_45_9 P) (.node (ob_77_11 P) (.node (ob_141_21 P) .nil .nil) .nil) (.node (ob_109_12 P) .nil .nil)) (.node (ob_61_9 P) (.node (ob_93_12 P) .nil .nil) (.node (ob_125_21 P) .nil .nil)))))) (.node (boot_o_2 P) (.node (boot_o_4 P) (.node (boot_o_8 P) (.node (ob_16_9 P) (.node (ob_32_9 P) (.node (ob_64_9 P) (.node (ob_128_21 P) .nil .nil) .nil) (.node (ob_96_12 P) .nil .nil)) (.node (ob_48_9 P) (.node (ob_80_11 P) .nil .nil) (.node (ob_112_12 P) .nil .nil))) (.node (ob_24_9 P) (.node (ob_40_9 P) (.node (ob_72_10 P) (.node (ob_136_21 P) .nil .nil) .nil) (.node (ob_104_12 P) .nil .nil)) (.node (ob_56_9 P) (.node (ob_88_12 P) .nil .nil) (.node (ob_120_12 P) .nil .nil)))) (.node (ob_12_21 P) (.node (ob_20_9 P) (.node (ob_36_9 P) (.node (ob_68_10 P) (.node (ob_132_21 P) .nil .nil) .nil) (.node (ob_100_12 P) .nil .nil)) (.node (ob_52_9 P) (.node (ob_84_12 P) .nil .nil) (.node (ob_116_12 P) .nil .nil))) (.node (ob_28_9 P) (.node (ob_44_9 P) (.node (ob_76_11 P) (.node (ob_140_21 P) .nil .nil) .nil) (.node (ob_108_12 P) .nil .nil)) (.node (ob_60_9 P) (.node (ob_92_12 P) .nil .nil) (.node (ob_124_21 P) .nil .nil))))) (.node (boot_o_6 P) (.node (boot_o_10 P) (.node (ob_18_9 P) (.node (ob_34_9 P) (.node (ob_66_10 P) (.node (ob_130_21 P) .nil .nil) .nil) (.node (ob_98_12 P) .nil .nil)) (.node (ob_50_9 P) (.node (ob_82_11 P) .nil .nil) (.node (ob_114_12 P) .nil .nil))) (.node (ob_26_9 P) (.node (ob_42_9 P) (.node (ob_74_10 P) (.node (ob_138_21 P) .nil .nil) .nil) (.node (ob_106_12 P) .nil .nil)) (.node (ob_58_9 P) (.node (ob_90_12 P) .nil .nil) (.node (ob_122_21 P) .nil .nil)))) (.node (ob_14_a P) (.node (ob_22_9 P) (.node (ob_38_9 P) (.node (ob_70_10 P) (.node (ob_134_21 P) .nil .nil) .nil) (.node (ob_102_12 P) .nil .nil)) (.node (ob_54_9 P) (.node (ob_86_12 P) .nil .nil) (.node (ob_118_12 P) .nil .nil))) (.node (ob_30_9 P) (.node (ob_46_9 P) (.node (ob_78_11 P) (.node (ob_142_21 P) .nil .nil) .nil) (.node (ob_110_12 P) .nil .nil)) (.node (ob_62_9 P) (.node (ob_94_12 P) .nil .nil) (.node (ob_126_21 P) .nil .nil)))))))
noncomputable def tr_31 (P : Params) : BT := (.node (boot_o_0 P) (.node (boot_o_1 P) (.node (ob_3_31 P) (.node (boot_o_7 P) (.node (ob_15_9 P) (.node (ob_31_9 P) (.node (ob_63_9 P) (.node (ob_127_21 P) .nil .nil) (.node (ob_191_31 P) .nil .nil)) (.node (ob_95_12 P) (.node (ob_159_31 P) .nil .nil) .nil)) (.node (ob_47_9 P) (.node (ob_79_11 P) (.node (ob_143_31 P) .nil .nil) .nil) (.node (ob_111_12 P) (.node (ob_175_31 P) .nil .nil) .nil))) (.node (ob_23_9 P) (.node (ob_39_9 P) (.node (ob_71_10 P) (.node (ob_135_21 P) .nil .nil) .nil) (.node (ob_103_12 P) (.node (ob_167_31 P) .nil .nil) .nil)) (.node (ob_55_9 P) (.node (ob_87_12 P) (.node (ob_151_31 P) .nil .nil) .nil) (.node (ob_119_12 P) (.node (ob_183_31 P) .nil .nil) .nil)))) (.node (ob_11_a P) (.node (ob_19_9 P) (.node (ob_35_9 P) (.node (ob_67_10 P) (.node (ob_131_21 P) .nil .nil) .nil) (.node (ob_99_12 P) (.node (ob_163_31 P) .nil .nil) .nil)) (.node (ob_51_9 P) (.node (ob_83_12 P) (.node (ob_147_31 P) .nil .nil) .nil) (.node (ob_115_12 P) (.node (ob_179_31 P) .nil .nil) .nil))) (.node (ob_27_9 P) (.node (ob_43_9 P) (.node (ob_75_10 P) (.node (ob_139_21 P) .nil .nil) .nil) (.node (ob_107_12 P) (.node (ob_171_31 P) .nil .nil) .nil)) (.node (ob_59_9 P) (.node (ob_91_12 P) (.node (ob_155_31 P) .nil .nil) .nil) (.node (ob_123_21 P) (.node (ob_187_31 P) .nil .nil) .nil))))) (.node (boot_o_5 P) (.node (boot_o_9 P) (.node (ob_17_9 P) (.node (ob_33_9 P) (.node (ob_65_10 P) (.node (ob_129_21 P) .nil .nil) (.node (ob_193_31 P) .nil .nil)) (.node (ob_97_12 P) (.node (ob_161_31 P) .nil .nil) .nil)) (.node (ob_49_9 P) (.node (ob_81_11 P) (.node (ob_145_31 P) .nil .nil) .nil) (.node (ob_113_12 P) (.node (ob_177_31 P) .nil .nil) .nil))) (.node (ob_25_9 P) (.node (ob_41_9 P) (.node (ob_73_10 P) (.node (ob_137_21 P) .nil .nil) .nil) (.node (ob_105_12 P) (.node (ob_169_31 P) .nil .nil) .nil)) (.node (ob_57_9 P) (.node (ob_89_12 P) (.node (ob_153_31 P) .nil .nil) .nil) (.node (ob_121_12 P) (.node (ob_185_31 P) .nil .nil) .nil)))) (.node (ob_13_a P) (.node (ob_21_9 P) (.node (ob_37_9 P) (.node (ob_69_10 P) (.node (ob_133_21 P) .nil .nil) .nil) (.node (ob_101_12 P) (.node (ob_165_31 P) .nil .nil) .nil)) (.node (ob_53_9 P) (.node (ob_85_12 P) (.node (ob_149_31 P) .nil .nil) .nil) (.node (ob_117_12 P) (.node (ob_181_31 P) .nil .nil) .nil))) (.node (ob_29_9 P) (.node (ob_45_9 P) (.node (ob_77_11 P) (.node (ob_141_21 P) .nil .nil) .nil) (.node (ob_109_12 P) (.node (ob_173_31 P) .nil .nil) .nil)) (.node (ob_61_9 P) (.node (ob_93_12 P) (.node (ob_157_31 P) .nil .nil) .nil) (.node (ob_125_21 P) (.node (ob_189_31 P) .nil .nil) .nil)))))) (.node (boot_o_2 P) (.node (boot_o_4 P) (.node (boot_o_8 P) (.node (ob_16_9 P) (.node (ob_32_9 P) (.node (ob_64_9 P) (.node (ob_128_21 P) .nil .nil) (.node (ob_192_31 P) .nil .nil)) (.node (ob_96_12 P) (.node (ob_160_31 P) .nil .nil) .nil)) (.node (ob_48_9 P) (.node (ob_80_11 P) (.node (ob_144_31 P) .nil .nil) .nil) (.node (ob_112_12 P) (.node (ob_176_31 P) .nil .nil) .nil))) (.node (ob_24_9 P) (.node (ob_40_9 P) (.node (ob_72_10 P) (.node (ob_136_21 P) .nil .nil) .nil) (.node (ob_104_12 P) (.node (ob_168_31 P) .nil .nil) .nil)) (.node (ob_56_9 P) (.node (ob_88_12 P) (.node (ob_152_31 P) .nil .nil) .nil) (.node (ob_120_12 P) (.node (ob_184_31 P) .nil .nil) .nil)))) (.node (ob_12_31 P) (.node (ob_20_9 P) (.node (ob_36_9 P) (.node (ob_68_10 P) (.node (ob_132_21 P) .nil .nil) .nil) (.node (ob_100_12 P) (.node (ob_164_31 P) .nil .nil) .nil)) (.node (ob_52_9 P) (.node (ob_84_12 P) (.node (ob_148_31 P) .nil .nil) .nil) (.node (ob_116_12 P) (.node (ob_180_31 P) .nil .nil) .nil))) (.node (ob_28_9 P) (.node (ob_44_9 P) (.node (ob_76_11 P) (.node (ob_140_21 P) .nil .nil) .nil) (.node (ob_108_12 P) (.node (ob_172_31 P) .nil .nil) .nil)) (.node (ob_60_9 P) (.node (ob_92_12 P) (.node (ob_156_31 P) .nil .nil) .nil) (.node (ob_124_21 P) (.node (ob_188_31 P) .nil .nil) .nil))))) (.node (boot_o_6 P) (.node (boot_o_10 P) (.node (ob_18_9 P) (.node (ob_34_9 P) (.node (ob_66_10 P) (.node (ob_130_21 P) .nil .nil) (.node (ob_194_31 P) .nil .nil)) (.node (ob_98_12 P) (.node (ob_162_31 P) .nil .nil) .nil)) (.node (ob_50_9 P) (.node (ob_82_11 P) (.node (ob_146_31 P) .nil .nil) .nil) (.node (ob_114_12 P) (.node (ob_178_31 P) .nil .nil) .nil))) (.node (ob_26_9 P) (.node (ob_42_9 P) (.node (ob_74_10 P) (.node (ob_138_21 P) .nil .nil) .nil) (.node (ob_106_12 P) (.node (ob_170_31 P) .nil .nil) .nil)) (.node (ob_58_9 P) (.node (ob_90_12 P) (.node (ob_154_31 P) .nil .nil) .nil) (.node (ob_122_21 P) (.node (ob_186_31 P) .nil .nil) .nil)))) (.node (ob_14_a P) (.node (ob_22_9 P) (.node (ob_38_9 P) (.node (ob_70_10 P) (.node (ob_134_21 P) .nil .nil) .nil) (.node (ob_102_12 P) (.node (ob_166_31 P) .nil .nil) .nil)) (.node (ob_54_9 P) (.node (ob_86_12 P) (.node (ob_150_31 P) .nil .nil) .nil) (.node (ob_118_12 P) (.node (ob_182_31 P) .nil .nil) .nil))) (.node (ob_30_9 P) (.node (ob_46_9 P) (.node (ob_78_11 P) (.node (ob_142_21 P) .nil .nil) .nil) (.node (ob_110_12 P) (.node (ob_174_31 P) .nil .nil) .nil)) (.node (ob_62_9 P) (.node (ob_94_12 P) (.node (ob_158_31 P) .nil .nil) .nil) (.node (ob_126_21 P) (.node (ob_190_31 P) .nil .nil) .nil)))))))
noncomputable def tr_f (P : Params) : BT := (.node (boot_o_0 P) (.node (boot_o_1 P) (.node (ob_3_31 P) (.node (boot_o_7 P) (.node (ob_15_9 P) (.node (ob_31_9 P) (.node (ob_63_9 P) (.node (ob_127_21 P) .nil .nil) (.node (ob_191_31 P) .nil .nil)) (.node (ob_95_12 P) (.node (ob_159_31 P) .nil .nil) .nil)) (.node (ob_47_9 P) (.node (ob_79_11 P) (.node (ob_143_31 P) .nil .nil) .nil) (.node (ob_111_12 P) (.node (ob_175_31 P) .nil .nil) .nil))) (.node (ob_23_9 P) (.node (ob_39_9 P) (.node (ob_71_10 P) (.node (ob_135_21 P) .nil .nil) .nil) (.node (ob_103_12 P) (.node (ob_167_31 P) .nil .nil) .nil)) (.node (ob_55_9 P) (.node (ob_87_12 P) (.node (ob_151_31 P) .nil .nil) .nil) (.node (ob_119_12 P) (.node (ob_183_31 P) .nil .nil) .nil)))) (.node (ob_11_a P) (.node (ob_19_9 P) (.node (ob_35_9 P) (.node (ob_67_10 P) (.node (ob_131_21 P) .nil .nil) .nil) (.node (ob_99_12 P) (.node (ob_163_31 P) .nil .nil) .nil)) (.node (ob_51_9 P) (.node (ob_83_12 P) (.node (ob_147_31 P) .nil .nil) .nil) (.node (ob_115_12 P) (.node (ob_179_31 P) .nil .nil) .nil))) (.node (ob_27_9 P) (.node (ob_43_9 P) (.node (ob_75_10 P) (.node (ob_139_21 P) .nil .nil) .nil) (.node (ob_107_12 P) (.node (ob_171_31 P) .nil .nil) .nil)) (.node (ob_59_9 P) (.node (ob_91_12 P) (.node (ob_155_31 P) .nil .nil) .nil) (.node (ob_123_21 P) (.node (ob_187_31 P) .nil .nil) .nil))))) (.node (boot_o_5 P) (.node (boot_o_9 P) (.node (ob_17_9 P) (.node (ob_33_9 P) (.node (ob_65_10 P) (.node (ob_129_21 P) .nil .nil) (.node (ob_193_31 P) .nil .nil)) (.node (ob_97_12 P) (.node (ob_161_31 P) .nil .nil) .nil)) (.node (ob_49_9 P) (.node (ob_81_11 P) (.node (ob_145_31 P) .nil .nil) .nil) (.node (ob_113_12 P) (.node (ob_177_31 P) .nil .nil) .nil))) (.node (ob_25_9 P) (.node (ob_41_9 P) (.node (ob_73_10 P) (.node (ob_137_21 P) .nil .nil) .nil) (.node (ob_105_12 P) (.node (ob_169_31 P) .nil .nil) .nil)) (.node (ob_57_9 P) (.node (ob_89_12 P) (.node (ob_153_31 P) .nil .nil) .nil) (.node (ob_121_12 P) (.node (ob_185_31 P) .nil .nil) .nil)))) (.node (ob_13_a P) (.node (ob_21_9 P) (.node (ob_37_9 P) (.node (ob_69_10 P) (.node (ob_133_21 P) .nil .nil) .nil) (.node (ob_101_12 P) (.node (ob_165_31 P) .nil .nil) .nil)) (.node (ob_53_9 P) (.node (ob_85_12 P) (.node (ob_149_31 P) .nil .nil) .nil) (.node (ob_117_12 P) (.node (ob_181_31 P) .nil .nil) .nil))) (.node (ob_29_9 P) (.node (ob_45_9 P) (.node (ob_77_11 P) (.node (ob_141_21 P) .nil .nil) .nil) (.node (ob_109_12 P) (.node (ob_173_31 P) .nil .nil) .nil)) (.node (ob_61_9 P) (.node (ob_93_12 P) (.node (ob_157_31 P) .nil .nil) .nil) (.node (ob_125_21 P) (.node (ob_189_31 P) .nil .nil) .nil)))))) (.node (boot_o_2 P) (.node (boot_o_4 P) (.node (boot_o_8 P) (.node (ob_16_9 P) (.node (ob_32_9 P) (.node (ob_64_9 P) (.node (ob_128_21 P) .nil .nil) (.node (ob_192_31 P) .nil .nil)) (.node (ob_96_12 P) (.node (ob_160_31 P) .nil .nil) .nil)) (.node (ob_48_9 P) (.node (ob_80_11 P) (.node (ob_144_31 P) .nil .nil) .nil) (.node (ob_112_12 P) (.node (ob_176_31 P) .nil .nil) .nil))) (.node (ob_24_9 P) (.node (ob_40_9 P) (.node (ob_72_10 P) (.node (ob_136_21 P) .nil .nil) .nil) (.node (ob_104_12 P) (.node (ob_168_31 P) .nil .nil) .nil)) (.node (ob_56_9 P) (.node (ob_88_12 P) (.node (ob_152_31 P) .nil .nil) .nil) (.node (ob_120_12 P) (.node (ob_184_31 P) .nil .nil) .nil)))) (.node (ob_12_31 P) (.node (ob_20_9 P) (.node (ob_36_9 P) (.node (ob_68_10 P) (.node (ob_132_21 P) .nil .nil) .nil) (.node (ob_100_12 P) (.node (ob_164_31 P) .nil .nil) .nil)) (.node (ob_52_9 P) (.node (ob_84_12 P) (.node (ob_148_31 P) .nil .nil) .nil) (.node (ob_116_12 P) (.node (ob_180_31 P) .nil .nil) .nil))) (.node (ob_28_9 P) (.node (ob_44_9 P) (.node (ob_76_11 P) (.node (ob_140_21 P) .nil .nil) .nil) (.node (ob_108_12 P) (.node (ob_172_31 P) .nil .nil) .nil)) (.node (ob_60_9 P) (.node (ob_92_12 P) (.node (ob_156_31 P) .nil .nil) .nil) (.node (ob_124_21 P) (.node (ob_188_31 P) .nil .nil) .nil))))) (.node (boot_o_6 P) (.node (boot_o_10 P) (.node (ob_18_9 P) (.node (ob_34_9 P) (.node (ob_66_10 P) (.node (ob_130_21 P) .nil .nil) (.node (ob_194_31 P) .nil .nil)) (.node (ob_98_12 P) (.node (ob_162_31 P) .nil .nil) .nil)) (.node (ob_50_9 P) (.node (ob_82_11 P) (.node (ob_146_31 P) .nil .nil) .nil) (.node (ob_114_12 P) (.node (ob_178_31 P) .nil .nil) .nil))) (.node (ob_26_9 P) (.node (ob_42_9 P) (.node (ob_74_10 P) (.node (ob_138_21 P) .nil .nil) .nil) (.node (ob_106_12 P) (.node (ob_170_31 P) .nil .nil) .nil)) (.node (ob_58_9 P) (.node (ob_90_12 P) (.node (ob_154_31 P) .nil .nil) .nil) (.node (ob_122_21 P) (.node (ob_186_31 P) .nil .nil) .nil)))) (.node (ob_14_a P) (.node (ob_22_9 P) (.node (ob_38_9 P) (.node (ob_70_10 P) (.node (ob_134_21 P) .nil .nil) .nil) (.node (ob_102_12 P) (.node (ob_166_31 P) .nil .nil) .nil)) (.node (ob_54_9 P) (.node (ob_86_12 P) (.node (ob_150_31 P) .nil .nil) .nil) (.node (ob_118_12 P) (.node (ob_182_31 P) .nil .nil) .nil))) (.node (ob_30_9 P) (.node (ob_46_9 P) (.node (ob_78_11 P) (.node (ob_142_21 P) .nil .nil) .nil) (.node (ob_110_12 P) (.node (ob_174_31 P) .nil .nil) .nil)) (.node (ob_62_9 P) (.node (ob_94_12 P) (.node (ob_158_31 P) .nil .nil) .nil) (.node (ob_126_21 P) (.node (ob_190_31 P) .nil .nil) .nil)))))))
noncomputable def tr_12m (P : Params) : BT := (.node (boot_o_0 P) (.node (boot_o_1 P) (.node (ob_3_11 P) (.node (boot_o_7 P) (.node (ob_15_9 P) (.node (ob_31_9 P) (.node (ob_63_9 P) .nil .nil) (.node (ob_95_12 P) .nil .nil)) (.node (ob_47_9 P) (.node (ob_79_11 P) .nil .nil) (.node (ob_111_12 P) .nil .nil))) (.node (ob_23_9 P) (.node (ob_39_9 P) (.node (ob_71_10 P) .nil .nil) (.node (ob_103_12 P) .nil .nil)) (.node (ob_55_9 P) (.node (ob_87_12 P) .nil .nil) (.node (ob_119_12 P) .nil .nil)))) (.node (ob_11_a P) (.node (ob_19_9 P) (.node (ob_35_9 P) (.node (ob_67_10 P) .nil .nil) (.node (ob_99_12 P) .nil .nil)) (.node (ob_51_9 P) (.node (ob_83_12 P) .nil .nil) (.node (ob_115_12 P) .nil .nil))) (.node (ob_27_9 P) (.node (ob_43_9 P) (.node (ob_75_10 P) .nil .nil) (.node (ob_107_12 P) .nil .nil)) (.node (ob_59_9 P) (.node (ob_91_12 P) .nil .nil) .nil)))) (.node (boot_o_5 P) (.node (boot_o_9 P) (.node (ob_17_9 P) (.node (ob_33_9 P) (.node (ob_65_10 P) .nil .nil) (.node (ob_97_12 P) .nil .nil)) (.node (ob_49_9 P) (.node (ob_81_11 P) .nil .nil) (.node (ob_113_12 P) .nil .nil))) (.node (ob_25_9 P) (.node (ob_41_9 P) (.node (ob_73_10 P) .nil .nil) (.node (ob_105_12 P) .nil .nil)) (.node (ob_57_9 P) (.node (ob_89_12 P) .nil .nil) (.node (ob_121_12 P) .nil .nil)))) (.node (ob_13_a P) (.node (ob_21_9 P) (.node (ob_37_9 P) (.node (ob_69_10 P) .nil .nil) (.node (ob_101_12 P) .nil .nil)) (.node (ob_53_9 P) (.node (ob_85_12 P) .nil .nil) (.node (ob_117_12 P) .nil .nil))) (.node (ob_29_9 P) (.node (ob_45_9 P) (.node (ob_77_11 P) .nil .nil) (.node (ob_109_12 P) .nil .nil)) (.node (ob_61_9 P) (.node (ob_93_12 P) .nil .nil) .nil))))) (.node (boot_o_2 P) (.node (boot_o_4 P) (.node (boot_o_8 P) (.node (ob_16_9 P) (.node (ob_32_9 P) (.node (ob_64_9 P) .nil .nil) (.node (ob_96_12 P) .nil .nil)) (.node (ob_48_9 P) (.node (ob_80_11 P) .nil .nil) (.node (ob_112_12 P) .nil .nil))) (.node (ob_24_9 P) (.node (ob_40_9 P) (.node (ob_72_10 P) .nil .nil) (.node (ob_104_12 P) .nil .nil)) (.node (ob_56_9 P) (.node (ob_88_12 P) .nil .nil) (.node (ob_120_12 P) .nil .nil)))) (.node (ob_12_11 P) (.node (ob_20_9 P) (.node (ob_36_9 P) (.node (ob_68_10 P) .nil .nil) (.node (ob_100_12 P) .nil .nil)) (.node (ob_52_9 P) (.node (ob_84_12 P) .nil .nil) (.node (ob_116_12 P) .nil .nil))) (.node (ob_28_9 P) (.node (ob_44_9 P) (.node (ob_76_11 P) .nil .nil) (.node (ob_108_12 P) .nil .nil)) (.node (ob_60_9 P) (.node (ob_92_12 P) .nil .nil) .nil)))) (.node (boot_o_6 P) (.node (boot_o_10 P) (.node (ob_18_9 P) (.node (ob_34_9 P) (.node (ob_66_10 P) .nil .nil) (.node (ob_98_12 P) .nil .nil)) (.node (ob_50_9 P) (.node (ob_82_11 P) .nil .nil) (.node (ob_114_12 P) .nil .nil))) (.node (ob_26_9 P) (.node (ob_42_9 P) (.node (ob_74_10 P) .nil .nil) (.node (ob_106_12 P) .nil .nil)) (.node (ob_58_9 P) (.node (ob_90_12 P) .nil .nil) .nil))) (.node (ob_14_a P) (.node (ob_22_9 P) (.node (ob_38_9 P) (.node (ob_70_10 P) .nil .nil) (.node (ob_102_12 P) .nil .nil)) (.node (ob_54_9 P) (.node (ob_86_12 P) .nil .nil) (.node (ob_118_12 P) .nil .nil))) (.node (ob_30_9 P) (.node (ob_46_9 P) (.node (ob_78_11 P) .nil .nil) (.node (ob_110_12 P) .nil .nil)) (.node (ob_62_9 P) (.node (ob_94_12 P) .nil .nil) .nil))))))
noncomputable def K (P : Params) : Frag := (nat_lit 2, boot_o_2 P) :: (nat_lit 3, ob_3_31 P) :: (nat_lit 15, ob_15_9 P) :: (nat_lit 16, ob_16_9 P) :: (nat_lit 18, ob_18_9 P) :: (nat_lit 19, ob_19_9 P) :: (nat_lit 21, ob_21_9 P) :: (nat_lit 22, ob_22_9 P) :: (nat_lit 23, ob_23_9 P) :: (nat_lit 25, ob_25_9 P) :: (nat_lit 26, ob_26_9 P) :: (nat_lit 28, ob_28_9 P) :: (nat_lit 29, ob_29_9 P) :: (nat_lit 30, ob_30_9 P) :: (nat_lit 32, ob_32_9 P) :: (nat_lit 33, ob_33_9 P) :: (nat_lit 35, ob_35_9 P) :: (nat_lit 36, ob_36_9 P) :: (nat_lit 37, ob_37_9 P) :: (nat_lit 39, ob_39_9 P) :: (nat_lit 40, ob_40_9 P) :: (nat_lit 42, ob_42_9 P) :: (nat_lit 43, ob_43_9 P) :: (nat_lit 44, ob_44_9 P) :: (nat_lit 46, ob_46_9 P) :: (nat_lit 47, ob_47_9 P) :: (nat_lit 49, ob_49_9 P) :: (nat_lit 50, ob_50_9 P) :: (nat_lit 51, ob_51_9 P) :: (nat_lit 53, ob_53_9 P) :: (nat_lit 54, ob_54_9 P) :: (nat_lit 56, ob_56_9 P) :: (nat_lit 57, ob_57_9 P) :: (nat_lit 58, ob_58_9 P) :: (nat_lit 60, ob_60_9 P) :: (nat_lit 61, ob_61_9 P) :: (nat_lit 63, ob_63_9 P) :: (nat_lit 64, ob_64_9 P) :: (nat_lit 72, ob_72_10 P) :: (nat_lit 76, ob_76_11 P) :: (nat_lit 78, ob_78_11 P) :: (nat_lit 79, ob_79_11 P) :: (nat_lit 81, ob_81_11 P) :: (nat_lit 82, ob_82_11 P) :: (nat_lit 83, ob_83_12 P) :: (nat_lit 122, ob_122_21 P) :: (nat_lit 124, ob_124_21 P) :: (nat_lit 125, ob_125_21 P) :: (nat_lit 127, ob_127_21 P) :: (nat_lit 128, ob_128_21 P) :: (nat_lit 129, ob_129_21 P) :: (nat_lit 131, ob_131_21 P) :: (nat_lit 132, ob_132_21 P) :: (nat_lit 134, ob_134_21 P) :: (nat_lit 135, ob_135_21 P) :: (nat_lit 136, ob_136_21 P) :: (nat_lit 138, ob_138_21 P) :: (nat_lit 139, ob_139_21 P) :: (nat_lit 141, ob_141_21 P) :: (nat_lit 142, ob_142_21 P) :: (nat_lit 143, ob_143_31 P) :: (nat_lit 145, ob_145_31 P) :: (nat_lit 146, ob_146_31 P) :: (nat_lit 148, ob_148_31 P) :: (nat_lit 149, ob_149_31 P) :: (nat_lit 150, ob_150_31 P) :: (nat_lit 152, ob_152_31 P) :: (nat_lit 153, ob_153_31 P) :: (nat_lit 155, ob_155_31 P) :: (nat_lit 156, ob_156_31 P) :: (nat_lit 157, ob_157_31 P) :: (nat_lit 159, ob_159_31 P) :: (nat_lit 160, ob_160_31 P) :: (nat_lit 162, ob_162_31 P) :: (nat_lit 163, ob_163_31 P) :: (nat_lit 164, ob_164_31 P) :: (nat_lit 167, ob_167_31 P) :: (nat_lit 168, ob_168_31 P) :: (nat_lit 169, ob_169_31 P) :: (nat_lit 171, ob_171_31 P) :: (nat_lit 172, ob_172_31 P) :: (nat_lit 174, ob_174_31 P) :: (nat_lit 175, ob_175_31 P) :: (nat_lit 176, ob_176_31 P) :: (nat_lit 178, ob_178_31 P) :: (nat_lit 179, ob_179_31 P) :: (nat_lit 181, ob_181_31 P) :: (nat_lit 182, ob_182_31 P) :: (nat_lit 183, ob_183_31 P) :: (nat_lit 185, ob_185_31 P) :: (nat_lit 186, ob_186_31 P) :: (nat_lit 188, ob_188_31 P) :: (nat_lit 189, ob_189_31 P) :: (nat_lit 190, ob_190_31 P) :: (nat_lit 193, ob_193_31 P) :: (nat_lit 194, ob_194_31 P) :: []
noncomputable def Kas : List Addr := nat_lit 2 :: nat_lit 3 :: nat_lit 15 :: nat_lit 16 :: nat_lit 18 :: nat_lit 19 :: nat_lit 21 :: nat_lit 22 :: nat_lit 23 :: nat_lit 25 :: nat_lit 26 :: nat_lit 28 :: nat_lit 29 :: nat_lit 30 :: nat_lit 32 :: nat_lit 33 :: nat_lit 35 :: nat_lit 36 :: nat_lit 37 :: nat_lit 39 :: nat_lit 40 :: nat_lit 42 :: nat_lit 43 :: nat_lit 44 :: nat_lit 46 :: nat_lit 47 :: nat_lit 49 :: nat_lit 50 :: nat_lit 51 :: nat_lit 53 :: nat_lit 54 :: nat_lit 56 :: nat_lit 57 :: nat_lit 58 :: nat_lit 60 :: nat_lit 61 :: nat_lit 63 :: nat_lit 64 :: nat_lit 72 :: nat_lit 76 :: nat_lit 78 :: nat_lit 79 :: nat_lit 81 :: nat_lit 82 :: nat_lit 83 :: nat_lit 122 :: nat_lit 124 :: nat_lit 125 :: nat_lit 127 :: nat_lit 128 :: nat_lit 129 :: nat_lit 131 :: nat_lit 132 :: nat_lit 134 :: nat_lit 135 :: nat_lit 136 :: nat_lit 138 :: nat_lit 139 :: nat_lit 141 :: nat_lit 142 :: nat_lit 143 :: nat_lit 145 :: nat_lit 146 :: nat_lit 148 :: nat_lit 149 :: nat_lit 150 :: nat_lit 152 :: nat_lit 153 :: nat_lit 155 :: nat_lit 156 :: nat_lit 157 :: nat_lit 159 :: nat_lit 160 :: nat_lit 162 :: nat_lit 163 :: nat_lit 164 :: nat_lit 167 :: nat_lit 168 :: nat_lit 169 :: nat_lit 171 :: nat_lit 172 :: nat_lit 174 :: nat_lit 175 :: nat_lit 176 :: nat_lit 178 :: nat_lit 179 :: nat_lit 181 :: nat_lit 182 :: nat_lit 183 :: nat_lit 185 :: nat_lit 186 :: nat_lit 188 :: nat_lit 189 :: nat_lit 190 :: nat_lit 193 :: nat_lit 194 :: []
noncomputable def env : Env := { scope := pw.main.scope, locals := mainNs, globals := mainNs, cells := [], code := .ref 13, frame := some 14 }
noncomputable def cB : Code := .body (behindTheImports pw) env
noncomputable def p0 : Pos := ⟨0, 0, 0, 0⟩
noncomputable def lf : Life := {}
noncomputable def dr : Drawn := ⟨0, 0, 0, 0⟩
end
end Mine
end
-- GO1
section
open PySem PySem.W PyProof.Rows PySem.Calls
set_option Elab.async false
set_option maxRecDepth 100000
set_option linter.all false
namespace Mine
noncomputable section
noncomputable abbrev sr (w : World) (N : Nat) (s : Shared) (t : Thread) : Option (Flow × Shared × Code × Pos) := segRun treeTable pw w 11 (some (.ref 6)) 1 N s t
noncomputable abbrev BB : List Frame := [topFrame p0]
theorem sr_mono {w : World} (k : Nat) : ∀ (n : Nat) (s : Shared) (t : Thread) (r), sr w n s t = some r → sr w (n + k) s t = some r
  | 0, _, _, _, h => by simp [sr, segRun] at h
  | n + 1, s, t, r, h => by
    rw [show n + 1 + k = n + k + 1 by (first | lia | omega)]
    unfold sr segRun at h ⊢
    cases he : endAt 1 t with
    | some f => rw [he] at h; exact h
    | none =>
      rw [he] at h
      cases hk : stepOk 11 (some (.ref 6)) t with
      | false => rw [hk] at h; cases h
      | true =>
        rw [hk] at h
        cases hs : step (denote treeTable) pw w s t with
        | halt o s' => rw [hs] at h; cases h
        | go s' t' => rw [hs] at h; exact sr_mono k n s' t' r h
/-- from s the tree m comes to a in s', in c steps at most, whatever stands behind it -/
noncomputable def Go (w : World) (c : Nat) {α : Type} (m : Sem α) (s : Shared) (a : α) (s' : Shared) : Prop :=
  ∀ (K : α → Sem Fin) (H : Value → Sem Fin) (gd : Bool → Bool) (lv : List Value → List Value) (pos : Pos), ∃ pos', ∀ N r,
    sr w N s' ⟨K a, cB, pos', BB⟩ = some r → sr w (N + c) s ⟨m.wrap K H gd lv, cB, pos, BB⟩ = some r
variable {w : World} {α β : Type} {s s₁ s₂ : Shared}
theorem go_pure {a : α} : Go w 0 (pure a) s a s := fun _ _ _ _ pos => ⟨pos, fun _ _ h => h⟩
theorem go_mono {c c' : Nat} {m : Sem α} {a : α} (h : Go w c m s a s₁) (hc : c ≤ c') : Go w c' m s a s₁ := fun K H gd lv pos => by
  obtain ⟨pos', x⟩ := h K H gd lv pos
  refine ⟨pos', fun N r e => ?_⟩
  have := sr_mono (c' - c) _ _ _ _ (x N r e)
  rwa [show N + c + (c' - c) = N + c' by (first | lia | omega)] at this
theorem go_bind {c₁ c₂ : Nat} {m : Sem α} {f : α → Sem β} {a : α} {b : β} (h : Go w c₁ m s a s₁) (h' : Go w c₂ (f a) s₁ b s₂) : Go w (c₁ + c₂) (m >>= f) s b s₂ := fun K H gd lv pos => by
  obtain ⟨p1, x1⟩ := h (fun a => (f a).wrap K H gd lv) H gd lv pos
  obtain ⟨p2, x2⟩ := h' K H gd lv p1
  refine ⟨p2, fun N r e => ?_⟩
  have := x1 _ r (x2 N r e)
  rw [Sem.bind_eq_wrap', Sem.wrap_wrap]
  rw [show N + (c₁ + c₂) = N + c₂ + c₁ by (first | lia | omega)]
  exact this
theorem go_keep {c : Nat} {m : Sem α} {a : α} {vs : List Value} (h : Go w c m s a s₁) : Go w c (m.keep vs) s a s₁ := fun K H gd lv pos => by
  rw [Sem.keep_eq_wrap, Sem.wrap_wrap]
  exact h K H _ _ pos
theorem go_holding {c : Nat} {m : Sem α} {a : α} {vs : List Value} (h : Go w c m s a s₁) : Go w c (holding vs m) s a s₁ := by
  unfold holding
  split
  · exact h
  · exact go_keep h
theorem go_onRaise {c : Nat} {m : Sem α} {a : α} {k : Value → Sem Unit} (h : Go w c m s a s₁) : Go w c (m.onRaise k) s a s₁ := fun K H gd lv pos => by
  rw [Sem.onRaise_eq_wrap, Sem.wrap_wrap]
  exact h K _ _ _ pos
theorem go_tryCatch {c : Nat} {m : Sem α} {a : α} {k : Value → Sem α} (h : Go w c m s a s₁) : Go w c (tryCatch m k) s a s₁ := fun K H gd lv pos => by
  show ∃ _, _
  rw [show (tryCatch m k : Sem α) = Sem.tryCatch m k from rfl, Sem.tryCatch_eq_wrap, Sem.wrap_wrap]
  exact h K _ _ _ pos
theorem sr_one {N : Nat} {s s' : Shared} {t t' : Thread} {r} (he : endAt 1 t = none) (hk : stepOk 11 (some (.ref 6)) t = true) (hs : step (denote treeTable) pw w s t = .go s' t') (h : sr w N s' t' = some r) : sr w (N + 1) s t = some r := by
  unfold sr segRun
  rw [he, hk, hs]
  exact h
theorem go_rule {tag : String} : Go w 1 (rule tag) s () s := fun K H gd lv pos => ⟨pos, fun N r h => sr_one rfl rfl rfl h⟩
theorem go_at {p : Pos} : Go w 1 (standAt p) s () s := fun K H gd lv pos => ⟨p, fun N r h => sr_one rfl rfl rfl h⟩
theorem go_point : Go w 1 point s () s := fun K H gd lv pos => ⟨pos, fun N r h => sr_one rfl rfl rfl h⟩
theorem go_fresh : Go w 1 fresh s s.toks { s with toks := s.toks + 1 } := fun K H gd lv pos => ⟨pos, fun N r h => sr_one rfl rfl rfl h⟩
theorem go_ask : Go w 1 ask s ⟨pw, w.params⟩ s := fun K H gd lv pos => ⟨pos, fun N r h => sr_one rfl rfl rfl h⟩
theorem go_alloc {o : Obj} : Go w 1 (alloc o) s s.heap.objs.size { s with heap := s.heap.push o } := fun K H gd lv pos => ⟨pos, fun N r h => sr_one rfl rfl rfl h⟩
theorem go_load {a : Addr} {part : Option Value} {o : Obj} (ho : s.heap.get? a = some o) : Go w 1 (loadPart a part) s o s := fun K H gd lv pos => ⟨pos, fun N r h => sr_one (s' := s) (t' := ⟨K o, cB, pos, BB⟩) rfl rfl (by
  obtain ⟨heap, gens, drawn, toks, os⟩ := s
  have e : heap.get? a = some o := ho
  show (match heap.get? a with | some o => Step.go _ _ | none => _) = _
  rw [e]
  rfl) h⟩
theorem go_update {a : Addr} {part : Option Value} {f : Obj → Obj} {o : Obj} (ho : s.heap.get? a = some o) (hn : Nat.ble 11 a = true) : Go w 1 (updatePart a part f) s () { s with heap := s.heap.update a f } := fun K H gd lv pos => ⟨pos, fun N r h => sr_one (s' := { s with heap := s.heap.update a f }) (t' := ⟨K (), cB, pos, BB⟩) rfl (by
  show (_ && (Nat.ble 11 a || _ || _ || _)) = true
  rw [hn]; rfl) (by
  obtain ⟨heap, gens, drawn, toks, os⟩ := s
  have e : heap.get? a = some o := ho
  show (if (heap.get? a).isSome = true then Step.go _ _ else _) = _
  rw [e]; rfl) h⟩
theorem go_mkInt {i : Int} : Go w 1 (mkInt i) s (.int i s.toks) { s with toks := s.toks + 1 } := by
  unfold mkInt
  refine go_bind (c₁ := 1) (c₂ := 0) go_fresh ?_
  exact go_pure
theorem go_mkText {x : Str} : Go w 1 (mkText x) s (.str x s.toks) { s with toks := s.toks + 1 } := by
  unfold mkText
  refine go_bind (c₁ := 1) (c₂ := 0) go_fresh ?_
  exact go_pure
end
end Mine
end
-- GO2
section
open PySem PySem.W PyProof.Rows PySem.Calls
set_option Elab.async false
set_option maxRecDepth 100000
set_option linter.all false
namespace Mine
noncomputable section
variable {w : World} {α β : Type} {s s₁ s₂ : Shared}
noncomputable def hl (l : List Obj) : Heap := ⟨l.toArray, lf⟩
theorem hl_push (l : List Obj) (o : Obj) : (hl l).push o = hl (l ++ [o]) := by
  show Heap.mk _ _ = Heap.mk _ _
  congr 1
  simp
theorem hl_size (l : List Obj) : (hl l).objs.size = l.length := by simp [hl]
theorem hl_get (l r : List Obj) (o : Obj) (hf : o.isFreed = false) : (hl (l ++ o :: r)).get? l.length = some o := by
  have e : (hl (l ++ o :: r)).objs[l.length]? = some o := by simp [hl]
  obtain ⟨c, d, dt, sl⟩ := o
  unfold Heap.get?
  rw [e]
  cases dt <;> first | rfl | cases hf
theorem hl_upd (l r : List Obj) (o : Obj) (f : Obj → Obj) : (hl (l ++ o :: r)).update l.length f = hl (l ++ f o :: r) := by
  show Heap.mk _ _ = Heap.mk _ _
  congr 1
  apply Array.ext_getElem?
  intro i
  simp only [Array.getElem?_modify, List.getElem?_toArray, hl]
  by_cases h : l.length = i
  · subst h; simp
  · rw [if_neg h]
    by_cases h2 : i < l.length
    · rw [List.getElem?_append_left h2, List.getElem?_append_left h2]
    · have : l.length ≤ i := by (first | lia | omega)
      rw [List.getElem?_append_right this, List.getElem?_append_right this]
      obtain ⟨j, hj⟩ : ∃ j, i - l.length = j + 1 := ⟨i - l.length - 1, by (first | lia | omega)⟩
      rw [hj]; rfl
theorem dictOb_push (es : List DictEntry) (e : DictEntry) : (dictOb es).mapDictKeys (·.push e) = dictOb (es ++ [e]) := by
  simp [dictOb, Obj.mapDictKeys]
/-- all keys of the entries are ints, each its own hash -/
noncomputable def IntEs (es : List DictEntry) : Prop := ∀ e ∈ es, ∃ k t v, e = ki k t k v
theorem places_nil (es : List DictEntry) (h : Int) (hf : ∀ e ∈ es, e.hash ≠ h) : placesWithHash es.toArray.size (fun i => es.toArray[i]?.map (·.hash)) h = [] := by
  unfold placesWithHash
  rw [List.filter_eq_nil_iff]
  intro i hi
  simp only [List.mem_range, List.size_toArray] at hi
  simp only [List.getElem?_toArray, List.getElem?_eq_getElem hi, Option.map_some, beq_iff_eq, Option.some.injEq]
  exact hf _ (List.getElem_mem hi)
theorem go_dictEntries {d : Addr} {part : Option Value} {es : List DictEntry} (hd : s.heap.get? d = some (dictOb es)) : Go w 1 (dictEntries d part) s es.toArray s := by
  unfold dictEntries
  refine go_bind (c₁ := 1) (c₂ := 0) (go_load hd) ?_
  exact go_pure
theorem go_dictEpoch {d : Addr} {part : Option Value} {es : List DictEntry} (hd : s.heap.get? d = some (dictOb es)) : Go w 1 (dictEpoch d part) s es.length s := by
  unfold dictEpoch
  refine go_bind (c₁ := 1) (c₂ := 0) (go_load hd) ?_
  exact go_pure
theorem go_dictFind {d : Addr} {es : List DictEntry} {k h : Int} {t : Tok} (hd : s.heap.get? d = some (dictOb es)) (hf : ∀ e ∈ es, e.hash ≠ h) : Go w 1 (dictFind d (.int k t) h) s none s := by
  unfold dictFind
  refine go_holding (go_mono (go_bind (go_dictEntries hd) (c₂ := 0) ?_) (by (first | lia | omega)))
  dsimp only
  rw [places_nil es h hf]
  exact go_bind (c₁ := 0) (c₂ := 0) (m := forIn ([] : List Nat) _ _) go_pure go_pure
theorem go_updKeys {l r : List Obj} {es : List DictEntry} {e : DictEntry} {part : Option Value} {g : Array GenState} {dn : Drawn} {tk : Nat} {os : OsState} (hl11 : Nat.ble 11 l.length = true) (hsz : es.length < sizeLine) :
    Go w 3 (updateDictKeys l.length (·.push e) part) ⟨hl (l ++ dictOb es :: r), g, dn, tk, os⟩ () ⟨hl (l ++ dictOb (es ++ [e]) :: r), g, dn, tk, os⟩ := by
  unfold updateDictKeys
  have h1 : (hl (l ++ dictOb es :: r)).get? l.length = some (dictOb es) := hl_get _ _ _ rfl
  refine go_mono (go_bind (go_load (s := ⟨hl (l ++ dictOb es :: r), g, dn, tk, os⟩) h1) (c₂ := 2) ?_) (by (first | lia | omega))
  show Go w 2 (updatePart l.length part (Obj.mapDictKeys fun x => x.push e) >>= fun _ => lookBehind l.length part) _ _ _
  refine go_bind (c₁ := 1) (c₂ := 1) (go_update (s := ⟨hl (l ++ dictOb es :: r), g, dn, tk, os⟩) h1 hl11) ?_
  show Go w 1 _ ⟨(hl (l ++ dictOb es :: r)).update l.length _, g, dn, tk, os⟩ _ _
  rw [hl_upd, dictOb_push]
  unfold lookBehind
  refine go_bind (c₁ := 1) (c₂ := 0) (go_load (s := ⟨hl (l ++ dictOb (es ++ [e]) :: r), g, dn, tk, os⟩) (hl_get _ _ _ rfl)) ?_
  have : (dictOb (es ++ [e])).data.pastItsLine = none := by
    show (if (es ++ [e]).toArray.size > sizeLine + 1 then _ else _) = none
    rw [if_neg (by simp; (first | lia | omega))]
  rw [this]
  exact go_pure

theorem rawHash_small {k : Int} (h0 : 0 ≤ k) (h1 : k < 2 ^ 61 - 1) : rawHash k = k := by
  have : (k.natAbs % (2 ^ 61 - 1) : Nat) = k.natAbs := Nat.mod_eq_of_lt (by (first | lia | omega))
  have e : ((k.natAbs : Nat) : Int) = k := Int.natAbs_of_nonneg h0
  unfold rawHash
  simp only []
  rw [if_neg (show ¬ k < 0 by (first | lia | omega))]
  have e2 : ((k.natAbs : Nat) : Int) % (2 ^ 61 - 1 : Nat) = k := by
    rw [e]; exact Int.emod_eq_of_lt h0 (by (first | lia | omega))
  rw [e2]
  rw [if_neg (by simp; (first | lia | omega))]
theorem go_hashCall {k : Int} {t : Tok} {X : Sem Value} : Go w 5 (callSpecialIfBoundUnlessNone? (.int k t) "__hash__" X) s (some (.int (rawHash k) s.toks)) { s with toks := s.toks + 1 } := fun K H gd lv pos => by
  refine ⟨pos, ?_⟩
  obtain ⟨heap, gens, drawn, toks, os⟩ := s
  refine byRow2 "special-get-raises" (P := fun w => ∀ N r, sr w N ⟨heap, gens, drawn, toks + 1, os⟩ ⟨K (some (.int (rawHash k) toks)), cB, pos, BB⟩ = some r →
      sr w (N + 5) ⟨heap, gens, drawn, toks, os⟩ ⟨(callSpecialIfBoundUnlessNone? (.int k t) "__hash__" X).wrap K H gd lv, cB, pos, BB⟩ = some r) (fun w N r h => ?_) (fun w N r h => ?_) w
  · rw [← h]; kernel_rfl!
  · rw [← h]; kernel_rfl!
theorem int_special (i : Int) (t : Tok) : specialOf (.int i t) "__hash__" = pure (some (.builtin "int.__hash__")) := by kernel_rfl
theorem go_pyHash {k : Int} {t : Tok} (h0 : 0 ≤ k) (h1 : k < 2 ^ 61 - 1) : Go w 5 (pyHash (.int k t)) s k { s with toks := s.toks + 1 } := by
  have hr := rawHash_small h0 h1
  show Go w 5 (pyHashByItsType (.int k t)) s k { s with toks := s.toks + 1 }
  unfold pyHashByItsType
  have hv : [Value.int k t].any Value.onHeap = false := rfl
  refine go_bind (c₁ := 0) (c₂ := 5) (a := ()) (s₁ := s) ?_ ?_
  · rw [cRoomFor, if_neg (by rw [hv]; exact Bool.false_ne_true)]; exact go_pure
  rw [int_special, pure_bind]
  rw [show (some (Value.builtin "int.__hash__") == some Value.none) = false from rfl]
  simp only [Bool.false_eq_true, if_false, pure_bind, Option.isNone_some]
  refine go_bind (c₁ := 5) (c₂ := 0) go_hashCall ?_
  rw [hr]
  show Go w 0 (if (decide (-(2 : Int) ^ 63 ≤ k) && decide (k < 2 ^ 63)) = true then _ else _) _ _ _
  rw [if_pos (by simp; (first | lia | omega)), if_neg (by simp; (first | lia | omega))]
  exact go_pure
theorem go_dictSet {l r : List Obj} {es : List DictEntry} {k : Int} {t : Tok} {v : Value} {g : Array GenState} {dn : Drawn} {tk : Nat} {os : OsState} (hl11 : Nat.ble 11 l.length = true) (hsz : es.length < sizeLine)
    (h0 : 0 ≤ k) (h1 : k < 2 ^ 61 - 1) (hf : ∀ e ∈ es, e.hash ≠ k) :
    Go w 10 (dictSet l.length (.int k t) v) ⟨hl (l ++ dictOb es :: r), g, dn, tk, os⟩ () ⟨hl (l ++ dictOb (es ++ [ki k t k v]) :: r), g, dn, tk + 1, os⟩ := by
  unfold dictSet
  refine go_holding (go_bind (c₁ := 5) (c₂ := 5) (go_pyHash h0 h1) ?_)
  unfold dictSetHashed
  refine go_holding (go_bind (c₁ := 1) (c₂ := 4) (go_dictFind (es := es) (hl_get _ _ _ rfl) hf) ?_)
  dsimp only
  exact go_bind (c₁ := 1) (c₂ := 3) go_rule (go_updKeys hl11 hsz)
theorem go_dictPut {l r : List Obj} {es : List DictEntry} {k h : Int} {t : Tok} {v : Value} {g : Array GenState} {dn : Drawn} {tk : Nat} {os : OsState} (hl11 : Nat.ble 11 l.length = true) (hsz : es.length < sizeLine)
    (hf : ∀ e ∈ es, e.hash ≠ h) :
    Go w 4 (dictPut l.length h (.int k t) v) ⟨hl (l ++ dictOb es :: r), g, dn, tk, os⟩ () ⟨hl (l ++ dictOb (es ++ [ki k t h v]) :: r), g, dn, tk, os⟩ := by
  unfold dictPut
  refine go_bind (c₁ := 1) (c₂ := 3) (go_dictFind (es := es) (hl_get _ _ _ rfl) hf) ?_
  dsimp only
  exact go_updKeys hl11 hsz
end
end Mine
end
-- GO3
section
open PySem PySem.W PyProof.Rows PySem.Calls
set_option Elab.async false
set_option maxRecDepth 100000
set_option linter.all false
namespace Mine
noncomputable section
variable {w : World} {α β : Type} {s s₁ s₂ : Shared}
theorem go_forIn {X : Type} {c : Nat} {f : X → PUnit → Sem (ForInStep PUnit)} : ∀ (xs : List X) (σ : Nat → Shared), (∀ i (hi : i < xs.length), Go w c (f xs[i] ⟨⟩) (σ i) (.yield ⟨⟩) (σ (i + 1))) →
    Go w (c * xs.length) (forIn xs PUnit.unit f) (σ 0) ⟨⟩ (σ xs.length)
  | [], σ, _ => by
    rw [List.forIn_nil]
    exact go_pure
  | x :: xs, σ, h => by
    rw [List.forIn_cons]
    refine go_mono (go_bind (c₁ := c) (c₂ := c * xs.length) (h 0 (Nat.zero_lt_succ _)) ?_) (by rw [List.length_cons, Nat.mul_add]; (first | lia | omega))
    have := go_forIn xs (fun i => σ (i + 1)) fun i hi => h (i + 1) (Nat.succ_lt_succ hi)
    exact this
theorem go_isDict {a : Addr} {es : List DictEntry} (ha : s.heap.get? a = some (dictOb es)) : Go w 1 (isInstance (.ref a) (.type "dict")) s true s := by
  unfold isInstance
  refine go_bind (c₁ := 1) (c₂ := 0) (a := .type "dict") (s₁ := s) ?_ ?_
  · refine go_bind (c₁ := 1) (c₂ := 0) (go_load ha) ?_
    exact go_pure
  · rw [show isSubtype (.type "dict") (.type "dict") = pure true by kernel_rfl]
    exact go_pure
theorem go_iterDict {a : Addr} {es : List DictEntry} (ha : s.heap.get? a = some (dictOb es)) : Go w 1 (specialOf (.ref a) "__iter__") s (some (.builtin "dict.__iter__")) s := by
  unfold specialOf
  refine go_bind (c₁ := 1) (c₂ := 0) (a := .type "dict") (s₁ := s) ?_ ?_
  · refine go_bind (c₁ := 1) (c₂ := 0) (go_load ha) ?_
    exact go_pure
  · rw [show typeLookup (.type "dict") "__iter__" = pure (some (.builtin "dict.__iter__")) by kernel_rfl]
    exact go_pure
theorem go_merge {l mid : List Obj} {es sub : List DictEntry} {g : Array GenState} {dn : Drawn} {tk : Nat} {os : OsState} (hl11 : Nat.ble 11 l.length = true) (hsz : es.length + sub.length < sizeLine) (hne : es ≠ [])
    (hi : IntEs sub) (hf : ∀ e ∈ es, ∀ e' ∈ sub, e.hash ≠ e'.hash) (hn : sub.Pairwise fun a b => a.hash ≠ b.hash) :
    Go w (10 + 10 * sub.length) (mergeMapping l.length (.ref (l.length + 1 + mid.length)) false) ⟨hl (l ++ dictOb es :: (mid ++ [dictOb sub])), g, dn, tk, os⟩ () ⟨hl (l ++ dictOb (es ++ sub) :: (mid ++ [dictOb sub])), g, dn, tk, os⟩ := by
  have hsub : ∀ es', (hl (l ++ dictOb es' :: (mid ++ [dictOb sub]))).get? (l.length + 1 + mid.length) = some (dictOb sub) := fun es' => by
    have e := hl_get (l ++ dictOb es' :: mid) [] (dictOb sub) rfl
    simp only [List.append_assoc, List.cons_append, List.length_append, List.length_cons] at e
    rw [show l.length + 1 + mid.length = l.length + (mid.length + 1) by (first | lia | omega)]
    exact e
  have hmain : ∀ es', (hl (l ++ dictOb es' :: (mid ++ [dictOb sub]))).get? l.length = some (dictOb es') := fun es' => hl_get _ _ _ rfl
  unfold mergeMapping
  refine go_mono (go_bind (c₁ := 1) (c₂ := 9 + 10 * sub.length) (go_isDict (s := ⟨_, g, dn, tk, os⟩) (hsub es)) ?_) (by (first | lia | omega))
  rw [if_pos rfl]
  refine go_mono (go_bind (c₁ := 1) (c₂ := 8 + 10 * sub.length) (go_iterDict (s := ⟨_, g, dn, tk, os⟩) (hsub es)) ?_) (by (first | lia | omega))
  refine go_mono (go_bind (c₁ := 0) (c₂ := 8 + 10 * sub.length) go_pure ?_) (by (first | lia | omega))
  rw [show (some (Value.builtin "dict.__iter__") == some (Value.builtin "dict.__iter__")) = true from by kernel_rfl]
  dsimp only
  have h11 : 11 ≤ l.length := Nat.le_of_ble_eq_true hl11
  have hsys : ((l.length + 1 + mid.length) == sysModules) = false := by
    rw [beq_eq_false_iff_ne]
    show l.length + 1 + mid.length ≠ 1
    (first | lia | omega)
  rw [hsys]
  simp only [Bool.false_eq_true, if_false]
  refine go_mono (go_bind (c₁ := 1) (c₂ := 7 + 10 * sub.length) (go_dictEntries (s := ⟨_, g, dn, tk, os⟩) (hmain es)) ?_) (by (first | lia | omega))
  have hemp : es.toArray.isEmpty = false := by cases es with | nil => exact absurd rfl hne | cons => rfl
  rw [hemp]
  simp only [Bool.false_eq_true, if_false]
  refine go_mono (go_bind (c₁ := 1) (c₂ := 6 + 10 * sub.length) (go_dictEntries (s := ⟨_, g, dn, tk, os⟩) (hsub es)) ?_) (by (first | lia | omega))
  refine go_mono (go_bind (c₁ := 1) (c₂ := 5 + 10 * sub.length) (go_dictEpoch (s := ⟨_, g, dn, tk, os⟩) (hsub es)) ?_) (by (first | lia | omega))
  refine go_mono (go_bind (c₁ := 10 * (List.range sub.toArray.size).length) (c₂ := 0) (a := PUnit.unit)
    (s₁ := ⟨hl (l ++ dictOb (es ++ sub) :: (mid ++ [dictOb sub])), g, dn, tk, os⟩) ?_ go_pure) (by simp)
  have e0 : es = es ++ sub.take 0 := by simp
  have e1 : es ++ sub = es ++ sub.take (List.range sub.toArray.size).length := by simp
  rw [e1]
  conv => arg 4; rw [e0]
  refine go_forIn (List.range sub.toArray.size) (fun i => ⟨hl (l ++ dictOb (es ++ sub.take i) :: (mid ++ [dictOb sub])), g, dn, tk, os⟩) fun i hi' => ?_
  have hi' : i < sub.length := by simpa using hi'
  simp only [List.getElem_range]
  refine go_mono (go_bind (c₁ := 1) (c₂ := 6) (go_dictEntries (s := ⟨_, g, dn, tk, os⟩) (hsub _)) ?_) (by (first | lia | omega))
  rw [show sub.toArray[i]? = some sub[i] by simp [hi']]
  dsimp only
  obtain ⟨k, t, v, hk⟩ := hi sub[i] (List.getElem_mem hi')
  have hfr : ∀ e ∈ es ++ sub.take i, e.hash ≠ k := by
    intro e he
    rcases List.mem_append.mp he with h | h
    · have := hf e h _ (List.getElem_mem hi')
      rw [hk] at this; exact this
    · obtain ⟨j, hj, rfl⟩ := List.getElem_of_mem h
      simp only [List.length_take] at hj
      have := List.pairwise_iff_getElem.mp hn j i (by (first | lia | omega)) hi' (by (first | lia | omega))
      rw [hk] at this
      rw [List.getElem_take]
      exact this
  have hs2 : (es ++ sub.take i).length < sizeLine := by simp only [List.length_append, List.length_take]; (first | lia | omega)
  refine go_mono (go_bind (c₁ := 4) (c₂ := 1) (a := ()) (s₁ := ⟨hl (l ++ dictOb (es ++ sub.take (i + 1)) :: (mid ++ [dictOb sub])), g, dn, tk, os⟩) ?_ ?_) (by (first | lia | omega))
  · refine go_holding ?_
    have := go_dictPut (w := w) (l := l) (r := mid ++ [dictOb sub]) (es := es ++ sub.take i) (k := k) (h := k) (t := t) (v := v) (g := g) (dn := dn) (tk := tk) (os := os) hl11 hs2 hfr
    rw [hk]
    show Go w 4 (dictPut l.length k (.int k t) v) _ _ _
    have e : es ++ sub.take (i + 1) = (es ++ sub.take i) ++ [ki k t k v] := by
      rw [List.take_add_one, List.getElem?_eq_getElem hi', hk]; simp
    rw [e]
    exact this
  · refine go_bind (c₁ := 1) (c₂ := 0) (go_dictEpoch (s := ⟨_, g, dn, tk, os⟩) (hsub _)) ?_
    rw [show (sub.length != sub.length) = false by simp]
    simp only [Bool.false_eq_true, if_false]
    exact go_pure
end
end Mine
end
-- GO4
section
open PySem PySem.W PyProof.Rows PySem.Calls
set_option Elab.async false
set_option maxRecDepth 100000
set_option linter.all false
namespace Mine
noncomputable section
variable {w : World} {α β : Type} {s s₁ s₂ : Shared}
noncomputable abbrev KX := Int × Str
noncomputable def KeysOk (ps : List KX) : Prop := (∀ x ∈ ps, 0 ≤ x.1 ∧ x.1 < 2 ^ 61 - 1) ∧ ps.Pairwise fun a b => a.1 ≠ b.1
/-- the two trees of a pair of the display -/
noncomputable def pr (p : Pos) (x : KX) : Sem Value × Sem Value := (mkInt x.1, do let v ← mkText x.2; standAt p; pure v)
theorem go_val {p : Pos} {x : Str} : Go w 2 (do let v ← mkText x; standAt p; pure v) s (.str x s.toks) { s with toks := s.toks + 1 } :=
  go_bind (c₁ := 1) (c₂ := 1) go_mkText (go_bind (c₁ := 1) (c₂ := 0) go_at go_pure)
theorem ent3_append (t : Nat) : ∀ (a b : List KX), ent3 t (a ++ b) = ent3 t a ++ ent3 (t + 3 * a.length) b
  | [], b => by simp [ent3]
  | (k, x) :: a, b => by
    rw [List.cons_append, ent3, ent3, ent3_append (t + 3) a b, List.length_cons, show t + 3 + 3 * a.length = t + 3 * (a.length + 1) by (first | lia | omega)]; rfl
theorem ent2_append (t : Nat) : ∀ (a b : List KX), ent2 t (a ++ b) = ent2 t a ++ ent2 (t + 2 * a.length) b
  | [], b => by simp [ent2]
  | (k, x) :: a, b => by
    rw [List.cons_append, ent2, ent2, ent2_append (t + 2) a b, List.length_cons, show t + 2 + 2 * a.length = t + 2 * (a.length + 1) by (first | lia | omega)]; rfl
theorem ent3_mem {t : Nat} : ∀ {ps : List KX} {e : DictEntry}, e ∈ ent3 t ps → ∃ x ∈ ps, ∃ t' v, e = ki x.1 t' x.1 v
  | [], e, h => by simp [ent3] at h
  | (k, x) :: r, e, h => by
    rw [ent3] at h
    rcases List.mem_cons.mp h with h | h
    · exact ⟨(k, x), List.mem_cons_self, _, _, h⟩
    · obtain ⟨y, hy, q⟩ := ent3_mem h
      exact ⟨y, List.mem_cons_of_mem _ hy, q⟩
theorem ent2_mem {t : Nat} : ∀ {ps : List KX} {e : DictEntry}, e ∈ ent2 t ps → ∃ x ∈ ps, ∃ t' v, e = ki x.1 t' x.1 v
  | [], e, h => by simp [ent2] at h
  | (k, x) :: r, e, h => by
    rw [ent2] at h
    rcases List.mem_cons.mp h with h | h
    · exact ⟨(k, x), List.mem_cons_self, _, _, h⟩
    · obtain ⟨y, hy, q⟩ := ent2_mem h
      exact ⟨y, List.mem_cons_of_mem _ hy, q⟩
theorem ent3_pw {t : Nat} : ∀ {ps : List KX}, (ps.Pairwise fun a b => a.1 ≠ b.1) → (ent3 t ps).Pairwise fun a b => a.hash ≠ b.hash
  | [], _ => .nil
  | (k, x) :: r, h => by
    rw [ent3]
    obtain ⟨h1, h2⟩ := List.pairwise_cons.mp h
    refine List.pairwise_cons.mpr ⟨fun e he => ?_, ent3_pw h2⟩
    obtain ⟨y, hy, t', v, rfl⟩ := ent3_mem he
    exact h1 y hy
theorem ent2_pw {t : Nat} : ∀ {ps : List KX}, (ps.Pairwise fun a b => a.1 ≠ b.1) → (ent2 t ps).Pairwise fun a b => a.hash ≠ b.hash
  | [], _ => .nil
  | (k, x) :: r, h => by
    rw [ent2]
    obtain ⟨h1, h2⟩ := List.pairwise_cons.mp h
    refine List.pairwise_cons.mpr ⟨fun e he => ?_, ent2_pw h2⟩
    obtain ⟨y, hy, t', v, rfl⟩ := ent2_mem he
    exact h1 y hy
theorem ent3_len (t : Nat) : ∀ (ps : List KX), (ent3 t ps).length = ps.length
  | [] => rfl
  | (_, _) :: r => by rw [ent3, List.length_cons, List.length_cons, ent3_len]
theorem ent2_len (t : Nat) : ∀ (ps : List KX), (ent2 t ps).length = ps.length
  | [] => rfl
  | (_, _) :: r => by rw [ent2, List.length_cons, List.length_cons, ent2_len]
theorem ent3_int {t : Nat} {ps : List KX} : IntEs (ent3 t ps) := fun e he => by obtain ⟨x, _, t', v, rfl⟩ := ent3_mem he; exact ⟨_, _, _, rfl⟩
theorem ent2_int {t : Nat} {ps : List KX} : IntEs (ent2 t ps) := fun e he => by obtain ⟨x, _, t', v, rfl⟩ := ent2_mem he; exact ⟨_, _, _, rfl⟩
theorem take_fresh {ps : List KX} (h : ps.Pairwise fun a b => a.1 ≠ b.1) {i : Nat} (hi : i < ps.length) : ∀ x ∈ ps.take i, x.1 ≠ ps[i].1 := by
  intro x hx
  obtain ⟨j, hj, rfl⟩ := List.getElem_of_mem hx
  simp only [List.length_take] at hj
  rw [List.getElem_take]
  exact List.pairwise_iff_getElem.mp h j i (by (first | lia | omega)) hi (by (first | lia | omega))
theorem sizeLine_big : (1000000 : Nat) < sizeLine := by rw [sizeLine_eq]; (first | lia | omega)
theorem go_subLong {p : Pos} {L : List Obj} {ps : List KX} {g : Array GenState} {dn : Drawn} {tk : Nat} {os : OsState} (hL : Nat.ble 11 L.length = true) (ok : KeysOk ps) (h15 : ¬ ps.length ≤ 15) (hb : ps.length ≤ 1000) :
    Go w (2 + 13 * ps.length) (subDict (ps.map (pr p))) ⟨hl L, g, dn, tk, os⟩ L.length ⟨hl (L ++ [dictOb (ent3 tk ps)]), g, dn, tk + 3 * ps.length, os⟩ := by
  unfold subDict
  refine go_mono (go_bind (c₁ := 1) (c₂ := 1 + 13 * ps.length) (a := L.length) (s₁ := ⟨hl (L ++ [dictOb []]), g, dn, tk, os⟩) ?_ ?_) (by (first | lia | omega))
  · have := go_alloc (w := w) (s := ⟨hl L, g, dn, tk, os⟩) (o := { cls := .type "dict", data := .dict #[] })
    rw [hl_size, hl_push] at this
    exact this
  refine go_bind (c₁ := 1 + 13 * ps.length) (c₂ := 0) (a := ()) (s₁ := ⟨hl (L ++ [dictOb (ent3 tk ps)]), g, dn, tk + 3 * ps.length, os⟩) (go_holding ?_) go_pure
  rw [if_neg (by rw [List.length_map]; exact h15)]
  refine go_bind (c₁ := 1) (c₂ := 13 * ps.length) go_rule ?_
  refine go_mono (go_bind (c₁ := 13 * (ps.map (pr p)).length) (c₂ := 0) (a := PUnit.unit) (s₁ := ⟨hl (L ++ [dictOb (ent3 tk ps)]), g, dn, tk + 3 * ps.length, os⟩) ?_ go_pure) (by simp)
  have key := go_forIn (w := w) (c := 13) (f := fun (x : Sem Value × Sem Value) (_ : PUnit) => match x with
                | (k, v) => do
                  let kv ← k
                  let vv ← holding [kv] v
                  holding [kv, vv] (dictSet L.length kv vv)
                  pure (ForInStep.yield PUnit.unit)) (ps.map (pr p)) (fun i => ⟨hl (L ++ [dictOb (ent3 tk (ps.take i))]), g, dn, tk + 3 * i, os⟩) ?_
  · simp only [List.take_zero, List.length_map, List.take_length, Nat.mul_zero, Nat.add_zero] at key
    rw [List.length_map]
    exact key
  intro i hi
  have hi : i < ps.length := by simpa using hi
  rw [List.getElem_map]
  show Go w 13 (do
                  let kv ← mkInt ps[i].1
                  let vv ← holding [kv] (do let v ← mkText ps[i].2; standAt p; pure v)
                  holding [kv, vv] (dictSet L.length kv vv)
                  pure (ForInStep.yield PUnit.unit)) _ _ _
  refine go_bind (c₁ := 1) (c₂ := 12) go_mkInt ?_
  refine go_bind (c₁ := 2) (c₂ := 10) (go_holding go_val) ?_
  refine go_bind (c₁ := 10) (c₂ := 0) (go_holding (go_dictSet (l := L) (r := []) hL ?_ (ok.1 _ (List.getElem_mem hi)).1 (ok.1 _ (List.getElem_mem hi)).2 ?_)) ?_
  · rw [ent3_len, List.length_take]; have := sizeLine_big; (first | lia | omega)
  · intro e he
    obtain ⟨x, hx, t', v, rfl⟩ := ent3_mem he
    exact take_fresh ok.2 hi x hx
  · dsimp only
    have e : ent3 tk (ps.take (i + 1)) = ent3 tk (ps.take i) ++ [ki ps[i].1 (tk + 3 * i) ps[i].1 (.str ps[i].2 (tk + 3 * i + 1))] := by
      rw [List.take_add_one, List.getElem?_eq_getElem hi, ent3_append, List.length_take, Nat.min_eq_left (by (first | lia | omega))]
      rfl
    rw [e, show tk + 3 * (i + 1) = tk + 3 * i + 1 + 1 + 1 by (first | lia | omega)]
    exact go_pure
end
end Mine
end
-- GO5
section
open PySem PySem.W PyProof.Rows PySem.Calls
set_option Elab.async false
set_option maxRecDepth 100000
set_option linter.all false
namespace Mine
noncomputable section
variable {w : World} {α β : Type} {s s₁ s₂ : Shared}
noncomputable def vals2 (t : Nat) : List KX → List (Value × Value)
  | [] => []
  | (k, x) :: r => (.int k t, .str x (t + 1)) :: vals2 (t + 2) r
theorem vals2_len (t : Nat) : ∀ (ps : List KX), (vals2 t ps).length = ps.length
  | [] => rfl
  | (_, _) :: r => by rw [vals2, List.length_cons, List.length_cons, vals2_len]
theorem vals2_get : ∀ {ps : List KX} {t i : Nat} (hi : i < ps.length), (vals2 t ps)[i]'(by rw [vals2_len]; exact hi) = (.int ps[i].1 (t + 2 * i), .str ps[i].2 (t + 2 * i + 1))
  | (k, x) :: r, t, 0, _ => rfl
  | (k, x) :: r, t, i + 1, hi => by
    have := vals2_get (ps := r) (t := t + 2) (i := i) (by simpa using hi)
    simp only [vals2, List.getElem_cons_succ]
    rw [this, show t + 2 + 2 * i = t + 2 * (i + 1) by (first | lia | omega)]
theorem go_evalPairs {p : Pos} : ∀ {ps : List KX} {h : Heap} {g : Array GenState} {dn : Drawn} {tk : Nat} {os : OsState},
    Go w (3 * ps.length) (evalPairs (ps.map (pr p))) ⟨h, g, dn, tk, os⟩ (vals2 tk ps) ⟨h, g, dn, tk + 2 * ps.length, os⟩
  | [], h, g, dn, tk, os => go_pure
  | (k, x) :: r, h, g, dn, tk, os => by
    have ih := go_evalPairs (p := p) (ps := r) (h := h) (g := g) (dn := dn) (tk := tk + 2) (os := os)
    show Go w _ (do
      let kv ← mkInt k
      let vv ← holding [kv] (do let v ← mkText x; standAt p; pure v)
      return (kv, vv) :: (← holding [kv, vv] (evalPairs (r.map (pr p))))) _ _ _
    refine go_mono (go_bind (c₁ := 1) (c₂ := 2 + 3 * r.length) go_mkInt ?_) (by rw [List.length_cons]; (first | lia | omega))
    refine go_bind (c₁ := 2) (c₂ := 3 * r.length) (go_holding go_val) ?_
    refine go_bind (c₁ := 3 * r.length) (c₂ := 0) (go_holding ih) ?_
    rw [List.length_cons, show tk + 2 * (r.length + 1) = tk + 2 + 2 * r.length by (first | lia | omega)]
    exact go_pure
theorem go_subShort {p : Pos} {L : List Obj} {ps : List KX} {g : Array GenState} {dn : Drawn} {tk : Nat} {os : OsState} (hL : Nat.ble 11 L.length = true) (ok : KeysOk ps) (h15 : ps.length ≤ 15) :
    Go w (2 + 13 * ps.length) (subDict (ps.map (pr p))) ⟨hl L, g, dn, tk, os⟩ L.length ⟨hl (L ++ [dictOb (ent2 tk ps)]), g, dn, tk + 3 * ps.length, os⟩ := by
  unfold subDict
  refine go_mono (go_bind (c₁ := 1) (c₂ := 1 + 13 * ps.length) (a := L.length) (s₁ := ⟨hl (L ++ [dictOb []]), g, dn, tk, os⟩) ?_ ?_) (by (first | lia | omega))
  · have := go_alloc (w := w) (s := ⟨hl L, g, dn, tk, os⟩) (o := { cls := .type "dict", data := .dict #[] })
    rw [hl_size, hl_push] at this
    exact this
  refine go_bind (c₁ := 1 + 13 * ps.length) (c₂ := 0) (a := ()) (s₁ := ⟨hl (L ++ [dictOb (ent2 tk ps)]), g, dn, tk + 3 * ps.length, os⟩) (go_holding ?_) go_pure
  rw [if_pos (by rw [List.length_map]; exact h15)]
  refine go_mono (go_bind (c₁ := 3 * ps.length) (c₂ := 10 * ps.length) go_evalPairs ?_) (by (first | lia | omega))
  refine go_holding ?_
  refine go_mono (go_bind (c₁ := 10 * (vals2 tk ps).length) (c₂ := 0) (a := PUnit.unit) (s₁ := ⟨hl (L ++ [dictOb (ent2 tk ps)]), g, dn, tk + 3 * ps.length, os⟩) ?_ go_pure) (by simp [vals2_len])
  have key := go_forIn (w := w) (c := 10) (f := fun (x : Value × Value) (_ : PUnit) => match x with
                | (k, v) => do
                  dictSet L.length k v
                  pure (ForInStep.yield PUnit.unit)) (vals2 tk ps) (fun i => ⟨hl (L ++ [dictOb (ent2 tk (ps.take i))]), g, dn, tk + 2 * ps.length + i, os⟩) ?_
  · simp only [List.take_zero, vals2_len, List.take_length, Nat.add_zero] at key
    rw [vals2_len, show tk + 3 * ps.length = tk + 2 * ps.length + ps.length by (first | lia | omega)]
    exact key
  intro i hi
  have hi : i < ps.length := by rw [vals2_len] at hi; exact hi
  rw [vals2_get hi]
  show Go w 10 (do
                  dictSet L.length (.int ps[i].1 (tk + 2 * i)) (.str ps[i].2 (tk + 2 * i + 1))
                  pure (ForInStep.yield PUnit.unit)) _ _ _
  refine go_bind (c₁ := 10) (c₂ := 0) (go_dictSet (l := L) (r := []) hL ?_ (ok.1 _ (List.getElem_mem hi)).1 (ok.1 _ (List.getElem_mem hi)).2 ?_) ?_
  · rw [ent2_len, List.length_take]; have := sizeLine_big; (first | lia | omega)
  · intro e he
    obtain ⟨x, hx, t', v, rfl⟩ := ent2_mem he
    exact take_fresh ok.2 hi x hx
  · have e : ent2 tk (ps.take (i + 1)) = ent2 tk (ps.take i) ++ [ki ps[i].1 (tk + 2 * i) ps[i].1 (.str ps[i].2 (tk + 2 * i + 1))] := by
      rw [List.take_add_one, List.getElem?_eq_getElem hi, ent2_append, List.length_take, Nat.min_eq_left (by (first | lia | omega))]
      rfl
    rw [e, show tk + 2 * ps.length + (i + 1) = tk + 2 * ps.length + i + 1 by (first | lia | omega)]
    exact go_pure
/-- a loop whose turns carry a state -/
theorem go_forInS {X β : Type} {c : Nat} {f : X → β → Sem (ForInStep β)} : ∀ (xs : List X) (st : Nat → β) (σ : Nat → Shared), (∀ i (hi : i < xs.length), Go w c (f xs[i] (st i)) (σ i) (.yield (st (i + 1))) (σ (i + 1))) →
    Go w (c * xs.length) (forIn xs (st 0) f) (σ 0) (st xs.length) (σ xs.length)
  | [], st, σ, _ => by
    rw [List.forIn_nil]
    exact go_pure
  | x :: xs, st, σ, h => by
    rw [List.forIn_cons]
    refine go_mono (go_bind (c₁ := c) (c₂ := c * xs.length) (h 0 (Nat.zero_lt_succ _)) ?_) (by rw [List.length_cons, Nat.mul_add]; (first | lia | omega))
    have := go_forInS xs (fun i => st (i + 1)) (fun i => σ (i + 1)) fun i hi => h (i + 1) (Nat.succ_lt_succ hi)
    exact this
/-- the chunk of number c -/
noncomputable def chk (ps : List KX) (c : Nat) : List KX := (ps.drop (17 * c)).take 17
noncomputable def subsL (tk : Nat) (ps : List KX) (m : Nat) : List Obj := (List.range m).map fun j => dictOb (ent3 (tk + 51 * (j + 1)) (chk ps (j + 1)))
theorem subsL_succ (tk : Nat) (ps : List KX) (m : Nat) : subsL tk ps (m + 1) = subsL tk ps m ++ [dictOb (ent3 (tk + 51 * (m + 1)) (chk ps (m + 1)))] := by
  unfold subsL
  rw [List.range_succ, List.map_append]; rfl
theorem subsL_len (tk : Nat) (ps : List KX) (m : Nat) : (subsL tk ps m).length = m := by simp [subsL]
/-- what stands when c chunks are in -/
noncomputable def hpAt (L : List Obj) (tk : Nat) (ps : List KX) : Nat → List Obj
  | 0 => L
  | c + 1 => L ++ dictOb (ent3 tk (ps.take (17 * (c + 1)))) :: subsL tk ps c
noncomputable def mainAt (L : List Obj) : Nat → Option Addr
  | 0 => none
  | _ + 1 => some L.length
theorem chk_len {ps : List KX} {c : Nat} (h : 17 * (c + 1) ≤ ps.length) : (chk ps c).length = 17 := by
  unfold chk
  rw [List.length_take, List.length_drop]; (first | lia | omega)
theorem take_chk {ps : List KX} {c : Nat} : ps.take (17 * (c + 1)) = ps.take (17 * c) ++ chk ps c := by
  unfold chk
  rw [show 17 * (c + 1) = 17 * c + 17 by (first | lia | omega), List.take_add]
theorem keysOk_sub {ps q : List KX} (ok : KeysOk ps) (h : q.Sublist ps) : KeysOk q := ⟨fun x hx => ok.1 x (h.subset hx), ok.2.sublist h⟩
theorem chk_sub (ps : List KX) (c : Nat) : (chk ps c).Sublist ps := (List.take_sublist ..).trans (List.drop_sublist ..)
/-- merging one more sub-dict -/
theorem go_mergeStep {L mid : List Obj} {es sub : List DictEntry} {n : Nat} {g : Array GenState} {dn : Drawn} {tk : Nat} {os : OsState} {m : Sem Addr} {s₀ : Shared} {k : Value → Sem Unit} (hL : Nat.ble 11 L.length = true) (hsz : es.length + sub.length < 1000000) (hne : es ≠ [])
    (hi : IntEs sub) (hf : ∀ e ∈ es, ∀ e' ∈ sub, e.hash ≠ e'.hash) (hn : sub.Pairwise fun a b => a.hash ≠ b.hash)
    (hm : Go w n m s₀ (L.length + 1 + mid.length) ⟨hl (L ++ dictOb es :: (mid ++ [dictOb sub])), g, dn, tk, os⟩) :
    Go w (n + (10 + 10 * sub.length)) (do
        let sub ← holding [Value.ref L.length] m
        (holding [Value.ref L.length, Value.ref sub] (mergeMapping L.length (Value.ref sub) false)).onRaise k
        pure (some L.length)) s₀ (some L.length) ⟨hl (L ++ dictOb (es ++ sub) :: (mid ++ [dictOb sub])), g, dn, tk, os⟩ := by
  have := sizeLine_big
  refine go_bind (go_holding hm) ?_
  refine go_bind (c₁ := 10 + 10 * sub.length) (c₂ := 0) (go_onRaise (go_holding (go_merge hL (by (first | lia | omega)) hne hi hf hn))) ?_
  exact go_pure
theorem app_fresh {a b : List KX} {t u : Nat} (h : (a ++ b).Pairwise fun x y => x.1 ≠ y.1) : ∀ e ∈ ent3 t a, ∀ e' ∈ ent3 u b, e.hash ≠ e'.hash := by
  intro e he e' he'
  obtain ⟨x, hx, _, _, rfl⟩ := ent3_mem he
  obtain ⟨y, hy, _, _, rfl⟩ := ent3_mem he'
  exact (List.pairwise_append.mp h).2.2 x hx y hy
theorem app_fresh2 {a b : List KX} {t u : Nat} (h : (a ++ b).Pairwise fun x y => x.1 ≠ y.1) : ∀ e ∈ ent3 t a, ∀ e' ∈ ent2 u b, e.hash ≠ e'.hash := by
  intro e he e' he'
  obtain ⟨x, hx, _, _, rfl⟩ := ent3_mem he
  obtain ⟨y, hy, _, _, rfl⟩ := ent2_mem he'
  exact (List.pairwise_append.mp h).2.2 x hx y hy
theorem chk_zero (ps : List KX) : chk ps 0 = ps.take 17 := by simp [chk]
/-- one flush, at a full chunk -/
theorem go_flush {p : Pos} {L : List Obj} {ps : List KX} {c : Nat} {g : Array GenState} {dn : Drawn} {tk : Nat} {os : OsState} {k : Addr → Value → Sem Unit} (hL : Nat.ble 11 L.length = true) (ok : KeysOk ps) (hc : 17 * (c + 1) ≤ ps.length) (hb : ps.length ≤ 1000) :
    Go w 500 (if ((chk ps c).map (pr p)).isEmpty = true then pure (mainAt L c)
                    else
                      match mainAt L c with
                      | none => do
                        let __do_lift ← subDict ((chk ps c).map (pr p))
                        pure (some __do_lift)
                      | some d => do
                        let sub ← holding [Value.ref d] (subDict ((chk ps c).map (pr p)))
                        (holding [Value.ref d, Value.ref sub] (mergeMapping d (Value.ref sub) false)).onRaise (k d)
                        pure (some d)) ⟨hl (hpAt L tk ps c), g, dn, tk + 51 * c, os⟩ (mainAt L (c + 1)) ⟨hl (hpAt L tk ps (c + 1)), g, dn, tk + 51 * (c + 1), os⟩ := by
  have hlen := chk_len hc
  have hne : ((chk ps c).map (pr p)).isEmpty = false := by
    cases h : chk ps c with
    | nil => rw [h] at hlen; cases hlen
    | cons => rfl
  rw [hne]
  simp only [Bool.false_eq_true, if_false]
  have okc := keysOk_sub ok (chk_sub ps c)
  cases c with
  | zero =>
    dsimp only [mainAt, hpAt]
    refine go_mono (go_bind (c₁ := 2 + 13 * (chk ps 0).length) (c₂ := 0) (go_subLong hL okc (by (first | lia | omega)) (by (first | lia | omega))) ?_) (by (first | lia | omega))
    have e : L ++ dictOb (ent3 tk (ps.take (17 * (0 + 1)))) :: subsL tk ps 0 = L ++ [dictOb (ent3 (tk + 51 * 0) (chk ps 0))] := by
      rw [chk_zero]; rfl
    rw [e, hlen]
    exact go_pure
  | succ c =>
    dsimp only [mainAt, hpAt]
    have hsub := go_subLong (w := w) (p := p) (L := L ++ dictOb (ent3 tk (ps.take (17 * (c + 1)))) :: subsL tk ps c) (ps := chk ps (c + 1)) (g := g) (dn := dn) (tk := tk + 51 * (c + 1)) (os := os)
      (Nat.ble_eq_true_of_le (by have := Nat.le_of_ble_eq_true hL; rw [List.length_append]; (first | lia | omega))) okc (by (first | lia | omega)) (by (first | lia | omega))
    rw [List.length_append, List.length_cons, subsL_len, hlen, List.append_assoc, List.cons_append, show L.length + (c + 1) = L.length + 1 + c by (first | lia | omega)] at hsub
    have hpw : ((ps.take (17 * (c + 1))) ++ chk ps (c + 1)).Pairwise fun a b => a.1 ≠ b.1 := by
      rw [← take_chk]; exact ok.2.sublist (List.take_sublist ..)
    have hl1 : (ps.take (17 * (c + 1))).length = 17 * (c + 1) := by rw [List.length_take]; (first | lia | omega)
    have key := go_mergeStep (w := w) (L := L) (mid := subsL tk ps c) (es := ent3 tk (ps.take (17 * (c + 1)))) (sub := ent3 (tk + 51 * (c + 1)) (chk ps (c + 1))) (k := k L.length) hL
      (by rw [ent3_len, ent3_len]; (first | lia | omega)) (by intro h; have := congrArg List.length h; rw [ent3_len, hl1] at this; simp at this) ent3_int (app_fresh hpw) (ent3_pw okc.2)
      (by rw [subsL_len]; exact hsub)
    have e : L ++ dictOb (ent3 tk (ps.take (17 * (c + 1 + 1)))) :: subsL tk ps (c + 1) = L ++ dictOb (ent3 tk (ps.take (17 * (c + 1))) ++ ent3 (tk + 51 * (c + 1)) (chk ps (c + 1))) :: (subsL tk ps c ++ [dictOb (ent3 (tk + 51 * (c + 1)) (chk ps (c + 1)))]) := by
      rw [subsL_succ, take_chk, ent3_append, hl1, show tk + 3 * (17 * (c + 1)) = tk + 51 * (c + 1) by (first | lia | omega)]
    rw [e, show tk + 51 * (c + 1 + 1) = tk + 51 * (c + 1) + 3 * 17 by (first | lia | omega)]
    exact go_mono key (by rw [ent3_len]; (first | lia | omega))
/-- the last flush: a short chunk behind c + 1 full ones -/
theorem go_flushLast {p : Pos} {L : List Obj} {ps q : List KX} {c : Nat} {g : Array GenState} {dn : Drawn} {tk : Nat} {os : OsState} {k : Addr → Value → Sem Unit} (hL : Nat.ble 11 L.length = true) (ok : KeysOk ps) (hc : 17 * (c + 1) ≤ ps.length) (hb : ps.length ≤ 1000)
    (hq : ps.drop (17 * (c + 1)) = q) (hq1 : q.length ≤ 15) (hq0 : q ≠ []) :
    Go w 500 (if (q.map (pr p)).isEmpty = true then pure (mainAt L (c + 1))
                    else
                      match mainAt L (c + 1) with
                      | none => do
                        let __do_lift ← subDict (q.map (pr p))
                        pure (some __do_lift)
                      | some d => do
                        let sub ← holding [Value.ref d] (subDict (q.map (pr p)))
                        (holding [Value.ref d, Value.ref sub] (mergeMapping d (Value.ref sub) false)).onRaise (k d)
                        pure (some d)) ⟨hl (hpAt L tk ps (c + 1)), g, dn, tk + 51 * (c + 1), os⟩ (some L.length)
      ⟨hl (L ++ dictOb (ent3 tk (ps.take (17 * (c + 1))) ++ ent2 (tk + 51 * (c + 1)) q) :: (subsL tk ps c ++ [dictOb (ent2 (tk + 51 * (c + 1)) q)])), g, dn, tk + 51 * (c + 1) + 3 * q.length, os⟩ := by
  have hne : (q.map (pr p)).isEmpty = false := by
    cases q with
    | nil => exact absurd rfl hq0
    | cons => rfl
  rw [hne]
  simp only [Bool.false_eq_true, if_false]
  have okc : KeysOk q := hq ▸ keysOk_sub ok (List.drop_sublist ..)
  have hal : ps.take (17 * (c + 1)) ++ q = ps := by rw [← hq, List.take_append_drop]
  have hpw : (ps.take (17 * (c + 1)) ++ q).Pairwise fun a b => a.1 ≠ b.1 := by rw [hal]; exact ok.2
  have hl1 : (ps.take (17 * (c + 1))).length = 17 * (c + 1) := by rw [List.length_take]; (first | lia | omega)
  dsimp only [mainAt, hpAt]
  have hsub := go_subShort (w := w) (p := p) (L := L ++ dictOb (ent3 tk (ps.take (17 * (c + 1)))) :: subsL tk ps c) (ps := q) (g := g) (dn := dn) (tk := tk + 51 * (c + 1)) (os := os)
      (Nat.ble_eq_true_of_le (by have := Nat.le_of_ble_eq_true hL; rw [List.length_append]; (first | lia | omega))) okc hq1
  rw [List.length_append, List.length_cons, subsL_len, List.append_assoc, List.cons_append, show L.length + (c + 1) = L.length + 1 + c by (first | lia | omega)] at hsub
  have key := go_mergeStep (w := w) (L := L) (mid := subsL tk ps c) (es := ent3 tk (ps.take (17 * (c + 1)))) (sub := ent2 (tk + 51 * (c + 1)) q) (k := k L.length) hL
      (by rw [ent3_len, ent2_len]; (first | lia | omega)) (by intro h; have := congrArg List.length h; rw [ent3_len, hl1] at this; simp at this) ent2_int (app_fresh2 hpw) (ent2_pw okc.2)
      (by rw [subsL_len]; exact hsub)
  exact go_mono key (by rw [ent2_len]; (first | lia | omega))
theorem div_same {i : Nat} (h : ¬ i % 17 + 1 = 17) : (i + 1) / 17 = i / 17 ∧ (i + 1) % 17 = i % 17 + 1 := by (first | lia | omega)
theorem div_next {i : Nat} (h : i % 17 + 1 = 17) : (i + 1) / 17 = i / 17 + 1 ∧ (i + 1) % 17 = 0 ∧ i = 17 * (i / 17) + 16 := by (first | lia | omega)
theorem chk_get {ps : List KX} {i : Nat} (hi : i < ps.length) : (chk ps (i / 17))[i % 17]? = some ps[i] := by
  unfold chk
  rw [List.getElem?_take, if_pos (Nat.mod_lt _ (by (first | lia | omega))), List.getElem?_drop, show 17 * (i / 17) + i % 17 = i from Nat.div_add_mod i 17, List.getElem?_eq_getElem hi]
theorem go_display {p : Pos} {L : List Obj} {ps q : List KX} {c : Nat} {g : Array GenState} {dn : Drawn} {tk : Nat} {os : OsState} (hL : Nat.ble 11 L.length = true) (ok : KeysOk ps) (hb : ps.length ≤ 1000) (hc : ps.length / 17 = c + 1)
    (hq : ps.drop (17 * (c + 1)) = q) (hq1 : q.length ≤ 15) (hq0 : q ≠ []) :
    Go w (500 * ps.length + 500) (dictDisplay (ps.map fun x => (some (pr p x).1, (pr p x).2))) ⟨hl L, g, dn, tk, os⟩ (.ref L.length)
      ⟨hl (L ++ dictOb (ent3 tk (ps.take (17 * (c + 1))) ++ ent2 (tk + 51 * (c + 1)) q) :: (subsL tk ps c ++ [dictOb (ent2 (tk + 51 * (c + 1)) q)])), g, dn, tk + 51 * (c + 1) + 3 * q.length, os⟩ := by
  have hlen : 17 * (c + 1) ≤ ps.length := by (first | lia | omega)
  unfold dictDisplay
  dsimp only
  refine go_bind (c₁ := 500 * ps.length) (c₂ := 500) (a := (mainAt L (c + 1), q.map (pr p))) (s₁ := ⟨hl (hpAt L tk ps (c + 1)), g, dn, tk + 51 * (c + 1), os⟩) ?_ ?_
  · have e0 : ((none : Option Addr), ([] : List (Sem Value × Sem Value))) = (fun i => (mainAt L (i / 17), ((chk ps (i / 17)).take (i % 17)).map (pr p))) 0 := rfl
    have e1 : (mainAt L (c + 1), q.map (pr p)) = (fun i => (mainAt L (i / 17), ((chk ps (i / 17)).take (i % 17)).map (pr p))) (ps.map fun x => (some (pr p x).1, (pr p x).2)).length := by
      simp only [List.length_map, hc]
      congr 2
      unfold chk
      rw [hq, List.take_take, Nat.min_eq_left (Nat.le_of_lt (Nat.mod_lt _ (by (first | lia | omega)))), List.take_of_length_le]
      rw [← hq, List.length_drop]; (first | lia | omega)
    have s1 : (⟨hl (hpAt L tk ps (c + 1)), g, dn, tk + 51 * (c + 1), os⟩ : Shared) = (fun i => (⟨hl (hpAt L tk ps (i / 17)), g, dn, tk + 51 * (i / 17), os⟩ : Shared)) (ps.map fun x => (some (pr p x).1, (pr p x).2)).length := by
      simp only [List.length_map, hc]
    rw [e0, e1, s1]
    refine go_mono (go_forInS (w := w) (c := 500) (β := Option Addr × List (Sem Value × Sem Value)) (ps.map fun x => (some (pr p x).1, (pr p x).2))
      (fun i => (mainAt L (i / 17), ((chk ps (i / 17)).take (i % 17)).map (pr p))) (fun i => ⟨hl (hpAt L tk ps (i / 17)), g, dn, tk + 51 * (i / 17), os⟩) ?_) (by simp)
    intro i hi
    have hi : i < ps.length := by simpa using hi
    have hrun : ((chk ps (i / 17)).take (i % 17)).map (pr p) ++ [pr p ps[i]] = ((chk ps (i / 17)).take (i % 17 + 1)).map (pr p) := by
      rw [List.take_add_one, chk_get hi, List.map_append]; rfl
    have hlr : (((chk ps (i / 17)).take (i % 17)).map (pr p)).length = i % 17 := by
      rw [List.length_map, List.length_take, Nat.min_eq_left]
      have := (List.getElem?_eq_some_iff.mp (chk_get hi)).1
      (first | lia | omega)
    rw [List.getElem_map]
    dsimp only
    rw [show (((pr p ps[i]).1, (pr p ps[i]).2) : Sem Value × Sem Value) = pr p ps[i] from rfl, hrun]
    by_cases h17 : i % 17 + 1 = 17
    · obtain ⟨d1, d2, d3⟩ := div_next h17
      rw [if_pos (by rw [← hrun, List.length_append, hlr, beq_iff_eq]; exact h17), d1, d2, h17]
      have hck : (chk ps (i / 17)).take 17 = chk ps (i / 17) := by unfold chk; rw [List.take_take]; rfl
      rw [hck]
      refine go_bind (c₁ := 500) (c₂ := 0) (go_flush (k := fun d x => do let _ ← holding [Value.ref d, x] (runValue (Code.builtin "proto.let_go" {})); pure ()) hL ok (by (first | lia | omega)) hb) ?_
      exact go_pure
    · obtain ⟨d1, d2⟩ := div_same h17
      rw [if_neg (by rw [← hrun, List.length_append, hlr, beq_iff_eq]; exact h17), d1, d2]
      exact go_mono go_pure (by (first | lia | omega))
  · dsimp only
    refine go_bind (c₁ := 500) (c₂ := 0) (go_flushLast (k := fun d x => do let _ ← holding [Value.ref d, x] (runValue (Code.builtin "proto.let_go" {})); pure ()) hL ok hlen hb hq hq1 hq0) ?_
    exact go_pure
end
end Mine
end
-- HP
section
open PySem PySem.W PyProof.Rows PySem.Calls
set_option Elab.async false
set_option maxRecDepth 100000
set_option maxHeartbeats 0
namespace Mine
noncomputable abbrev stA (P : Params) (os : OsState) : SharedT := ⟨tr_a P, 15, lf, #[], dr, 187, os⟩
noncomputable abbrev st9 (P : Params) (os : OsState) : SharedT := ⟨tr_9 P, 65, lf, #[], dr, 291, os⟩
noncomputable abbrev st10 (P : Params) (os : OsState) : SharedT := ⟨tr_10 P, 76, lf, #[], dr, 351, os⟩
noncomputable abbrev st11 (P : Params) (os : OsState) : SharedT := ⟨tr_11 P, 83, lf, #[], dr, 358, os⟩
noncomputable abbrev st12 (P : Params) (os : OsState) : SharedT := ⟨tr_12 P, 122, lf, #[], dr, 2309, os⟩
noncomputable abbrev st21 (P : Params) (os : OsState) : SharedT := ⟨tr_21 P, 143, lf, #[], dr, 2343, os⟩
noncomputable abbrev st31 (P : Params) (os : OsState) : SharedT := ⟨tr_31 P, 195, lf, #[], dr, 2431, os⟩
theorem pcPre (w : World) (os : OsState) : topGo treeTable pw w 11 (some (.ref 6)) 12 ⟨boot_heap w.params, #[], boot_drawn, boot_toks, os⟩ (topStub pw) = some ((stA w.params os).abs, ⟨denote treeTable cB, cB, p0, [topFrame p0]⟩) := by kernel_rfl
theorem pcBlock (w : World) (os : OsState) : segRun treeTable pw w 11 (some (.ref 6)) 1 1 (stA w.params os).abs (blockOf (behindTheImports pw) env cB p0 [topFrame p0]) = some (.next, (stA w.params os).abs, cB, p0) := by kernel_rfl
theorem pc9 (w : World) (os : OsState) : segRun treeTable pw w 11 (some (.ref 6)) 1 300 (stA w.params os).abs (piecesOf [stm 0, stm 1, stm 2, stm 3, stm 4, stm 5, stm 6, stm 7, stm 8, stm 9] env cB p0 [topFrame p0]) = some (.next, (st9 w.params os).abs, cB, ⟨117, 0, 117, 8⟩) :=
  segRun_of (by kernel_rfl)
theorem pc11 (w : World) (os : OsState) : segRun treeTable pw w 11 (some (.ref 6)) 1 30 (st10 w.params os).abs (piecesOf [stm 11] env cB ⟨118, 0, 118, 6⟩ [topFrame p0]) = some (.next, (st11 w.params os).abs, cB, ⟨119, 0, 120, 30⟩) :=
  segRun_of (by kernel_rfl)
theorem pc21 (w : World) (os : OsState) (q : Pos) : segRun treeTable pw w 11 (some (.ref 6)) 1 160 (st12 w.params os).abs (piecesOf [stm 13, stm 14, stm 15, stm 16, stm 17, stm 18, stm 19, stm 20, stm 21] env cB q [topFrame p0]) = some (.next, (st21 w.params os).abs, cB, ⟨136, 0, 136, 10⟩) :=
  segRun_of (by kernel_rfl)
theorem pc31 (w : World) (os : OsState) : segRun treeTable pw w 11 (some (.ref 6)) 1 400 (st21 w.params os).abs (piecesOf [stm 22, stm 23, stm 24, stm 25, stm 26, stm 27, stm 28, stm 29, stm 30, stm 31] env cB ⟨136, 0, 136, 10⟩ [topFrame p0]) = some (.next, (st31 w.params os).abs, cB, ⟨208, 0, 244, 42⟩) :=
  segRun_of (by kernel_rfl)
theorem pc10aux (w : World) (a b : Bool) (os : OsState) : segRunT treeTable pw ((w.withFollow "special-get-raises" b).withFollow "set-order" a) 11 (some (.ref 6)) 1 1100 (st9 ((w.withFollow "special-get-raises" b).withFollow "set-order" a).params os) (piecesOf [stm 10] env cB ⟨117, 0, 117, 8⟩ [topFrame p0]) = some (.next, st10 ((w.withFollow "special-get-raises" b).withFollow "set-order" a).params os, cB, ⟨118, 0, 118, 6⟩) := by
  rw [PySem.W.Fast.te14364793385576792824, PySem.W.Fast.te10110043849684766642]
  cases a <;> cases b <;> kernel_rfl
end Mine
end
-- HLk
section
open PySem PySem.W PyProof.Rows PySem.Calls
set_option Elab.async false
set_option maxRecDepth 100000
set_option maxHeartbeats 0
namespace Mine
noncomputable def qv : Program := view pw [2, 3, 4, 5, 6, 7, 8, 10, 11, 12, 13, 15, 16, 17, 18, 20, 21, 22, 23, 24, 26, 27, 28, 29, 30, 31]
noncomputable def loose : List Str := [Str.ofString "compute_powers", Str.ofString "b1_set", Str.ofString "b3_exceptions"]
noncomputable def H1 (P : Params) : Heap := absHeap (tr_31 P) 195 lf
noncomputable abbrev hk : Hook := kmHook K Kas (fun _ => by kernel_rfl) [38, 45]
theorem lkA (w : World) (os : OsState) : (staticsOk (importedModules pw.main.body) (boot_heap w.params) (H1 w.params) && namesBound pw (H1 w.params) && gensDone ⟨H1 w.params, #[], dr, 2431, os⟩ && laidKept (boot_heap w.params) (H1 w.params)) = true := by kernel_rfl
theorem lkC (w : World) (os : OsState) : hk.obs ⟨H1 w.params, #[], dr, 2431, os⟩ = hk.val w := by kernel_rfl
/-- keys that go up are apart (the table of 650 keys: one look a key in place of one a pair) -/
noncomputable def keysUp (k : Int) : List (PyData × PyData) → Bool
  | [] => true
  | (.int i, _) :: D => decide (k < i) && keysUp i D
  | _ => false
theorem keysUp_no : ∀ (D : List (PyData × PyData)) (k j : Int), keysUp k D = true → j ≤ k → hasIntKey j D = false
  | [], _, _, _, _ => rfl
  | (.int i, _) :: D, k, j, h, hj => by
    unfold keysUp at h
    simp only [Bool.and_eq_true, decide_eq_true_eq] at h
    unfold hasIntKey
    rw [keysUp_no D i j h.2 (by omega)]
    have : ¬ (i = j) := by omega
    simp [this]
  | (.none, _) :: _, _, _, h, _ => nomatch h
  | (.bool _, _) :: _, _, _, h, _ => nomatch h
  | (.str _, _) :: _, _, _, h, _ => nomatch h
theorem keysUp_apart : ∀ (D : List (PyData × PyData)) (k : Int), keysUp k D = true → keysApartInt D = true
  | [], _, _ => rfl
  | (.int i, _) :: D, k, h => by
    unfold keysUp at h
    simp only [Bool.and_eq_true, decide_eq_true_eq] at h
    unfold keysApartInt
    rw [keysUp_no D i i h.2 (Int.le_refl _), keysUp_apart D i h.2]
    rfl
noncomputable def tabIntOk0 (h : Heap) (name : Str) (D : List (PyData × PyData)) : Bool :=
  match h.nsMap mainGlobals name with
  | some (.ref a) => (match h.get? a with
    | some o => (match o.cls, o.dict, o.data with
      | .type n, none, .dict es _ => (n == "dict") && (o.slots.size == 0) && entriesAreInt es.toList D && (a != sysModules)
      | _, _, _ => false)
    | none => false)
  | _ => false
theorem tabIntOk_of {h : Heap} {name : Str} {D : List (PyData × PyData)} (h0 : tabIntOk0 h name D = true) (hk : keysApartInt D = true) : h.tabIntOk name D = true := by
  unfold tabIntOk0 at h0
  unfold Heap.tabIntOk
  repeat' split at h0
  all_goals first | exact absurd h0 (by decide) | simp_all
noncomputable def b3D : List (PyData × PyData) := (tabIntOf qv (Str.ofString "b3_exceptions")).getD []
theorem b3D_some : (tabIntOf qv (Str.ofString "b3_exceptions")).isSome = true := by kernel_rfl
theorem b3D_up : keysUp (-1) b3D = true := by kernel_rfl
theorem tb0 (w : World) : tabIntOk0 (H1 w.params) (Str.ofString "b3_exceptions") b3D = true := by kernel_rfl
theorem tb_names : ((valNames qv).all fun x => (tupIntsOf qv x).isNone && (tupStrsOf qv x).isNone && (x == Str.ofString "b3_exceptions" || (tabIntOf qv x).isNone)) = true := by kernel_rfl
theorem tb (w : World) : tablesOk qv (H1 w.params) = true := by
  refine List.all_eq_true.mpr fun x hx => ?_
  have h := List.all_eq_true.mp tb_names x hx
  simp only [Bool.and_eq_true, Bool.or_eq_true, Option.isNone_iff_eq_none, beq_iff_eq] at h
  obtain ⟨⟨h1, h2⟩, h3⟩ := h
  rw [h1, h2]
  rcases h3 with rfl | h3
  · obtain ⟨D, e⟩ := Option.isSome_iff_exists.mp b3D_some
    have eD : b3D = D := by unfold b3D; rw [e]; rfl
    rw [e]
    exact tabIntOk_of (eD ▸ tb0 w) (eD ▸ keysUp_apart _ _ b3D_up)
  · rw [h3]
    rfl
theorem lkB3 (w : World) (os : OsState) : ((H1 w.params).keysOk (looseW qv loose) ((recsOf qv).map (·.name)) ((litsOf qv).map (·.1)) ((clssOf qv (looseW qv loose)).map (·.name)) && (H1 w.params).accountedOkI (importedModules pw.main.body) && (H1 w.params).isNs mainGlobals && (H1 w.params).isNs builtinsNs && tablesOk qv (H1 w.params) && (xlAt qv [] ⟨H1 w.params, #[], dr, 2431, os⟩ && recOk [] ⟨H1 w.params, #[], dr, 2431, os⟩) && true) = true := by
  have h1 : (H1 w.params).keysOk (looseW qv loose) ((recsOf qv).map (·.name)) ((litsOf qv).map (·.1)) ((clssOf qv (looseW qv loose)).map (·.name)) = true := by kernel_rfl
  have h2 : (H1 w.params).accountedOkI (importedModules pw.main.body) = true := by kernel_rfl
  have h3 : (H1 w.params).isNs mainGlobals = true := by kernel_rfl
  have h4 : (H1 w.params).isNs builtinsNs = true := by kernel_rfl
  have h5 : (xlAt qv [] ⟨H1 w.params, #[], dr, 2431, os⟩ && recOk [] ⟨H1 w.params, #[], dr, 2431, os⟩) = true := by kernel_rfl
  rw [h1, h2, h3, h4, tb, h5]
  rfl
theorem lkB (w : World) (os : OsState) : openSeen qv loose (importedModules pw.main.body) (fun s => xlAt qv [] s && recOk [] s) true ⟨H1 w.params, #[], dr, 2431, os⟩ = openGood qv loose := by
  have e : PySem.W.Fast.tw4187177175401517315 = openSeen := PySem.W.Fast.te4187177175401517315.symm
  refine Prod.ext ?_ (Prod.ext ?_ (Prod.ext (lkB3 w os) ?_))
  · rw [← e]
    unfold PySem.W.Fast.tw4187177175401517315 openGood
    dsimp only
    kernel_rfl
  · rw [← e]
    unfold PySem.W.Fast.tw4187177175401517315 openGood
    dsimp only
    kernel_rfl
  · rw [← e]
    unfold PySem.W.Fast.tw4187177175401517315 openGood
    dsimp only
    kernel_rfl
end Mine
end
-- GO6
section
open PySem PySem.W PyProof.Rows PySem.Calls
set_option Elab.async false
set_option maxRecDepth 100000
set_option linter.all false
set_option maxHeartbeats 0
namespace Mine
noncomputable section
variable {w : World} {α β : Type} {s s₁ s₂ : Shared}
noncomputable def incr : Int → List KX → Bool
  | _, [] => true
  | a, x :: r => decide (a < x.1) && decide (x.1 < 2 ^ 61 - 1) && incr x.1 r
theorem incr_all : ∀ {a : Int} {l : List KX}, incr a l = true → ∀ x ∈ l, a < x.1 ∧ x.1 < 2 ^ 61 - 1
  | a, [], _, x, hx => by cases hx
  | a, y :: r, h, x, hx => by
    simp only [incr, Bool.and_eq_true, decide_eq_true_eq] at h
    rcases List.mem_cons.mp hx with rfl | hx
    · exact h.1
    · have := incr_all h.2 x hx
      (first | lia | omega)
theorem incr_pw : ∀ {a : Int} {l : List KX}, incr a l = true → l.Pairwise fun a b => a.1 ≠ b.1
  | a, [], _ => .nil
  | a, y :: r, h => by
    simp only [incr, Bool.and_eq_true, decide_eq_true_eq] at h
    refine List.pairwise_cons.mpr ⟨fun x hx => ?_, incr_pw h.2⟩
    have := incr_all h.2 x hx
    (first | lia | omega)
theorem b3_incr : incr (-1) b3Items = true := by kernel_rfl
theorem b3_ok : KeysOk b3Items := ⟨fun x hx => by have := incr_all b3_incr x hx; (first | lia | omega), incr_pw b3_incr⟩
theorem b3_len : b3Items.length = 650 := by kernel_rfl
noncomputable def pb : Pos := ⟨121, 16, 121, 10000⟩
noncomputable def posOf : Stmt → Pos
  | .Assign _ (.Dict _ _ p) _ => p
  | _ => p0
noncomputable def pos2Of : Stmt → Pos
  | .Assign _ _ p => p
  | _ => p0
noncomputable def tgts : Stmt → List Expr
  | .Assign ts _ _ => ts
  | _ => []
theorem b3_exec : exec (stm 12) env = ((do standAt (pos2Of (stm 12)); standAt (posOf (stm 12)); dictDisplay (b3Items.map fun x => (some (pr (posOf (stm 12)) x).1, (pr (posOf (stm 12)) x).2))) >>= fun v =>
    assignStores env v none ((assignEach (tgts (stm 12)) env).map (·.2))) := by kernel_rfl
theorem list_len (t : BT) (n : Nat) : (t.list n).length = n := by simp [BT.list]
theorem abs_hl (t : BT) (n : Nat) : absHeap t n lf = hl (t.list n) := rfl
theorem heap12 (P : Params) : (tr_11 P).list 83 ++ dictOb (ent3 358 (b3Items.take (17 * (37 + 1))) ++ ent2 (358 + 51 * (37 + 1)) (b3Items.drop 646)) :: (subsL 358 b3Items 37 ++ [dictOb (ent2 (358 + 51 * (37 + 1)) (b3Items.drop 646))]) = (tr_12m P).list 122 := by kernel_rfl
theorem go_b3 (os : OsState) : Go w 326000 (do standAt (pos2Of (stm 12)); standAt (posOf (stm 12)); dictDisplay (b3Items.map fun x => (some (pr (posOf (stm 12)) x).1, (pr (posOf (stm 12)) x).2))) (st11 w.params os).abs (.ref 83)
    (SharedT.abs ⟨tr_12m w.params, 122, lf, #[], dr, 2308, os⟩) := by
  have hL : Nat.ble 11 ((tr_11 w.params).list 83).length = true := by rw [list_len]; rfl
  have key := go_display (w := w) (p := posOf (stm 12)) (L := (tr_11 w.params).list 83) (ps := b3Items) (q := b3Items.drop 646) (c := 37) (g := #[]) (dn := dr) (tk := 358) (os := os) hL b3_ok (by rw [b3_len]; (first | lia | omega)) (by rw [b3_len]) rfl
    (by rw [List.length_drop, b3_len]; (first | lia | omega)) (by intro h; have := congrArg List.length h; rw [List.length_drop, b3_len] at this; simp at this)
  rw [list_len, heap12, List.length_drop, b3_len] at key
  refine go_mono (go_bind (c₁ := 1) (c₂ := 1 + 325500) go_at (go_bind (c₁ := 1) (c₂ := 325500) go_at ?_)) (by (first | lia | omega))
  exact key
theorem b3_end (os : OsState) (q : Pos) : segRun treeTable pw w 11 (some (.ref 6)) 1 12 (SharedT.abs ⟨tr_12m w.params, 122, lf, #[], dr, 2308, os⟩)
    ⟨(assignStores env (.ref 83) none ((assignEach (tgts (stm 12)) env).map (·.2))).wrap (fun f => match f with | .next => (execs [] env).wrap doneF deadEnd id id | f => doneF f) deadEnd id id, cB, q, BB⟩ = some (.next, (st12 w.params os).abs, cB, ⟨121, 0, 121, 13⟩) :=
  segRun_of (by kernel_rfl)
theorem pc12 (w : World) (os : OsState) : segRun treeTable pw w 11 (some (.ref 6)) 1 (12 + 326000) (st11 w.params os).abs (piecesOf [stm 12] env cB ⟨119, 0, 120, 30⟩ BB) = some (.next, (st12 w.params os).abs, cB, ⟨121, 0, 121, 13⟩) := by
  show segRun treeTable pw w 11 (some (.ref 6)) 1 (12 + 326000) (st11 w.params os).abs ⟨(execs [stm 12] env).wrap doneF deadEnd id id, cB, ⟨119, 0, 120, 30⟩, BB⟩ = _
  rw [execs_cons_wrap, b3_exec, Sem.bind_eq_wrap', Sem.wrap_wrap]
  obtain ⟨q, x⟩ := go_b3 (w := w) os (fun v => (assignStores env v none ((assignEach (tgts (stm 12)) env).map (·.2))).wrap (fun f => match f with | .next => (execs [] env).wrap doneF deadEnd id id | f => doneF f) deadEnd id id) (fun e => (Sem.raise e : Sem Flow).wrap (fun f => match f with | .next => (execs [] env).wrap doneF deadEnd id id | f => doneF f) deadEnd id id) _ _ ⟨119, 0, 120, 30⟩
  exact x 12 _ (b3_end os q)
end
end Mine
end
-- HEk
section
open PySem PySem.W PyProof.Rows PySem.Calls
set_option Elab.async false
set_option maxRecDepth 100000
set_option linter.all false
set_option maxHeartbeats 0
namespace Mine
noncomputable section
theorem pc10 (w : World) (os : OsState) : segRun treeTable pw w 11 (some (.ref 6)) 1 1100 (st9 w.params os).abs (piecesOf [stm 10] env cB ⟨117, 0, 117, 8⟩ [topFrame p0]) = some (.next, (st10 w.params os).abs, cB, ⟨118, 0, 118, 6⟩) :=
  segRun_of (byRow2 "set-order" (P := fun w => segRunT treeTable pw w 11 (some (.ref 6)) 1 1100 (st9 w.params os) (piecesOf [stm 10] env cB ⟨117, 0, 117, 8⟩ [topFrame p0]) = some (.next, st10 w.params os, cB, ⟨118, 0, 118, 6⟩))
    (fun w => byRow2 "special-get-raises" (P := fun w => segRunT treeTable pw (w.withFollow "set-order" false) 11 (some (.ref 6)) 1 1100 (st9 (w.withFollow "set-order" false).params os) (piecesOf [stm 10] env cB ⟨117, 0, 117, 8⟩ [topFrame p0]) = some (.next, st10 (w.withFollow "set-order" false).params os, cB, ⟨118, 0, 118, 6⟩)) (fun w => pc10aux w false false os) (fun w => pc10aux w false true os) w)
    (fun w => byRow2 "special-get-raises" (P := fun w => segRunT treeTable pw (w.withFollow "set-order" true) 11 (some (.ref 6)) 1 1100 (st9 (w.withFollow "set-order" true).params os) (piecesOf [stm 10] env cB ⟨117, 0, 117, 8⟩ [topFrame p0]) = some (.next, st10 (w.withFollow "set-order" true).params os, cB, ⟨118, 0, 118, 6⟩)) (fun w => pc10aux w true false os) (fun w => pc10aux w true true os) w) w)
theorem pcFin (w : World) (os : OsState) : topRun treeTable pw w 11 (some (.ref 6)) 2 (st31 w.params os).abs ⟨doneF .next, cB, ⟨208, 0, 244, 42⟩, BB⟩ = some ⟨H1 w.params, #[], dr, 2431, os⟩ := by kernel_rfl
theorem bodyIs : behindTheImports pw = [stm 0, stm 1, stm 2, stm 3, stm 4, stm 5, stm 6, stm 7, stm 8, stm 9] ++ ([stm 10] ++ ([stm 11] ++ ([stm 12] ++ ([stm 13, stm 14, stm 15, stm 16, stm 17, stm 18, stm 19, stm 20, stm 21] ++ ([stm 22, stm 23, stm 24, stm 25, stm 26, stm 27, stm 28, stm 29, stm 30, stm 31] ++ []))))) := by kernel_rfl
theorem topRuns (w : World) (os : OsState) : topRun treeTable pw w 11 (some (.ref 6)) (12 + (1 + (300 + (1100 + (30 + ((12 + 326000) + (160 + (400 + 2)))))))) ⟨boot_heap w.params, #[], boot_drawn, boot_toks, os⟩ (topStub pw) = some ⟨H1 w.params, #[], dr, 2431, os⟩ := by
  refine go_top (pcPre w os) (piece_block (pcBlock w os) ?_)
  rw [bodyIs]
  exact piece_app (pc9 w os) (piece_app (pc10 w os) (piece_app (pc11 w os) (piece_app (pc12 w os) (piece_app (pc21 w os _) (piece_app (pc31 w os) (pcFin w os))))))
noncomputable abbrev Xt : Shared → Bool := fun s => xlAt qv [] s && recOk [] s
theorem left : LeftO pw qv loose Xt hk.obs hk.val 400000 :=
  LeftO.of_pieces (H₀ := boot_heap) (H₁ := H1) (gs₀ := #[]) (gs₁ := #[]) (d₀ := boot_drawn) (d₁ := dr) (k₀ := boot_toks) (k₁ := 2431) (m₀ := 11) (ann := some (.ref 6)) (M := 12 + (1 + (300 + (1100 + (30 + ((12 + 326000) + (160 + (400 + 2))))))))
    (boot_open (p := pw) (N := 400000) (by kernel_rfl) (by kernel_rfl) (fun s => by kernel_rfl))
    (fun w => by kernel_rfl) topRuns (by kernel_rfl)
    (fun w => funext fun os => Prod.ext (lkA w os) (Prod.ext (lkB w os) (lkC w os)))
end
end Mine
end
-- W0
section
open PySem PySem.W PyProof.Rows PySem.Calls
set_option Elab.async false
set_option maxRecDepth 100000
set_option linter.all false
namespace Mine
noncomputable abbrev PW : Program := PySem.Challenge.rw_to0084_01.row.prog
noncomputable abbrev lw : List Str := looseW qv loose ++ (recsOf qv).map (·.name) ++ (litsOf qv).map (·.1) ++ (clssOf qv (looseW qv loose)).map (·.name)
/-- what a call of the text's def f brings: from any frame, the ledger news, the arguments args -/
noncomputable abbrev Ctr (w : World) (mean : ExcName → Option Value) (mg mb : Str → Option Value) (f : Addr) (args : List Value) (d u : Nat) (news : List (Addr × Obj)) (Post : Value → List (Addr × Obj) → Prop) : Prop :=
  ∀ (dp un : Nat) (gd : Option (List Code)) (cn : Str) (cs : Scope) (a : Addr) (ccd : Value) (cl : List (Str × Addr)) (outer : List Env) (A₀ : Around) (base h₀ : Heap) (L : Addr) (m : Str → Option Value) (s : Shared) (Q E : Value → Shared → Prop),
    Below A₀ base outer h₀ → Fr h₀ L s.heap m → (K w.params).In h₀ → News h₀ L s.heap news → Top topProg lw mean mg mb h₀ → cs.kind = .function → dp + d < recursionLimit → un + u < cLine →
    (∀ r h' tk' news', Fr h₀ L h' m → News h₀ L h' news' → Post r news' → Q r { s with heap := h', toks := tk' }) →
    wpAny (model PW w) (ktrTop dp un gd cn cs L a ccd cl outer) (call (.ref f) args) Q E s
end Mine
end
-- LV0
section
open PySem PySem.W PyProof.Rows PySem.Calls
set_option Elab.async false
set_option maxRecDepth 100000
set_option linter.all false
namespace Mine
/-- a frame's names, written -/
noncomputable def lk (l : List (Str × Value)) : Str → Option Value := fun y => l.lookup y
noncomputable def put (x : Str) (v : Value) : List (Str × Value) → List (Str × Value)
  | [] => [(x, v)]
  | (y, u) :: l => if y = x then (x, v) :: l else (y, u) :: put x v l
theorem lk_put (x : Str) (v : Value) : ∀ l, (fun y => if y = x then some v else lk l y) = lk (put x v l)
  | [] => by
    funext y
    unfold lk put
    by_cases h : y = x
    · subst h; simp
    · have : (y == x) = false := by simpa using h
      simp [h, List.lookup_cons, this]
  | (z, u) :: l => by
    funext y
    have ih := congrFun (lk_put x v l) y
    unfold lk at ih ⊢
    unfold put
    by_cases hz : z = x
    · subst hz
      rw [if_pos rfl]
      by_cases h : y = z
      · subst h; simp
      · have : (y == z) = false := by simpa using h
        simp [h, List.lookup_cons, this]
    · rw [if_neg hz]
      by_cases h : y = z
      · subst h
        simp [hz]
      · have : (y == z) = false := by simpa using h
        simp only [List.lookup_cons, this]
        exact ih
section
variable {prog : Program} {w : World} {A : Around} {E : Value → Shared → Prop} {env : Env} {test : PySem.Expr} {body orelse : List Stmt} {Q : Flow → Shared → Prop}
noncomputable def TurnEnd (I : Nat → Shared → Prop) (n : Nat) (Q : Flow → Shared → Prop) (f : Flow) (s : Shared) : Prop :=
  match f with
  | .next => ∃ n', n' < n ∧ I n' s
  | .cont => ∃ n', n' < n ∧ I n' s
  | .brk => Q .next s
  | .ret v => Q (.ret v) s
theorem whl_ind (I : Nat → Shared → Prop) (hE : PassesOwn (model prog w) A env E)
    (turn : ∀ n s, I n s → wpAny (model prog w) A (isTrue test env (eval test env)) (fun b s₂ => WhlIf b (wpAny (model prog w) A (execs body env) (TurnEnd I n Q) E s₂) (wpAny (model prog w) A (execs orelse env) Q E s₂)) E s) :
    ∀ n s, I n s → WhlRest prog w A E env test body orelse Q 1 s := by
  intro n
  induction n using Nat.strongRecOn with
  | ind n ih =>
    intro s h
    refine whl_turn (k := 0) hE ?_
    refine wpAny_mono (turn n s h) (fun b s₂ hb => ?_) (fun _ _ e => e)
    cases b with
    | false => exact .no rfl (by unfold WhlIf at hb; simpa using hb)
    | true =>
      refine .yes rfl ?_
      have hb' : wpAny (model prog w) A (execs body env) (TurnEnd I n Q) E s₂ := by unfold WhlIf at hb; simpa using hb
      refine wpAny_mono hb' (fun f s₃ hf => ?_) (fun _ _ e => e)
      cases f with
      | next => obtain ⟨n', hn, hi⟩ := hf; exact ih n' hn s₃ hi
      | cont => obtain ⟨n', hn, hi⟩ := hf; exact ih n' hn s₃ hi
      | brk => exact hf
      | ret v => exact hf
end
end Mine
end
-- BC
section
open PySem PySem.W PyProof.Rows PySem.Calls
set_option Elab.async false
set_option maxRecDepth 100000
set_option linter.all false
namespace Mine
/-- what the end of a body brings -/
noncomputable def Out (s : Shared) (g : Heap) (L : Addr) (Post : Value → List (Addr × Obj) → Prop) (f : Flow) (s' : Shared) : Prop :=
  ∃ h' tk m' news', s' = { s with heap := h', toks := tk } ∧ Fr g L h' m' ∧ News g L h' news' ∧ Post (match f with | .ret v => v | _ => .none) news'
noncomputable abbrev Body (w : World) (mean : ExcName → Option Value) (mg mb : Str → Option Value) (f : Addr) (qual : Str) (scope : Scope) (cdv : Value) (body : List Stmt) (binds : List (Str × Value)) (d u : Nat) (news : List (Addr × Obj)) (Post : Value → List (Addr × Obj) → Prop) : Prop :=
  ∀ (dp un : Nat) (gd : Option (List Code)) (outer : List Env) (A₀ : Around) (base g : Heap) (L : Addr) (s : Shared),
    Below A₀ base outer g → (K w.params).In g → Top topProg lw mean mg mb g → dp + d < recursionLimit → un + u < cLine →
    Fr g L s.heap (lk binds.reverse) → News g L s.heap news →
    wpAny (model PW w) (ktrTop dp un gd qual scope L f cdv [] outer) (execs body (envOf qual scope L f cdv)) (Out s g L Post) (fun _ _ => False) s
theorem enter {w : World} {mean : ExcName → Option Value} {mg mb : Str → Option Value} {f : Addr} {args : List Value} {d u : Nat} {news : List (Addr × Obj)} {Post : Value → List (Addr × Obj) → Prop}
    {name qual : Str} {params : Arguments} {body : List Stmt} {scope : Scope} {dV kV doc pm cdv ct oc : Value} {an od : Option Addr} {osl : Array (Option Value)} {binds : List (Str × Value)}
    (ho : (K w.params).lookup f = some ⟨oc, od, .func (fnOf name qual params body scope dV kV doc pm an cdv ct), osl⟩) (hcd : codeIn (K w.params) cdv qual = true)
    (hbind : ∀ s : Shared, (K w.params).In s.heap → BindsTo s (fnOf name qual params body scope dV kV doc pm an cdv ct) ⟨args, []⟩ binds) (hloc : ∀ y ∈ binds, scope.names.lookup y.1 = some .local)
    (bd : Body w mean mg mb f qual scope cdv body binds d u news Post)
    (hco : scope.isCoroutine = false) (hgen : scope.isGenerator = false) (hkf : scope.kind = .function)
    (hcell : ∀ x ∈ scope.names, x.2 ≠ .cell) : Ctr w mean mg mb f args (d + 1) (u + 3) news Post := by
  intro dp un gd cn cs a ccd cl outer A₀ base h₀ L m s Q E B F X N T hk hd hu hret
  refine wpAny_call ?_
  refine code_def B F X N T rfl rfl hk ho hcd (by show dp < recursionLimit; (first | lia | omega)) (hbind s (X.keeps F.keep)) hloc ?_ hco hgen hkf hcell
  intro g L' h₁ FG F' N' B' X' T'
  refine wpAny_mono (bd (dp + 1) (un + 3) gd (envX cn cs L a ccd cl :: outer) _ base g L' _ B' X' T' (by (first | lia | omega)) (by (first | lia | omega)) F' N') ?_ (fun _ _ e => e.elim)
  rintro fl s' ⟨h', tk, m', news', rfl, F2, N2, P⟩
  exact leaveK_ F2 N2 (fun F3 N3 => hret _ h' tk news' F3 N3 P)
theorem lk_put2 (x1 x2 : Str) (v1 v2 : Value) (l) : (fun y => if y = x1 then some v1 else if y = x2 then some v2 else lk l y) = lk (put x1 v1 (put x2 v2 l)) := by
  rw [← lk_put]; funext y; rw [← congrFun (lk_put x2 v2 l) y]
theorem lk_put3 (x1 x2 x3 : Str) (v1 v2 v3 : Value) (l) : (fun y => if y = x1 then some v1 else if y = x2 then some v2 else if y = x3 then some v3 else lk l y) = lk (put x1 v1 (put x2 v2 (put x3 v3 l))) := by
  rw [← lk_put]; funext y; rw [← congrFun (lk_put2 x2 x3 v2 v3 l) y]
theorem lk_put4 (x1 x2 x3 x4 : Str) (v1 v2 v3 v4 : Value) (l) : (fun y => if y = x1 then some v1 else if y = x2 then some v2 else if y = x3 then some v3 else if y = x4 then some v4 else lk l y) = lk (put x1 v1 (put x2 v2 (put x3 v3 (put x4 v4 l)))) := by
  rw [← lk_put]; funext y; rw [← congrFun (lk_put3 x2 x3 x4 v2 v3 v4 l) y]
theorem lk_put5 (x1 x2 x3 x4 x5 : Str) (v1 v2 v3 v4 v5 : Value) (l) : (fun y => if y = x1 then some v1 else if y = x2 then some v2 else if y = x3 then some v3 else if y = x4 then some v4 else if y = x5 then some v5 else lk l y) = lk (put x1 v1 (put x2 v2 (put x3 v3 (put x4 v4 (put x5 v5 l))))) := by
  rw [← lk_put]; funext y; rw [← congrFun (lk_put4 x2 x3 x4 x5 v2 v3 v4 v5 l) y]
theorem news_tail {h₀ h : Heap} {L : Addr} {p : Addr × Obj} {news : List (Addr × Obj)} (N : News h₀ L h (p :: news)) : News h₀ L h news := fun q hq => N q (.tail _ hq)
/-- a made object is put into the ledger -/
theorem news_cons {h₀ h h' : Heap} {L a : Addr} {m : Str → Option Value} {o : Obj} {news : List (Addr × Obj)} (F : Fr h₀ L h m) (N : News h₀ L h' news) (ha : h.objs.size = a) (ho : h'.get? a = some o) : News h₀ L h' ((a, o) :: news) := by
  obtain ⟨oL, _, _, hL, _⟩ := F.ns
  intro p hp
  rcases List.mem_cons.mp hp with rfl | hp
  · refine ⟨ho, ?_, ?_⟩
    · show a ≠ L
      rw [← ha]
      exact Nat.ne_of_gt (Heap.lt_size hL)
    · show h₀.get? a = none
      cases hq : h₀.get? a with
      | none => rfl
      | some o' => exact absurd (ha ▸ Heap.lt_size (F.keep _ _ hq)) (Nat.lt_irrefl _)
  · exact N p hp
theorem news_keep {h₀ h h' : Heap} {L : Addr} {news : List (Addr × Obj)} (N : News h₀ L h news) (k : ∀ b o, h.get? b = some o → h'.get? b = some o) : News h₀ L h' news := fun p hp => ⟨k _ _ (N p hp).1, (N p hp).2⟩
theorem ctr_use {w : World} {mean : ExcName → Option Value} {mg mb : Str → Option Value} {f : Addr} {args : List Value} {d u : Nat} {news : List (Addr × Obj)} {Post : Value → List (Addr × Obj) → Prop}
    {dp un : Nat} {gd : Option (List Code)} {cn : Str} {cs : Scope} {a : Addr} {ccd : Value} {cl : List (Str × Addr)} {outer : List Env} {A₀ : Around} {base h₀ : Heap} {L : Addr} {m : Str → Option Value} {s : Shared} {Q E : Value → Shared → Prop}
    (C : Ctr w mean mg mb f args d u news Post) (B : Below A₀ base outer h₀) (F : Fr h₀ L s.heap m) (X : (K w.params).In h₀) (N : News h₀ L s.heap news) (T : Top topProg lw mean mg mb h₀) (hk : cs.kind = .function) (hd : dp + d < recursionLimit) (hu : un + u < cLine)
    (ret : ∀ r h' tk' news', Fr h₀ L h' m → News h₀ L h' news' → Post r news' → Q r { s with heap := h', toks := tk' }) :
    wpAny (model PW w) (ktrTop dp un gd cn cs L a ccd cl outer) (call (.ref f) args) Q E s := C _ _ _ _ _ _ _ _ _ _ _ _ _ _ _ _ _ B F X N T hk hd hu ret
/-- a def that brings an int and leaves the ledger as it was -/
theorem ctr_int {w : World} {mean : ExcName → Option Value} {mg mb : Str → Option Value} {f : Addr} {args : List Value} {d u : Nat} {news : List (Addr × Obj)} {n : Int}
    {dp un : Nat} {gd : Option (List Code)} {cn : Str} {cs : Scope} {a : Addr} {ccd : Value} {cl : List (Str × Addr)} {outer : List Env} {A₀ : Around} {base h₀ : Heap} {L : Addr} {m : Str → Option Value} {s : Shared} {Q E : Value → Shared → Prop}
    (C : Ctr w mean mg mb f args d u news fun r news' => (∃ tk, r = .int n tk) ∧ news' = news) (B : Below A₀ base outer h₀) (F : Fr h₀ L s.heap m) (X : (K w.params).In h₀) (N : News h₀ L s.heap news) (T : Top topProg lw mean mg mb h₀) (hk : cs.kind = .function) (hd : dp + d < recursionLimit) (hu : un + u < cLine)
    (ret : ∀ tk h' tk', Fr h₀ L h' m → News h₀ L h' news → Q (.int n tk) { s with heap := h', toks := tk' }) :
    wpAny (model PW w) (ktrTop dp un gd cn cs L a ccd cl outer) (call (.ref f) args) Q E s :=
  ctr_use C B F X N T hk hd hu (by rintro _ h' tk' _ F' N' ⟨⟨tk, rfl⟩, rfl⟩; exact ret tk h' tk' F' N')
/-- only the heap and the tokens moved; the frame's names and the made objects -/
noncomputable def Sh (s : Shared) (g : Heap) (L : Addr) (m : Str → Option Value) (news : List (Addr × Obj)) (s' : Shared) : Prop :=
  ∃ h' tk, s' = { s with heap := h', toks := tk } ∧ Fr g L h' m ∧ News g L h' news
noncomputable def Nxt (P : Shared → Prop) (f : Flow) (s : Shared) : Prop := f = .next ∧ P s
noncomputable def nthS (l : List Stmt) (i : Nat) : Stmt := l.getD i default
end Mine
end
-- BF
section
open PySem PySem.W PyProof.Rows PySem.Calls
set_option Elab.async false
set_option maxRecDepth 100000
set_option linter.all false
namespace Mine
/-- a call that changes none of the caller's objects: from any ledger; own: what it made and hands out -/
noncomputable abbrev CtrF (w : World) (mean : ExcName → Option Value) (mg mb : Str → Option Value) (f : Addr) (args : List Value) (d u : Nat) (Pre : Heap → Prop) (Post : Heap → Value → List (Addr × Obj) → Prop) : Prop :=
  ∀ (dp un : Nat) (gd : Option (List Code)) (cn : Str) (cs : Scope) (a : Addr) (ccd : Value) (cl : List (Str × Addr)) (outer : List Env) (A₀ : Around) (base h₀ : Heap) (L : Addr) (m : Str → Option Value) (news : List (Addr × Obj)) (s : Shared) (Q E : Value → Shared → Prop),
    Below A₀ base outer h₀ → Fr h₀ L s.heap m → (K w.params).In h₀ → News h₀ L s.heap news → Top topProg lw mean mg mb h₀ → cs.kind = .function → dp + d < recursionLimit → un + u < cLine → Pre s.heap →
    (∀ r h' tk' own, Fr h₀ L h' m → News h₀ L h' (own ++ news) → (∀ p ∈ own, s.heap.get? p.1 = none) → (∀ b o, s.heap.get? b = some o → h'.get? b = some o) → Post s.heap r own → Q r { s with heap := h', toks := tk' }) →
    wpAny (model PW w) (ktrTop dp un gd cn cs L a ccd cl outer) (call (.ref f) args) Q E s
noncomputable abbrev BodyF (w : World) (mean : ExcName → Option Value) (mg mb : Str → Option Value) (f : Addr) (qual : Str) (scope : Scope) (cdv : Value) (body : List Stmt) (binds : List (Str × Value)) (d u : Nat) (Pre : Heap → Prop) (Post : Heap → Value → List (Addr × Obj) → Prop) : Prop :=
  ∀ (dp un : Nat) (gd : Option (List Code)) (outer : List Env) (A₀ : Around) (base g : Heap) (L : Addr) (s : Shared),
    Below A₀ base outer g → (K w.params).In g → Top topProg lw mean mg mb g → dp + d < recursionLimit → un + u < cLine → Pre g →
    Fr g L s.heap (lk binds.reverse) →
    wpAny (model PW w) (ktrTop dp un gd qual scope L f cdv [] outer) (execs body (envOf qual scope L f cdv)) (Out s g L (Post g)) (fun _ _ => False) s
theorem enterF {w : World} {mean : ExcName → Option Value} {mg mb : Str → Option Value} {f : Addr} {args : List Value} {d u : Nat} {Pre : Heap → Prop} {Post : Heap → Value → List (Addr × Obj) → Prop}
    {name qual : Str} {params : Arguments} {body : List Stmt} {scope : Scope} {dV kV doc pm cdv ct oc : Value} {an od : Option Addr} {osl : Array (Option Value)} {binds : List (Str × Value)}
    (ho : (K w.params).lookup f = some ⟨oc, od, .func (fnOf name qual params body scope dV kV doc pm an cdv ct), osl⟩) (hcd : codeIn (K w.params) cdv qual = true)
    (hbind : ∀ s : Shared, (K w.params).In s.heap → BindsTo s (fnOf name qual params body scope dV kV doc pm an cdv ct) ⟨args, []⟩ binds) (hloc : ∀ y ∈ binds, scope.names.lookup y.1 = some .local)
    (bd : BodyF w mean mg mb f qual scope cdv body binds d u Pre Post)
    (hco : scope.isCoroutine = false) (hgen : scope.isGenerator = false) (hkf : scope.kind = .function)
    (hcell : ∀ x ∈ scope.names, x.2 ≠ .cell) : CtrF w mean mg mb f args (d + 1) (u + 3) Pre Post := by
  intro dp un gd cn cs a ccd cl outer A₀ base h₀ L m news s Q E B F X N T hk hd hu hp hret
  refine wpAny_call ?_
  have A1 : (ktrTop dp un gd cn cs L a ccd cl outer).frames = some (envX cn cs L a ccd cl :: outer) := rfl
  obtain ⟨FG, BG, st, lv⟩ := groundX (news := []) (R := fun _ _ => True) B F News.nil A1 rfl hk
  have X' := X.keeps F.keep
  refine codeAny_call_def (fd := fnOf name qual params body scope dV kV doc pm an cdv ct) (body := body) (binds := binds) (by show dp < recursionLimit; (first | lia | omega)) (X' _ _ ho) rfl (T.nolimit.keeps F.keep) (codeRec_of X' hcd) rfl (hbind s X') hcell hloc (fun h₁ hns hk₁ => ?_) hco hgen hkf
  refine wpAny_mono (bd (dp + 1) (un + 3) gd (envX cn cs L a ccd cl :: outer) _ base s.heap s.heap.objs.size _ BG X' (T.keeps F.keep) (by (first | lia | omega)) (by (first | lia | omega)) hp ⟨hns, hk₁, Nat.le_refl _⟩) ?_ (fun _ _ e => e.elim)
  rintro fl s' ⟨h', tk, m', own, rfl, F2, N2, P⟩
  obtain ⟨oL, es, ep, hL, hLd⟩ := F.ns
  exact hret _ h' tk own (F.keeps F2.keep) (fun p hp' => by
    rcases List.mem_append.mp hp' with h | h
    · refine ⟨(N2 p h).1, fun e => ?_, ?_⟩
      · have := (N2 p h).2.2
        rw [e, hL] at this
        cases this
      · cases q : h₀.get? p.1 with
        | none => rfl
        | some o =>
          have := (N2 p h).2.2
          rw [F.keep _ _ q] at this
          cases this
    · exact ⟨F2.keep _ _ (N p h).1, (N p h).2⟩) (fun p h => (N2 p h).2.2) F2.keep P
/-- a call that brings one value and hands no object out -/
noncomputable abbrev CtrV (w : World) (mean : ExcName → Option Value) (mg mb : Str → Option Value) (f : Addr) (args : List Value) (d u : Nat) (Post : Value → Prop) : Prop :=
  CtrF w mean mg mb f args d u (fun _ => True) (fun _ r _ => Post r)
theorem ctrV_int {w : World} {mean : ExcName → Option Value} {mg mb : Str → Option Value} {f : Addr} {args : List Value} {d u : Nat} {news : List (Addr × Obj)} {n : Int}
    {dp un : Nat} {gd : Option (List Code)} {cn : Str} {cs : Scope} {a : Addr} {ccd : Value} {cl : List (Str × Addr)} {outer : List Env} {A₀ : Around} {base h₀ : Heap} {L : Addr} {m : Str → Option Value} {s : Shared} {Q E : Value → Shared → Prop}
    (C : CtrV w mean mg mb f args d u fun r => ∃ tk, r = .int n tk) (B : Below A₀ base outer h₀) (F : Fr h₀ L s.heap m) (X : (K w.params).In h₀) (N : News h₀ L s.heap news) (T : Top topProg lw mean mg mb h₀) (hk : cs.kind = .function) (hd : dp + d < recursionLimit) (hu : un + u < cLine)
    (ret : ∀ tk h' tk', Fr h₀ L h' m → News h₀ L h' news → (∀ b o, s.heap.get? b = some o → h'.get? b = some o) → Q (.int n tk) { s with heap := h', toks := tk' }) :
    wpAny (model PW w) (ktrTop dp un gd cn cs L a ccd cl outer) (call (.ref f) args) Q E s :=
  C _ _ _ _ _ _ _ _ _ _ _ _ _ _ _ _ _ _ B F X N T hk hd hu trivial (by
    rintro _ h' tk' own F' N' _ k ⟨tk, rfl⟩
    exact ret tk h' tk' F' (fun p hp => N' p (List.mem_append_right _ hp)) k)
end Mine
end
-- BT
section
open PySem PySem.W PyProof.Rows PySem.Calls
set_option Elab.async false
set_option maxRecDepth 100000
set_option linter.all false
namespace Mine
/-- as CtrF; what must hold may speak of the state's tokens too -/
noncomputable abbrev CtrT (w : World) (mean : ExcName → Option Value) (mg mb : Str → Option Value) (f : Addr) (args : List Value) (d u : Nat) (Pre : Shared → Prop) (Post : Heap → Value → List (Addr × Obj) → Prop) : Prop :=
  ∀ (dp un : Nat) (gd : Option (List Code)) (cn : Str) (cs : Scope) (a : Addr) (ccd : Value) (cl : List (Str × Addr)) (outer : List Env) (A₀ : Around) (base h₀ : Heap) (L : Addr) (m : Str → Option Value) (news : List (Addr × Obj)) (s : Shared) (Q E : Value → Shared → Prop),
    Below A₀ base outer h₀ → Fr h₀ L s.heap m → (K w.params).In h₀ → News h₀ L s.heap news → Top topProg lw mean mg mb h₀ → cs.kind = .function → dp + d < recursionLimit → un + u < cLine → Pre s →
    (∀ r h' tk' own, s.toks ≤ tk' → Fr h₀ L h' m → News h₀ L h' (own ++ news) → (∀ p ∈ own, s.heap.get? p.1 = none) → (∀ b o, s.heap.get? b = some o → h'.get? b = some o) → Post s.heap r own → Q r { s with heap := h', toks := tk' }) →
    wpAny (model PW w) (ktrTop dp un gd cn cs L a ccd cl outer) (call (.ref f) args) Q E s
noncomputable abbrev BodyT (w : World) (mean : ExcName → Option Value) (mg mb : Str → Option Value) (f : Addr) (qual : Str) (scope : Scope) (cdv : Value) (body : List Stmt) (binds : List (Str × Value)) (d u : Nat) (Pre : Shared → Prop) (Post : Heap → Value → List (Addr × Obj) → Prop) : Prop :=
  ∀ (dp un : Nat) (gd : Option (List Code)) (outer : List Env) (A₀ : Around) (base h₁ : Heap) (L : Addr) (s : Shared),
    Below A₀ base outer s.heap → (K w.params).In s.heap → Top topProg lw mean mg mb s.heap → dp + d < recursionLimit → un + u < cLine → Pre s →
    Fr s.heap L h₁ (lk binds.reverse) →
    wpAny (model PW w) (ktrTop dp un gd qual scope L f cdv [] outer) (execs body (envOf qual scope L f cdv)) (Out s s.heap L (Post s.heap)) (fun _ _ => False) { s with heap := h₁, toks := s.toks + binds.length }
theorem enterT {w : World} {mean : ExcName → Option Value} {mg mb : Str → Option Value} {f : Addr} {args : List Value} {d u : Nat} {Pre : Shared → Prop} {Post : Heap → Value → List (Addr × Obj) → Prop}
    {name qual : Str} {params : Arguments} {body : List Stmt} {scope : Scope} {dV kV doc pm cdv ct oc : Value} {an od : Option Addr} {osl : Array (Option Value)} {binds : List (Str × Value)}
    (ho : (K w.params).lookup f = some ⟨oc, od, .func (fnOf name qual params body scope dV kV doc pm an cdv ct), osl⟩) (hcd : codeIn (K w.params) cdv qual = true)
    (hbind : ∀ s : Shared, (K w.params).In s.heap → BindsTo s (fnOf name qual params body scope dV kV doc pm an cdv ct) ⟨args, []⟩ binds) (hloc : ∀ y ∈ binds, scope.names.lookup y.1 = some .local)
    (bd : BodyT w mean mg mb f qual scope cdv body binds d u Pre Post)
    (hco : scope.isCoroutine = false) (hgen : scope.isGenerator = false) (hkf : scope.kind = .function)
    (hcell : ∀ x ∈ scope.names, x.2 ≠ .cell) : CtrT w mean mg mb f args (d + 1) (u + 3) Pre Post := by
  intro dp un gd cn cs a ccd cl outer A₀ base h₀ L m news s Q E B F X N T hk hd hu hp hret
  refine wpAny_call ?_
  refine codeAny_with_toks (Nat.le_refl s.toks) ?_
  have A1 : (ktrTop dp un gd cn cs L a ccd cl outer).frames = some (envX cn cs L a ccd cl :: outer) := rfl
  obtain ⟨FG, BG, st, lv⟩ := groundX (news := []) (R := fun _ _ => True) B F News.nil A1 rfl hk
  have X' := X.keeps F.keep
  refine codeAny_call_def (fd := fnOf name qual params body scope dV kV doc pm an cdv ct) (body := body) (binds := binds) (by show dp < recursionLimit; (first | lia | omega)) (X' _ _ ho) rfl (T.nolimit.keeps F.keep) (codeRec_of X' hcd) rfl (hbind s X') hcell hloc (fun h₁ hns hk₁ => ?_) hco hgen hkf
  refine wpAny_mono (bd (dp + 1) (un + 3) gd (envX cn cs L a ccd cl :: outer) _ base h₁ s.heap.objs.size s BG X' (T.keeps F.keep) (by (first | lia | omega)) (by (first | lia | omega)) hp ⟨hns, hk₁, Nat.le_refl _⟩) ?_ (fun _ _ e => e.elim)
  rintro fl s' ⟨h', tk, m', own, rfl, F2, N2, P⟩
  obtain ⟨oL, es, ep, hL, hLd⟩ := F.ns
  intro htk
  exact hret _ h' tk own htk (F.keeps F2.keep) (fun p hp' => by
    rcases List.mem_append.mp hp' with h | h
    · refine ⟨(N2 p h).1, fun e => ?_, ?_⟩
      · have := (N2 p h).2.2
        rw [e, hL] at this
        cases this
      · cases q : h₀.get? p.1 with
        | none => rfl
        | some o =>
          have := (N2 p h).2.2
          rw [F.keep _ _ q] at this
          cases this
    · exact ⟨F2.keep _ _ (N p h).1, (N p h).2⟩) (fun p h => (N2 p h).2.2) F2.keep P
theorem ctrT_int {w : World} {mean : ExcName → Option Value} {mg mb : Str → Option Value} {f : Addr} {args : List Value} {d u : Nat} {news : List (Addr × Obj)} {n : Int} {Pre : Shared → Prop}
    {dp un : Nat} {gd : Option (List Code)} {cn : Str} {cs : Scope} {a : Addr} {ccd : Value} {cl : List (Str × Addr)} {outer : List Env} {A₀ : Around} {base h₀ : Heap} {L : Addr} {m : Str → Option Value} {s : Shared} {Q E : Value → Shared → Prop}
    (C : CtrT w mean mg mb f args d u Pre fun _ r _ => ∃ tk, r = .int n tk) (hp : Pre s) (B : Below A₀ base outer h₀) (F : Fr h₀ L s.heap m) (X : (K w.params).In h₀) (N : News h₀ L s.heap news) (T : Top topProg lw mean mg mb h₀) (hk : cs.kind = .function) (hd : dp + d < recursionLimit) (hu : un + u < cLine)
    (ret : ∀ tk h' tk', s.toks ≤ tk' → Fr h₀ L h' m → News h₀ L h' news → (∀ b o, s.heap.get? b = some o → h'.get? b = some o) → Q (.int n tk) { s with heap := h', toks := tk' }) :
    wpAny (model PW w) (ktrTop dp un gd cn cs L a ccd cl outer) (call (.ref f) args) Q E s :=
  C _ _ _ _ _ _ _ _ _ _ _ _ _ _ _ _ _ _ B F X N T hk hd hu hp (by
    rintro _ h' tk' own ht F' N' _ k ⟨tk, rfl⟩
    exact ret tk h' tk' ht F' (fun p hp => N' p (List.mem_append_right _ hp)) k)
/-- a body, one statement behind another; the tokens only grow -/
theorem seqS {prog : Program} {w : World} {A : Around} {env : Env} {st : Stmt} {rest : List Stmt} {Q : Flow → Shared → Prop} {P : Shared → Prop} {s : Shared}
    (h : wpAny (model prog w) A (exec st env) (Nxt P) (fun _ _ => False) s) (k : ∀ s', s.toks ≤ s'.toks → P s' → wpAny (model prog w) A (execs rest env) Q (fun _ _ => False) s') :
    wpAny (model prog w) A (execs (st :: rest) env) Q (fun _ _ => False) s := by
  refine wpAny_execs_cons ?_
  refine wpAny_mono (wpAny_toks h) ?_ (fun _ _ e => e.2.elim)
  rintro f s' ⟨ht, rfl, hP⟩
  exact k s' ht hP
end Mine
end
-- BD
section
open PySem PySem.W PyProof.Rows PySem.Calls
set_option Elab.async false
set_option maxRecDepth 100000
set_option linter.all false
namespace Mine
/-- what the end of a body brings, where choices may have been made -/
noncomputable def OutD (s : Shared) (g : Heap) (L : Addr) (Post : Value → List (Addr × Obj) → Prop) (f : Flow) (s' : Shared) : Prop :=
  ∃ h' tk d' m' news', s' = { s with heap := h', toks := tk, drawn := d' } ∧ Fr g L h' m' ∧ News g L h' news' ∧ Post (match f with | .ret v => v | _ => .none) news'
/-- as CtrF; the world's choices may have gone on -/
noncomputable abbrev CtrD (w : World) (mean : ExcName → Option Value) (mg mb : Str → Option Value) (f : Addr) (args : List Value) (d u : Nat) (Pre : Heap → Prop) (Post : Heap → Value → List (Addr × Obj) → Prop) : Prop :=
  ∀ (dp un : Nat) (gd : Option (List Code)) (cn : Str) (cs : Scope) (a : Addr) (ccd : Value) (cl : List (Str × Addr)) (outer : List Env) (A₀ : Around) (base h₀ : Heap) (L : Addr) (m : Str → Option Value) (news : List (Addr × Obj)) (s : Shared) (Q E : Value → Shared → Prop),
    Below A₀ base outer h₀ → Fr h₀ L s.heap m → (K w.params).In h₀ → News h₀ L s.heap news → Top topProg lw mean mg mb h₀ → cs.kind = .function → dp + d < recursionLimit → un + u < cLine → Pre s.heap →
    (∀ r h' tk' d' own, Fr h₀ L h' m → News h₀ L h' (own ++ news) → (∀ p ∈ own, s.heap.get? p.1 = none) → (∀ b o, s.heap.get? b = some o → h'.get? b = some o) → Post s.heap r own → Q r { s with heap := h', toks := tk', drawn := d' }) →
    wpAny (model PW w) (ktrTop dp un gd cn cs L a ccd cl outer) (call (.ref f) args) Q E s
noncomputable abbrev BodyD (w : World) (mean : ExcName → Option Value) (mg mb : Str → Option Value) (f : Addr) (qual : Str) (scope : Scope) (cdv : Value) (body : List Stmt) (binds : List (Str × Value)) (d u : Nat) (Pre : Heap → Prop) (Post : Heap → Value → List (Addr × Obj) → Prop) : Prop :=
  ∀ (dp un : Nat) (gd : Option (List Code)) (outer : List Env) (A₀ : Around) (base g : Heap) (L : Addr) (s : Shared),
    Below A₀ base outer g → (K w.params).In g → Top topProg lw mean mg mb g → dp + d < recursionLimit → un + u < cLine → Pre g →
    Fr g L s.heap (lk binds.reverse) →
    wpAny (model PW w) (ktrTop dp un gd qual scope L f cdv [] outer) (execs body (envOf qual scope L f cdv)) (OutD s g L (Post g)) (fun _ _ => False) s
theorem enterD {w : World} {mean : ExcName → Option Value} {mg mb : Str → Option Value} {f : Addr} {args : List Value} {d u : Nat} {Pre : Heap → Prop} {Post : Heap → Value → List (Addr × Obj) → Prop}
    {name qual : Str} {params : Arguments} {body : List Stmt} {scope : Scope} {dV kV doc pm cdv ct oc : Value} {an od : Option Addr} {osl : Array (Option Value)} {binds : List (Str × Value)}
    (ho : (K w.params).lookup f = some ⟨oc, od, .func (fnOf name qual params body scope dV kV doc pm an cdv ct), osl⟩) (hcd : codeIn (K w.params) cdv qual = true)
    (hbind : ∀ s : Shared, (K w.params).In s.heap → BindsTo s (fnOf name qual params body scope dV kV doc pm an cdv ct) ⟨args, []⟩ binds) (hloc : ∀ y ∈ binds, scope.names.lookup y.1 = some .local)
    (bd : BodyD w mean mg mb f qual scope cdv body binds d u Pre Post)
    (hco : scope.isCoroutine = false) (hgen : scope.isGenerator = false) (hkf : scope.kind = .function)
    (hcell : ∀ x ∈ scope.names, x.2 ≠ .cell) : CtrD w mean mg mb f args (d + 1) (u + 3) Pre Post := by
  intro dp un gd cn cs a ccd cl outer A₀ base h₀ L m news s Q E B F X N T hk hd hu hp hret
  refine wpAny_call ?_
  have A1 : (ktrTop dp un gd cn cs L a ccd cl outer).frames = some (envX cn cs L a ccd cl :: outer) := rfl
  obtain ⟨FG, BG, st, lv⟩ := groundX (news := []) (R := fun _ _ => True) B F News.nil A1 rfl hk
  have X' := X.keeps F.keep
  refine codeAny_call_def (fd := fnOf name qual params body scope dV kV doc pm an cdv ct) (body := body) (binds := binds) (by show dp < recursionLimit; (first | lia | omega)) (X' _ _ ho) rfl (T.nolimit.keeps F.keep) (codeRec_of X' hcd) rfl (hbind s X') hcell hloc (fun h₁ hns hk₁ => ?_) hco hgen hkf
  refine wpAny_mono (bd (dp + 1) (un + 3) gd (envX cn cs L a ccd cl :: outer) _ base s.heap s.heap.objs.size _ BG X' (T.keeps F.keep) (by (first | lia | omega)) (by (first | lia | omega)) hp ⟨hns, hk₁, Nat.le_refl _⟩) ?_ (fun _ _ e => e.elim)
  rintro fl s' ⟨h', tk, d', m', own, rfl, F2, N2, P⟩
  obtain ⟨oL, es, ep, hL, hLd⟩ := F.ns
  exact hret _ h' tk d' own (F.keeps F2.keep) (fun p hp' => by
    rcases List.mem_append.mp hp' with h | h
    · refine ⟨(N2 p h).1, fun e => ?_, ?_⟩
      · have := (N2 p h).2.2
        rw [e, hL] at this
        cases this
      · cases q : h₀.get? p.1 with
        | none => rfl
        | some o =>
          have := (N2 p h).2.2
          rw [F.keep _ _ q] at this
          cases this
    · exact ⟨F2.keep _ _ (N p h).1, (N p h).2⟩) (fun p h => (N2 p h).2.2) F2.keep P
end Mine
end
-- SLN
section
open PySem PySem.W PyProof.Rows PySem.Calls PySem.Builtin PySem.Builtin.Str
set_option linter.all false
namespace Mine
theorem slice_neg (x : Str) (k : Int) (h : k < 0) : Txt.slice x none (some k) = Txt.slice x none (some (max 0 (k + x.length))) := by
  unfold Txt.slice
  have : strSliceIndices none (some k) 1 x.length = strSliceIndices none (some (max 0 (k + x.length))) 1 x.length := by
    have h2 : (1 : Int) > 0 := by decide
    have h3 : ¬ (max 0 (k + (x.length : Int)) < 0) := by (first | lia | omega)
    have h4 : max 0 (min (k + (x.length : Int)) x.length) = max 0 (min (max 0 (k + (x.length : Int))) x.length) := by (first | lia | omega)
    simp only [strSliceIndices, h, h2, h3, if_false, if_true, h4]
  rw [this]
theorem slice_neg_len (x : Str) (k : Int) (h : k < 0) : (Txt.slice x none (some k)).length = (x.length + k).toNat := by
  rw [slice_neg x k h, beq_iff_eq.mp (slice_closes_toL (x := x) (j := max 0 (k + x.length)) (by (first | lia | omega)) (by (first | lia | omega)))]
  show (List.toArray _).size = _
  have hl : x.cps.toList.length = x.length := by simp [Str.length]
  rw [List.size_toArray, List.length_take, List.length_drop, hl]
  simp
  (first | lia | omega)
theorem slice_all (x : Str) : Txt.slice x none none = x := by
  unfold Txt.slice
  rw [if_pos]
  simp [strSliceIndices, sliceRange]
  split <;> (first | lia | omega)
end Mine
end
-- LEV
section
open PySem PySem.W PyProof.Rows PySem.Calls
set_option Elab.async false
set_option maxRecDepth 100000
set_option linter.all false
set_option maxHeartbeats 0
namespace Mine
theorem fillLEV : (PySem.Challenge.rw_to0084_01.prog, Mine.K) = (PySem.Challenge.rw_to0084_01.prog, Mine.K) := by
  k_fill
  rfl
noncomputable def levPreT (a b : Str) (k : Int) : Bool := (Txt.slice a (some k) none).length != 0 && (Txt.slice b (some k) none).length != 0 && Txt.item a k == Txt.item b k
noncomputable def levPre (a b : Str) : Nat → Int → Int
  | 0, k => k
  | n + 1, k => if levPreT a b k then levPre a b n (k + 1) else k
theorem levPre_stop {a b : Str} {n : Nat} {k : Int} (h : levPreT a b k = false) : levPre a b n k = k := by
  cases n with
  | zero => rfl
  | succ n => unfold levPre; rw [h]; rfl
theorem lev_ar {A n : Nat} {k : Int} (h0 : 0 ≤ k) (h1 : k < (A : Int)) (h2 : n = A - k.toNat) : n - 1 < n ∧ n - 1 = A - (k + 1).toNat ∧ n = n - 1 + 1 := by (first | lia | omega)
theorem levPre_go {a b : Str} {n : Nat} {k : Int} (h : levPreT a b k = true) : levPre a b (n + 1) k = levPre a b n (k + 1) := by
  conv => lhs; unfold levPre
  rw [h]; rfl
section
variable {w : World} {mean : ExcName → Option Value} {mg mb : Str → Option Value} {news : List (Addr × Obj)} {a b : Str} {t u v : Tok} {dp un : Nat} {gd : Option (List Code)} {outer : List Env} {A₀ : Around} {base g : Heap} {L : Addr} {s : Shared}
noncomputable abbrev levA (dp un : Nat) (gd : Option (List Code)) (L : Addr) (outer : List Env) : Around := ktrTop dp un gd (Str.ofString "_levenshtein_distance") (fdScope (stm 24)) L 156 (Value.ref 155) [] outer
noncomputable abbrev levE (L : Addr) : Env := envOf (Str.ofString "_levenshtein_distance") (fdScope (stm 24)) L 156 (Value.ref 155)
theorem lev_l1 (ha : a.length ≤ 10) (hb : b.length ≤ 10) (X : (K w.params).In g) (T : Top topProg lw mean mg mb g) {tk1 : Tok}
    (F : Fr g L s.heap (lk [(Str.ofString "max_cost", .int 99 v), (Str.ofString "b", .str b u), (Str.ofString "a", .str a t), (Str.ofString "pre", .int 0 tk1)])) (N : News g L s.heap news) :
    wpAny (model PW w) (levA dp un gd L outer) (exec (nthS (fdBody (stm 24)) 2) (levE L))
      (Nxt fun s' => 0 ≤ levPre a b a.length 0 ∧ ∃ tk1, Sh s g L (lk [(Str.ofString "max_cost", .int 99 v), (Str.ofString "b", .str b u), (Str.ofString "a", .str a t), (Str.ofString "pre", .int (levPre a b a.length 0) tk1)]) news s') (fun _ _ => False) s := by
  refine whl_start 1 (whl_ind (fun n s' => ∃ h' tk k tk1, s' = { s with heap := h', toks := tk } ∧ Fr g L h' (lk [(Str.ofString "max_cost", .int 99 v), (Str.ofString "b", .str b u), (Str.ofString "a", .str a t), (Str.ofString "pre", .int k tk1)]) ∧ News g L h' news ∧ 0 ≤ k ∧ n = a.length - k.toNat ∧ levPre a b n k = levPre a b a.length 0) .never ?turn (a.length) _ ⟨s.heap, s.toks, 0, tk1, rfl, F, N, by decide, rfl, rfl⟩)
  rintro n s' ⟨h1, tk, k, tk1, rfl, F1, N1, hk0, hn, hp⟩
  repeat' (first | walk1 | (dsimp only; walk1) | leave1)
  case turn.refine'_4.refine'_4.refine_1.refine'_4.refine'_4.refine_1 =>
    have hT : levPreT a b k = true := by
      simp only [levPreT, Bool.and_eq_true, bne_iff_ne]
      exact ⟨⟨by (first | lia | omega), by (first | lia | omega)⟩, by assumption⟩
    have F' := ‹Fr g L _ _›
    rw [lk_put] at F'
    have hka : k < (a.length : Int) := Int.not_le.mp fun h => (‹((Txt.slice a (some k) none).length : Int) ≠ 0›) ((‹(0 ≤ k → k ≤ (a.length : Int) → ((Txt.slice a (some k) none).length : Int) = a.length - k) ∧ ((a.length : Int) ≤ k → ((Txt.slice a (some k) none).length : Int) = 0)›).2 h)
    obtain ⟨q1, q2, q3⟩ := lev_ar hk0 hka hn
    refine ⟨n - 1, q1, _, _, k + 1, _, rfl, F', by assumption, Int.le_add_one hk0, q2, ?_⟩
    rw [← hp]
    have : n = n - 1 + 1 := q3
    conv => rhs; rw [this]
    exact (levPre_go hT).symm
  all_goals
    have hT : levPreT a b k = false := Bool.eq_false_iff.mpr fun hT => by
      simp only [levPreT, Bool.and_eq_true, bne_iff_ne] at hT
      obtain ⟨⟨h1, h2⟩, h3⟩ := hT
      first | (first | lia | omega) | simp_all
    rw [levPre_stop hT] at hp
    subst hp
    exact ⟨rfl, hk0, _, _, _, rfl, by assumption, by assumption⟩
end
end Mine
end
-- LEV2
section
open PySem PySem.W PyProof.Rows PySem.Calls
set_option Elab.async false
set_option maxRecDepth 100000
set_option linter.all false
set_option maxHeartbeats 0
namespace Mine
noncomputable def levQ (q : Int) : Option Int := if q = 0 then none else some q
noncomputable def levPostT (a b : Str) (q : Int) : Bool := (Txt.slice a none (levQ q)).length != 0 && (Txt.slice b none (levQ q)).length != 0 && Txt.item a (q - 1) == Txt.item b (q - 1)
noncomputable def levPost (a b : Str) : Nat → Int → Int
  | 0, k => k
  | n + 1, k => if levPostT a b k then levPost a b n (k - 1) else k
theorem levPost_stop {a b : Str} {n : Nat} {k : Int} (h : levPostT a b k = false) : levPost a b n k = k := by
  cases n with
  | zero => rfl
  | succ n => unfold levPost; rw [h]; rfl
theorem lev_ar2 {A n S : Nat} {k : Int} (h0 : k ≤ 0) (hn : (n : Int) = A + k) (hS : (S : Int) = (((A : Int) + k).toNat : Nat)) (h : (S : Int) ≠ 0) : n - 1 < n ∧ ((n - 1 : Nat) : Int) = A + (k - 1) ∧ k - 1 ≤ 0 ∧ n = n - 1 + 1 := by
  have : 0 < (A : Int) + k := by
    refine Int.not_le.mp fun h1 => h ?_
    rw [hS, Int.toNat_of_nonpos h1]
    rfl
  clear hS h
  (first | lia | omega)
theorem levPost_go {a b : Str} {n : Nat} {k : Int} (h : levPostT a b k = true) : levPost a b (n + 1) k = levPost a b n (k - 1) := by
  conv => lhs; unfold levPost
  rw [h]; rfl
section
variable {w : World} {mean : ExcName → Option Value} {mg mb : Str → Option Value} {news : List (Addr × Obj)} {a b : Str} {t u v : Tok} {dp un : Nat} {gd : Option (List Code)} {outer : List Env} {A₀ : Around} {base g : Heap} {L : Addr} {s : Shared}
theorem lev_l2 (ha : a.length ≤ 10) (hb : b.length ≤ 10) (X : (K w.params).In g) (T : Top topProg lw mean mg mb g) {k0 : Int} {tk0 tk1 : Tok}
    (F : Fr g L s.heap (lk [(Str.ofString "max_cost", .int 99 v), (Str.ofString "b", .str b u), (Str.ofString "a", .str a t), (Str.ofString "pre", .int k0 tk0), (Str.ofString "post", .int 0 tk1)])) (N : News g L s.heap news) :
    wpAny (model PW w) (levA dp un gd L outer) (exec (nthS (fdBody (stm 24)) 6) (levE L))
      (Nxt fun s' => levPost a b a.length 0 ≤ 0 ∧ ∃ tk1, Sh s g L (lk [(Str.ofString "max_cost", .int 99 v), (Str.ofString "b", .str b u), (Str.ofString "a", .str a t), (Str.ofString "pre", .int k0 tk0), (Str.ofString "post", .int (levPost a b a.length 0) tk1)]) news s') (fun _ _ => False) s := by
  refine whl_start 1 (whl_ind (fun n s' => ∃ h' tk k tk1, s' = { s with heap := h', toks := tk } ∧ Fr g L h' (lk [(Str.ofString "max_cost", .int 99 v), (Str.ofString "b", .str b u), (Str.ofString "a", .str a t), (Str.ofString "pre", .int k0 tk0), (Str.ofString "post", .int k tk1)]) ∧ News g L h' news ∧ k ≤ 0 ∧ (n : Int) = a.length + k ∧ levPost a b n k = levPost a b a.length 0) .never ?turn (a.length) _ ⟨s.heap, s.toks, 0, tk1, rfl, F, N, by decide, by (first | lia | omega), rfl⟩)
  rintro n s' ⟨h1, tk, k, tk1, rfl, F1, N1, hk0, hn, hp⟩
  have fin : ∀ {s'' : Shared} {h'' tk'' tk2}, levPostT a b k = false → s'' = { s with heap := h'', toks := tk'' } → Fr g L h'' (lk [(Str.ofString "max_cost", .int 99 v), (Str.ofString "b", .str b u), (Str.ofString "a", .str a t), (Str.ofString "pre", .int k0 tk0), (Str.ofString "post", .int k tk2)]) → News g L h'' news → Nxt (fun s' => levPost a b a.length 0 ≤ 0 ∧ ∃ tk1, Sh s g L (lk [(Str.ofString "max_cost", .int 99 v), (Str.ofString "b", .str b u), (Str.ofString "a", .str a t), (Str.ofString "pre", .int k0 tk0), (Str.ofString "post", .int (levPost a b a.length 0) tk1)]) news s') .next s'' := by
    intro s'' h'' tk'' tk2 hT e F' N'
    rw [levPost_stop hT] at hp
    rw [← hp]
    exact ⟨rfl, hk0, _, _, _, e, F', N'⟩
  by_cases hk : k = 0
  · subst hk
    clear N F
    have tT : levPostT a b 0 = ((a.length != 0 && b.length != 0) && Txt.item a (0 - 1) == Txt.item b (0 - 1)) := by
      simp only [levPostT, levQ, if_true, slice_all]
    iterate 14 (first | (walk1; try dsimp only) | leave1)
    refine slice_strN_nn (s := { s with heap := h1, toks := tk }) (by assumption) (by assumption) ?_ (by with_unfolding_all rfl) (by intro _; with_unfolding_all rfl) (Nat.le_trans ha (by decide))
    clear F1 N1
    intro h2 t2 k2 F2 N2
    rw [slice_all]
    iterate 3 (first | (walk1; try dsimp only) | leave1)
    · iterate 13 (first | (walk1; try dsimp only) | leave1)
      refine slice_strN_nn (s := { s with heap := h2, toks := _ }) (by assumption) (by assumption) ?_ (by with_unfolding_all rfl) (by intro _; with_unfolding_all rfl) (Nat.le_trans hb (by decide))
      clear F2 N2
      intro h3 t3 k3 F3 N3
      rw [slice_all]
      repeat' (first | (walk1; try dsimp only) | leave1)
      · have hT : levPostT a b 0 = true := by
          rw [tT]
          simp only [Bool.and_eq_true, bne_iff_ne]
          exact ⟨⟨by (first | lia | omega), by (first | lia | omega)⟩, by assumption⟩
        have F' := ‹Fr g L _ _›
        rw [lk_put] at F'
        refine ⟨n - 1, by (first | lia | omega), _, _, 0 - 1, _, rfl, F', by assumption, by (first | lia | omega), by (first | lia | omega), ?_⟩
        rw [← hp]
        have : n = n - 1 + 1 := by (first | lia | omega)
        conv => rhs; rw [this]
        exact (levPost_go hT).symm
      all_goals
        refine fin ?_ rfl (by assumption) (by assumption)
        rw [tT]
        refine Bool.eq_false_iff.mpr fun hT => ?_
        simp only [Bool.and_eq_true, bne_iff_ne] at hT
        obtain ⟨⟨h1, h2⟩, h3⟩ := hT
        first | (first | lia | omega) | simp_all
    · repeat' (first | (walk1; try dsimp only) | leave1)
      all_goals
        refine fin ?_ rfl (by assumption) (by assumption)
        rw [tT]
        refine Bool.eq_false_iff.mpr fun hT => ?_
        simp only [Bool.and_eq_true, bne_iff_ne] at hT
        obtain ⟨⟨h1, h2⟩, h3⟩ := hT
        first | (first | lia | omega) | simp_all
  · have hka : ((Txt.slice a none (some k)).length : Int) = (a.length + k).toNat := by rw [slice_neg_len a k (by (first | lia | omega))]
    have hkb : ((Txt.slice b none (some k)).length : Int) = (b.length + k).toNat := by rw [slice_neg_len b k (by (first | lia | omega))]
    have tT : levPostT a b k = (((Txt.slice a none (some k)).length != 0 && (Txt.slice b none (some k)).length != 0) && Txt.item a (k - 1) == Txt.item b (k - 1)) := by
      simp only [levPostT, levQ, if_neg hk]
    clear N F
    repeat' (first | exact (hk (by with_reducible assumption)).elim | (walk1; try dsimp only) | leave1)
    case' neg.refine'_4.refine'_4.refine_1.refine_1.refine'_4.refine'_4.refine_1.refine_1.refine'_4.refine'_4.refine'_4.refine'_4.refine_1.refine'_4 =>
      have hT : levPostT a b k = true := by
        rw [tT]
        simp only [Bool.and_eq_true, bne_iff_ne]
        exact ⟨⟨by (first | lia | omega), by (first | lia | omega)⟩, by assumption⟩
      have F' := ‹Fr g L _ _›
      rw [lk_put] at F'
      obtain ⟨q1, q2, q3, q4⟩ := lev_ar2 hk0 hn hka ‹((Txt.slice a none (some k)).length : Int) ≠ 0›
      refine ⟨n - 1, q1, _, _, k - 1, _, rfl, F', by assumption, q3, q2, ?_⟩
      rw [← hp]
      have : n = n - 1 + 1 := q4
      conv => rhs; rw [this]
      exact (levPost_go hT).symm
    all_goals
      refine fin ?_ rfl (by assumption) (by assumption)
      rw [tT]
      refine Bool.eq_false_iff.mpr fun hT => ?_
      simp only [Bool.and_eq_true, bne_iff_ne] at hT
      obtain ⟨⟨h1, h2⟩, h3⟩ := hT
      first | (first | lia | omega) | simp_all
end
end Mine
end
-- SUB
section
open PySem PySem.W PyProof.Rows PySem.Calls
set_option Elab.async false
set_option maxRecDepth 100000
set_option linter.all false
set_option maxHeartbeats 0
namespace Mine
noncomputable def subC (x y : Str) : Int := if x = y then 0 else 2
noncomputable abbrev AI (x : Str) : Prop := x = Str.ofString "α" ∨ x = Str.ofString "ι"
theorem sub_cost {w : World} {mean mg mb} {x y : Str} {t u : Tok} (n : Int) (hx : AI x) (hy : AI y) (hn : subC x y = n) : CtrV w mean mg mb 149 [.str x t, .str y u] (2+1) (20+3) fun r => ∃ tk, r = .int n tk := by
  subst hn
  refine enterF (binds := [(Str.ofString "ch_a", .str x t), (Str.ofString "ch_b", .str y u)]) (by rfl) (by rfl) (fun s _ => BindsTo.of_eq rfl) (locs rfl) ?_ rfl rfl rfl (by decide)
  intro dp un gd outer A₀ base g L s B X T hd hu _ F
  have N : News g L s.heap [] := .nil
  change Fr g L s.heap (lk [(Str.ofString "ch_b", .str y u), (Str.ofString "ch_a", .str x t)]) at F
  rcases hx with rfl | rfl <;> rcases hy with rfl | rfl
  all_goals repeat' (first | (walk1; try dsimp only) | leave1)
  all_goals exact ⟨_, _, _, _, rfl, by assumption, by assumption, ⟨_, rfl⟩⟩
end Mine
end
-- SETS
section
open PySem PySem.W PyProof.Rows PySem.Calls
set_option Elab.async false
set_option maxRecDepth 100000
set_option linter.all false
namespace Mine
theorem noBool_set : typeLookup (.type "set") "__bool__" = pure none := by rw [typeLookup_type, builtinLookup_eq_fast]; kernel_rfl
section
variable {prog : Program} {w : World} {A : Around} {E : Value → Shared → Prop} {s : Shared} {a : Addr}
theorem truthy_set {o : Obj} {es : Array (Int × Value)} {ep : Nat} {t : SetTable} {Q : Bool → Shared → Prop}
    (ho : s.heap.get? a = some o) (hex : o.ExactSet) (hd : o.data = .set es ep t) (hf : t.fits es.size = true) (hfit : (es.size : Int) < 2 ^ 63)
    (h : Q (decide (es.size ≠ 0)) { s with toks := s.toks + 1 + 1 }) : wpAny (model prog w) A (truthy (.ref a)) Q E s := by
  have hT : s.TypeIs (.ref a) "set" := ⟨o, ho, hex.1⟩
  have hne : ((es.size : Int) != 0) = decide (es.size ≠ 0) := by
    by_cases e : es.size = 0
    · simp [e]
    · have : ((es.size : Int) != 0) = true := bne_iff_ne.mpr (by (first | lia | omega))
      rw [this, decide_eq_true e]
  have key : wpAny (model prog w) A (runValue (.builtin "len" ⟨[.ref a], []⟩)) (fun r s' => r = .int es.size (s.toks + 1) ∧ Q (decide (es.size ≠ 0)) s') E s := by
    refine wpAny_runValue (codeAny_builtin entry_len ?_)
    rw [Around.under_plainId plain_len _]
    exact wpAny_mono (wpAny_len_body_set (Q := fun r s' => r = .int es.size (s.toks + 1) ∧ Q (decide (es.size ≠ 0)) s') ho hex hd hf hfit ⟨rfl, h⟩)
      (fun fin s' h' => by obtain ⟨r, rfl, hq⟩ := h'; exact hq) fun _ _ e => e
  unfold truthy
  first
    | refine wpAny_bind (wpAny_callSpecial?_none (name := Str.ofString "__bool__") hT noBool_set ?_)
    | refine wpAny_bind (wpAny_pure (wpAny_bind (wpAny_callSpecial?_none (name := Str.ofString "__bool__") hT noBool_set ?_)))
  first
    | refine wpAny_bind (wpAny_specialOf (name := Str.ofString "__len__") hT F.slot_set_len.lookup ?_)
    | refine wpAny_bind (wpAny_pure (wpAny_bind (wpAny_specialOf (name := Str.ofString "__len__") hT F.slot_set_len.lookup ?_)))
  first
    | exact wpAny_bind (wpAny_mono key (fun r s' h' => by obtain ⟨rfl, hq⟩ := h'; exact wpAny_pure (hne ▸ hq)) fun _ _ e => e)
    | exact wpAny_bind (wpAny_pure (wpAny_bind (wpAny_mono key (fun r s' h' => by obtain ⟨rfl, hq⟩ := h'; exact wpAny_pure (hne ▸ hq)) fun _ _ e => e)))
theorem wpAny_choose1 {M : Model} {A : Around} {E : Value → Shared → Prop} {s : Shared} {src : Source} {Q : Nat → Shared → Prop} (h : ∀ d', Q 0 { s with drawn := d' }) : wpAny M A (choose src 1) Q E s := by
  intro Γ p hΓ
  refine ⟨by decide, ?_⟩
  show Sem.wp M Γ (.pure _) _ _ _ _
  have := h (s.drawn.bump src)
  rw [Nat.mod_one]
  exact this
theorem pop_one {o : Obj} {hx : Int} {x : Value} {ep : Nat} {t : SetTable} {Q : Value → Shared → Prop}
    (ho : s.heap.get? a = some o) (hex : o.ExactSet) (hd : o.data = .set #[(hx, x)] ep t) (hf : t.fits 1 = true)
    (h : ∀ d', Q x { s with heap := s.heap.update a (Obj.putSet #[] (t.popped 0)), drawn := d' }) : wpAny (model prog w) A (call (.builtin "set.pop") [.ref a]) Q E s := by
  have hT : s.TypeIs (.ref a) "set" := ⟨o, ho, hex.1⟩
  refine wpAny_call_entry F.slot_set_pop hT F.entry_set_pop ?_ (F.args_set_pop_1 _)
  unfold Builtin.«set.pop» Builtin.Frozenset.noArgs
  simp only [List.isEmpty_nil, bind_assoc]
  unfold Builtin.Frozenset.addrOf setPop
  refine wpAny_bind (wpAny_pure ?_)
  try dsimp only
  refine wpAny_bind ?_
  refine wpAny_bind (wpAny_setState_of ho hd hf ?_)
  have hsz : t.place.size = 1 := by
    simp only [SetTable.fits, Bool.and_eq_true, beq_iff_eq, decide_eq_true_eq] at hf
    exact hf.1
  have hp : t.popPlace = some 0 := by
    unfold SetTable.popPlace
    have : t.place.isEmpty = false := by
      cases e : t.place.isEmpty with
      | false => rfl
      | true => rw [Array.isEmpty_iff_size_eq_zero.mp e] at hsz; cases hsz
    rw [this, hsz]
    simp only [Bool.false_eq_true, ↓reduceIte]
    congr 1
    split <;> (first | lia | omega)
  simp only [hp]
  have fin : ∀ d', wpAny (model prog w) A (storeSet a (SetTable.eraseAt #[(hx, x)] 0) (t.popped 0)) (fun _ s' => Q x s') E { s with drawn := d' } := fun d' =>
    wpAny_storeSet_of (es' := #[]) (s := { s with drawn := d' }) ho hd (h d') (by decide)
  have fin2 : ∀ d', wpAny (model prog w) A.in1 (do
        storeSet a (SetTable.eraseAt #[(hx, x)] 0) (t.popped 0)
        pure (some x)) (fun a s' =>
      wpAny (model prog w) A.in1
        (match a with
        | some x => ret x
        | x => do
          rule "set.pop.empty"
          raiseErrorWords "KeyError" "pop from an empty set")
        (fun fin s' => ∃ v, fin = Fin.done (Flow.ret v) ∧ Q v s') E s') E { s with drawn := d' } := fun d' =>
    wpAny_bind (wpAny_storeSet_of (es' := #[]) (s := { s with drawn := d' }) ho hd (wpAny_pure (wpAny_pure ⟨_, rfl, h d'⟩)) (by decide))
  refine wpAny_bind (wpAny_bind (wpAny_askSetting (wpAny_pure ?_)))
  split
  · exact wpAny_bind (wpAny_choose1 fun d' => fin2 d')
  · refine wpAny_bind ?_
    have e : ((!t.led && decide ((#[(hx, x)] : Array (Int × Value)).size > 1)) = true) = False := by simp
    refine (show wpAny (model prog w) A.in1 (if (!t.led && decide ((#[(hx, x)] : Array (Int × Value)).size > 1)) = true then unsupported "set:maker-not-led" else pure ()) _ E s from ?_)
    simp only [e, if_false]
    exact wpAny_pure (fin2 s.drawn)
end
end Mine
end
-- SETS2
section
open PySem PySem.W PyProof.Rows PySem.Calls PySem.Spec
set_option Elab.async false
set_option maxRecDepth 100000
set_option linter.all false
namespace Mine
/-- whether a set that the program makes is led -/
noncomputable abbrev ledOf (w : World) : Bool := !w.params.followText "set-order"
/-- a set as made -/
noncomputable abbrev set0 (l : Bool) : Obj := { cls := .type "set", dict := none, data := .set #[] 0 (.fresh 0 0 l) }
noncomputable abbrev tab1 (l : Bool) (p : Nat) : SetTable := { mask := 7, place := #[p], dummies := #[], finger := 0, led := l, moves := 0, plain := true }
/-- a made set with one int -/
noncomputable abbrev set1 (l : Bool) (p : Nat) (v : Value) : Obj := { cls := .type "set", dict := none, data := .set #[((p : Int), v)] 1 (tab1 l p) }
section
variable {prog : Program} {w : World} {A : Around} {E : Value → Shared → Prop} {s : Shared}
set_option maxHeartbeats 1000000 in
theorem code_set_new' {Q₁ : Value → Shared → Prop} (h : Q₁ (.ref s.heap.objs.size) { s with heap := s.heap.push (set0 (ledOf w)) }) :
    codeAny (model prog w) A (.call (.builtin "set.__new__") ⟨[.type "set"], []⟩) (wants Q₁ E) s := by
  refine codeAny_of_tree ?_
  show wpAny _ A.in1 (do checkBuiltinCall "set.__new__" ⟨[.type "set"], []⟩; again (.builtin "set.__new__" ⟨[.type "set"], []⟩)) _ _ s
  refine wpAny_bind (wpAny_of_eq F.newCall_set_0 (wpAny_pure ⟨plainId_quiet F.plain_set_new _, codeAny_builtin F.entry_set_new ?_⟩))
  rw [Around.under_plainId F.plain_set_new _]
  unfold Builtin.«set.__new__» Builtin.Frozenset.newClass
  have hsub := sub_set_self
  obtain ⟨hp, g, d, tk, os⟩ := s
  dsimp only
  wp_walk
  refine wpAny_askSetting (wpAny_pure ?_)
  dsimp only
  simp only [newObj]
  exact wpAny_bind (wpAny_alloc (wpAny_pure (wpAny_pure h)))
set_option maxHeartbeats 1000000 in
theorem call_set_0' {Q : Value → Shared → Prop} (h : Q (.ref s.heap.objs.size) { s with heap := s.heap.push (set0 (ledOf w)) }) :
    wpAny (model prog w) A (call (.type "set") []) Q E s := by
  obtain ⟨c, tl, hmro⟩ := F.called_set.mro
  have hmade := F.called_set.made
  have hsub := F.called_set.sub
  refine wpAny_call (codeAny_of_tree ?_)
  show wpAny _ _ (callAny (.type "set") _) _ _ _
  refine wpAny_pure ⟨Code.quiet_builtin _ (by decide +kernel), codeAny_builtin F.entry_type_call ?_⟩
  rw [Around.under_plain (weight_type_call_type "set" [] []) rfl]
  have h1 := F.called_set.notType
  have h2 := F.called_set.canCreate
  have hct := F.typeCall_set_0
  repeat (any_goals (first | assumption | wp_step))
  refine codeAny_mono (code_set_new' (E := E) (Q₁ := fun obj s₁ => obj = .ref s.heap.objs.size ∧ s₁ = { s with heap := s.heap.push (set0 (ledOf w)) }) ⟨rfl, rfl⟩) fun r s₁ hr => ?_
  cases r with
  | error e => exact hr
  | ok fl =>
    cases fl with
    | ret obj =>
      obtain ⟨rfl, rfl⟩ := hr
      have hT : Shared.TypeIs { s with heap := s.heap.push (set0 (ledOf w)) } (.ref s.heap.objs.size) "set" := ⟨_, Heap.get?_push_size _ rfl, rfl⟩
      have hli := F.called_set.init.lookup
      have hbi := F.called_set.init.bind (.ref s.heap.objs.size)
      repeat (any_goals (first | assumption | wp_step))
      refine codeAny_mono (codeAny_call_builtin (R := wants (fun r s₂ => r = .none ∧ Q (.ref s.heap.objs.size) s₂) E) F.called_set.init.plain F.entry_set_init (check_set_init hT ?_)) fun r₂ s₂ hr₂ => ?_
      · unfold Builtin.«set.__init__» noKeywords
        wp_walk
        exact ⟨rfl, h⟩
      · cases r₂ with
        | error e => exact hr₂
        | ok fl₂ =>
          cases fl₂ with
          | ret r =>
            obtain ⟨rfl, hq⟩ := hr₂
            repeat (any_goals (first | assumption | wp_step))
          | _ => exact hr₂.elim
    | _ => exact hr.elim
variable {h₀ : Heap} {L sa : Addr} {m : Str → Option Value} {news : List (Addr × Obj)} {g : Obj → List (Addr × Obj)} {so : Obj}
theorem set_new {Q : Value → Shared → Prop} (F : Fr h₀ L s.heap m) (N : News h₀ L s.heap news)
    (h : ∀ D h', Fr h₀ L h' m → News h₀ L h' ((D, set0 (ledOf w)) :: news) → (∀ p ∈ news, p.1 < D) → (set0 (ledOf w)).SetObjOf (intKind prog w) (fun _ => false) 0 → Q (.ref D) { s with heap := h' }) :
    wpAny (model prog w) A (call (.type "set") []) Q E s :=
  call_set_0' (h _ _ (F.push _) (N.push F _) (fun p hp => Heap.lt_size (N p hp).1) (setObjOf_fresh (knd := intKind prog w) _))
theorem set_truthy {S : Int → Bool} {n : Nat} {Q : Bool → Shared → Prop} (N : News h₀ L s.heap news) (hm : (sa, so) ∈ news) (hso : so.SetObjOf (intKind prog w) S n) (hb : n < scanBound)
    (h : Q (decide (n ≠ 0)) { s with toks := s.toks + 1 + 1 }) : wpAny (model prog w) A (truthy (.ref sa)) Q E s := by
  obtain ⟨hex, es, ep, t, hd, hel, hmem, hn, hf⟩ := hso
  subst hn
  exact truthy_set (N _ hm).1 hex hd hf (by unfold scanBound at hb; (first | lia | omega)) h
theorem set_popm {S : Int → Bool} {n : Nat} {pl : Sem Bool} {Q : Value × List Value → Shared → Prop} (N : News h₀ L s.heap news) (hm : (sa, so) ∈ news) (hso : so.SetObjOf (intKind prog w) S n) (hb : n < scanBound)
    (h : Q (.builtin "set.pop", [.ref sa]) s) : wpAny (model prog w) A (getMethod (.ref sa) "pop" pl) Q E s := by
  have hS := hso.setOf (N _ hm).1 hb
  exact getMethod_builtin hS.typeIs F.plainAttrs_set F.slot_set_pop F.type_set_pop hS.noDict h
theorem arr_one {α : Type} {a : Array α} (h : a.size = 1) : ∃ x, a = #[x] := by
  rcases a with ⟨l⟩
  cases l with
  | nil => cases h
  | cons x l =>
    cases l with
    | nil => exact ⟨x, rfl⟩
    | cons y l => simp at h
theorem set_pop1 {S : Int → Bool} {k : Int} {Q : Value → Shared → Prop} (F : Fr h₀ L s.heap m) (N : News h₀ L s.heap news) (U : UpdF sa so news g) (hso : so.SetObjOf (intKind prog w) S 1) (hk : S k = true)
    (h : ∀ d' h' so' tk, Fr h₀ L h' m → News h₀ L h' (g so') → so'.SetObjOf (intKind prog w) (fun _ => false) 0 → Q (.int k tk) { s with heap := h', drawn := d' }) :
    wpAny (model prog w) A (call (.builtin "set.pop") [.ref sa]) Q E s := by
  obtain ⟨own, rest, rfl, hg, h1, h2⟩ := U.split
  have hm := N _ (List.mem_append_right _ (.head _))
  obtain ⟨hex, es, ep, t, hd, hel, hmem, hn, hf⟩ := hso
  obtain ⟨e, rfl⟩ := arr_one hn
  · obtain ⟨hx, x⟩ := e
    obtain ⟨e', he', hp⟩ := (hmem k).mp hk
    rw [List.mem_singleton.mp he'] at hp
    obtain ⟨tk, rfl⟩ := Value.isInt_shape hp
    have hfd : (t.popped 0).fits 0 = true := by
      simp only [SetTable.fits, Bool.and_eq_true, beq_iff_eq, decide_eq_true_eq] at hf ⊢
      obtain ⟨q1, q2⟩ := hf
      have q1' : t.place.size = 1 := q1
      unfold SetTable.fill at q2
      have q3 : 0 < t.place.size := by (first | lia | omega)
      have e0 : t.place[0]? = some t.place[0] := Array.getElem?_eq_getElem q3
      simp only [SetTable.popped, SetTable.drop, e0, SetTable.fill, SetTable.eraseAt, SetTable.insertAt, Array.size_append, Array.size_extract, Array.size_push]
      (first | lia | omega)
    refine pop_one hm.1 hex hd hf fun d' => ?_
    have ho' : (s.heap.update sa (Obj.putSet #[] (t.popped 0))).get? sa = some { so with data := .set #[] (ep + 1) (t.popped 0) } := by
      rw [Heap.get?_update_self (Obj.putSet #[] (t.popped 0)) hm.1 (by rw [putSet_of _ _ hd]; rfl), putSet_of _ _ hd]
    have hsb := Heap.SameBut.update s.heap sa (Obj.putSet #[] (t.popped 0))
    exact h d' _ { so with data := .set #[] (ep + 1) (t.popped 0) } tk (F.change hsb hm.2.1 hm.2.2) (hg _ ▸ N.setAt h1 h2 hsb ho') ⟨⟨hex.1, hex.2.1, hex.2.2⟩, #[], _, _, rfl, (fun e he => by simp at he), (fun k => by simp), rfl, hfd⟩
/-- an int put into a set as made -/
theorem set_add1 {p : Nat} {l : Bool} {tk : Tok} {Q : Value → Shared → Prop} (hp1 : 0 < p) (hp : p < 8) (F₀ : Fr h₀ L s.heap m) (N : News h₀ L s.heap news) (U : UpdF sa (set0 l) news g)
    (h : ∀ h', Fr h₀ L h' m → News h₀ L h' (g (set1 l p (.int p tk))) → (set1 l p (.int p tk)).SetObjOf (intKind prog w) (fun k' => false || decide (k' = (p : Int))) 1 → Q .none { s with heap := h', toks := s.toks + 1 }) :
    wpAny (model prog w) A (call (.builtin "set.add") [.ref sa, .int p tk]) Q E s := by
  obtain ⟨own, rest, rfl, hg, h1, h2⟩ := U.split
  have hm := N _ (List.mem_append_right _ (.head _))
  have hT : s.TypeIs (.ref sa) "set" := ⟨_, hm.1, rfl⟩
  have hh : hashInt (p : Int) = (p : Int) := by
    have : p = 1 ∨ p = 2 ∨ p = 3 ∨ p = 4 ∨ p = 5 ∨ p = 6 ∨ p = 7 := by (first | lia | omega)
    rcases this with rfl | rfl | rfl | rfl | rfl | rfl | rfl <;> decide +kernel
  have hl : layNew (.fresh 0 0 l) #[] (p : Int) (.int p tk) = (#[((p : Int), .int p tk)], tab1 l p, false, false) := by
    have : p = 1 ∨ p = 2 ∨ p = 3 ∨ p = 4 ∨ p = 5 ∨ p = 6 ∨ p = 7 := by (first | lia | omega)
    rcases this with rfl | rfl | rfl | rfl | rfl | rfl | rfl <;> kernel_rfl
  refine wpAny_call_entry F.slot_set_add hT F.entry_set_add ?_ (F.args_set_add_2 _ _)
  unfold Builtin.«set.add» Builtin.Frozenset.oneOther
  simp only [List.isEmpty_nil, bind_assoc]
  unfold Builtin.Frozenset.addrOf setAdd
  refine wpAny_bind (wpAny_pure ?_)
  try dsimp only
  refine wpAny_bind (wpAny_pure ?_)
  try dsimp only
  refine wpAny_bind ?_
  refine wpAny_holding ?_
  refine wpAny_bind ((intKind prog w).pyHash (intKind_is prog w (p : Int) tk) ?_)
  show wpAny _ _ (setAddHashed sa (.int p tk) (hashInt (p : Int))) _ _ _
  rw [hh]
  unfold setAddHashed setAddHashedIn
  refine wpAny_holding (wpAny_bind (wpAny_setState_of (es := #[]) (ep := 0) (t := .fresh 0 0 l) (s := { s with toks := s.toks + 1 }) hm.1 rfl rfl ?_))
  dsimp only
  rw [show byScan (.int p tk) #[] = true from by simp [byScan, Value.scannable, scanBound]]
  simp only [↓reduceIte]
  unfold setAddByScan
  refine wpAny_bind ?_
  refine wpAny_bind (wpAny_rule ?_)
  refine wpAny_bind (m := setScan sa (.int p tk) (p : Int) true #[]) (wpAny_pure ?_)
  dsimp only
  rw [hl]
  dsimp only
  have hfin : ∀ h', h' = s.heap.update sa (Obj.putSet #[((p : Int), .int p tk)] (tab1 l p)) → Q .none { s with heap := h', toks := s.toks + 1 } := by
    rintro _ rfl
    have ho' : (s.heap.update sa (Obj.putSet #[((p : Int), .int p tk)] (tab1 l p))).get? sa = some (set1 l p (.int p tk)) := Heap.get?_update_self _ hm.1 rfl
    have hsb := Heap.SameBut.update s.heap sa (Obj.putSet #[((p : Int), .int p tk)] (tab1 l p))
    refine h _ (F₀.change hsb hm.2.1 hm.2.2) (hg _ ▸ N.setAt h1 h2 hsb ho') ⟨⟨rfl, rfl, rfl⟩, _, _, _, rfl, ?_, ?_, rfl, rfl⟩
    · intro e he
      have he' : e = ((p : Int), Value.int p tk) := by simpa using he
      subst he'
      exact ⟨⟨p, intKind_is .., hh.symm⟩, rfl⟩
    · intro k
      constructor
      · intro hk
        have : k = (p : Int) := by simpa using hk
        subst this
        exact ⟨_, List.mem_singleton.mpr rfl, intKind_is ..⟩
      · rintro ⟨e, he, hk⟩
        have he' : e = ((p : Int), Value.int p tk) := by simpa using he
        subst he'
        have : k = (p : Int) := (intKind prog w).inj _ _ _ hk (intKind_is ..)
        simp [this]
  refine wpAny_bind (wpAny_pure ?_)
  rw [if_pos rfl]
  refine wpAny_bind ?_
  rw [hashByValue_scannable 8 (show (Value.int (p : Int) tk).scannable = true from rfl)]
  refine wpAny_pure ?_
  rw [show plainKind (Value.int (p : Int) tk) = true from rfl]
  simp only [if_true]
  refine wpAny_bind (wpAny_storeSet_of (s := { s with toks := s.toks + 1 }) (es := #[]) (ep := 0) (t := .fresh 0 0 l) hm.1 rfl ?_ (by rw [sizeLine_eq]; show 1 ≤ 16777216; decide))
  have htf : (tab1 l p).tooFull = false := rfl
  simp only [htf, Bool.and_false, Bool.false_eq_true, if_false]
  exact wpAny_pure (wpAny_pure (wpAny_pure ⟨_, rfl, hfin _ rfl⟩))
theorem set_pop1' {R : Int → Bool} {k : Int} {n : Nat} {Q : Value → Shared → Prop} (F : Fr h₀ L s.heap m) (N : News h₀ L s.heap news) (U : UpdF sa so news g) (hso : so.SetObjOf (intKind prog w) (fun k' => R k' || decide (k' = k)) n) (hn : n = 1)
    (h : ∀ d' h' so' tk, Fr h₀ L h' m → News h₀ L h' (g so') → so'.SetObjOf (intKind prog w) (fun _ => false) 0 → Q (.int k tk) { s with heap := h', drawn := d' }) :
    wpAny (model prog w) A (call (.builtin "set.pop") [.ref sa]) Q E s := by
  subst hn
  exact set_pop1 F N U hso (by simp) h
theorem set_add1' (p : Nat) (k₀ : Int) {k : Int} {l : Bool} {tk : Tok} {Q : Value → Shared → Prop} (hk : k = k₀) (hk0 : k₀ = (p : Int)) (hp1 : 0 < p) (hp : p < 8) (F : Fr h₀ L s.heap m) (N : News h₀ L s.heap news) (U : UpdF sa (set0 l) news g)
    (h : ∀ h', Fr h₀ L h' m → News h₀ L h' (g (set1 l p (.int k₀ tk))) → (set1 l p (.int k₀ tk)).SetObjOf (intKind prog w) (fun k' => false || decide (k' = k₀)) 1 → Q .none { s with heap := h', toks := s.toks + 1 }) :
    wpAny (model prog w) A (call (.builtin "set.add") [.ref sa, .int k tk]) Q E s := by
  subst hk
  subst hk0
  exact set_add1 hp1 hp F N U h
end
end Mine
end
-- SETI
section
open PySem PySem.W PyProof.Rows PySem.Calls PySem.Spec
set_option Elab.async false
set_option maxRecDepth 100000
set_option linter.all false
namespace Mine
theorem slot_si_next : Slot "set_iterator" "__next__" "set_iterator.__next__" :=
  .of (owner := "set_iterator") (n := "__next__") (by rw [typeLookup_type, builtinLookup_eq_fast]; kernel_rfl) (by decide +kernel) (by decide +kernel) (by decide +kernel)
    (by first | exact .inl (by decide +kernel) | exact .inr (by decide +kernel)) (by rw [isSubtype_type]; kernel_rfl)
theorem entry_si_next : entryFor table "set_iterator.__next__" = some Builtin.«set_iterator.__next__» := entryFor_of_tree (by kernel_rfl)
theorem args_si_next (a : Value) : argsOk "set_iterator.__next__" ⟨[a], []⟩ := by unfold argsOk; kernel_rfl
theorem entry_set_iter : entryFor table "set.__iter__" = some Builtin.«frozenset.__iter__» :=
  entryFor_alias (id' := "frozenset.__iter__") (by kernel_rfl) rfl (by decide +kernel) (by kernel_rfl)
noncomputable abbrev siObj (sa : Addr) (f i : Int) : Obj := { cls := .type "set_iterator", data := .fields #[.int f 0, .int i 0, .ref sa, .int 1 0, .int 1 0] }
section
variable {prog : Program} {w : World} {A : Around} {E : Value → Shared → Prop} {s : Shared} {sa it : Addr} {p : Nat} {v : Value}
theorem wpAny_no {α : Type} {M : Model} {b : Bool} {t e : Sem α} {Q : α → Shared → Prop} (hb : b = false) (h : wpAny M A e Q E s) : wpAny M A (if b = true then t else e) Q E s := by
  subst hb; rw [if_neg Bool.false_ne_true]; exact h
theorem wpAny_yes {α : Type} {M : Model} {b : Bool} {t e : Sem α} {Q : α → Shared → Prop} (hb : b = true) (h : wpAny M A t Q E s) : wpAny M A (if b = true then t else e) Q E s := by
  subst hb; rw [if_pos rfl]; exact h
/-- the iterator of a set with one int -/
theorem pyIter_set1 {Q : Value → Shared → Prop} (hs : s.heap.get? sa = some (set1 (ledOf w) p v)) (h : Q (.ref s.heap.objs.size) { s with heap := s.heap.push (siObj sa 0 0) }) :
    wpAny (model prog w) A (pyIter (.ref sa)) Q E s := by
  have hT : s.TypeIs (.ref sa) "set" := ⟨_, hs, rfl⟩
  refine wpAny_pyIter_slot hT F.slot_set_iter (wpAny_call_entry F.slot_set_iter hT entry_set_iter ?_ (F.args_set_iter_1 _))
  unfold Builtin.«frozenset.__iter__» Builtin.Frozenset.slot0 slotArgs
  simp only [List.isEmpty_nil, Bool.not_true, Bool.false_eq_true, ↓reduceIte, bind_assoc, List.length_nil, bne_self_eq_false]
  unfold Builtin.Frozenset.addrOf Builtin.Frozenset.sizeOf
  refine wpAny_bind (wpAny_pure ?_)
  try dsimp only
  refine wpAny_bind (wpAny_pure ?_)
  refine wpAny_bind (wpAny_bind (wpAny_setEntries_of hs rfl rfl (wpAny_pure ?_)))
  unfold setDrawn setsByText
  refine wpAny_bind (wpAny_bind (wpAny_setState_of hs rfl rfl ?_))
  dsimp only
  refine wpAny_bind (wpAny_bind (wpAny_askSetting (wpAny_pure ?_)))
  refine wpAny_pure ?_
  refine wpAny_no (Bool.and_false _) ?_
  refine wpAny_bind (wpAny_pure ?_)
  refine wpAny_bind (wpAny_setEpoch_of hs rfl rfl ?_)
  exact wpAny_bind (wpAny_newObj_type (wpAny_pure ⟨_, rfl, "set_iterator", _, ⟨_, Heap.get?_push_size _ rfl, rfl⟩, slot_si_next.lookup, h⟩))
theorem next_set1 {Q : Option Value → Shared → Prop} (hs : s.heap.get? sa = some (set1 (ledOf w) p v)) (hi : s.heap.get? it = some (siObj sa 0 0)) (hne : sa ≠ it)
    (h : ∀ f h', (w.params.followText "set-order" = true ∨ f = (p : Int) + 1) → h'.get? it = some (siObj sa f 1) → Heap.SameBut it s.heap h' → Q (some v) { s with heap := h' }) :
    wpAny (model prog w) A (pyNext (.ref it)) Q E s := by
  have hT : s.TypeIs (.ref it) "set_iterator" := ⟨_, hi, rfl⟩
  unfold pyNext
  refine wpAny_bind (wpAny_attempt (wpAny_callSpecial?_slot (name := Str.ofString "__next__") hT slot_si_next (wpAny_call_entry slot_si_next hT entry_si_next ?_ (args_si_next _))))
  unfold Builtin.«set_iterator.__next__»
  refine wpAny_bind (m := slotArgs "__next__" 0 _) (wpAny_pure ?_)
  try dsimp only
  refine wpAny_bind (wpAny_fieldsOf hi rfl ?_)
  dsimp only
  refine wpAny_bind (wpAny_setEntries_of hs rfl rfl ?_)
  rw [if_neg (by simp)]
  have go : ∀ (f : Int) (E' : Value → Shared → Prop), (w.params.followText "set-order" = true ∨ f = (p : Int) + 1) → wpAny (model prog w) A.in1 (do
        setField (.ref it) 0 (rawInt f)
        setField (.ref it) 1 (rawInt (0 + 1))
        ret v) (fun fin s' => ∃ v₁, fin = Fin.done (Flow.ret v₁) ∧ wpAny (model prog w) A (pure (some v₁)) Q E s') E' s := by
    intro f E' hf
    refine wpAny_bind (wpAny_setField hi rfl (Nat.zero_lt_succ _) ?_)
    have hi1 : (s.heap.update it (Obj.mapFields (·.setIfInBounds 0 (rawInt f)))).get? it = some (siObj sa f 0) := Heap.get?_update_self _ hi rfl
    refine wpAny_bind (wpAny_setField (s := { s with heap := _ }) hi1 rfl (Nat.succ_lt_succ (Nat.zero_lt_succ _)) ?_)
    have hi2 : ((s.heap.update it (Obj.mapFields (·.setIfInBounds 0 (rawInt f)))).update it (Obj.mapFields (·.setIfInBounds 1 (rawInt (0 + 1))))).get? it = some (siObj sa f 1) := Heap.get?_update_self _ hi1 rfl
    exact wpAny_pure ⟨_, rfl, wpAny_pure (h f _ hf hi2 ((Heap.SameBut.update ..).trans (Heap.SameBut.update ..)))⟩
  unfold setNext setsByText
  refine wpAny_bind (wpAny_bind (wpAny_setState_of hs rfl rfl ?_))
  dsimp only
  refine wpAny_bind (wpAny_bind (wpAny_askSetting (wpAny_pure ?_)))
  cases hf : w.params.followText "set-order" with
  | true =>
    refine wpAny_yes hf ?_
    refine wpAny_no rfl ?_
    unfold setWalk setsByText
    refine wpAny_bind (wpAny_bind (wpAny_setState_of hs rfl rfl ?_))
    dsimp only
    refine wpAny_bind (wpAny_bind (wpAny_askSetting (wpAny_pure ?_)))
    refine wpAny_yes hf ?_
    refine wpAny_bind (wpAny_askSetting ?_)
    refine wpAny_pure ?_
    have e : pickOrder ((model prog w).w.params.setOrder sa 1) #[((p : Int), v)] = #[((p : Int), v)] := by
      simp [pickOrder, pickOrder.go, Nat.mod_one]
    refine wpAny_pure ?_
    rw [show (pickOrder ({ program := (model prog w).prog, params := (model prog w).w.params : Setting }.params.setOrder sa 1) #[((p : Int), v)]) = #[((p : Int), v)] from e]
    exact go 0 _ (.inl hf)
  | false =>
    refine wpAny_no hf ?_
    refine wpAny_no rfl ?_
    refine wpAny_bind (show wpAny _ _ (if (!(!w.params.followText "set-order") && !false) = true then unsupported "set:maker-not-led" else pure ()) _ _ _ from wpAny_no (by rw [hf]; rfl) (wpAny_pure ?_))
    refine wpAny_pure ?_
    exact go ((p : Int) + 1) _ (.inr rfl)
theorem below1 (p : Nat) : SetTable.below #[p] (p + 1) = 1 := by
  have h1 : p < p + 1 := Nat.lt_succ_self p
  simp [SetTable.below, SetTable.below.go, h1]
theorem next_set1_end {f : Int} {Q : Option Value → Shared → Prop} (hh : A.handled = none) (hs : s.heap.get? sa = some (set1 (ledOf w) p v)) (hi : s.heap.get? it = some (siObj sa f 1)) (hf0 : w.params.followText "set-order" = true ∨ f = (p : Int) + 1)
    (h : ∀ h', Heap.ExtBut it s.heap h' → Q none { s with heap := h' }) :
    wpAny (model prog w) A (pyNext (.ref it)) Q E s := by
  have hT : s.TypeIs (.ref it) "set_iterator" := ⟨_, hi, rfl⟩
  unfold pyNext
  refine wpAny_bind (wpAny_attempt (wpAny_callSpecial?_slot (name := Str.ofString "__next__") hT slot_si_next (wpAny_call_entry slot_si_next hT entry_si_next ?_ (args_si_next _))))
  unfold Builtin.«set_iterator.__next__»
  refine wpAny_bind (m := slotArgs "__next__" 0 _) (wpAny_pure ?_)
  try dsimp only
  refine wpAny_bind (wpAny_fieldsOf hi rfl ?_)
  dsimp only
  refine wpAny_bind (wpAny_setEntries_of hs rfl rfl ?_)
  rw [if_neg (by simp)]
  have go : wpAny (model prog w) A.in1 (do
        setField (.ref it) 2 .none
        let e ← newExc (.type "StopIteration") []
        raiseNew e) (fun fin s' => ∃ v₁, fin = Fin.done (Flow.ret v₁) ∧ wpAny (model prog w) A (pure (some v₁)) Q E s') (fun e s' =>
          wpAny (model prog w) A
            (do
              let __do_lift ← isInstance e (Value.type "StopIteration")
              if __do_lift = true then pure none else throw e)
            Q E s') s := by
    refine wpAny_bind (wpAny_setField hi rfl (Nat.succ_lt_succ (Nat.succ_lt_succ (Nat.zero_lt_succ _))) ?_)
    refine wpAny_bind ?_
    simp only [newExc, newTuple]
    refine wpAny_bind (wpAny_newObj_type ?_ (by size_fits))
    refine wpAny_bind (m := firstArgMember _ _) (wpAny_of_eq (a := Value.none) (by first | rfl | (simp only [firstArgMember]; rfl)) ?_)
    refine wpAny_newObj_type ?_ (by size_fits)
    simp only [raiseNew]
    refine wpAny_bind (wpAny_handled ?_)
    rw [show A.in1.handled = none from hh]
    refine wpAny_bind (wpAny_pure (wpAny_throw ?_))
    refine wpAny_bind (wpAny_isInstance (T := "StopIteration") (b := true) ⟨_, Heap.get?_push_size _ rfl, rfl⟩ isSubtype_stop ?_)
    exact wpAny_pure (h _ (((Heap.SameBut.update ..).extBut.push _).push _))
  unfold setNext setsByText
  refine wpAny_bind (wpAny_bind (wpAny_setState_of hs rfl rfl ?_))
  dsimp only
  refine wpAny_bind (wpAny_bind (wpAny_askSetting (wpAny_pure ?_)))
  cases hf : w.params.followText "set-order" with
  | true =>
    refine wpAny_yes hf ?_
    refine wpAny_no rfl ?_
    unfold setWalk setsByText
    refine wpAny_bind (wpAny_bind (wpAny_setState_of hs rfl rfl ?_))
    dsimp only
    refine wpAny_bind (wpAny_bind (wpAny_askSetting (wpAny_pure ?_)))
    refine wpAny_yes hf ?_
    refine wpAny_bind (wpAny_askSetting ?_)
    refine wpAny_pure ?_
    have e : pickOrder ((model prog w).w.params.setOrder sa 1) #[((p : Int), v)] = #[((p : Int), v)] := by
      simp [pickOrder, pickOrder.go, Nat.mod_one]
    refine wpAny_pure ?_
    rw [show (pickOrder ({ program := (model prog w).prog, params := (model prog w).w.params : Setting }.params.setOrder sa 1) #[((p : Int), v)]) = #[((p : Int), v)] from e]
    exact go
  | false =>
    refine wpAny_no hf ?_
    refine wpAny_no rfl ?_
    refine wpAny_bind (show wpAny _ _ (if (!(!w.params.followText "set-order") && !false) = true then unsupported "set:maker-not-led" else pure ()) _ _ _ from wpAny_no (by rw [hf]; rfl) (wpAny_pure ?_))
    refine wpAny_pure ?_
    have ef : f = (p : Int) + 1 := hf0.resolve_left (by rw [hf]; exact Bool.false_ne_true)
    subst ef
    rw [show Int.toNat ((p : Int) + 1) = p + 1 from rfl, below1]
    exact go
theorem extend_set1 {S : Addr} {res : Value} {c : Nat} {R : Result → Shared → Prop} (hh : A.handled = none) (hs : s.heap.get? sa = some (set1 (ledOf w) p v)) (hi : s.heap.get? it = some (siObj sa 0 0)) (hS : s.heap.get? S = some (seqObj "list" #[] c))
    (n1 : S ≠ it) (n2 : S ≠ sa) (n3 : sa ≠ it)
    (h : ∀ h' c', h'.get? S = some (seqObj "list" #[v] c') → (∀ b o, b ≠ S → b ≠ it → s.heap.get? b = some o → h'.get? b = some o) → R (.ok (.ret res)) { s with heap := h' }) :
    codeAny (model prog w) A (.builtin "list.extend.loop" ⟨[.ref S, .ref it, res], []⟩) R s := by
  refine codeAny_builtin F.entry_extend_loop ?_
  rw [Around.under_plainId F.plain_extend_loop _]
  show wpAny _ A.in1 (pyNext (.ref it) >>= _) _ _ s
  refine wpAny_bind (next_set1 hs hi n3 fun f h1 hf hi1 sb => ?_)
  show wpAny _ A.in1 (updateSeq S (·.push v) >>= _) _ _ _
  have hS1 : h1.get? S = some (seqObj "list" #[] c) := (sb.2 S n1).trans hS
  refine wpAny_bind (wpAny_updateSeq (s := { s with heap := h1 }) hS1 rfl (wpAny_pure ⟨plainId_quiet F.plain_extend_loop _, codeAny_builtin F.entry_extend_loop ?_⟩) (Nat.zero_le _) (by show 1 ≤ _; rw [sizeLine_eq]; decide))
  rw [Around.under_plainId F.plain_extend_loop _]
  show wpAny _ A.in1 (pyNext (.ref it) >>= _) _ _ _
  have hS2 := get?_update_seq hS1 (·.push v)
  have hi2 : (h1.update S (Obj.mapSeq (·.push v))).get? it = some (siObj sa f 1) := (Heap.get?_update_other _ _ n1).trans hi1
  have hs2 : (h1.update S (Obj.mapSeq (·.push v))).get? sa = some (set1 (ledOf w) p v) := (Heap.get?_update_other _ _ n2).trans ((sb.2 sa n3).trans hs)
  refine wpAny_bind (next_set1_end (s := { s with heap := h1.update S (Obj.mapSeq (·.push v)) }) hh hs2 hi2 hf fun h3 xb => ?_)
  refine wpAny_pure (h h3 _ (xb S _ n1 hS2) fun b o b1 b2 e => xb b o b2 ((Heap.get?_update_other _ _ (Ne.symm b1)).trans ((sb.2 b b2).trans e)))
theorem collect_set1 {Q : List Value → Shared → Prop} (hh : A.handled = none) (hs : s.heap.get? sa = some (set1 (ledOf w) p v))
    (h : ∀ h', (∀ b o, s.heap.get? b = some o → h'.get? b = some o) → Q [v] { s with heap := h' }) : wpAny (model prog w) A (collect (.ref sa)) Q E s := by
  have hlt := Heap.lt_size hs
  unfold collect
  refine wpAny_bind (wpAny_runValue (codeAny_builtin F.entry_proto_collect ?_))
  rw [Around.under_plainId F.plain_proto_collect _]
  show wpAny _ A.in1 (newList [] >>= fun l => again (.builtin "list.__iadd__" ⟨[l, .ref sa], []⟩)) _ _ s
  refine wpAny_bind (wpAny_newObj_type ?_)
  refine wpAny_pure ⟨plainId_quiet F.plain_list_iadd _, codeAny_builtin F.entry_list_iadd ?_⟩
  rw [Around.under_plainId F.plain_list_iadd _]
  show wpAny _ A.in1 (Builtin.List.listExtendWith (.ref s.heap.objs.size) (.ref sa) (.ref s.heap.objs.size)) _ _ { s with heap := s.heap.push (seqObj "list" #[] 0) }
  have hl0 : (s.heap.push (seqObj "list" #[] 0)).get? s.heap.objs.size = some (seqObj "list" #[] 0) := Heap.get?_push_size _ rfl
  have hs0 : (s.heap.push (seqObj "list" #[] 0)).get? sa = some (set1 (ledOf w) p v) := Heap.get?_push_of_some _ hs
  have hT : Shared.TypeIs { s with heap := s.heap.push (seqObj "list" #[] 0) } (.ref sa) "set" := ⟨_, hs0, rfl⟩
  unfold Builtin.List.listExtendWith
  refine wpAny_bind (wpAny_typeOf hT ?_)
  have h1 : Builtin.List.listSameRef (.ref s.heap.objs.size) (.ref sa) = false := by simp [Builtin.List.listSameRef, Nat.ne_of_gt hlt]
  rw [if_neg (by rw [h1]; decide)]
  refine wpAny_bind (pyIter_set1 (s := { s with heap := s.heap.push (seqObj "list" #[] 0) }) hs0 ?_)
  have hs1 : ((s.heap.push (seqObj "list" #[] 0)).push (siObj sa 0 0)).get? sa = some (set1 (ledOf w) p v) := Heap.get?_push_of_some _ hs0
  have hT1 : Shared.TypeIs { s with heap := (s.heap.push (seqObj "list" #[] 0)).push (siObj sa 0 0) } (.ref sa) "set" := ⟨_, hs1, rfl⟩
  refine wpAny_bind (wpAny_holding ?_)
  unfold Builtin.List.listLengthHint
  refine wpAny_bind (wpAny_specialOf (name := Str.ofString "__len__") hT1 F.slot_set_len.lookup ?_)
  (generalize hid : ("set.__len__" : String) = id0; (fail_if_success (clear hid id0)); wp_delta; rw [show splitId id0 = some ("set", "__len__") from by subst hid; decide +kernel]; subst hid)
  refine wpAny_bind (wpAny_isInstance (b := true) hT1 (by rw [isSubtype_type]; kernel_rfl) ?_)
  refine wpAny_no rfl ?_
  dsimp only
  refine wpAny_yes (by decide +kernel) ?_
  refine wpAny_bind (wpAny_typeOf hT1 ?_)
  refine wpAny_pure ?_
  refine wpAny_yes (by decide +kernel) ?_
  refine wpAny_bind (wpAny_rule ?_)
  have hne : s.heap.objs.size ≠ (s.heap.push (seqObj "list" #[] 0)).objs.size := by rw [size_push']; (first | lia | omega)
  have hl1 : ((s.heap.push (seqObj "list" #[] 0)).push (siObj sa 0 0)).get? s.heap.objs.size = some (seqObj "list" #[] 0) := Heap.get?_push_of_some _ hl0
  unfold Builtin.List.listTouch
  refine wpAny_bind (wpAny_bind (listUpdate_at hl1 rfl ?_))
  have hl2 := get?_update_seq hl1 (·.push Value.none)
  refine listUpdate_at (s := { s with heap := _ }) hl2 rfl ?_
  have hl3 := get?_update_seq hl2 (·.pop)
  have hs3 : ((((s.heap.push (seqObj "list" #[] 0)).push (siObj sa 0 0)).update s.heap.objs.size (Obj.mapSeq (·.push Value.none))).update s.heap.objs.size (Obj.mapSeq (·.pop))).get? sa = some (set1 (ledOf w) p v) :=
    (Heap.get?_update_other _ _ (Nat.ne_of_gt hlt)).trans ((Heap.get?_update_other _ _ (Nat.ne_of_gt hlt)).trans hs1)
  have hi3 : ((((s.heap.push (seqObj "list" #[] 0)).push (siObj sa 0 0)).update s.heap.objs.size (Obj.mapSeq (·.push Value.none))).update s.heap.objs.size (Obj.mapSeq (·.pop))).get? (s.heap.push (seqObj "list" #[] 0)).objs.size = some (siObj sa 0 0) :=
    (Heap.get?_update_other _ _ hne).trans ((Heap.get?_update_other _ _ hne).trans (Heap.get?_push_size _ rfl))
  refine wpAny_pure ⟨plainId_quiet F.plain_extend_loop _, extend_set1 (s := { s with heap := _ }) hh hs3 hi3 hl3 hne (Nat.ne_of_gt hlt) (Nat.ne_of_lt (Nat.lt_trans hlt (by rw [size_push']; exact Nat.lt_succ_self _))) fun h' c' hS' hk => ?_⟩
  show wpAny _ A (load s.heap.objs.size >>= _) _ _ _
  refine wpAny_bind (wpAny_load hS' ?_)
  refine wpAny_pure (h h' fun b o e => ?_)
  have hb := Heap.lt_size e
  have nb : s.heap.objs.size ≠ b := Nat.ne_of_gt hb
  refine hk b o (Nat.ne_of_lt hb) (Nat.ne_of_lt (Nat.lt_trans hb (by rw [size_push']; exact Nat.lt_succ_self _))) ?_
  exact (Heap.get?_update_other _ _ nb).trans ((Heap.get?_update_other _ _ nb).trans (Heap.get?_push_of_some _ (Heap.get?_push_of_some _ e)))
end
section
variable {prog : Program} {w : World} {A : Around} {E : Value → Shared → Prop} {s : Shared} {sa : Addr} {p : Nat} {tk : Tok} {h₀ : Heap} {L : Addr} {m : Str → Option Value} {news : List (Addr × Obj)}
theorem sorted_set1 {Q : Value → Shared → Prop} (hh : A.handled = none) (F₀ : Fr h₀ L s.heap m) (N : News h₀ L s.heap news) {k : Int} (hm : (sa, set1 (ledOf w) p (.int k tk)) ∈ news)
    (h : ∀ D h' c tk', Fr h₀ L h' m → News h₀ L h' ((D, PySem.W.listOf #[.int k tk'] c) :: news) → (∀ q ∈ news, q.1 < D) → Q (.ref D) { s with heap := h' }) :
    wpAny (model prog w) A (call (.builtin "sorted") [.ref sa]) Q E s := by
  refine Calls.call_function_entry kind_sorted plain_sorted entry_sorted (args_sorted1 _) ?_
  unfold Builtin.«sorted»
  refine wpAny_bind (m := checkCount "sorted" 1 1 _) (wpAny_pure ?_)
  refine wpAny_bind (collect_set1 hh (N _ hm).1 fun h1 k1 => ?_)
  refine wpAny_bind (wpAny_newList ?_)
  have hoL : (h1.push (seqObj "list" [Value.int k tk].toArray 0)).get? h1.objs.size = some (seqObj "list" [Value.int k tk].toArray 0) := Heap.get?_push_size _ rfl
  refine wpAny_bind (wpAny_holding (wpAny_call_entry slot_list_sort ⟨_, hoL, rfl⟩ entry_list_sort (list_sort_tree (ns := [k]) hoL ?_ (by show 1 < 64; decide) fun out ns' a1 a2 a3 => ⟨_, rfl, ?_⟩) (args_list_sort _)))
  · exact .cons _ _ .nil
  · obtain ⟨tk', ho⟩ : ∃ tk', out.toList = [Value.int k tk'] := by
      have e := List.perm_singleton.mp a2
      subst e
      obtain ⟨t, vs', e1, e2⟩ := a1.cons_inv
      exact ⟨t, by rw [e1, e2.nil_inv]⟩
    have ho' : out = #[Value.int k tk'] := by rw [← Array.toArray_toList (xs := out), ho]
    subst ho'
    have old : ∀ b o, s.heap.get? b = some o → (sortedHeap (h1.push (seqObj "list" [Value.int k tk].toArray 0)) h1.objs.size [Value.int k tk] #[Value.int k tk']).get? b = some o := fun b o e => by
      have nb : h1.objs.size ≠ b := Nat.ne_of_gt (Heap.lt_size (k1 _ _ e))
      unfold sortedHeap
      exact (Heap.get?_update_other _ _ nb).trans (Heap.get?_push_of_some _ (Heap.get?_push_of_some _ ((Heap.get?_update_other _ _ nb).trans (Heap.get?_push_of_some _ (k1 _ _ e)))))
    obtain ⟨c, hc⟩ : ∃ c, (sortedHeap (h1.push (seqObj "list" [Value.int k tk].toArray 0)) h1.objs.size [Value.int k tk] #[Value.int k tk']).get? h1.objs.size = some (seqObj "list" #[Value.int k tk'] c) := by
      unfold sortedHeap
      exact ⟨_, get?_update_seq (Heap.get?_push_of_some _ (Heap.get?_push_of_some _ (get?_update_seq hoL (fun _ => #[])))) _⟩
    have hbig : ∀ b o, s.heap.get? b = some o → b < h1.objs.size := fun b o e => Heap.lt_size (k1 _ _ e)
    obtain ⟨oL, _, _, hL, _⟩ := id F₀.ns
    refine wpAny_pure ⟨_, rfl, h h1.objs.size _ c tk' (F₀.keeps old) (fun q hq => ?_) (fun q hq => hbig _ _ (N q hq).1)⟩
    rcases List.mem_cons.mp hq with rfl | hq
    · refine ⟨hc, Nat.ne_of_gt (hbig _ _ hL), ?_⟩
      cases hq0 : h₀.get? h1.objs.size with
      | none => rfl
      | some o => exact absurd (hbig _ _ (F₀.keep _ _ hq0)) (Nat.lt_irrefl _)
    · exact ⟨old _ _ (N q hq).1, (N q hq).2⟩
end
end Mine
end
-- FOR
section
open PySem PySem.W PyProof.Rows PySem.Calls PySem.Spec
set_option Elab.async false
set_option maxRecDepth 100000
set_option linter.all false
namespace Mine
section
variable {prog : Program} {w : World} {A : Around} {s : Shared} {env : Env}
/-- what the end of a turn brings -/
noncomputable def ForEnd (I : Nat → Shared → Prop) (n : Nat) (Q : Flow → Shared → Prop) (f : Flow) (s : Shared) : Prop :=
  match f with
  | .next => ∃ n', n' < n ∧ I n' s
  | .cont => ∃ n', n' < n ∧ I n' s
  | .brk => Q .next s
  | .ret v => Q (.ret v) s
noncomputable def ForNext (prog : Program) (w : World) (A : Around) (env : Env) (I : Nat → Shared → Prop) (n : Nat) (Q : Flow → Shared → Prop) (target : PySem.Expr) (body : List Stmt) (r : Option Value) (s : Shared) : Prop :=
  match r with
  | none => Q .next s
  | some v => wpAny (model prog w) A (assign target env v) (fun _ s₂ => wpAny (model prog w) A (execs body env) (ForEnd I n Q) (fun _ _ => False) s₂) (fun _ _ => False) s
theorem for_ind {target : PySem.Expr} {it : Value} {body : List Stmt} {Q : Flow → Shared → Prop} {R : Result → Shared → Prop} (hR : ∀ f s', Q f s' → R (.ok f) s') (I : Nat → Shared → Prop)
    (turn : ∀ n s, I n s → wpAny (model prog w) A (pyNext it) (ForNext prog w A env I n Q target body) (fun _ _ => False) s)
    (n : Nat) (h : I n s) (ht : ∀ v, letOwnedTupleGo target it v = pure () := by intro _; rfl) : codeAny (model prog w) A (.forLoop target it body [] env) R s := by
  refine codeAny_forLoop I (fun n s hI => ?_) n h ht
  refine wpAny_mono (turn n s hI) (fun r s₁ h₁ => ?_) (fun _ _ e => e.elim)
  cases r with
  | none => exact wpAny_execs_nil (hR _ _ h₁)
  | some v =>
    refine wpAny_mono h₁ (fun _ s₂ h₂ => wpAny_mono h₂ (fun f s₃ h₃ => ?_) fun _ _ e => e.elim) fun _ _ e => e.elim
    cases f with
    | next => exact h₃
    | cont => exact h₃
    | brk => exact hR _ _ h₃
    | ret v => exact hR _ _ h₃
theorem for_loop {target iter : PySem.Expr} {body : List Stmt} {pos : Pos} {Q : Flow → Shared → Prop}
    (h : wpAny (model prog w) A (eval iter env) (fun x s₁ => wpAny (model prog w) A (pyIter x) (fun it s₂ => ∃ (I : Nat → Shared → Prop) (n : Nat), I n s₂ ∧ (∀ v, letOwnedTupleGo target it v = pure ()) ∧
      ∀ n s, I n s → wpAny (model prog w) A (pyNext it) (ForNext prog w A env I n Q target body) (fun _ _ => False) s) (fun _ _ => False) s₁) (fun _ _ => False) s)
    (hs : ∀ x, foldedSetIterable iter env x = pure x := by intro _; rfl) :
    wpAny (model prog w) A (exec (.For target iter body [] pos) env) Q (fun _ _ => False) s := by
  refine wpAny_For (wpAny_mono h (fun x s₁ h₁ => wpAny_mono h₁ (fun it s₂ h₂ => ?_) fun _ _ e => e.elim) fun _ _ e => e.elim) hs
  obtain ⟨I, n, hI, ht, turn⟩ := h₂
  exact for_ind (fun f s' q => q) I turn n hI ht
end
noncomputable abbrev liObj (l : Addr) (i : Nat) : Obj := { cls := .type "list_iterator", data := .fields #[.ref l, .int i 0] }
noncomputable abbrev riObj (x left : Int) : Obj := { cls := .type "range_iterator", dict := none, data := .fields #[rawInt x, rawInt left, rawInt 1], slots := #[] }
section
variable {prog : Program} {w : World} {A : Around} {E : Value → Shared → Prop} {s : Shared} {h₀ : Heap} {L l it : Addr} {m : Str → Option Value} {news : List (Addr × Obj)} {g : Obj → List (Addr × Obj)}
noncomputable def LiO (o : Obj) (l : Addr) (i : Nat) : Prop := o.cls = .type "list_iterator" ∧ o.data = .fields #[.ref l, .int i 0]
theorem list_iter {vs : Array Value} {c : Nat} {Q : Value → Shared → Prop} (F : Fr h₀ L s.heap m) (N : News h₀ L s.heap news) (hm : (l, PySem.W.listOf vs c) ∈ news)
    (h : ∀ I h' io, Fr h₀ L h' m → News h₀ L h' ((I, io) :: news) → (∀ p ∈ news, p.1 < I) → LiO io l 0 → Q (.ref I) { s with heap := h' }) : wpAny (model prog w) A (pyIter (.ref l)) Q E s :=
  wpAny_pyIter_list (items := vs) ⟨_, (N _ hm).1, rfl, c, rfl⟩ (h _ _ _ (F.push _) (N.push F _) (fun p hp => Heap.lt_size (N p hp).1) ⟨rfl, rfl⟩)
theorem list_iterb {vs : Array Value} {c : Nat} {Q : Value → Shared → Prop} (F : Fr h₀ L s.heap m) (N : News h₀ L s.heap news) (hm : (l, PySem.W.listOf vs c) ∈ news)
    (h : ∀ I h' io, Fr h₀ L h' m → News h₀ L h' ((I, io) :: news) → (∀ p ∈ news, p.1 < I) → LiO io l 0 → Q (.ref I) { s with heap := h' }) : wpAny (model prog w) A (call (.builtin "iter") [.ref l]) Q E s := by
  refine call_function_entry (by decide +kernel) (by decide +kernel) kdk_entry_iter (kdk_args_iter _) ?_
  unfold Builtin.«iter»
  refine wpAny_bind (m := someArgs "iter" 1 2 _) (wpAny_of_eq (a := [Value.ref l]) (by first | rfl | kernel_rfl!) ?_)
  show wpAny _ _ (pyIter (.ref l) >>= _) _ _ _
  exact wpAny_bind (list_iter F N hm fun I h' io F' N' l1 ho => wpAny_pure ⟨_, rfl, h I h' io F' N' l1 ho⟩)
variable {io : Obj}
theorem list_next {vs : Array Value} {c i : Nat} {x : Value} {Q : Option Value → Shared → Prop} (F : Fr h₀ L s.heap m) (N : News h₀ L s.heap news) (U : UpdF it io news g) (ho : LiO io l i) (hm : (l, PySem.W.listOf vs c) ∈ news) (hx : vs[i]? = some x)
    (h : ∀ h' io', Fr h₀ L h' m → News h₀ L h' (g io') → LiO io' l (i + 1) → Q (some x) { s with heap := h' }) : wpAny (model prog w) A (pyNext (.ref it)) Q E s := by
  have hl := (N _ hm).1
  obtain ⟨own, rest, rfl, hg, h1, h2⟩ := U.split
  have hi := N _ (List.mem_append_right _ (.head _))
  refine wpAny_pyNext_list_item (l := l) (items := vs) ⟨_, hi.1, ho.1, ho.2⟩ ⟨_, hl, rfl, c, rfl⟩ hx fun h' ⟨io', e1, e2, e3⟩ sb => ?_
  exact h h' io' (F.change sb hi.2.1 hi.2.2) (hg io' ▸ N.setAt h1 h2 sb e1) ⟨e2, e3⟩
theorem fr_ext {h h' : Heap} (F : Fr h₀ L h m) (k : ∀ b o, b ≠ it → h.get? b = some o → h'.get? b = some o) (hL : it ≠ L) (hn : h₀.get? it = none) : Fr h₀ L h' m := by
  obtain ⟨oL, a1, a2, hoL, a3⟩ := F.ns
  refine ⟨⟨oL, a1, a2, k _ _ (Ne.symm hL) hoL, a3⟩, fun b x e => k _ _ ?_ (F.keep b x e), F.above⟩
  rintro rfl
  rw [hn] at e
  cases e
theorem news_sub {h : Heap} {news news' : List (Addr × Obj)} (N : News h₀ L h news) (hs : ∀ p ∈ news', p ∈ news) : News h₀ L h news' := fun p hp => N p (hs p hp)
theorem news_ext {h h' : Heap} (N : News h₀ L h news) (k : ∀ b o, b ≠ it → h.get? b = some o → h'.get? b = some o) (ha : ∀ p ∈ news, p.1 ≠ it) : News h₀ L h' news := fun p hp => ⟨k _ _ (ha p hp) (N p hp).1, (N p hp).2⟩
theorem list_done {vs : Array Value} {c i : Nat} {Q : Option Value → Shared → Prop} (hh : A.handled = none) (F : Fr h₀ L s.heap m) (N : News h₀ L s.heap ((it, io) :: news)) (ha : ∀ p ∈ news, p.1 ≠ it) (ho : LiO io l i) (hm : (l, PySem.W.listOf vs c) ∈ news) (hx : vs[i]? = none)
    (h : ∀ h', Fr h₀ L h' m → News h₀ L h' news → Q none { s with heap := h' }) : wpAny (model prog w) A (pyNext (.ref it)) Q E s := by
  have hi := N _ (.head _)
  have hl := (N _ (.tail _ hm)).1
  refine wpAny_pyNext_list_end (l := l) (items := vs) hh ⟨_, hi.1, ho.1, ho.2⟩ ⟨_, hl, rfl, c, rfl⟩ hx fun h' xb => ?_
  exact h h' (fr_ext F (fun b o hb e => xb b o hb e) hi.2.1 hi.2.2) (news_ext (fun p hp => N p (.tail _ hp)) (fun b o hb e => xb b o hb e) ha)
theorem list_nextb {vs : Array Value} {c i : Nat} {x : Value} {Q : Value → Shared → Prop} (F : Fr h₀ L s.heap m) (N : News h₀ L s.heap news) (U : UpdF it io news g) (ho : LiO io l i) (hm : (l, PySem.W.listOf vs c) ∈ news) (hx : vs[i]? = some x)
    (h : ∀ h' io', Fr h₀ L h' m → News h₀ L h' (g io') → LiO io' l (i + 1) → Q x { s with heap := h' }) : wpAny (model prog w) A (call (.builtin "next") [.ref it]) Q E s := by
  have hl := (N _ hm).1
  obtain ⟨own, rest, rfl, hg, h1, h2⟩ := U.split
  have hi := N _ (List.mem_append_right _ (.head _))
  have hT : s.TypeIs (.ref it) "list_iterator" := ⟨_, hi.1, ho.1⟩
  refine call_function_entry (by decide +kernel) (by decide +kernel) kdk_entry_next (kdk_args_next _) ?_
  unfold Builtin.«next»
  refine wpAny_bind (m := someArgs "next" 1 2 _) (wpAny_of_eq (a := [Value.ref it]) (by first | rfl | kernel_rfl!) ?_)
  dsimp only
  refine wpAny_bind (wpAny_specialOf (name := Str.ofString "__next__") hT slot_listiter_next.lookup ?_)
  refine wpAny_no rfl ?_
  refine wpAny_bind (wpAny_callSpecial?_slot (name := Str.ofString "__next__") hT slot_listiter_next
    (wpAny_call_entry slot_listiter_next hT entry_listiter_next ?_ (args_listiter_next _)))
  have hd := ho.2
  have hi1 : s.heap.get? it = some io := hi.1
  show wpAny _ _ (field (.ref it) 0 >>= _) _ _ s
  refine wpAny_bind (wpAny_field hi1 hd (x := .ref l) rfl ?_)
  show wpAny _ _ (if (Value.ref l == Value.none) = true then _ else _) _ _ s
  rw [if_neg (show ¬ ((Value.ref l == Value.none) = true) from Bool.false_ne_true)]
  show wpAny _ _ (field (.ref it) 1 >>= _) _ _ s
  refine wpAny_bind (wpAny_field hi1 hd (x := .int i 0) rfl ?_)
  show wpAny _ _ (seqItems? (.ref l) >>= _) _ _ s
  refine wpAny_bind (wpAny_seqItems hl rfl ?_)
  simp only [Int.toNat_natCast, hx]
  have e1 : (s.heap.update it (Obj.mapFields (·.setIfInBounds 1 (rawInt ((i : Int) + 1))))).get? it = some (Obj.mapFields (·.setIfInBounds 1 (rawInt ((i : Int) + 1))) io) :=
    Heap.get?_update_self _ hi1 (Obj.isFreed_of_fields (Obj.data_mapFields hd _))
  have sb := Heap.SameBut.update s.heap it (Obj.mapFields (·.setIfInBounds 1 (rawInt ((i : Int) + 1))))
  refine wpAny_bind (wpAny_setField hi1 hd (Nat.succ_lt_succ (Nat.zero_lt_succ _)) (wpAny_pure ⟨x, rfl, wpAny_pure ⟨_, rfl, h _ _ (F.change sb hi.2.1 hi.2.2) (hg _ ▸ N.setAt h1 h2 sb e1) ⟨(Obj.cls_mapFields ..).trans ho.1, ?_⟩⟩⟩))
  rw [Obj.data_mapFields hd]
  simp [rawInt]
theorem list_nextb1 {c : Nat} {x : Value} {Q : Value → Shared → Prop} (F : Fr h₀ L s.heap m) (N : News h₀ L s.heap news) (U : UpdF it io news g) (ho : LiO io l 0) (hm : (l, PySem.W.listOf #[x] c) ∈ news)
    (h : ∀ h' io', Fr h₀ L h' m → News h₀ L h' (g io') → LiO io' l 1 → Q x { s with heap := h' }) : wpAny (model prog w) A (call (.builtin "next") [.ref it]) Q E s := list_nextb F N U ho hm rfl h
/-- the iterator of a range -/
theorem range_next {x left : Int} {Q : Option Value → Shared → Prop} (F : Fr h₀ L s.heap m) (N : News h₀ L s.heap news) (U : UpdF it (riObj x left) news g) (hl : 0 < left)
    (h : ∀ h', Fr h₀ L h' m → News h₀ L h' (g (riObj (x + 1) (left - 1))) → Q (some (.int x s.toks)) { s with heap := h', toks := s.toks + 1 }) : wpAny (model prog w) A (pyNext (.ref it)) Q E s := by
  obtain ⟨own, rest, rfl, hg, h1, h2⟩ := U.split
  have hi := N _ (List.mem_append_right _ (.head _))
  exact wpAny_pyNext_range_item hi.1 hl fun h' e1 sb => h h' (F.change sb hi.2.1 hi.2.2) (hg _ ▸ N.setAt h1 h2 sb e1)
theorem range_done {x left : Int} {Q : Option Value → Shared → Prop} (hh : A.handled = none) (F : Fr h₀ L s.heap m) (N : News h₀ L s.heap ((it, riObj x left) :: news)) (ha : ∀ p ∈ news, p.1 ≠ it) (hl : left ≤ 0)
    (h : ∀ h', Fr h₀ L h' m → News h₀ L h' news → Q none { s with heap := h' }) : wpAny (model prog w) A (pyNext (.ref it)) Q E s := by
  have hi := N _ (.head _)
  exact wpAny_pyNext_range_end hh hi.1 hl fun h' xb => h h' (fr_ext F (fun b o hb e => xb b o hb e) hi.2.1 hi.2.2) (news_ext (fun p hp => N p (.tail _ hp)) (fun b o hb e => xb b o hb e) ha)
end
end Mine
end
-- IFS
section
open PySem PySem.W PyProof.Rows PySem.Calls
set_option Elab.async false
set_option maxRecDepth 100000
set_option linter.all false
namespace Mine
/-- a frame's names, some of them written -/
noncomputable def ifs : List (Str × Value) → (Str → Option Value) → Str → Option Value
  | [], m => m
  | (x, v) :: l, m => fun y => if y = x then some v else ifs l m y
theorem ifs_eq {m : Str → Option Value} : ∀ l : List (Str × Value), (∀ p ∈ l, m p.1 = some p.2) → ifs l m = m
  | [], _ => rfl
  | (x, v) :: l, h => by
    funext y
    show (if y = x then some v else ifs l m y) = m y
    rw [ifs_eq l fun p hp => h p (.tail _ hp)]
    split
    · rename_i e; rw [e]; exact (h (x, v) (.head _)).symm
    · rfl
theorem fr_ifs {h₀ h : Heap} {L : Addr} {m : Str → Option Value} (l : List (Str × Value)) (F : Fr h₀ L h m) (hl : ∀ p ∈ l, m p.1 = some p.2) : Fr h₀ L h (ifs l m) := by
  rw [ifs_eq l hl]; exact F
theorem range_iter {w : World} {L : Addr} {r : Addr} {a b n : Int} {t u v : Tok} {h₀ : Heap} {m : Str → Option Value} {news : List (Addr × Obj)} {prog : Program} {A : Around} {E : Value → Shared → Prop} {s : Shared} {Q : Value → Shared → Prop}
    (hr : IsRange s.heap r a b 1 t u v) (F : Fr h₀ L s.heap m) (N : News h₀ L s.heap news) (hs : Builtin.Range.small a b 1 = true) (hn : Builtin.Range.rangeSize a b 1 = n)
    (h : ∀ I h', Fr h₀ L h' m → News h₀ L h' ((I, riObj a n) :: news) → (∀ p ∈ news, p.1 < I) → Q (.ref I) { s with heap := h' }) : wpAny (model prog w) A (pyIter (.ref r)) Q E s := by
  refine wpAny_pyIter_range hr hs ?_
  rw [hn]
  exact h _ _ (F.push _) (N.push F _) fun p hp => Heap.lt_size (N p hp).1
end Mine
end
-- LDP
section
open PySem PySem.W PyProof.Rows PySem.Calls
set_option Elab.async false
set_option maxRecDepth 100000
set_option linter.all false
set_option maxHeartbeats 0
namespace Mine
noncomputable def stepsS (l : List Stmt) (i : Nat) : List Stmt := l.drop i
section
variable {w : World} {mean : ExcName → Option Value} {mg mb : Str → Option Value} {t u v : Tok} {dp un : Nat} {gd : Option (List Code)} {outer : List Env} {A₀ : Around} {base g : Heap} {L : Addr} {s : Shared}
/-- what a sign costs at place j of the longer text -/
noncomputable def dpc (j : Int) : Int := if j = 1 then 0 else 2
/-- in the table's loop, k turns left -/
noncomputable def DpI (s₀ : Shared) (g : Heap) (L R It : Addr) (xs bs : Str) (k : Nat) (s' : Shared) : Prop :=
  ∃ (h : Heap) (tk : Nat) (m : Str → Option Value) (q : Int) (t1 t2 t3 t4 t5 : Tok) (c : Nat), s' = { s₀ with heap := h, toks := tk } ∧ k ≤ 3 ∧ Fr g L h m ∧ m (Str.ofString "a") = some (.str xs t1) ∧ m (Str.ofString "b") = some (.str bs t2) ∧ m (Str.ofString "row") = some (.ref R) ∧ m (Str.ofString "max_cost") = some (.int 99 t3) ∧
    m (Str.ofString "result") = some (.int q t4) ∧ (k = 0 → q = 4) ∧ News g L h [(It, riObj ((3 - k : Nat) : Int) (k : Int)), (R, PySem.W.listOf #[.int (if k = 0 then 4 else 2) t5] c)]
/-- the dearer way at the turn j -/
noncomputable def dpi (j : Int) : Int := if j = 0 then 2 else 4
/-- what the table holds behind the turn j -/
noncomputable def dpr (j : Int) : Int := if j = 2 then 4 else 2
/-- behind the inner turn -/
noncomputable def DpJ (s₀ : Shared) (g : Heap) (L R It Jt : Addr) (xs bs : Str) (j : Int) (k : Nat) (s' : Shared) : Prop :=
  ∃ (h : Heap) (tk : Nat) (m : Str → Option Value) (e : Int) (t1 t2 t3 t4 t5 t6 : Tok) (c : Nat), s' = { s₀ with heap := h, toks := tk } ∧ Fr g L h m ∧ m (Str.ofString "a") = some (.str xs t1) ∧ m (Str.ofString "b") = some (.str bs t2) ∧ m (Str.ofString "row") = some (.ref R) ∧ m (Str.ofString "max_cost") = some (.int 99 t3) ∧
    m (Str.ofString "result") = some (.int (dpr j) t4) ∧ m (Str.ofString "minimum") = some (.int e t6) ∧ e ≤ 4 ∧ News g L h [(Jt, riObj 1 0), (It, riObj (j + 1) (k : Int)), (R, PySem.W.listOf #[.int (dpr j) t5] c)]
theorem st_eq {prog : Program} {w : World} {A : Around} {env : Env} {n : Str} {e : Int} {tk : Tok} {Q : Unit → Shared → Prop} {E : Value → Shared → Prop} {s : Shared} (e' : Int) (h : e = e')
    (k : ∀ tk', wpAny (model prog w) A (storeName env n (.int e' tk')) Q E s) : wpAny (model prog w) A (storeName env n (.int e tk)) Q E s := h ▸ k tk
theorem lev_dp {xs bs : Str} (hx : xs.length = 1) (hb : bs.length = 3) (hA : AI (Txt.item xs 0)) (hB : ∀ j : Int, 0 ≤ j → j < 3 → AI (Txt.item bs j) ∧ subC (Txt.item bs j) (Txt.item xs 0) = dpc j)
    (B : Below A₀ base outer g) (X : (K w.params).In g) (T : Top topProg lw mean mg mb g) (hd : dp + 5 < recursionLimit) (hu : un + 40 < cLine) {k0 k1 : Int} {tk0 tk1 : Tok}
    (F : Fr g L s.heap (lk [(Str.ofString "max_cost", .int 99 v), (Str.ofString "b", .str xs u), (Str.ofString "a", .str bs t), (Str.ofString "pre", .int k0 tk0), (Str.ofString "post", .int k1 tk1)])) (N : News g L s.heap []) :
    wpAny (model PW w) (levA dp un gd L outer) (execs (stepsS (fdBody (stm 24)) 9) (levE L)) (Out s g L fun r news' => (∃ tk, r = .int 4 tk)) (fun _ _ => False) s := by
  (repeat' (first | (exfalso; (fail_if_success (fail_if_success omega)); (first | lia | omega)) | ((fail_if_success (first | with_reducible show wpAny _ _ (pyIter _) _ _ _ | with_reducible show wpAny _ _ (exec (Stmt.For _ _ _ _ _) _) _ _ _ | with_reducible show wpAny _ _ (call (Value.type "list") _) _ _ _ | with_reducible show wpAny _ _ (storeName _ (Str.ofString "insert_delete") (Value.int (HAdd.hAdd _ _) _)) _ _ _ | with_reducible show wpAny _ _ (storeName _ (Str.ofString "result") (Value.int (ite _ _ _) _)) _ _ _ | with_reducible show wpAny _ _ (storeName _ (Str.ofString "distance") (Value.int (List.getD _ _ _) _)) _ _ _ | with_reducible show wpAny _ _ (call (Value.type "range") [Value.int (Str.length _ : Int) _]) _ _ _ | with_reducible show wpAny _ _ (call (Value.ref _) _) _ _ _)); first | (walk1; try dsimp only) | leave1)))
  rename IsRange _ _ _ _ _ _ _ _ => R1
  rename News _ _ _ _ => N1
  rename Fr _ _ _ _ => F1
  rw [lk_put2] at F1
  replace N1 := news_tail N1
  rw [hx] at R1
  refine call_list_range (n := 1) rfl R1 (by decide) (by decide) (by decide) ?_
  rintro h2 tk2 acc c k2 hS ⟨hit, hit2⟩
  have F2 := F1.keeps k2
  have N2 := news_cons F1 (news_keep N1 k2) rfl hS
  obtain ⟨x, rfl⟩ := arr_one hit
  obtain ⟨t2, hx2⟩ := hit2 0 x rfl
  obtain rfl : x = .int 2 t2 := hx2
  clear N1 F1 R1 k2 hit hit2 hS
  generalize hR : Array.size (Heap.objs _) = R at *
  (repeat' (first | (exfalso; (fail_if_success (fail_if_success omega)); (first | lia | omega)) | ((fail_if_success (first | with_reducible show wpAny _ _ (pyIter _) _ _ _ | with_reducible show wpAny _ _ (exec (Stmt.For _ _ _ _ _) _) _ _ _ | with_reducible show wpAny _ _ (call (Value.type "list") _) _ _ _ | with_reducible show wpAny _ _ (storeName _ (Str.ofString "insert_delete") (Value.int (HAdd.hAdd _ _) _)) _ _ _ | with_reducible show wpAny _ _ (storeName _ (Str.ofString "result") (Value.int (ite _ _ _) _)) _ _ _ | with_reducible show wpAny _ _ (storeName _ (Str.ofString "distance") (Value.int (List.getD _ _ _) _)) _ _ _ | with_reducible show wpAny _ _ (call (Value.type "range") [Value.int (Str.length _ : Int) _]) _ _ _ | with_reducible show wpAny _ _ (call (Value.ref _) _) _ _ _)); first | (walk1; try dsimp only) | leave1)))
  refine for_loop ?_
  (repeat' (first | (exfalso; (fail_if_success (fail_if_success omega)); (first | lia | omega)) | ((fail_if_success (first | with_reducible show wpAny _ _ (pyIter _) _ _ _ | with_reducible show wpAny _ _ (exec (Stmt.For _ _ _ _ _) _) _ _ _ | with_reducible show wpAny _ _ (call (Value.type "list") _) _ _ _ | with_reducible show wpAny _ _ (storeName _ (Str.ofString "insert_delete") (Value.int (HAdd.hAdd _ _) _)) _ _ _ | with_reducible show wpAny _ _ (storeName _ (Str.ofString "result") (Value.int (ite _ _ _) _)) _ _ _ | with_reducible show wpAny _ _ (storeName _ (Str.ofString "distance") (Value.int (List.getD _ _ _) _)) _ _ _ | with_reducible show wpAny _ _ (call (Value.type "range") [Value.int (Str.length _ : Int) _]) _ _ _ | with_reducible show wpAny _ _ (call (Value.ref _) _) _ _ _)); first | (walk1; try dsimp only) | leave1)))
  rw [hb]
  (repeat' (first | (exfalso; (fail_if_success (fail_if_success omega)); (first | lia | omega)) | ((fail_if_success (first | with_reducible show wpAny _ _ (pyIter _) _ _ _ | with_reducible show wpAny _ _ (exec (Stmt.For _ _ _ _ _) _) _ _ _ | with_reducible show wpAny _ _ (call (Value.type "list") _) _ _ _ | with_reducible show wpAny _ _ (storeName _ (Str.ofString "insert_delete") (Value.int (HAdd.hAdd _ _) _)) _ _ _ | with_reducible show wpAny _ _ (storeName _ (Str.ofString "result") (Value.int (ite _ _ _) _)) _ _ _ | with_reducible show wpAny _ _ (storeName _ (Str.ofString "distance") (Value.int (List.getD _ _ _) _)) _ _ _ | with_reducible show wpAny _ _ (call (Value.type "range") [Value.int (Str.length _ : Int) _]) _ _ _ | with_reducible show wpAny _ _ (call (Value.ref _) _) _ _ _)); first | (walk1; try dsimp only) | leave1)))
  rename Fr _ _ _ _ => F3
  rename News _ _ _ _ => N3
  rename IsRange _ _ _ _ _ _ _ _ => R3
  refine range_iter (n := 3) R3 F3 N3 (by decide) (by decide) ?_
  intro It h4 F4 N4 l4
  have lR : R ≠ It := Nat.ne_of_lt (l4 _ (.head _))
  refine ⟨DpI s g L R It xs bs, 3, ⟨h4, _, _, 0, _, _, _, _, _, c, rfl, Nat.le_refl _, F4, rfl, rfl, rfl, rfl, rfl, (fun e => by cases e), N4⟩, fun v => rfl, ?_⟩
  clear F3 N3 F4 N4 R3 l4
  rintro k _ ⟨h, tk, m, q, t1, t2, t3, t4, t5, c, rfl, hk, F, m1, m2, m3, m4, m5, hq, N⟩
  have F1 := fr_ifs [(Str.ofString "a", .str xs t1), (Str.ofString "b", .str bs t2), (Str.ofString "row", .ref R), (Str.ofString "max_cost", .int 99 t3), (Str.ofString "result", .int q t4)] F (by
    intro p hp
    simp only [List.mem_cons, List.not_mem_nil, or_false] at hp
    rcases hp with rfl | rfl | rfl | rfl | rfl
    · exact m1
    · exact m2
    · exact m3
    · exact m4
    · exact m5)
  dsimp only [ifs] at F1
  clear F m1 m2 m3 m4 m5
  have hrest : ∀ p ∈ [(R, PySem.W.listOf #[.int (if k = 0 then 4 else 2) t5] c)], p.1 ≠ It := fun p hp => by
    rw [List.mem_singleton.mp hp]
    exact lR
  cases k with
  | zero =>
    refine range_done rfl F1 N hrest (by decide) ?_
    intro h5 F5 N5
    clear F1 N
    obtain rfl := hq rfl
    dsimp only [ForNext]
    (repeat' (first | (exfalso; (fail_if_success (fail_if_success omega)); (first | lia | omega)) | ((fail_if_success (first | with_reducible show wpAny _ _ (pyIter _) _ _ _ | with_reducible show wpAny _ _ (exec (Stmt.For _ _ _ _ _) _) _ _ _ | with_reducible show wpAny _ _ (call (Value.type "list") _) _ _ _ | with_reducible show wpAny _ _ (storeName _ (Str.ofString "insert_delete") (Value.int (HAdd.hAdd _ _) _)) _ _ _ | with_reducible show wpAny _ _ (storeName _ (Str.ofString "result") (Value.int (ite _ _ _) _)) _ _ _ | with_reducible show wpAny _ _ (storeName _ (Str.ofString "distance") (Value.int (List.getD _ _ _) _)) _ _ _ | with_reducible show wpAny _ _ (call (Value.type "range") [Value.int (Str.length _ : Int) _]) _ _ _ | with_reducible show wpAny _ _ (call (Value.ref _) _) _ _ _)); first | (walk1; try dsimp only) | leave1)))
    exact ⟨_, _, _, _, rfl, by assumption, by assumption, ⟨_, rfl⟩⟩
  | succ k =>
    refine range_next F1 N (.head hrest) (by omega) ?_
    intro h5 F5 N5
    dsimp only [ForNext]
    clear F1 N hq
    rw [if_neg (Nat.succ_ne_zero k)] at N5
    obtain ⟨j, hj, hj0, hj3⟩ : ∃ j : Int, ((3 - (k + 1) : Nat) : Int) = j ∧ 0 ≤ j ∧ j < 3 := ⟨_, rfl, by omega, by omega⟩
    obtain ⟨hB1, hB2⟩ := hB j hj0 hj3
    have hj4 : j = 0 ∨ j = 1 ∨ j = 2 := by lia
    rw [hj] at N5 ⊢
    (repeat' (first | (exfalso; (fail_if_success (fail_if_success omega)); (first | lia | omega)) | ((fail_if_success (first | with_reducible show wpAny _ _ (pyIter _) _ _ _ | with_reducible show wpAny _ _ (exec (Stmt.For _ _ _ _ _) _) _ _ _ | with_reducible show wpAny _ _ (call (Value.type "list") _) _ _ _ | with_reducible show wpAny _ _ (storeName _ (Str.ofString "insert_delete") (Value.int (HAdd.hAdd _ _) _)) _ _ _ | with_reducible show wpAny _ _ (storeName _ (Str.ofString "result") (Value.int (ite _ _ _) _)) _ _ _ | with_reducible show wpAny _ _ (storeName _ (Str.ofString "distance") (Value.int (List.getD _ _ _) _)) _ _ _ | with_reducible show wpAny _ _ (call (Value.type "range") [Value.int (Str.length _ : Int) _]) _ _ _ | with_reducible show wpAny _ _ (call (Value.ref _) _) _ _ _)); first | (walk1; try dsimp only) | leave1)))
    refine for_loop ?_
    (repeat' (first | (exfalso; (fail_if_success (fail_if_success omega)); (first | lia | omega)) | ((fail_if_success (first | with_reducible show wpAny _ _ (pyIter _) _ _ _ | with_reducible show wpAny _ _ (exec (Stmt.For _ _ _ _ _) _) _ _ _ | with_reducible show wpAny _ _ (call (Value.type "list") _) _ _ _ | with_reducible show wpAny _ _ (storeName _ (Str.ofString "insert_delete") (Value.int (HAdd.hAdd _ _) _)) _ _ _ | with_reducible show wpAny _ _ (storeName _ (Str.ofString "result") (Value.int (ite _ _ _) _)) _ _ _ | with_reducible show wpAny _ _ (storeName _ (Str.ofString "distance") (Value.int (List.getD _ _ _) _)) _ _ _ | with_reducible show wpAny _ _ (call (Value.type "range") [Value.int (Str.length _ : Int) _]) _ _ _ | with_reducible show wpAny _ _ (call (Value.ref _) _) _ _ _)); first | (walk1; try dsimp only) | leave1)))
    rw [hx]
    (repeat' (first | (exfalso; (fail_if_success (fail_if_success omega)); (first | lia | omega)) | ((fail_if_success (first | with_reducible show wpAny _ _ (pyIter _) _ _ _ | with_reducible show wpAny _ _ (exec (Stmt.For _ _ _ _ _) _) _ _ _ | with_reducible show wpAny _ _ (call (Value.type "list") _) _ _ _ | with_reducible show wpAny _ _ (storeName _ (Str.ofString "insert_delete") (Value.int (HAdd.hAdd _ _) _)) _ _ _ | with_reducible show wpAny _ _ (storeName _ (Str.ofString "result") (Value.int (ite _ _ _) _)) _ _ _ | with_reducible show wpAny _ _ (storeName _ (Str.ofString "distance") (Value.int (List.getD _ _ _) _)) _ _ _ | with_reducible show wpAny _ _ (call (Value.type "range") [Value.int (Str.length _ : Int) _]) _ _ _ | with_reducible show wpAny _ _ (call (Value.ref _) _) _ _ _)); first | (walk1; try dsimp only) | leave1)))
    rename Fr _ _ _ _ => F3
    rename News _ _ _ _ => N3
    rename IsRange _ _ _ _ _ _ _ _ => R3
    refine range_iter (n := 1) R3 F3 N3 (by decide) (by decide) ?_
    intro Jt h4 F4 N4 l4
    clear R3 F3 N3
    have hJ : ∀ p ∈ [(It, riObj (j + 1) (((k + 1 : Nat) : Int) - 1)), (R, PySem.W.listOf #[.int 2 t5] c)], p.1 ≠ Jt := fun p hp => Nat.ne_of_lt (l4 p hp)
    have lJI : It ≠ Jt := hJ _ (.head _)
    have lJR : R ≠ Jt := hJ _ (.tail _ (.head _))
    have hdr : 2 ≤ dpr j ∧ dpr j ≤ 4 := by unfold dpr; split <;> decide
    refine ⟨fun n s' => (n = 1 ∧ s' = _) ∨ (n = 0 ∧ DpJ s g L R It Jt xs bs j k s'), 1, .inl ⟨rfl, rfl⟩, fun v => rfl, ?_⟩
    rintro n _ (⟨rfl, rfl⟩ | ⟨rfl, h, tk, m, e, t1, t2, t3, t4, t5, t6, c, rfl, F, m1, m2, m3, m4, m5, m6, he, N⟩)
    · refine range_next F4 N4 (.head hJ) (by decide) ?_
      intro h5 F5 N5
      clear F4 N4
      dsimp only [ForNext]
      (repeat' (first | (exfalso; (fail_if_success (fail_if_success omega)); (first | lia | omega)) | ((fail_if_success (first | with_reducible show wpAny _ _ (pyIter _) _ _ _ | with_reducible show wpAny _ _ (exec (Stmt.For _ _ _ _ _) _) _ _ _ | with_reducible show wpAny _ _ (call (Value.type "list") _) _ _ _ | with_reducible show wpAny _ _ (storeName _ (Str.ofString "insert_delete") (Value.int (HAdd.hAdd _ _) _)) _ _ _ | with_reducible show wpAny _ _ (storeName _ (Str.ofString "result") (Value.int (ite _ _ _) _)) _ _ _ | with_reducible show wpAny _ _ (storeName _ (Str.ofString "distance") (Value.int (List.getD _ _ _) _)) _ _ _ | with_reducible show wpAny _ _ (call (Value.type "range") [Value.int (Str.length _ : Int) _]) _ _ _ | with_reducible show wpAny _ _ (call (Value.ref _) _) _ _ _)); first | (walk1; try dsimp only) | leave1)))
      rename Fr _ _ _ _ => F6
      rename News _ _ _ _ => N6
      refine ctrV_int (sub_cost (dpc j) hB1 hA hB2) B F6 X N6 T rfl (by omega) (by omega) ?_
      intro t6 h7 t7 F7 N7 _
      clear F6 N6
      dsimp only
      (repeat' (first | (exfalso; (fail_if_success (fail_if_success omega)); (first | lia | omega)) | ((fail_if_success (first | with_reducible show wpAny _ _ (pyIter _) _ _ _ | with_reducible show wpAny _ _ (exec (Stmt.For _ _ _ _ _) _) _ _ _ | with_reducible show wpAny _ _ (call (Value.type "list") _) _ _ _ | with_reducible show wpAny _ _ (storeName _ (Str.ofString "insert_delete") (Value.int (HAdd.hAdd _ _) _)) _ _ _ | with_reducible show wpAny _ _ (storeName _ (Str.ofString "result") (Value.int (ite _ _ _) _)) _ _ _ | with_reducible show wpAny _ _ (storeName _ (Str.ofString "distance") (Value.int (List.getD _ _ _) _)) _ _ _ | with_reducible show wpAny _ _ (call (Value.type "range") [Value.int (Str.length _ : Int) _]) _ _ _ | with_reducible show wpAny _ _ (call (Value.ref _) _) _ _ _)); first | (walk1; try dsimp only) | leave1)))
      refine st_eq 2 rfl fun tk1 => ?_
      (repeat' (first | (exfalso; (fail_if_success (fail_if_success omega)); (first | lia | omega)) | ((fail_if_success (first | with_reducible show wpAny _ _ (pyIter _) _ _ _ | with_reducible show wpAny _ _ (exec (Stmt.For _ _ _ _ _) _) _ _ _ | with_reducible show wpAny _ _ (call (Value.type "list") _) _ _ _ | with_reducible show wpAny _ _ (storeName _ (Str.ofString "insert_delete") (Value.int (HAdd.hAdd _ _) _)) _ _ _ | with_reducible show wpAny _ _ (storeName _ (Str.ofString "result") (Value.int (ite _ _ _) _)) _ _ _ | with_reducible show wpAny _ _ (storeName _ (Str.ofString "distance") (Value.int (List.getD _ _ _) _)) _ _ _ | with_reducible show wpAny _ _ (call (Value.type "range") [Value.int (Str.length _ : Int) _]) _ _ _ | with_reducible show wpAny _ _ (call (Value.ref _) _) _ _ _)); first | (walk1; try dsimp only) | leave1)))
      refine st_eq (dpi j) (by rcases hj4 with rfl | rfl | rfl <;> rfl) fun tk2 => ?_
      (repeat' (first | (exfalso; (fail_if_success (fail_if_success omega)); (first | lia | omega)) | ((fail_if_success (first | with_reducible show wpAny _ _ (pyIter _) _ _ _ | with_reducible show wpAny _ _ (exec (Stmt.For _ _ _ _ _) _) _ _ _ | with_reducible show wpAny _ _ (call (Value.type "list") _) _ _ _ | with_reducible show wpAny _ _ (storeName _ (Str.ofString "insert_delete") (Value.int (HAdd.hAdd _ _) _)) _ _ _ | with_reducible show wpAny _ _ (storeName _ (Str.ofString "result") (Value.int (ite _ _ _) _)) _ _ _ | with_reducible show wpAny _ _ (storeName _ (Str.ofString "distance") (Value.int (List.getD _ _ _) _)) _ _ _ | with_reducible show wpAny _ _ (call (Value.type "range") [Value.int (Str.length _ : Int) _]) _ _ _ | with_reducible show wpAny _ _ (call (Value.ref _) _) _ _ _)); first | (walk1; try dsimp only) | leave1)))
      refine st_eq (dpr j) (by rcases hj4 with rfl | rfl | rfl <;> rfl) fun tk3 => ?_
      (repeat' (first | (exfalso; (fail_if_success (fail_if_success omega)); (first | lia | omega)) | ((fail_if_success (first | with_reducible show wpAny _ _ (pyIter _) _ _ _ | with_reducible show wpAny _ _ (exec (Stmt.For _ _ _ _ _) _) _ _ _ | with_reducible show wpAny _ _ (call (Value.type "list") _) _ _ _ | with_reducible show wpAny _ _ (storeName _ (Str.ofString "insert_delete") (Value.int (HAdd.hAdd _ _) _)) _ _ _ | with_reducible show wpAny _ _ (storeName _ (Str.ofString "result") (Value.int (ite _ _ _) _)) _ _ _ | with_reducible show wpAny _ _ (storeName _ (Str.ofString "distance") (Value.int (List.getD _ _ _) _)) _ _ _ | with_reducible show wpAny _ _ (call (Value.type "range") [Value.int (Str.length _ : Int) _]) _ _ _ | with_reducible show wpAny _ _ (call (Value.ref _) _) _ _ _)); first | (walk1; try dsimp only) | leave1)))
      rename Fr _ _ _ _ => F10
      rename News _ _ _ _ => N10
      have e1 : ((k + 1 : Nat) : Int) - 1 = (k : Int) := by omega
      rw [e1] at N10
      exact ⟨0, by decide, .inr ⟨rfl, _, _, _, _, _, _, _, _, _, _, c, rfl, F10, rfl, rfl, rfl, rfl, rfl, rfl, by omega, N10⟩⟩
    · have e1 : ((k + 1 : Nat) : Int) - 1 = (k : Int) := by omega
      have F1 := fr_ifs [(Str.ofString "a", .str xs t1), (Str.ofString "b", .str bs t2), (Str.ofString "row", .ref R), (Str.ofString "max_cost", .int 99 t3), (Str.ofString "result", .int (dpr j) t4), (Str.ofString "minimum", .int e t6)] F (by
        intro p hp
        simp only [List.mem_cons, List.not_mem_nil, or_false] at hp
        rcases hp with rfl | rfl | rfl | rfl | rfl | rfl
        · exact m1
        · exact m2
        · exact m3
        · exact m4
        · exact m5
        · exact m6)
      dsimp only [ifs] at F1
      clear F m1 m2 m3 m4 m5 m6
      refine range_done rfl F1 N ?_ (by decide) ?_
      · intro p hp
        rcases List.mem_cons.mp hp with rfl | hp
        · exact lJI
        · rw [List.mem_singleton.mp hp]
          exact lJR
      intro h5 F5 N5
      clear F1 N
      dsimp only [ForNext]
      (repeat' (first | (exfalso; (fail_if_success (fail_if_success omega)); (first | lia | omega)) | ((fail_if_success (first | with_reducible show wpAny _ _ (pyIter _) _ _ _ | with_reducible show wpAny _ _ (exec (Stmt.For _ _ _ _ _) _) _ _ _ | with_reducible show wpAny _ _ (call (Value.type "list") _) _ _ _ | with_reducible show wpAny _ _ (storeName _ (Str.ofString "insert_delete") (Value.int (HAdd.hAdd _ _) _)) _ _ _ | with_reducible show wpAny _ _ (storeName _ (Str.ofString "result") (Value.int (ite _ _ _) _)) _ _ _ | with_reducible show wpAny _ _ (storeName _ (Str.ofString "distance") (Value.int (List.getD _ _ _) _)) _ _ _ | with_reducible show wpAny _ _ (call (Value.type "range") [Value.int (Str.length _ : Int) _]) _ _ _ | with_reducible show wpAny _ _ (call (Value.ref _) _) _ _ _)); first | (walk1; try dsimp only) | leave1)))
      rename Fr _ _ _ _ => F9
      rename News _ _ _ _ => N9
      have e2 : ((3 - k : Nat) : Int) = j + 1 := by lia
      refine ⟨k, Nat.lt_succ_self k, _, _, _, dpr j, t1, t2, t3, t4, t5, c, rfl, by omega, F9, rfl, rfl, rfl, rfl, rfl, ?_, ?_⟩
      · intro e
        unfold dpr
        rw [if_pos (by lia)]
      · have e3 : (if k = 0 then 4 else 2) = dpr j := by
          unfold dpr
          split <;> split <;> lia
        rw [e2, e3]
        exact N9
end
end Mine
end
-- LEV5
section
open PySem PySem.W PyProof.Rows PySem.Calls
set_option Elab.async false
set_option maxRecDepth 100000
set_option linter.all false
set_option maxHeartbeats 0
namespace Mine
/-- what the distance is behind the trimming -/
noncomputable def LevT (a b : Str) (n : Int) : Prop := ((a.length = 0 ∨ b.length = 0) ∧ n = 2 * (a.length + b.length)) ∨ (a = Str.ofString "αια" ∧ b = Str.ofString "ι" ∧ n = 4) ∨ (a = Str.ofString "ιαι" ∧ b = Str.ofString "α" ∧ n = 4)
section
variable {w : World} {mean : ExcName → Option Value} {mg mb : Str → Option Value} {a b : Str} {t u v : Tok} {dp un : Nat} {gd : Option (List Code)} {outer : List Env} {A₀ : Around} {base g : Heap} {L : Addr} {s : Shared}
theorem lev_tail {n : Int} (ha : a.length ≤ 10) (hb : b.length ≤ 10) (hn : LevT a b n) (B : Below A₀ base outer g) (X : (K w.params).In g) (T : Top topProg lw mean mg mb g) (hd : dp + 5 < recursionLimit) (hu : un + 40 < cLine) {k0 k1 : Int} {tk0 tk1 : Tok}
    (F : Fr g L s.heap (lk [(Str.ofString "max_cost", .int 99 v), (Str.ofString "b", .str b u), (Str.ofString "a", .str a t), (Str.ofString "pre", .int k0 tk0), (Str.ofString "post", .int k1 tk1)])) (N : News g L s.heap []) :
    wpAny (model PW w) (levA dp un gd L outer) (execs (stepsS (fdBody (stm 24)) 9) (levE L)) (Out s g L fun r news' => (∃ tk, r = .int n tk)) (fun _ _ => False) s := by
  rcases hn with ⟨h0, rfl⟩ | ⟨rfl, rfl, rfl⟩ | ⟨rfl, rfl, rfl⟩
  · repeat' (first | (exfalso; (fail_if_success (fail_if_success omega)); (first | lia | omega)) | (walk1; try dsimp only) | leave1)
    all_goals exact ⟨_, _, _, _, rfl, by assumption, by assumption, ⟨_, rfl⟩⟩
  · refine lev_dp (by decide) (by decide) (by decide +kernel) (fun j h0 h3 => ?_) B X T hd hu F N
    obtain rfl | rfl | rfl : j = 0 ∨ j = 1 ∨ j = 2 := by (first | lia | omega)
    all_goals decide +kernel
  · refine lev_dp (by decide) (by decide) (by decide +kernel) (fun j h0 h3 => ?_) B X T hd hu F N
    obtain rfl | rfl | rfl : j = 0 ∨ j = 1 ∨ j = 2 := by (first | lia | omega)
    all_goals decide +kernel
end
/-- the distance as the program reckons it -/
noncomputable def LevR (a b : Str) (n : Int) : Prop :=
  (a = b ∧ n = 0) ∨ ((a == b) = false ∧
    LevT (Txt.slice (Txt.slice a (some (levPre a b a.length 0)) none) none (levQ (levPost (Txt.slice a (some (levPre a b a.length 0)) none) (Txt.slice b (some (levPre a b a.length 0)) none) (Txt.slice a (some (levPre a b a.length 0)) none).length 0)))
      (Txt.slice (Txt.slice b (some (levPre a b a.length 0)) none) none (levQ (levPost (Txt.slice a (some (levPre a b a.length 0)) none) (Txt.slice b (some (levPre a b a.length 0)) none) (Txt.slice a (some (levPre a b a.length 0)) none).length 0))) n)
theorem lev {w : World} {mean mg mb} {a b : Str} {t u v : Tok} {n : Int} (ha : a.length ≤ 10) (hb : b.length ≤ 10) (hn : LevR a b n) : CtrV w mean mg mb 156 [.str a t, .str b u, .int 99 v] (6+1) (50+3) fun r => ∃ tk, r = .int n tk := by
  refine enterF (binds := [(Str.ofString "a", .str a t), (Str.ofString "b", .str b u), (Str.ofString "max_cost", .int 99 v)]) (by rfl) (by rfl) (fun s _ => BindsTo.of_eq rfl) (locs rfl) ?_ rfl rfl rfl (by decide)
  intro dp un gd outer A₀ base g L s B X T hd hu _ F
  have N : News g L s.heap [] := .nil
  change Fr g L s.heap (lk [(Str.ofString "max_cost", .int 99 v), (Str.ofString "b", .str b u), (Str.ofString "a", .str a t)]) at F
  rcases hn with ⟨rfl, rfl⟩ | ⟨hne, hn⟩
  · repeat' (first | (exfalso; simp_all; done) | (walk1; try dsimp only) | leave1)
    all_goals exact ⟨_, _, _, _, rfl, by assumption, by assumption, ⟨_, rfl⟩⟩
  · repeat' (first | (exfalso; simp_all; done) | (first | (with_reducible show wpAny _ _ (exec (.While _ _ _ _) _) _ _ _; done) | ((fail_if_success (with_reducible show wpAny _ _ (exec (.While _ _ _ _) _) _ _ _)); first | (walk1; try dsimp only) | leave1)))
    rename Fr _ _ _ _ => F1
    rename News _ _ _ _ => N1
    rw [lk_put] at F1
    refine wpAny_mono (lev_l1 (L := L) ha hb X T F1 N1) ?_ (fun _ _ e => e)
    rintro _ _ ⟨rfl, hp, tk1, h2, tk2, rfl, F2, N2⟩
    clear F1 N1 hne
    generalize levPre a b a.length 0 = p at hp F2 hn
    have ha1 := PyProof.Txt.length_slice_le a (some p) none
    have hb1 := PyProof.Txt.length_slice_le b (some p) none
    dsimp only
    repeat' (first | (with_reducible show wpAny _ _ (exec (.While _ _ _ _) _) _ _ _; done) | ((fail_if_success (with_reducible show wpAny _ _ (exec (.While _ _ _ _) _) _ _ _)); first | (walk1; try dsimp only) | leave1))
    rename Fr _ _ _ _ => F3
    rename News _ _ _ _ => N3
    rw [lk_put3] at F3
    refine wpAny_mono (lev_l2 (L := L) (Nat.le_trans ha1 ha) (Nat.le_trans hb1 hb) X T F3 N3) ?_ (fun _ _ e => e)
    rintro _ _ ⟨rfl, hq, tk3, h3, tk4, rfl, F4, N4⟩
    clear F3 N3 
    generalize levPost (Txt.slice a (some p) none) (Txt.slice b (some p) none) (Txt.slice a (some p) none).length 0 = q at hq F4 hn
    replace ha1 := Nat.le_trans ha1 ha
    replace hb1 := Nat.le_trans hb1 hb
    generalize Txt.slice a (some p) none = a1 at *
    generalize Txt.slice b (some p) none = b1 at *
    dsimp only
    by_cases hq0 : q = 0
    · subst hq0
      simp only [levQ, if_true, slice_all] at hn
      repeat' (first | (walk1; try dsimp only) | leave1)
      refine slice_strN_nn (s := { s with heap := h3, toks := tk4 }) (by assumption) (by assumption) ?_ (by with_unfolding_all rfl) (by intro _; with_unfolding_all rfl) (Nat.le_trans ha1 (by decide))
      clear F4 N4
      intro h5 t5 k5 F5 N5
      rw [slice_all]
      repeat' (first | (walk1; try dsimp only) | leave1)
      rename Fr _ _ _ _ => F6
      rename News _ _ _ _ => N6
      refine slice_strN_nn (s := { s with heap := _, toks := _ }) F6 N6 ?_ (by with_unfolding_all rfl) (by intro _; with_unfolding_all rfl) (Nat.le_trans hb1 (by decide))
      clear F6 N6
      intro h7 t7 k7 F7 N7
      rw [slice_all]
      repeat' (first | (with_reducible show wpAny _ _ (execs (Stmt.If (PySem.Expr.BoolOp _ _ _) _ _ _ :: _) _) _ _ _; done) | ((fail_if_success (with_reducible show wpAny _ _ (execs (Stmt.If (PySem.Expr.BoolOp _ _ _) _ _ _ :: _) _) _ _ _)); first | (walk1; try dsimp only) | leave1))
      rename Fr _ _ _ _ => F9
      rename News _ _ _ _ => N9
      rw [lk_put2] at F9
      refine wpAny_mono (lev_tail (L := L) (by (first | lia | omega)) (by (first | lia | omega)) hn B X T (by (first | lia | omega)) (by (first | lia | omega)) F9 N9) ?_ (fun _ _ e => e)
      rintro f s' ⟨h', tk', m', n', e, F', N', P⟩
      exact ⟨h', tk', m', n', e, F', N', P⟩
    · simp only [levQ, if_neg hq0] at hn
      have ha2 := PyProof.Txt.length_slice_le a1 none (some q)
      have hb2 := PyProof.Txt.length_slice_le b1 none (some q)
      repeat' (first | exact (hq0 (by with_reducible assumption)).elim | (first | (with_reducible show wpAny _ _ (execs (Stmt.If (PySem.Expr.BoolOp _ _ _) _ _ _ :: _) _) _ _ _; done) | ((fail_if_success (with_reducible show wpAny _ _ (execs (Stmt.If (PySem.Expr.BoolOp _ _ _) _ _ _ :: _) _) _ _ _)); first | (walk1; try dsimp only) | leave1)))
      rename Fr _ _ _ _ => F9
      rename News _ _ _ _ => N9
      rw [lk_put2] at F9
      refine wpAny_mono (lev_tail (L := L) (by (first | lia | omega)) (by (first | lia | omega)) hn B X T (by (first | lia | omega)) (by (first | lia | omega)) F9 N9) ?_ (fun _ _ e => e)
      rintro f s' ⟨h', tk', m', n', e, F', N', P⟩
      exact ⟨h', tk', m', n', e, F', N', P⟩
end Mine
end
-- TWI
section
open PySem PySem.W PyProof.Rows PySem.Calls
set_option Elab.async false
set_option maxRecDepth 100000
set_option linter.all false
set_option maxHeartbeats 0
namespace Mine
theorem twice {w : World} {mean mg mb} {x y : Str} {t u : Tok} {n : Int} (hx : x.length ≤ 10) (hr : (Txt.replace x y (Str.ofString "")).length ≤ 10) (hy : (y == Str.ofString "") = false) (hn : LevR x (Txt.replace x y (Str.ofString "")) n) :
    CtrT w mean mg mb 175 [.str x t, .str y u] (8+1) (60+3) (fun s => u ≠ 0 ∧ u < s.toks) fun _ r _ => ∃ tk, r = .int n tk := by
  refine enterT (binds := [(Str.ofString "text", .str x t), (Str.ofString "name", .str y u)]) (by rfl) (by rfl) (fun s _ => BindsTo.of_eq rfl) (locs rfl) ?_ rfl rfl rfl (by decide)
  rintro dp un gd outer A₀ base g L s B X T hd hu ⟨hu0, hut⟩ F
  have N : News s.heap L g [] := .nil
  change Fr s.heap L g (lk [(Str.ofString "name", .str y u), (Str.ofString "text", .str x t)]) at F
  repeat' (first | (walk1; try dsimp only) | leave1)
  refine SC.replace hu0 (by simp) (by dsimp only [List.length_cons, List.length_nil]; exact Nat.ne_of_lt (Nat.lt_of_lt_of_le hut (Nat.le_add_right _ 2))) hy (by show _ + _ * 0 ≤ _; (first | lia | omega)) ?_
  intro t' k
  repeat' (first | (walk1; try dsimp only) | leave1)
  refine ctrV_int (lev hx hr hn) (by assumption) (by assumption) (by assumption) (by assumption) (by assumption) rfl (by (first | lia | omega)) (by (first | lia | omega)) ?_
  intro tk' h' tk'' F' N' _
  repeat' (first | (walk1; try dsimp only) | leave1)
  exact ⟨_, _, _, _, rfl, by assumption, by assumption, ⟨_, rfl⟩⟩
end Mine
end
-- B1
section
open PySem PySem.W PyProof.Rows PySem.Calls
set_option Elab.async false
set_option maxRecDepth 100000
set_option linter.all false
set_option maxHeartbeats 0
namespace Mine
noncomputable def b1Es (o : Obj) : List (Int × Value) := match o.data with | .set es _ _ => es.toList | _ => []
noncomputable def b1Obj (P : Params) : Obj := ((K P).lookup (nat_lit 72)).getD default
theorem b1_at {w : World} {h : Heap} (X : (K w.params).In h) : h.get? 72 = some (b1Obj w.params) := X _ _ (by rfl)
theorem b1_set (w : World) : (b1Obj w.params).SetObjOf (intKind PW w) (fun k => (b1Es (b1Obj w.params)).any fun e => (intKind PW w).is k e.2) 27 := by
  refine ⟨⟨rfl, rfl, rfl⟩, _, _, _, rfl, ?_, fun k => List.any_eq_true, rfl, rfl⟩
  intro e he
  simp only [List.mem_cons, List.not_mem_nil, or_false] at he
  rcases he with rfl | rfl | rfl | rfl | rfl | rfl | rfl | rfl | rfl | rfl | rfl | rfl | rfl | rfl | rfl | rfl | rfl | rfl | rfl | rfl | rfl | rfl | rfl | rfl | rfl | rfl | rfl
  all_goals exact ⟨⟨_, intKind_is _ _ _ _, by rfl⟩, rfl⟩
theorem in_b1 {w : World} {mean mg mb} {x : Str} {t : Tok} (hx : x.length = 1) : CtrV w mean mg mb 82 [.str x t] (2+1) (20+3) fun r => r = .bool ((b1Es (b1Obj w.params)).any fun e => (intKind PW w).is (x.cps.getD 0 0) e.2) := by
  refine enterF (binds := [(Str.ofString "code", .str x t)]) (by rfl) (by rfl) (fun s _ => BindsTo.of_eq rfl) (locs rfl) ?_ rfl rfl rfl (by decide)
  intro dp un gd outer A₀ base g L s B X T hd hu _ F
  have N : News g L s.heap [] := .nil
  change Fr g L s.heap (lk [(Str.ofString "code", .str x t)]) at F
  repeat' (first | (walk1; try dsimp only) | leave1)
  refine in_argset F (b1_set w) (b1_at X) (intKind_is _ _ _ _) rfl (by decide) ?_
  exact ⟨_, _, _, _, rfl, by assumption, by assumption, rfl⟩
end Mine
end
-- B3
section
open PySem PySem.W PyProof.Rows PySem.Calls
set_option Elab.async false
set_option maxRecDepth 100000
set_option linter.all false
set_option maxHeartbeats 0
namespace Mine
noncomputable def b3Ok (e : DictEntry) : Bool := match e.key with | .int j _ => e.hash == hashInt j | _ => false
theorem b3_okA : b3Entries.all b3Ok = true := by decide +kernel
theorem b3_at {w : World} {h : Heap} (X : (K w.params).In h) : h.get? 83 = some (ob_83_12 w.params) := X _ _ (by rfl)
theorem b3_map {w : World} {h : Heap} (X : (K w.params).In h) : h.MapOf (intKind PW w) 83 (fun k => findBy (intKind PW w).is b3Entries.toArray k) := by
  refine ⟨_, _, _, b3_at X, ⟨rfl, rfl, rfl⟩, rfl, ?_, fun _ => rfl⟩
  intro e he
  have := List.all_eq_true.mp b3_okA e (by simpa using he)
  unfold b3Ok at this
  split at this
  · rename_i j t hk
    have h2 : e.hash = hashInt j := by simpa using this
    exact ⟨j, by rw [hk]; exact intKind_is _ _ _ _, h2⟩
  · cases this
theorem b3_find (w : World) (k : Int) : findBy (intKind PW w).is b3Entries.toArray k = findBy Value.isInt b3Entries.toArray k := rfl
theorem map_b3 {w : World} {mean mg mb} {x y : Str} {t ty : Tok} (hx : x.length = 1) (hf : findBy Value.isInt b3Entries.toArray (x.cps.getD 0 0) = some (.str y ty)) : CtrV w mean mg mb 128 [.str x t] (2+1) (20+3) fun r => ∃ t', r = .str y t' := by
  refine enterF (binds := [(Str.ofString "code", .str x t)]) (by rfl) (by rfl) (fun s _ => BindsTo.of_eq rfl) (locs rfl) ?_ rfl rfl rfl (by decide)
  intro dp un gd outer A₀ base g L s B X T hd hu _ F
  have N : News g L s.heap [] := .nil
  change Fr g L s.heap (lk [(Str.ofString "code", .str x t)]) at F
  have hm := b3_map (X.keeps F.keep)
  repeat' (first | (walk1; try dsimp only) | leave1)
  refine getMethod_builtin hm.typeIs PySem.F.plainAttrs_dict PySem.F.slot_dict_get PySem.F.type_dict_get hm.noDict ?_
  dsimp only
  repeat' (first | (walk1; try dsimp only) | leave1)
  refine call_meetsIn PySem.F.slot_dict_get hm.typeIs PySem.F.entry_dict_get (PySem.F.args_dict_get_2 _ _) (meets_dict_get (intKind PW w) 83 (intKind_is _ _ _ _) (by decide)) ⟨_, hm, ?_⟩
  rw [b3_find, hf]
  dsimp only [Option.getD_some]
  repeat' (first | (walk1; try dsimp only) | leave1)
  exact ⟨_, _, _, _, rfl, by assumption, by assumption, ⟨_, rfl⟩⟩
theorem low_b3 {w : World} {mean mg mb} {x : Str} {t : Tok} (hx : x = Str.ofString "X" ∨ x = Str.ofString "ι") (hf : findBy Value.isInt b3Entries.toArray (x.cps.getD 0 0) = none) : CtrV w mean mg mb 128 [.str x t] (2+1) (20+3) fun r => ∃ t', r = .str (if x = Str.ofString "X" then Str.ofString "x" else Str.ofString "ι") t' := by
  refine enterF (binds := [(Str.ofString "code", .str x t)]) (by rfl) (by rfl) (fun s _ => BindsTo.of_eq rfl) (locs rfl) ?_ rfl rfl rfl (by decide)
  intro dp un gd outer A₀ base g L s B X T hd hu _ F
  have N : News g L s.heap [] := .nil
  change Fr g L s.heap (lk [(Str.ofString "code", .str x t)]) at F
  have hm := b3_map (X.keeps F.keep)
  have hx1 : x.length = 1 := by rcases hx with rfl | rfl <;> decide
  repeat' (first | (walk1; try dsimp only) | leave1)
  refine getMethod_builtin hm.typeIs PySem.F.plainAttrs_dict PySem.F.slot_dict_get PySem.F.type_dict_get hm.noDict ?_
  dsimp only
  repeat' (first | (walk1; try dsimp only) | leave1)
  refine call_meetsIn PySem.F.slot_dict_get hm.typeIs PySem.F.entry_dict_get (PySem.F.args_dict_get_2 _ _) (meets_dict_get (intKind PW w) 83 (intKind_is _ _ _ _) (by decide)) ⟨_, hm, ?_⟩
  rw [b3_find, hf]
  dsimp only [Option.getD_none]
  clear hm hf
  rcases hx with rfl | rfl
  all_goals repeat' (first | (walk1; try dsimp only) | leave1)
  · exact ⟨_, _, _, _, rfl, by assumption, by assumption, ⟨_, congrArg (Value.str · _) (by decide)⟩⟩
  · exact ⟨_, _, _, _, rfl, by assumption, by assumption, ⟨_, congrArg (Value.str · _) (by decide)⟩⟩
end Mine
end
-- MAPA
section
open PySem PySem.W PyProof.Rows PySem.Calls
set_option Elab.async false
set_option maxRecDepth 100000
set_option linter.all false
set_option maxHeartbeats 0
namespace Mine
noncomputable def vStr : Value → Option Str | .str x _ => some x | _ => none
noncomputable def b3Find (k : Int) : Option (Option Str) := (b3Entries.find? fun e => Value.isInt k e.key).map fun e => vStr e.val
theorem b3_eq (k : Int) : findBy Value.isInt b3Entries.toArray k = (b3Entries.find? fun e => Value.isInt k e.key).map (·.val) := by
  unfold findBy
  rw [List.find?_toArray]
theorem b3_val {k : Int} {y : Str} (h : b3Find k = some (some y)) : ∃ ty, findBy Value.isInt b3Entries.toArray k = some (.str y ty) := by
  rw [b3_eq]
  unfold b3Find at h
  cases q : b3Entries.find? fun e => Value.isInt k e.key with
  | none => rw [q] at h; cases h
  | some e =>
    rw [q] at h
    simp only [Option.map_some, Option.some.injEq] at h ⊢
    unfold vStr at h
    split at h
    · rename_i x t hv
      cases h
      exact ⟨t, hv⟩
    · cases h
theorem b3_non {k : Int} (h : b3Find k = none) : findBy Value.isInt b3Entries.toArray k = none := by
  rw [b3_eq]
  unfold b3Find at h
  cases q : b3Entries.find? fun e => Value.isInt k e.key with
  | none => rfl
  | some e => rw [q] at h; cases h
noncomputable def P7 : List Nat := [88, 120546, 120496, 8124, 8126, 120488, 223]
noncomputable def mOf (c : Nat) : Str := if c = 88 then Str.ofString "x" else if c = 8124 then Str.ofString "αι" else if c = 223 then Str.ofString "ss" else if c = 8126 ∨ c = 120496 then Str.ofString "ι" else Str.ofString "α"
theorem f1 : b3Find 120546 = some (some (Str.ofString "α")) := by decide +kernel
theorem f2 : b3Find 120496 = some (some (Str.ofString "ι")) := by decide +kernel
theorem f3 : b3Find 8124 = some (some (Str.ofString "αι")) := by decide +kernel
theorem f4 : b3Find 120488 = some (some (Str.ofString "α")) := by decide +kernel
theorem f5 : b3Find 223 = some (some (Str.ofString "ss")) := by decide +kernel
theorem f6 : b3Find 88 = none := by decide +kernel
theorem f7 : b3Find 8126 = some (some (Str.ofString "ι")) := by decide +kernel
theorem map_some {w : World} {mean mg mb} {c : Nat} {y : Str} {t : Tok} (h : b3Find c = some (some y)) (hy : mOf c = y) : CtrV w mean mg mb 128 [.str ⟨#[c]⟩ t] (2+1) (20+3) fun r => ∃ t', r = .str (mOf c) t' := by
  obtain ⟨ty, e⟩ := b3_val h
  rw [hy]
  exact map_b3 rfl e
theorem map_all {w : World} {mean mg mb} {c : Nat} {t : Tok} (hc : c ∈ P7) : CtrV w mean mg mb 128 [.str ⟨#[c]⟩ t] (2+1) (20+3) fun r => ∃ t', r = .str (mOf c) t' := by
  simp only [P7, List.mem_cons, List.not_mem_nil, or_false] at hc
  rcases hc with rfl | rfl | rfl | rfl | rfl | rfl | rfl
  · have := low_b3 (w := w) (mean := mean) (mg := mg) (mb := mb) (t := t) (.inl rfl) (x := Str.ofString "X") (b3_non f6)
    exact this
  · exact map_some f1 (by decide)
  · exact map_some f2 (by decide)
  · exact map_some f3 (by decide)
  · exact map_some f7 (by decide)
  · exact map_some f4 (by decide)
  · exact map_some f5 (by decide)
end Mine
end
-- COMP
section
open PySem PySem.W PyProof.Rows PySem.Calls
set_option Elab.async false
set_option maxRecDepth 100000
set_option linter.all false
namespace Mine
section
variable {w : World} {A : Around} {E : Value → Shared → Prop} {env : Env} {s : Shared} {h₀ : Heap} {L : Addr} {m : Str → Option Value} {news : List (Addr × Obj)}
/-- a comprehension over a text's signs, with tests, whose parts only make things -/
theorem comp_str {elt iter : PySem.Expr} {x : Str} {px : Pos} {ifs : List PySem.Expr} {scope : Scope} {cl : List (Str × Addr)} {pos : Pos} {X : Str} {t : Tok} {Q : Value → Shared → Prop} (p : Value → Bool) (Fm : Value → Value → Prop)
    (hh : A.handled = none) (F : Fr h₀ L s.heap m) (N : News h₀ L s.heap news) (hX : X.cps.size ≤ sizeLine)
    (hclos : closureFor scope env = pure cl) (hcell : ∀ y ∈ scope.names, y.2 ≠ .cell) (hkind : scope.kind = .function)
    (hnames : ∀ y ∈ scope.names, y.2 = .local → scope.names.lookup y.1 = some .local) (hx : scope.names.lookup x = some .local)
    (hit : ∀ Q' : Value → Shared → Prop, Q' (.str X t) s → wpAny (model PW w) A (eval iter env) Q' E s)
    (tests : ∀ C v s₃ m₃ E', (∃ i, SignAt X i v) → s₃.heap.Ns C m₃ → m₃ x = some v → Fr h₀ L s₃.heap m → s.toks ≤ s₃.toks →
      wpAny (model PW w) A (forIn ifs true fun c r => if r = true then do let ok ← PySem.isTrue c (compEnvC scope cl C env) (eval c (compEnvC scope cl C env)); pure (ForInStep.yield ok) else pure (ForInStep.yield r))
        (fun ok s₄ => ok = p v ∧ Keeps s₃ s₄) E' s₃)
    (el : ∀ C v s₃ m₃ E', (∃ i, SignAt X i v) → p v = true → s₃.heap.Ns C m₃ → m₃ x = some v → Fr h₀ L s₃.heap m → s.toks ≤ s₃.toks →
      wpAny (model PW w) A (eval elt (compEnvC scope cl C env)) (fun y s₄ => Fm v y ∧ Keeps s₃ s₄) E' s₃)
    (ret : ∀ D h' tk (ys vs : List Value) k, Fr h₀ L h' m → News h₀ L h' ((D, { cls := .type "list", data := .seq ys.toArray k }) :: news) → s.heap.get? D = none → (∀ b o, s.heap.get? b = some o → h'.get? b = some o) →
      vs.length = X.cps.size → (∀ j v, vs[j]? = some v → SignAt X j v) → Paired Fm (vs.filter p) ys → Q (.ref D) { s with heap := h', toks := tk })
    (hs : ∀ x, foldedSetIterable iter env x = pure x := by intro _; rfl) :
    wpAny (model PW w) A (eval (.ListComp elt [⟨.Name x px, iter, ifs, 0⟩] scope pos) env) Q E s := by
  refine wpAny_ListComp_free p Fm hclos hcell hkind hnames hx (hit _ ?_) hs
  refine wpAny_pyIter_str fun o St W hst => ?_
  have keep1 : ∀ b o', s.heap.get? b = some o' → (s.heap.push o).get? b = some o' := fun b o' e => Heap.get?_push_of_some _ e
  have ne : ∀ b o', s.heap.get? b = some o' → b ∉ [s.heap.objs.size] := fun b o' e hb => by
    rw [List.mem_singleton] at hb
    subst hb
    exact absurd (Heap.lt_size e) (Nat.lt_irrefl _)
  refine ⟨_, _, _, _, _, St, rfl, W A hh, hX, hst, fun b hb => ?_, ⟨?_, ?_⟩, ?_⟩
  · rw [List.mem_singleton.mp hb]
    show _ < (s.heap.push o).objs.size
    rw [Heap.size_push]
    exact Nat.lt_succ_self _
  · intro C i v s₃ m₃ E' _ hv hn hm hk htk
    exact tests C v s₃ m₃ E' ⟨i, hv⟩ hn hm (F.keeps fun b o' e => hk b o' (ne b o' e) (keep1 b o' e)) htk
  · intro C i v s₃ m₃ E' _ hv hp hn hm hk htk
    exact el C v s₃ m₃ E' ⟨i, hv⟩ hp hn hm (F.keeps fun b o' e => hk b o' (ne b o' e) (keep1 b o' e)) htk
  · intro D h' tk ys vs hD hl hpl hlen hP hF hk
    have kk : ∀ b o', s.heap.get? b = some o' → h'.get? b = some o' := fun b o' e => hk b o' (ne b o' e) (keep1 b o' e)
    have hD0 : s.heap.get? D = none := by
      cases q : s.heap.get? D with
      | none => rfl
      | some o' =>
        have := keep1 _ _ q
        have hD' : (s.heap.push o).get? D = none := hD
        rw [hD'] at this
        cases this
    obtain ⟨k, hk2⟩ := hpl
    obtain ⟨ys⟩ := ys
    obtain ⟨oL, es, ep, hL, hLd⟩ := F.ns
    refine ret D h' tk ys vs k (F.keeps kk) (fun q hq => ?_) hD0 kk hlen hP hF
    rcases List.mem_cons.mp hq with rfl | hq
    · refine ⟨hk2, fun e => ?_, ?_⟩
      · have e' : D = L := e
        rw [e', hL] at hD0
        cases hD0
      · show h₀.get? D = none
        cases q : h₀.get? D with
        | none => rfl
        | some o' =>
          rw [F.keep _ _ q] at hD0
          cases hD0
    · exact ⟨kk _ _ (N q hq).1, (N q hq).2⟩
end
end Mine
end
-- PREP
section
open PySem PySem.W PyProof.Rows PySem.Calls
set_option Elab.async false
set_option maxRecDepth 100000
set_option linter.all false
set_option maxHeartbeats 0
namespace Mine
theorem ctrV_use {w : World} {mean : ExcName → Option Value} {mg mb : Str → Option Value} {f : Addr} {args : List Value} {d u : Nat} {news : List (Addr × Obj)} {Post : Value → Prop}
    {dp un : Nat} {gd : Option (List Code)} {cn : Str} {cs : Scope} {a : Addr} {ccd : Value} {cl : List (Str × Addr)} {outer : List Env} {A₀ : Around} {base h₀ : Heap} {L : Addr} {m : Str → Option Value} {s : Shared} {Q E : Value → Shared → Prop}
    (C : CtrV w mean mg mb f args d u Post) (B : Below A₀ base outer h₀) (F : Fr h₀ L s.heap m) (X : (K w.params).In h₀) (N : News h₀ L s.heap news) (T : Top topProg lw mean mg mb h₀) (hk : cs.kind = .function) (hd : dp + d < recursionLimit) (hu : un + u < cLine)
    (ret : ∀ r h' tk', Fr h₀ L h' m → News h₀ L h' news → (∀ b o, s.heap.get? b = some o → h'.get? b = some o) → Post r → Q r { s with heap := h', toks := tk' }) :
    wpAny (model PW w) (ktrTop dp un gd cn cs L a ccd cl outer) (call (.ref f) args) Q E s :=
  C _ _ _ _ _ _ _ _ _ _ _ _ _ _ _ _ _ _ B F X N T hk hd hu trivial (by
    intro r h' tk' own F' N' _ k P
    exact ret r h' tk' F' (fun p hp => N' p (List.mem_append_right _ hp)) k P)
noncomputable def keptB (w : World) : Value → Bool
  | .str x _ => !((b1Es (b1Obj w.params)).any fun e => (intKind PW w).is (x.cps.getD 0 0) e.2)
  | _ => false
noncomputable def P8 : List Nat := 173 :: P7
theorem kept_is {w : World} {c : Nat} {u : Tok} (hc : c ∈ P8) : keptB w (.str ⟨#[c]⟩ u) = decide (c ≠ 173) := by
  simp only [P8, P7, List.mem_cons, List.not_mem_nil, or_false] at hc
  rcases hc with rfl | rfl | rfl | rfl | rfl | rfl | rfl | rfl <;> rfl
noncomputable def sgOf : Value → Nat | .str x _ => x.cps.getD 0 0 | _ => 0
noncomputable def FmB (v y : Value) : Prop := ∃ t', y = .str (mOf (sgOf v)) t'
theorem paired_strs : ∀ {xs ys : List Value}, Paired FmB xs ys → StrsAre ys (xs.map fun v => mOf (sgOf v))
  | _, _, .nil => .nil
  | _, _, .cons ⟨t', e⟩ h => by subst e; exact .cons _ _ (paired_strs h)
theorem mOf_len (c : Nat) : (mOf c).length ≤ 2 := by
  unfold mOf
  repeat' split
  all_goals decide
theorem list_two {α : Type} {l : List α} (h : l.length = 2) : ∃ x y, l = [x, y] := by
  cases l with
  | nil => cases h
  | cons x l =>
    cases l with
    | nil => cases h
    | cons y l =>
      cases l with
      | nil => exact ⟨x, y, rfl⟩
      | cons z l => cases h
noncomputable def prepOf (c d : Nat) : Str := Txt.join (Str.ofString "") (([c, d].filter (fun c => decide (c ≠ 173))).map mOf)
theorem prep {w : World} {mean mg mb} {c d : Nat} {t : Tok} (hc : c ∈ P8) (hd8 : d ∈ P8) : CtrV w mean mg mb 168 [.str ⟨#[c, d]⟩ t] (8+1) (60+3) fun r => ∃ t', r = .str (prepOf c d) t' := by
  refine enterF (binds := [(Str.ofString "typed", .str ⟨#[c, d]⟩ t)]) (by rfl) (by rfl) (fun s _ => BindsTo.of_eq rfl) (locs rfl) ?_ rfl rfl rfl (by decide)
  intro dp un gd outer A₀ base g L s B X T hd hu _ F
  have N : News g L s.heap [] := .nil
  change Fr g L s.heap (lk [(Str.ofString "typed", .str ⟨#[c, d]⟩ t)]) at F
  have in8 : ∀ (i cc : Nat), (#[c, d] : Array Nat)[i]? = some cc → cc ∈ P8 := by
    intro i cc h
    match i, h with
    | 0, h => simp at h; exact h ▸ hc
    | 1, h => simp at h; exact h ▸ hd8
    | i + 2, h => simp at h
  iterate 7 (first | (walk1; try dsimp only) | leave1)
  refine comp_str (cl := []) (X := ⟨#[c, d]⟩) (t := t) (keptB w) FmB rfl F N (by show 2 ≤ sizeLine; decide) (by rfl) (by decide) rfl (by decide) (by rfl) ?_ ?_ ?_ ?_
  · intro Q' hQ
    exact ld F rfl hQ
  · rintro C v s₃ m₃ E' ⟨i, cc, u, hi, rfl⟩ hn hm F₃ _
    refine wpAny_tests_one ?_
    repeat' (first | (walk1; try dsimp only) | leave1)
    refine ctrV_use (in_b1 rfl) B F₃ X News.nil T rfl (by (first | lia | omega)) (by (first | lia | omega)) ?_
    rintro _ h' tk' F' N' k rfl
    repeat' (first | (walk1; try dsimp only) | leave1)
    exact ⟨h', tk', rfl, k⟩
  · rintro C v s₃ m₃ E' ⟨i, cc, u, hi, rfl⟩ hp hn hm F₃ _
    have h8 := in8 i cc hi
    rw [kept_is h8] at hp
    have h7 : cc ∈ P7 := by
      rcases List.mem_cons.mp h8 with rfl | h
      · simp at hp
      · exact h
    repeat' (first | (walk1; try dsimp only) | leave1)
    refine ctrV_use (map_all h7) B F₃ X News.nil T rfl (by (first | lia | omega)) (by (first | lia | omega)) ?_
    rintro r h' tk' F' N' k ⟨t', rfl⟩
    exact ⟨⟨t', rfl⟩, h', tk', rfl, k⟩
  · intro D h' tk ys vs k F' N' _ _ hlen hs hP
    obtain ⟨v0, v1, rfl⟩ : ∃ v0 v1, vs = [v0, v1] := by
      exact list_two hlen
    obtain ⟨c0, u0, e0, rfl⟩ := hs 0 _ rfl
    obtain ⟨c1, u1, e1, rfl⟩ := hs 1 _ rfl
    have e0' : c0 = c := by simpa using e0.symm
    have e1' : c1 = d := by simpa using e1.symm
    subst e0' e1'
    have st := paired_strs hP
    have ef : ([Value.str ⟨#[c0]⟩ u0, Value.str ⟨#[c1]⟩ u1].filter (keptB w)).map (fun v => mOf (sgOf v)) = ([c0, c1].filter (fun c => decide (c ≠ 173))).map mOf := by
      simp only [List.filter_cons, kept_is hc, kept_is hd8, List.filter_nil]
      by_cases h1 : c0 = 173 <;> by_cases h2 : c1 = 173 <;> simp [h1, h2, sgOf]
    rw [ef] at st
    repeat' (first | (walk1; try dsimp only) | leave1)
    have hw : ((([c0, c1].filter (fun c => decide (c ≠ 173))).map mOf).map (·.length)).sum + (([c0, c1].filter (fun c => decide (c ≠ 173))).map mOf).length ≤ 1048576 := by
      have l0 := mOf_len c0
      have l1 := mOf_len c1
      simp only [List.filter_cons, List.filter_nil]
      by_cases h1 : c0 = 173 <;> by_cases h2 : c1 = 173 <;> simp [h1, h2] <;> (first | lia | omega)
    refine join_listW (News.isList N' (.head _)) st (by decide) hw ?_
    intro t' k'
    exact ⟨_, _, _, _, rfl, by assumption, by assumption, ⟨_, rfl⟩⟩
end Mine
end
-- ISN
section
open PySem PySem.W PyProof.Rows PySem.Calls
set_option Elab.async false
set_option maxRecDepth 100000
set_option linter.all false
set_option maxHeartbeats 0
namespace Mine
theorem isnt {w : World} {mean mg mb} {x : Int} {t : Tok} : CtrV w mean mg mb 135 [.int x t] (2+1) (20+3) fun r => r = .bool (decide (256 ≤ x)) := by
  refine enterF (binds := [(Str.ofString "x", .int x t)]) (by rfl) (by rfl) (fun s _ => BindsTo.of_eq rfl) (locs rfl) ?_ rfl rfl rfl (by decide)
  intro dp un gd outer A₀ base g L s B X T hd hu _ F
  have N : News g L s.heap [] := .nil
  change Fr g L s.heap (lk [(Str.ofString "x", .int x t)]) at F
  repeat' (first | (walk1; try dsimp only) | leave1)
  exact ⟨_, _, _, _, rfl, by assumption, by assumption, rfl⟩
theorem iseof {w : World} {mean mg mb} {x : Int} {t : Tok} : CtrV w mean mg mb 142 [.int x t] (2+1) (20+3) fun r => r = .bool (x == 0) := by
  refine enterF (binds := [(Str.ofString "x", .int x t)]) (by rfl) (by rfl) (fun s _ => BindsTo.of_eq rfl) (locs rfl) ?_ rfl rfl rfl (by decide)
  intro dp un gd outer A₀ base g L s B X T hd hu _ F
  have N : News g L s.heap [] := .nil
  change Fr g L s.heap (lk [(Str.ofString "x", .int x t)]) at F
  repeat' (first | (walk1; try dsimp only) | leave1)
  exact ⟨_, _, _, _, rfl, by assumption, by assumption, rfl⟩
end Mine
end
-- CPW
section
open PySem PySem.W PyProof.Rows PySem.Calls
set_option Elab.async false
set_option maxRecDepth 100000
set_option linter.all false
set_option maxHeartbeats 0
namespace Mine
local macro_rules | `(tactic| walk_at "call type:set nil nil") => `(tactic| (k_here; k_dflt (refine set_new (by k_asm) (by k_asm) ?_); intro d' h' F' N' l1 hs'; (try k_lt l1)))
local macro_rules | `(tactic| walk_at "truthy ref") => `(tactic| (k_here; k_dflt (refine' set_truthy ?N ?m ?d ?z ?_; (case N => k_asm); (case m => k_mem); (case d => k_asm); (case z => kse_small)); (try dsimp only)))
local macro_rules | `(tactic| walk_at "getMethod ref") => `(tactic| (k_here; (with_reducible show wpAny _ _ (getMethod (Value.ref _) (Str.ofString "pop") _) _ _ _); k_dflt (refine' set_popm ?N ?m ?d ?z ?_; (case N => k_asm); (case m => k_mem); (case d => k_asm); (case z => kse_small))))
local macro_rules | `(tactic| walk_at "call builtin:set.pop") => `(tactic| (k_here; k_dflt (refine' set_pop1' ?F ?N ?U ?d ?z ?_; (case F => k_asm); (case N => k_asm); (case U => k_updF); (case d => k_asm); (case z => rfl)); intro dr' h' o' tk' F' N' hs'; (try dsimp only at N')))
local macro_rules | `(tactic| walk_at "call builtin:set.add") => `(tactic| (k_here; (with_reducible show wpAny _ _ (call (Value.builtin "set.add") [Value.ref _, Value.int _ _]) _ _ _); k_dflt (refine' set_add1' _ _ rfl ?k0 ?a ?b ?F ?N ?U ?_; (case k0 => rfl); (case a => assumption); (case b => omega); (case F => k_asm); (case N => k_asm); (case U => k_updF)); intro h' F' N' hs'; (try dsimp only at N')))
local macro_rules | `(tactic| walk_at "call builtin:sorted") => `(tactic| (k_here; k_dflt (refine' sorted_set1 ?h ?F ?N ?m ?_; (case h => exact rfl); (case F => k_asm); (case N => k_asm); (case m => k_mem)); intro D' h' c' tk' F' N' l1; (try k_lt l1)))
local macro_rules | `(tactic| walk_at "call builtin:iter") => `(tactic| (k_here; k_dflt (refine' list_iterb ?F ?N ?m ?_; (case F => k_asm); (case N => k_asm); (case m => k_mem)); intro I' h' io' F' N' l1 li'; (try k_lt l1)))
local macro_rules | `(tactic| walk_at "call builtin:next") => `(tactic| (k_here; k_dflt (refine' list_nextb1 ?F ?N ?U ?o ?m ?_; (case F => k_asm); (case N => k_asm); (case U => k_updF); (case o => k_asm); (case m => k_mem)); intro h' io' F' N' li'; (try dsimp only at N')))
/-- a dict with one int key and the power as its value -/
noncomputable def PowPost (w : World) (n : Nat) (r : Value) (own : List (Addr × Obj)) : Prop := ∃ (d : Addr) (o : Obj) (tk : Tok), r = .ref d ∧ own = [(d, o)] ∧ o.IsDictOf (intKind PW w) [((n : Int), .int (257 ^ n) tk)]
theorem fn_half {n : Nat} (h : n ≤ 5) : Int.fdiv (2 * (n : Int)) (2 ^ Int.toNat 1) = (n : Int) := by
  have : ∀ n : Fin 6, Int.fdiv (2 * ((n.val : Nat) : Int)) (2 ^ Int.toNat 1) = (n.val : Int) := by decide
  exact this ⟨n, by omega⟩
theorem fn_bit {n : Nat} (h : n ≤ 5) : Builtin.bitAnd (2 * (n : Int)) 1 = 0 := by
  have : ∀ n : Fin 6, Builtin.bitAnd (2 * ((n.val : Nat) : Int)) 1 = 0 := by decide
  exact this ⟨n, by omega⟩
theorem cpw {w : World} {mean mg mb} {t u v : Tok} {n : Nat} (h1 : 0 < n) (h2 : n ≤ 5) : CtrD w mean mg mb 22 [.int (2 * (n : Int)) t, .int 257 u, .int n v] (3+1) (20+3) (fun _ => True) (fun _ r own => PowPost w n r own) := by
  refine enterD (binds := [(Str.ofString "w", .int (2 * (n : Int)) t), (Str.ofString "base", .int 257 u), (Str.ofString "more_than", .int n v), (Str.ofString "show", .bool false)]) (by rfl) (by rfl) (fun s hX => BindsTo.of_defaults rfl (hX _ _ (by rfl)) rfl rfl rfl) (locs rfl) ?_ rfl rfl rfl (by decide)
  intro dp un gd outer A₀ base g L s B X T hd hu _ F
  have N : News g L s.heap [] := .nil
  change Fr g L s.heap (lk [(Str.ofString "show", .bool false), (Str.ofString "more_than", .int n v), (Str.ofString "base", .int 257 u), (Str.ofString "w", .int (2 * (n : Int)) t)]) at F
  (repeat' (first | (exfalso; (fail_if_success (fail_if_success omega)); (first | lia | omega)) | ((fail_if_success (first | with_reducible show wpAny _ _ (exec (.For _ _ _ _ _) _) _ _ _ | with_reducible show wpAny _ _ (storeName _ _ (Value.int (Int.fdiv _ _) _)) _ _ _ | with_reducible show wpAny _ _ (truthy (Value.int (Builtin.bitAnd _ _) _)) _ _ _ | with_reducible show wpAny _ _ (truthy (Value.bool (_ || _))) _ _ _)); first | (walk1; try dsimp only) | leave1)))
  rw [fn_half h2]
  (repeat' (first | (exfalso; (fail_if_success (fail_if_success omega)); (first | lia | omega)) | ((fail_if_success (first | with_reducible show wpAny _ _ (exec (.For _ _ _ _ _) _) _ _ _ | with_reducible show wpAny _ _ (storeName _ _ (Value.int (Int.fdiv _ _) _)) _ _ _ | with_reducible show wpAny _ _ (truthy (Value.int (Builtin.bitAnd _ _) _)) _ _ _ | with_reducible show wpAny _ _ (truthy (Value.bool (_ || _))) _ _ _)); first | (walk1; try dsimp only) | leave1)))
  rw [fn_bit h2]
  (repeat' (first | (exfalso; (fail_if_success (fail_if_success omega)); (first | lia | omega)) | ((fail_if_success (first | with_reducible show wpAny _ _ (exec (.For _ _ _ _ _) _) _ _ _ | with_reducible show wpAny _ _ (storeName _ _ (Value.int (Int.fdiv _ _) _)) _ _ _ | with_reducible show wpAny _ _ (truthy (Value.int (Builtin.bitAnd _ _) _)) _ _ _ | with_reducible show wpAny _ _ (truthy (Value.bool (_ || _))) _ _ _)); first | (walk1; try dsimp only) | leave1)))
  rw [show (false || decide ((n : Int) = 2 * (n : Int))) = false from by rw [decide_eq_false (by omega)]; rfl]
  (repeat' (first | (exfalso; (fail_if_success (fail_if_success omega)); (first | lia | omega)) | ((fail_if_success (first | with_reducible show wpAny _ _ (exec (.For _ _ _ _ _) _) _ _ _ | with_reducible show wpAny _ _ (storeName _ _ (Value.int (Int.fdiv _ _) _)) _ _ _ | with_reducible show wpAny _ _ (truthy (Value.int (Builtin.bitAnd _ _) _)) _ _ _ | with_reducible show wpAny _ _ (truthy (Value.bool (_ || _))) _ _ _)); first | (walk1; try dsimp only) | leave1)))
  rename Fr _ _ _ _ => F1
  rename News _ _ _ _ => N1
  rename LiO _ _ _ => li
  rename Obj.IsDictOf _ _ _ => hd1
  refine for_loop ?_
  walk1
  refine wpAny_pyIter_listiter ⟨_, (N1 _ (.head _)).1, li.1, li.2⟩ ?_
  refine ⟨fun _ s₁ => s₁ = _, 0, rfl, fun v => rfl, ?_⟩
  rintro _ _ rfl
  refine list_done (l := _) (c := _) (vs := #[_]) rfl F1 N1 ?_ li (.head _) rfl ?_
  · intro p hp
    simp only [List.mem_cons, List.not_mem_nil, or_false] at hp
    rcases hp with rfl | rfl | rfl | rfl | rfl <;> (refine Nat.ne_of_lt ?_; dsimp only; omega)
  clear F1 N1
  intro h' F' N'
  dsimp only [ForNext]
  repeat' (first | (walk1; try dsimp only) | leave1)
  refine ⟨_, _, _, _, _, rfl, by assumption, news_sub (by assumption) ?_, _, _, _, rfl, rfl, hd1⟩
  intro p hp
  simp only [List.mem_cons, List.not_mem_nil, or_false] at hp ⊢
  simp [hp]
end Mine
end
-- CG
section
open PySem PySem.W PyProof.Rows PySem.Calls
set_option Elab.async false
set_option maxRecDepth 100000
set_option linter.all false
namespace Mine
/-- the codes that a def has made of its inner def -/
noncomputable def TabO (line col : Nat) (qual : Str) (ps : Array Value) (codes : List (Addr × Obj)) : Prop :=
  ps = #[] ∨ ∃ c' oc vs t, ps = #[rawInt line, rawInt col, .ref c'] ∧ (c', oc) ∈ codes ∧ oc.data = .fields vs ∧ vs[1]? = some (.str qual t)
noncomputable def TabI := TabO 73 4 (Str.ofString "_int2digits.<locals>.inner")
noncomputable def TabD := TabO 88 4 (Str.ofString "_digits2int.<locals>.inner")
/-- the two tables and what was made for them -/
noncomputable def TL (tl : List (Addr × Obj)) : Prop := ∃ ps qs codes, tl = (38, tabObj ps) :: (45, tabObj qs) :: codes ∧ TabI ps codes ∧ TabD qs codes ∧ ∀ p ∈ codes, 45 < p.1
noncomputable def Apart (a b : List (Addr × Obj)) : Prop := ∀ p ∈ a, ∀ q ∈ b, p.1 ≠ q.1
/-- as CtrF, for a call that may let the two tables grow -/
noncomputable abbrev CtrG (w : World) (mean : ExcName → Option Value) (mg mb : Str → Option Value) (f : Addr) (args : List Value) (d u : Nat) (Pre : Heap → Prop) (Post : Heap → Value → List (Addr × Obj) → Prop) : Prop :=
  ∀ (dp un : Nat) (gd : Option (List Code)) (cn : Str) (cs : Scope) (a : Addr) (ccd : Value) (cl : List (Str × Addr)) (outer : List Env) (A₀ : Around) (base h₀ : Heap) (L : Addr) (m : Str → Option Value) (news tl : List (Addr × Obj)) (s : Shared) (Q E : Value → Shared → Prop),
    Below A₀ base outer h₀ → Fr h₀ L s.heap m → (K w.params).In h₀ → News h₀ L s.heap (news ++ tl) → TL tl → Apart news tl → Top topProg lw mean mg mb h₀ → cs.kind = .function → dp + d < recursionLimit → un + u < cLine →
    (∀ g : Heap, (∀ b o, s.heap.get? b = some o → b ∉ tl.map (·.1) → g.get? b = some o) → Pre g) →
    (∀ r h' tk' own tl', Fr h₀ L h' m → TL tl' → Apart (own ++ news) tl' → News h₀ L h' (own ++ news ++ tl') → Apart own news → (∀ b o, s.heap.get? b = some o → b ∉ tl.map (·.1) → h'.get? b = some o) → Post s.heap r own → Q r { s with heap := h', toks := tk' }) →
    wpAny (model PW w) (ktrTop dp un gd cn cs L a ccd cl outer) (call (.ref f) args) Q E s
noncomputable def OutG (s : Shared) (g : Heap) (L : Addr) (Post : Value → List (Addr × Obj) → Prop) (f : Flow) (s' : Shared) : Prop :=
  ∃ h' tk m' own tl', s' = { s with heap := h', toks := tk } ∧ Fr g L h' m' ∧ TL tl' ∧ Apart own tl' ∧ News g L h' (own ++ tl') ∧ Post (match f with | .ret v => v | _ => .none) own
noncomputable abbrev BodyG (w : World) (mean : ExcName → Option Value) (mg mb : Str → Option Value) (f : Addr) (qual : Str) (scope : Scope) (cdv : Value) (body : List Stmt) (binds : List (Str × Value)) (d u : Nat) (Pre : Heap → Prop) (Post : Value → List (Addr × Obj) → Prop) : Prop :=
  ∀ (dp un : Nat) (gd : Option (List Code)) (outer : List Env) (A₀ : Around) (base g : Heap) (L : Addr) (cells tl : List (Addr × Obj)) (s : Shared),
    Below A₀ base outer g → (K w.params).In g → Top topProg lw mean mg mb g → dp + d < recursionLimit → un + u < cLine → Pre g → TL tl → (∀ p ∈ tl, p.1 < L) →
    Fr g L s.heap (bindL (envOfC qual scope L f cdv).kindOf binds fun _ => none) → News g L s.heap (cells ++ tl) →
    CellsAre (bindC (envOfC qual scope L f cdv).kindOf binds fun _ => none) (cellsFrom (L + 1) scope.names []) cells →
    wpAny (model PW w) (ktrTop dp un gd qual scope L f cdv (cellsFrom (L + 1) scope.names []) outer) (execs body (envOfC qual scope L f cdv)) (OutG s g L Post) (fun _ _ => False) s
theorem TL.low {tl : List (Addr × Obj)} (h : TL tl) : ∀ p ∈ tl, 38 ≤ p.1 := by
  obtain ⟨ps, qs, codes, rfl, _, _, h⟩ := h
  intro p hp
  rcases List.mem_cons.mp hp with rfl | hp
  · exact Nat.le_refl 38
  · rcases List.mem_cons.mp hp with rfl | hp
    · exact (by decide : 38 ≤ 45)
    · exact Nat.le_of_lt (Nat.lt_trans (by decide : 38 < 45) (h p hp))
theorem enterG {w : World} {mean : ExcName → Option Value} {mg mb : Str → Option Value} {f : Addr} {args : List Value} {d u : Nat} {Pre : Heap → Prop} {Post : Value → List (Addr × Obj) → Prop}
    {name qual : Str} {params : Arguments} {body : List Stmt} {scope : Scope} {dV kV doc pm cdv ct oc : Value} {an od : Option Addr} {osl : Array (Option Value)} {binds : List (Str × Value)}
    (ho : (K w.params).lookup f = some ⟨oc, od, .func (fnOf name qual params body scope dV kV doc pm an cdv ct), osl⟩) (hcd : codeIn (K w.params) cdv qual = true)
    (hbind : ∀ s : Shared, (K w.params).In s.heap → BindsTo s (fnOf name qual params body scope dV kV doc pm an cdv ct) ⟨args, []⟩ binds)
    (hkind : (binds.all fun y => scope.names.lookup y.1 == some .local || scope.names.lookup y.1 == some .cell) = true) (hnd : ((cellsFrom 0 scope.names []).map (·.1)).Nodup)
    (bd : BodyG w mean mg mb f qual scope cdv body binds d u Pre Post)
    (hco : scope.isCoroutine = false) (hgen : scope.isGenerator = false) (hkf : scope.kind = .function) : CtrG w mean mg mb f args (d + 1) (u + 3) Pre (fun _ => Post) := by
  intro dp un gd cn cs a ccd cl outer A₀ base h₀ L m news tl s Q E B F X N hTL hap T hk hd hu hp hret
  refine wpAny_call ?_
  have A1 : (ktrTop dp un gd cn cs L a ccd cl outer).frames = some (envX cn cs L a ccd cl :: outer) := rfl
  have Nt : News h₀ L s.heap tl := fun p hp => N p (List.mem_append_right _ hp)
  obtain ⟨FG, BG, st, lv⟩ := groundX (news := tl) (R := fun _ _ => True) B F Nt A1 rfl hk
  have X' := X.keeps F.keep
  have Xg := X.keeps st
  have Tg := T.keeps st
  refine codeAny_call_function (by show dp < recursionLimit; omega) (X' _ _ ho) rfl hco hgen rfl (codeRec_of X' hcd) (hbind s X' _ _ _ _ ?_)
  refine wpAny_newFunctionEnv_cells hkf (kindsX hkind _) fun env' he s' x => ?_
  subst he
  refine ⟨(T.nolimit.keeps F.keep).keeps x.toInCall.keep, codeAny_func ?_⟩
  obtain ⟨h₁, tk, rfl, _⟩ := x.done
  have hk₁ := x.toInCall.keep
  obtain ⟨cells, NC, Y⟩ := Cl.news (h₀ := s.heap) (Nat.le_refl _) fun n c hm => ⟨x.cell n c (lookup_of_mem_nodup (cellsFrom_names scope.names 0 (s.heap.objs.size + 1) [] [] rfl ▸ hnd) hm), x.above n c hm⟩
  refine wpAny_mono (bd (dp + 1) (un + 3) gd (envX cn cs L a ccd cl :: outer) _ base (hideAll s.heap (tl.map (·.1))) s.heap.objs.size cells tl _ BG Xg Tg (by omega) (by omega) (hp _ fun b o e hb => hideAll_get _ e hb) hTL (fun p hp => Heap.lt_size (Nt p hp).1)
    ⟨x.toInCall.ns, fun b o e => hk₁ b o (of_hideAll _ e), Nat.le_of_eq (hideAll_size _ _)⟩ (fun p hp => ?_) Y) ?_ (fun _ _ e => e.elim)
  · rcases List.mem_append.mp hp with hp | hp
    · refine ⟨(NC p hp).1, (NC p hp).2.1, ?_⟩
      cases q : (hideAll s.heap (tl.map (·.1))).get? p.1 with
      | none => rfl
      | some o => have := of_hideAll _ q; rw [(NC p hp).2.2] at this; cases this
    · exact ⟨hk₁ _ _ (Nt p hp).1, Nat.ne_of_lt (Heap.lt_size (Nt p hp).1), hideAll_none _ (List.mem_map_of_mem hp)⟩
  rintro fl s' ⟨h', tk, m', own, tl', rfl, F2, hTL', hap', N2, P⟩
  obtain ⟨oL, es, ep, hL, hLd⟩ := FG.ns
  have kept : ∀ b o, s.heap.get? b = some o → b ∉ tl.map (·.1) → h'.get? b = some o := fun b o e hb => F2.keep b o (hideAll_get _ e hb)
  have nn : ∀ p ∈ news, p.1 ∉ tl.map (·.1) := fun p hp hq => by
    obtain ⟨q, hq, e⟩ := List.mem_map.mp hq
    exact hap p hp q hq e.symm
  have from2 : ∀ p ∈ own ++ tl', h'.get? p.1 = some p.2 ∧ p.1 ≠ L ∧ h₀.get? p.1 = none := fun p hp => by
    refine ⟨(N2 p hp).1, fun e => ?_, ?_⟩
    · have := (N2 p hp).2.2
      rw [e, hL] at this
      cases this
    · cases q : h₀.get? p.1 with
      | none => rfl
      | some o =>
        have := (N2 p hp).2.2
        rw [st _ _ q] at this
        cases this
  refine hret _ h' tk own tl' (FG.keeps F2.keep) hTL' (fun p hp q hq e => ?_) (fun p hp => ?_) (fun p hp q hq e => ?_) kept P
  · rcases List.mem_append.mp hp with h | h
    · exact hap' p h q hq e
    · have h1 := (N2 q (List.mem_append_right _ hq)).2.2
      have h2 := (N p (List.mem_append_left _ h)).1
      rw [← e, hideAll_get _ h2 (nn p h)] at h1
      cases h1
  · rcases List.mem_append.mp hp with h | h
    · rcases List.mem_append.mp h with h | h
      · exact from2 p (List.mem_append_left _ h)
      · exact ⟨kept _ _ (N p (List.mem_append_left _ h)).1 (nn p h), (N p (List.mem_append_left _ h)).2⟩
    · exact from2 p (List.mem_append_right _ h)
  · rename_i q hq e
    have h1 := (N2 p (List.mem_append_left _ hp)).2.2
    have h2 := (N q (List.mem_append_left _ hq)).1
    rw [e, hideAll_get _ h2 (nn q hq)] at h1
    cases h1
end Mine
end
-- I2P
section
open PySem PySem.W PyProof.Rows PySem.Calls
set_option linter.all false
namespace Mine
/-- the digits of a number, the low one first -/
noncomputable def digs (n : Nat) : Nat → Nat → List Int
  | _, 0 => []
  | x, c + 1 => ((x % 2 ^ n : Nat) : Int) :: digs n (x / 2 ^ n) c
theorem digs_length (n : Nat) : ∀ c x, (digs n x c).length = c
  | 0, _ => rfl
  | c + 1, x => by unfold digs; rw [List.length_cons, digs_length n c]
theorem digs_split (n : Nat) : ∀ (a b x : Nat), digs n x (a + b) = digs n (x % 2 ^ (n * a)) a ++ digs n (x / 2 ^ (n * a)) b
  | 0, b, x => by simp [digs]
  | a + 1, b, x => by
    rw [show a + 1 + b = (a + b) + 1 by (first | lia | omega)]
    show ((x % 2 ^ n : Nat) : Int) :: digs n (x / 2 ^ n) (a + b) = (((x % 2 ^ (n * (a + 1))) % 2 ^ n : Nat) : Int) :: digs n ((x % 2 ^ (n * (a + 1))) / 2 ^ n) a ++ digs n (x / 2 ^ (n * (a + 1))) b
    rw [digs_split n a b (x / 2 ^ n)]
    have e1 : 2 ^ (n * (a + 1)) = 2 ^ n * 2 ^ (n * a) := by rw [Nat.mul_add, Nat.mul_one, Nat.pow_add, Nat.mul_comm]
    have e2 : x % 2 ^ (n * (a + 1)) % 2 ^ n = x % 2 ^ n := by rw [e1]; exact Nat.mod_mul_right_mod x (2 ^ n) (2 ^ (n * a))
    have e3 : x % 2 ^ (n * (a + 1)) / 2 ^ n = x / 2 ^ n % 2 ^ (n * a) := by rw [e1, Nat.mod_mul_right_div_self]
    have e4 : x / 2 ^ (n * (a + 1)) = x / 2 ^ n / 2 ^ (n * a) := by rw [e1, Nat.div_div_eq_div_mul]
    rw [e2, e3, e4, List.cons_append]
theorem and_high (x s : Nat) : x &&& (x / 2 ^ s * 2 ^ s) = x / 2 ^ s * 2 ^ s := by
  apply Nat.eq_of_testBit_eq
  intro i
  rw [Nat.testBit_and, ← Nat.shiftLeft_eq, ← Nat.shiftRight_eq_div_pow, Nat.testBit_shiftLeft, Nat.testBit_shiftRight]
  by_cases h : i ≥ s
  · rw [show s + (i - s) = i by (first | lia | omega)]; simp [h]
  · simp [h]
theorem xor_low (x s : Nat) : Builtin.bitXor (x : Int) (((x / 2 ^ s : Nat) : Int) * 2 ^ s) = ((x % 2 ^ s : Nat) : Int) := by
  have e : (((x / 2 ^ s : Nat) : Int) * 2 ^ s) = ((x / 2 ^ s * 2 ^ s : Nat) : Int) := by push_cast; rfl
  rw [e, bitXor_and, bitAnd_pp (Int.natCast_nonneg _) (Int.natCast_nonneg _), Int.toNat_natCast, Int.toNat_natCast, and_high]
  have := Nat.div_add_mod x (2 ^ s)
  have h2 : x / 2 ^ s * 2 ^ s = 2 ^ s * (x / 2 ^ s) := Nat.mul_comm _ _
  (first | lia | omega)
theorem fdiv_nat (x k : Nat) : ((x : Int)).fdiv (2 ^ ((k : Nat) : Int).toNat) = ((x / 2 ^ k : Nat) : Int) := by
  rw [Int.toNat_natCast, Int.fdiv_eq_ediv_of_nonneg _ (Int.le_of_lt (Int.pow_pos (by decide))), Int.natCast_ediv, Int.natCast_pow]
  rfl
theorem mid_nat (Lo cnt : Nat) : ((Lo : Int) + ((Lo + cnt : Nat) : Int)).fdiv (2 ^ Int.toNat 1) = ((Lo + cnt / 2 : Nat) : Int) := by
  have e : ((Lo : Int) + ((Lo + cnt : Nat) : Int)) = ((2 * Lo + cnt : Nat) : Int) := by (first | lia | omega)
  rw [e]
  have h := fdiv_nat (2 * Lo + cnt) 1
  rw [show Int.toNat 1 = ((1 : Nat) : Int).toNat from rfl, h]
  congr 1
  (first | lia | omega)
theorem bits_nat {x k : Nat} (h : x < 2 ^ k) : Builtin.Int.intBits (x : Int) ≤ k := intBits_le (by simpa using h)
/-- the number that digits make, the low one first -/
noncomputable def dval (n : Nat) : List Int → Int
  | [] => 0
  | d :: r => d + 2 ^ n * dval n r
theorem dval_append (n : Nat) : ∀ a b : List Int, dval n (a ++ b) = dval n a + 2 ^ (n * a.length) * dval n b
  | [], b => by simp [dval]
  | d :: a, b => by
    have e : (2 : Int) ^ (n * (a.length + 1)) = 2 ^ n * 2 ^ (n * a.length) := by rw [Nat.mul_add, Nat.mul_one, Int.pow_add, Int.mul_comm]
    show d + 2 ^ n * dval n (a ++ b) = d + 2 ^ n * dval n a + 2 ^ (n * (a.length + 1)) * dval n b
    rw [dval_append n a b, e, Int.mul_add, Int.mul_assoc, Int.add_assoc]
theorem dval_bound (n : Nat) : ∀ a : List Int, (∀ d ∈ a, 0 ≤ d ∧ d < 2 ^ n) → 0 ≤ dval n a ∧ dval n a < 2 ^ (n * a.length)
  | [], _ => by simp [dval]
  | d :: a, h => by
    have h1 := h d (.head _)
    obtain ⟨h2, h3⟩ := dval_bound n a fun x hx => h x (.tail _ hx)
    have e : (2 : Int) ^ (n * (a.length + 1)) = 2 ^ n * 2 ^ (n * a.length) := by rw [Nat.mul_add, Nat.mul_one, Int.pow_add, Int.mul_comm]
    have p : (0 : Int) < 2 ^ n := Int.pow_pos (by decide)
    show 0 ≤ d + 2 ^ n * dval n a ∧ d + 2 ^ n * dval n a < 2 ^ (n * (a.length + 1))
    rw [e]
    have m0 : 0 ≤ 2 ^ n * dval n a := Int.mul_nonneg (Int.le_of_lt p) h2
    have m1 : 2 ^ n * dval n a + 2 ^ n ≤ 2 ^ n * 2 ^ (n * a.length) := by
      have : 2 ^ n * (dval n a + 1) ≤ 2 ^ n * 2 ^ (n * a.length) := Int.mul_le_mul_of_nonneg_left (by (first | lia | omega)) (Int.le_of_lt p)
      rw [Int.mul_add, Int.mul_one] at this
      exact this
    (first | lia | omega)
end Mine
end
-- I2D
section
open PySem PySem.W PyProof.Rows PySem.Calls
set_option Elab.async false
set_option maxRecDepth 100000
set_option linter.all false
set_option maxHeartbeats 0
namespace Mine
noncomputable abbrev inI : Stmt := nthS (fdBody (stm 5)) 1
noncomputable abbrev quI : Str := Str.ofString "_int2digits.<locals>.inner"
/-- what the inner def needs in its ledger -/
noncomputable abbrev ledI (D ca cn ci f c' : Addr) (lo oa on oi fo oc : Obj) : List (Addr × Obj) := [(D, lo), (ca, oa), (cn, on), (ci, oi), (f, fo), (c', oc)]
noncomputable abbrev clI (ca cn ci : Addr) : List (Str × Addr) := [(Str.ofString "n", cn), (Str.ofString "inner", ci), (Str.ofString "a_digits", ca)]
noncomputable abbrev foI (ca cn ci c' : Addr) (doc pm ctv : Value) : Obj := fnMade (Str.ofString "inner") quI (fdArgs inI) (fdBody inI) (fdScope inI) (clI ca cn ci) doc pm c' ctv
/-- a call of the inner def: it writes the digits of x from place Lo on -/
noncomputable def InnerC (w : World) (mean : ExcName → Option Value) (mg mb : Str → Option Value) (D ca cn ci f c' : Addr) (oa on oi oc : Obj) (n : Nat) (doc pm ctv : Value) (cnt : Nat) : Prop :=
  ∀ (x Lo : Nat) (vs : List Value) (is : List Int) (c : Nat) (X A B : Int) (t u v : Tok) (dp un : Nat) (gd : Option (List Code)) (cn' : Str) (cs : Scope) (a : Addr) (ccd : Value) (cl : List (Str × Addr)) (outer : List Env) (A₀ : Around) (base h₀ : Heap) (L : Addr) (m : Str → Option Value) (s : Shared) (Q E : Value → Shared → Prop),
    0 < cnt → x < 2 ^ (n * cnt) → Lo + cnt ≤ vs.length → vs.length ≤ 1000 → X = x → A = Lo → B = Lo + cnt → IntsAre vs is →
    Below A₀ base outer h₀ → Fr h₀ L s.heap m → (K w.params).In h₀ → News h₀ L s.heap (ledI D ca cn ci f c' (PySem.W.listOf vs.toArray c) oa on oi (foI ca cn ci c' doc pm ctv) oc) → Top topProg lw mean mg mb h₀ → cs.kind = .function → dp + cnt + 10 < recursionLimit → un + 20 * cnt + 100 < cLine →
    (∀ h' tk vs' c2, Fr h₀ L h' m → (∀ b o, b ≠ D → s.heap.get? b = some o → h'.get? b = some o) → h'.get? D = some (PySem.W.listOf vs'.toArray c2) → IntsAre vs' (is.take Lo ++ digs n x cnt ++ is.drop (Lo + cnt)) → Q .none { s with heap := h', toks := tk }) →
    wpAny (model PW w) (ktrTop dp un gd cn' cs L a ccd cl outer) (call (.ref f) [.int X t, .int A u, .int B v]) Q E s
/-- the end of the inner def's body -/
noncomputable def OutI (s : Shared) (g : Heap) (L D : Addr) (is : List Int) (rest : List (Addr × Obj)) (f : Flow) (s' : Shared) : Prop :=
  ∃ h' tk m' vs c, s' = { s with heap := h', toks := tk } ∧ Fr g L h' m' ∧ News g L h' ((D, PySem.W.listOf vs.toArray c) :: rest) ∧ (match f with | .ret v => v | _ => .none) = .none ∧ IntsAre vs is
theorem ledI_upd {h h' g : Heap} {L D ca cn ci f c' : Addr} {lo lo' oa on oi fo oc : Obj} (N : News g L h (ledI D ca cn ci f c' lo oa on oi fo oc))
    (d1 : D ≠ ca) (d2 : D ≠ cn) (d3 : D ≠ ci) (d4 : D ≠ f) (d5 : D ≠ c') (k : ∀ b o, b ≠ D → h.get? b = some o → h'.get? b = some o) (hD : h'.get? D = some lo') : News g L h' (ledI D ca cn ci f c' lo' oa on oi fo oc) := by
  intro p hp
  rcases List.mem_cons.mp hp with rfl | hp
  · exact ⟨hD, (N _ (.head _)).2⟩
  · have hne : p.1 ≠ D := by
      simp only [List.mem_cons, List.not_mem_nil, or_false] at hp
      rcases hp with rfl | rfl | rfl | rfl | rfl
      · exact Ne.symm d1
      · exact Ne.symm d2
      · exact Ne.symm d3
      · exact Ne.symm d4
      · exact Ne.symm d5
    exact ⟨k _ _ hne (N p (.tail _ hp)).1, (N p (.tail _ hp)).2⟩
theorem digs_join {α : Type} {is A Bd : List α} {Lo k cnt : Nat} (hk : k ≤ cnt) (hl : Lo + cnt ≤ is.length) (hA : A.length = k) :
    (is.take Lo ++ A ++ is.drop (Lo + k)).take (Lo + k) ++ Bd ++ (is.take Lo ++ A ++ is.drop (Lo + k)).drop (Lo + k + (cnt - k)) = is.take Lo ++ (A ++ Bd) ++ is.drop (Lo + cnt) := by
  have h1 : (is.take Lo ++ A).length = Lo + k := by rw [List.length_append, List.length_take, hA]; (first | lia | omega)
  rw [List.take_left' h1, ← List.drop_drop, List.drop_left' h1, List.drop_drop, List.append_assoc, List.append_assoc, List.append_assoc, List.append_assoc]
  congr 4
  (first | lia | omega)
section
variable {w : World} {mean : ExcName → Option Value} {mg mb : Str → Option Value}
theorem inner_body {D ca cn ci f c' : Addr} {oa on oi oc : Obj} {n : Nat} {tn : Tok} {doc pm ctv : Value} {va : Array Value} {tq : Tok}
    (hoa : oa.data = .cell (some (.ref D))) (hon : on.data = .cell (some (.int n tn))) (hoi : oi.data = .cell (some (.ref f))) (hoc : oc.data = .fields va) (hva : va[1]? = some (.str quI tq))
    (d1 : D ≠ ca) (d2 : D ≠ cn) (d3 : D ≠ ci) (d4 : D ≠ f) (d5 : D ≠ c') (hn : 0 < n) (hn2 : n ≤ 100) {cnt : Nat} (ih : ∀ k, k < cnt → InnerC w mean mg mb D ca cn ci f c' oa on oi oc n doc pm ctv k)
    {x Lo : Nat} {vs : List Value} {is : List Int} {c : Nat} {t u v : Tok} {dp un : Nat} {gd : Option (List Code)} {outer : List Env} {A₀ : Around} {base g : Heap} {L : Addr} {s : Shared}
    (hc : 0 < cnt) (hx : x < 2 ^ (n * cnt)) (hl : Lo + cnt ≤ vs.length) (hv : vs.length ≤ 1000) (hI : IntsAre vs is)
    (B : Below A₀ base outer g) (X : (K w.params).In g) (T : Top topProg lw mean mg mb g) (hd : dp + cnt + 9 < recursionLimit) (hu : un + 20 * cnt + 90 < cLine)
    (F : Fr g L s.heap (lk [(Str.ofString "R", .int (Lo + cnt : Nat) v), (Str.ofString "L", .int Lo u), (Str.ofString "x", .int x t)]))
    (N : News g L s.heap (ledI D ca cn ci f c' (PySem.W.listOf vs.toArray c) oa on oi (foI ca cn ci c' doc pm ctv) oc)) :
    wpAny (model PW w) (ktrTop dp un gd quI (fdScope inI) L f (.ref c') (clI ca cn ci) outer) (execs (fdBody inI) (envX quI (fdScope inI) L f (.ref c') (clI ca cn ci)))
      (OutI s g L D (is.take Lo ++ digs n x cnt ++ is.drop (Lo + cnt)) [(ca, oa), (cn, on), (ci, oi), (f, foI ca cn ci c' doc pm ctv), (c', oc)]) (fun _ _ => False) s := by
  have hK : CodeHd g 42 38 := codeHd_of_K X (by kernel_rfl)
  rcases Nat.lt_or_ge 1 cnt with h1 | h1
  · (repeat' (first | (exfalso; (fail_if_success (fail_if_success omega)); (first | lia | omega)) | ((fail_if_success (first | with_reducible show wpAny _ _ (binaryOp Operator.Mult _ _) _ _ _ | with_reducible show wpAny _ _ (binaryOp Operator.LShift _ _) _ _ _ | with_reducible show wpAny _ _ (binaryOp Operator.BitXor _ _) _ _ _ | with_reducible show wpAny _ _ (binaryOp Operator.RShift (Value.int _ _) (Value.int (Nat.cast _) _)) _ _ _ | with_reducible show wpAny _ _ (call (Value.ref _) _) _ _ _)); first | (walk1; try dsimp only) | leave1)))
    obtain ⟨k, hk⟩ : ∃ k, k = cnt / 2 := ⟨_, rfl⟩
    have hk0 : 0 < k := by (first | lia | omega)
    have hk1 : k < cnt := by (first | lia | omega)
    have hk2 : cnt - k < cnt := by (first | lia | omega)
    have hns : n * k + n * (cnt - k) = n * cnt := by rw [← Nat.mul_add]; congr 1; (first | lia | omega)
    have hnc : n * cnt ≤ 100 * 1000 := Nat.mul_le_mul hn2 (by (first | lia | omega))
    rename Fr _ _ _ _ => F1
    rename News _ _ _ _ => N1
    simp only [mid_nat, ← hk] at F1 ⊢
    have em : ((Lo + k : Nat) : Int) - (Lo : Int) = ((k : Nat) : Int) := by (first | lia | omega)
    rw [em]
    refine P.mul_int ?_ (IntMulOk.of_left (intBits_le_64 (by (first | lia | omega)) (by (first | lia | omega))))
    rw [show ((k : Nat) : Int) * (n : Int) = ((n * k : Nat) : Int) by rw [Nat.mul_comm, Int.natCast_mul]]
    have hlow : x % 2 ^ (n * k) < 2 ^ (n * k) := Nat.mod_lt _ (Nat.two_pow_pos _)
    have hup : x / 2 ^ (n * k) < 2 ^ (n * (cnt - k)) := by
      rw [Nat.div_lt_iff_lt_mul (Nat.two_pow_pos _), ← Nat.pow_add]
      rw [show n * (cnt - k) + n * k = n * cnt by (first | lia | omega)]
      exact hx
    have hdg := digs_split n k (cnt - k) x
    rw [show k + (cnt - k) = cnt by (first | lia | omega)] at hdg
    generalize hs : n * k = sh at *
    dsimp only
    (repeat' (first | (exfalso; (fail_if_success (fail_if_success omega)); (first | lia | omega)) | ((fail_if_success (first | with_reducible show wpAny _ _ (binaryOp Operator.Mult _ _) _ _ _ | with_reducible show wpAny _ _ (binaryOp Operator.LShift _ _) _ _ _ | with_reducible show wpAny _ _ (binaryOp Operator.BitXor _ _) _ _ _ | with_reducible show wpAny _ _ (binaryOp Operator.RShift (Value.int _ _) (Value.int (Nat.cast _) _)) _ _ _ | with_reducible show wpAny _ _ (call (Value.ref _) _) _ _ _)); first | (walk1; try dsimp only) | leave1)))
    refine rshift_int (Int.natCast_nonneg _) ?_
    rw [fdiv_nat]
    dsimp only
    (repeat' (first | (exfalso; (fail_if_success (fail_if_success omega)); (first | lia | omega)) | ((fail_if_success (first | with_reducible show wpAny _ _ (binaryOp Operator.Mult _ _) _ _ _ | with_reducible show wpAny _ _ (binaryOp Operator.LShift _ _) _ _ _ | with_reducible show wpAny _ _ (binaryOp Operator.BitXor _ _) _ _ _ | with_reducible show wpAny _ _ (binaryOp Operator.RShift (Value.int _ _) (Value.int (Nat.cast _) _)) _ _ _ | with_reducible show wpAny _ _ (call (Value.ref _) _) _ _ _)); first | (walk1; try dsimp only) | leave1)))
    refine lshift_int (Int.natCast_nonneg _) ?_ ?_
    · have := bits_nat hup
      have h3 : n * (cnt - k) ≤ n * cnt := by (first | lia | omega)
      have h4 : Builtin.Int.intBits ((x / 2 ^ sh : Nat) : Int) + sh ≤ 200000 := by (first | lia | omega)
      have h5 : ((Builtin.Int.intBits ((x / 2 ^ sh : Nat) : Int) : Nat) : Int) + (sh : Int) ≤ 200000 := by (first | lia | omega)
      exact Int.le_trans h5 (by decide)
    rw [Int.toNat_natCast]
    dsimp only
    (repeat' (first | (exfalso; (fail_if_success (fail_if_success omega)); (first | lia | omega)) | ((fail_if_success (first | with_reducible show wpAny _ _ (binaryOp Operator.Mult _ _) _ _ _ | with_reducible show wpAny _ _ (binaryOp Operator.LShift _ _) _ _ _ | with_reducible show wpAny _ _ (binaryOp Operator.BitXor _ _) _ _ _ | with_reducible show wpAny _ _ (binaryOp Operator.RShift (Value.int _ _) (Value.int (Nat.cast _) _)) _ _ _ | with_reducible show wpAny _ _ (call (Value.ref _) _) _ _ _)); first | (walk1; try dsimp only) | leave1)))
    refine xor_int ?_
    rw [xor_low]
    dsimp only
    (repeat' (first | (exfalso; (fail_if_success (fail_if_success omega)); (first | lia | omega)) | ((fail_if_success (first | with_reducible show wpAny _ _ (binaryOp Operator.Mult _ _) _ _ _ | with_reducible show wpAny _ _ (binaryOp Operator.LShift _ _) _ _ _ | with_reducible show wpAny _ _ (binaryOp Operator.BitXor _ _) _ _ _ | with_reducible show wpAny _ _ (binaryOp Operator.RShift (Value.int _ _) (Value.int (Nat.cast _) _)) _ _ _ | with_reducible show wpAny _ _ (call (Value.ref _) _) _ _ _)); first | (walk1; try dsimp only) | leave1)))
    rename Fr _ _ _ _ => F1
    rename News _ _ _ _ => N1
    have hlen := hI.length
    refine ih k hk1 (x % 2 ^ sh) Lo vs is c _ _ _ _ _ _ _ _ _ _ _ _ _ _ _ _ _ _ _ _ _ _ _ hk0 (hs.symm ▸ hlow) (by (first | lia | omega)) hv rfl rfl (by (first | lia | omega)) hI B F1 X N1 T rfl (by (first | lia | omega)) (by (first | lia | omega)) ?_
    intro h2 tk2 vs2 c2 F2 k2 hD2 hI2
    have N2 := ledI_upd N1 d1 d2 d3 d4 d5 k2 hD2
    clear F1 N1
    dsimp only
    (repeat' (first | (exfalso; (fail_if_success (fail_if_success omega)); (first | lia | omega)) | ((fail_if_success (first | with_reducible show wpAny _ _ (binaryOp Operator.Mult _ _) _ _ _ | with_reducible show wpAny _ _ (binaryOp Operator.LShift _ _) _ _ _ | with_reducible show wpAny _ _ (binaryOp Operator.BitXor _ _) _ _ _ | with_reducible show wpAny _ _ (binaryOp Operator.RShift (Value.int _ _) (Value.int (Nat.cast _) _)) _ _ _ | with_reducible show wpAny _ _ (call (Value.ref _) _) _ _ _)); first | (walk1; try dsimp only) | leave1)))
    rename Fr _ _ _ _ => F3
    rename News _ _ _ _ => N3
    have hlen2 := hI2.length
    simp only [List.length_append, List.length_take, List.length_drop, digs_length] at hlen2
    refine ih (cnt - k) hk2 (x / 2 ^ sh) (Lo + k) vs2 _ c2 _ _ _ _ _ _ _ _ _ _ _ _ _ _ _ _ _ _ _ _ _ _ _ (by (first | lia | omega)) hup (by (first | lia | omega)) (by (first | lia | omega)) rfl rfl (by (first | lia | omega)) hI2 B F3 X N3 T rfl (by (first | lia | omega)) (by (first | lia | omega)) ?_
    intro h4 tk4 vs4 c4 F4 k4 hD4 hI4
    have N4 := ledI_upd N3 d1 d2 d3 d4 d5 k4 hD4
    clear F3 N3
    dsimp only
    (repeat' (first | (exfalso; (fail_if_success (fail_if_success omega)); (first | lia | omega)) | ((fail_if_success (first | with_reducible show wpAny _ _ (binaryOp Operator.Mult _ _) _ _ _ | with_reducible show wpAny _ _ (binaryOp Operator.LShift _ _) _ _ _ | with_reducible show wpAny _ _ (binaryOp Operator.BitXor _ _) _ _ _ | with_reducible show wpAny _ _ (binaryOp Operator.RShift (Value.int _ _) (Value.int (Nat.cast _) _)) _ _ _ | with_reducible show wpAny _ _ (call (Value.ref _) _) _ _ _)); first | (walk1; try dsimp only) | leave1)))
    rename Fr _ _ _ _ => F5
    rename News _ _ _ _ => N5
    refine ⟨_, _, _, _, _, rfl, F5, N5, rfl, ?_⟩
    rw [digs_join (Nat.le_of_lt hk1) (by (first | lia | omega)) (digs_length _ _ _), ← hdg] at hI4
    exact hI4
  · have e1 : cnt = 1 := by (first | lia | omega)
    subst e1
    clear ih
    repeat' (first | (exfalso; (fail_if_success (fail_if_success omega)); (first | lia | omega)) | (walk1; try dsimp only) | leave1)
    rename Fr _ _ _ _ => F1
    have hlen := hI.length
    refine ksa_set (vs := vs) (n := c) (news' := ledI D ca cn ci f c' (PySem.W.listOf (vs.set (Lo : Int).toNat (.int x t)).toArray c) oa on oi (foI ca cn ci c' doc pm ctv) oc) F1 N (Upd.head ?_) hI (by (first | lia | omega)) (by (first | lia | omega)) (by (first | lia | omega)) ?_
    · intro p hp
      simp only [List.mem_cons, List.not_mem_nil, or_false] at hp
      rcases hp with rfl | rfl | rfl | rfl | rfl
      · exact Ne.symm d1
      · exact Ne.symm d2
      · exact Ne.symm d3
      · exact Ne.symm d4
      · exact Ne.symm d5
    intro h2 F2 N2 hI2 _ _
    clear F1
    repeat' (first | (exfalso; (fail_if_success (fail_if_success omega)); (first | lia | omega)) | (walk1; try dsimp only) | leave1)
    rename Fr _ _ _ _ => F3
    rename News _ _ _ _ => N3
    refine ⟨_, _, _, _, _, rfl, F3, N3, rfl, ?_⟩
    have hx1 : x % 2 ^ n = x := Nat.mod_eq_of_lt (by simpa using hx)
    have e2 : is.set Lo (x : Int) = is.take Lo ++ digs n x 1 ++ is.drop (Lo + 1) := by
      have hlt : Lo < is.length := by (first | lia | omega)
      rw [List.set_eq_take_append_cons_drop, if_pos hlt]
      simp [digs, hx1]
    exact e2 ▸ hI2
end
end Mine
end
-- I2E
section
open PySem PySem.W PyProof.Rows PySem.Calls
set_option Elab.async false
set_option maxRecDepth 100000
set_option linter.all false
set_option maxHeartbeats 0
namespace Mine
section
variable {w : World} {mean : ExcName → Option Value} {mg mb : Str → Option Value}
theorem inner_i2d {D ca cn ci f c' : Addr} {oa on oi oc : Obj} {n : Nat} {tn : Tok} {doc pm ctv : Value} {va : Array Value} {tq : Tok}
    (hoa : oa.data = .cell (some (.ref D))) (hon : on.data = .cell (some (.int n tn))) (hoi : oi.data = .cell (some (.ref f))) (hoc : oc.data = .fields va) (hva : va[1]? = some (.str quI tq))
    (d1 : D ≠ ca) (d2 : D ≠ cn) (d3 : D ≠ ci) (d4 : D ≠ f) (d5 : D ≠ c') (hn : 0 < n) (hn2 : n ≤ 100) :
    ∀ cnt : Nat, InnerC w mean mg mb D ca cn ci f c' oa on oi oc n doc pm ctv cnt := by
  intro cnt
  induction cnt using Nat.strongRecOn with
  | ind cnt ih =>
  intro x Lo vs is c X A B t u v dp un gd cn' cs a ccd cl outer A₀ base h₀ L m s Q E hc hx hl hv eX eA eB hI Be F Xk N T hk hd hu hret
  subst eX eA
  have eB' : B = ((Lo + cnt : Nat) : Int) := by (first | lia | omega)
  subst eB'
  refine wpAny_call ?_
  have A1 : (ktrTop dp un gd cn' cs L a ccd cl outer).frames = some (envX cn' cs L a ccd cl :: outer) := rfl
  obtain ⟨FG, BG, st, lv⟩ := groundX (R := fun _ _ => True) Be F N A1 rfl hk
  have Xg := Xk.keeps st
  have Tg := T.keeps st
  refine codeAny_call_def (fd := fnX (Str.ofString "inner") quI (fdArgs inI) (fdBody inI) (fdScope inI) (clI ca cn ci) .none .none doc pm none (.ref c') ctv) (body := fdBody inI) (binds := [(Str.ofString "x", .int x t), (Str.ofString "L", .int Lo u), (Str.ofString "R", .int (Lo + cnt : Nat) v)])
    (by show dp < recursionLimit; (first | lia | omega)) (N _ (.tail _ (.tail _ (.tail _ (.tail _ (.head _)))))).1 rfl (T.nolimit.keeps F.keep) (codeRec_news N (.tail _ (.tail _ (.tail _ (.tail _ (.tail _ (.head _)))))) hoc hva) rfl (BindsTo.of_eq rfl) (show ∀ x ∈ (fdScope inI).names, x.2 ≠ .cell by decide) (locs rfl) (fun h₁ hns hk₁ => ?_) rfl rfl rfl
  have F' : Fr (hideAll s.heap [D, ca, cn, ci, f, c']) s.heap.objs.size h₁ (lk [(Str.ofString "R", .int (Lo + cnt : Nat) v), (Str.ofString "L", .int Lo u), (Str.ofString "x", .int x t)]) := ⟨hns, fun b o e => hk₁ b o (of_hideAll _ e), Nat.le_of_eq (hideAll_size _ _)⟩
  have N' : News (hideAll s.heap [D, ca, cn, ci, f, c']) s.heap.objs.size h₁ (ledI D ca cn ci f c' (PySem.W.listOf vs.toArray c) oa on oi (foI ca cn ci c' doc pm ctv) oc) := fun p hp =>
    ⟨hk₁ _ _ (N p hp).1, Nat.ne_of_lt (Heap.lt_size (N p hp).1), hideAll_none _ (List.mem_map_of_mem hp)⟩
  refine wpAny_mono (inner_body (dp := dp + 1) (un := un + 3) (gd := gd) (outer := envX cn' cs L a ccd cl :: outer) (s := { s with heap := h₁, toks := s.toks + 3 }) hoa hon hoi hoc hva d1 d2 d3 d4 d5 hn hn2 ih hc hx hl hv hI BG Xg Tg (by (first | lia | omega)) (by (first | lia | omega)) F' N') ?_ (fun _ _ e => e.elim)
  rintro fl s' ⟨h', tk, m', vs', c2, rfl, F2, N2, hq, hI'⟩
  have fin := hret h' tk vs' c2 (FG.keeps F2.keep) (fun b o hb e => ?_) (N2 _ (.head _)).1 hI'
  · rw [← hq] at fin
    exact fin
  · by_cases hm : b ∈ [D, ca, cn, ci, f, c']
    · have pick : ∀ p ∈ [(ca, oa), (cn, on), (ci, oi), (f, foI ca cn ci c' doc pm ctv), (c', oc)], b = p.1 → h'.get? b = some o := fun p hp q => by
        have q1 := (N2 p (.tail _ hp)).1
        have q2 := (N p (.tail _ hp)).1
        rw [← q] at q1 q2
        rw [e] at q2
        rw [q1, q2]
      simp only [List.mem_cons, List.not_mem_nil, or_false] at hm
      rcases hm with q | q | q | q | q | q
      · exact absurd q hb
      · exact pick _ (.head _) q
      · exact pick _ (.tail _ (.head _)) q
      · exact pick _ (.tail _ (.tail _ (.head _))) q
      · exact pick _ (.tail _ (.tail _ (.tail _ (.head _)))) q
      · exact pick _ (.tail _ (.tail _ (.tail _ (.tail _ (.head _))))) q
    · exact F2.keep _ _ (hideAll_get _ e hm)
end
end Mine
end
-- I2A
section
open PySem PySem.W PyProof.Rows PySem.Calls
set_option Elab.async false
set_option maxRecDepth 100000
set_option linter.all false
set_option maxHeartbeats 0
namespace Mine
/-- how many digits -/
noncomputable def lenI (n x : Nat) : Nat := (Builtin.Int.intBits x + n - 1) / n
noncomputable def DigPost (n x : Nat) (r : Value) (own : List (Addr × Obj)) : Prop := ∃ (D : Addr) (vs : List Value) (c : Nat), r = .ref D ∧ own = [(D, PySem.W.listOf vs.toArray c)] ∧ IntsAre vs (digs n x (lenI n x))
theorem tailNe {tl : List (Addr × Obj)} {L d : Nat} (h : ∀ p ∈ tl, p.1 < L) (h2 : L ≤ d) : ∀ p ∈ tl, p.1 ≠ d := fun p hp => Nat.ne_of_lt (Nat.lt_of_lt_of_le (h p hp) h2)
local macro_rules | `(tactic| k_all) => `(tactic| exact tailNe (by assumption) (by omega))
/-- behind the inner def -/
noncomputable def AfterI (s₀ : Shared) (g : Heap) (L : Addr) (m : Str → Option Value) (D : Addr) (lo oa on : Obj) (f : Flow) (s' : Shared) : Prop :=
  f = .next ∧ ∃ (h' : Heap) (tk : Nat) (f c' : Addr) (oc oi : Obj) (va : Array Value) (tq : Tok) (doc pm ctv : Value) (tl : List (Addr × Obj)), s' = { s₀ with heap := h', toks := tk } ∧ Fr g L h' m ∧ TL tl ∧ (c', oc) ∈ tl ∧ oc.data = .fields va ∧ va[1]? = some (.str quI tq) ∧ oi.data = .cell (some (.ref f)) ∧
    News g L h' ((f, foI (L + 1 + 1) (L + 1) (L + 1 + 1 + 1) c' doc pm ctv) :: (D, lo) :: (L + 1 + 1 + 1, oi) :: (L + 1 + 1, oa) :: (L + 1, on) :: tl) ∧ D < f ∧ ∀ p ∈ tl, p.1 ≠ D
theorem apart_of {tl : List (Addr × Obj)} {L d : Nat} (h : ∀ p ∈ tl, p.1 < L) (h2 : L ≤ d) : ∀ p ∈ tl, p.1 ≠ d := tailNe h h2
theorem afterI {w : World} {mean : ExcName → Option Value} {mg mb : Str → Option Value} {dp un : Nat} {gd : Option (List Code)} {outer : List Env} {A₀ : Around} {base g : Heap} {L D : Addr} {m : Str → Option Value} {s : Shared} {lo oi oa on : Obj} {tl : List (Addr × Obj)}
    (B : Below A₀ base outer g) (X : (K w.params).In g) (T : Top topProg lw mean mg mb g) (hTL : TL tl) (hlow : ∀ p ∈ tl, p.1 < L) (hD : @LT.lt Nat _ (L + 1 + 1 + 1) D) (hoi : oi.data = .cell none)
    (F : Fr g L s.heap m) (N : News g L s.heap ((D, lo) :: (L + 1 + 1 + 1, oi) :: (L + 1 + 1, oa) :: (L + 1, on) :: tl)) :
    wpAny (model PW w) (ktrTop dp un gd (Str.ofString "_int2digits") (fdScope (stm 5)) L 43 (Value.ref 42) (cellsFrom (L + 1) (fdScope (stm 5)).names []) outer) (exec inI (envOfC (Str.ofString "_int2digits") (fdScope (stm 5)) L 43 (Value.ref 42))) (AfterI s g L m D lo oa on) (fun _ _ => False) s := by
  have hK : CodeHd g 42 38 := codeHd_of_K X (by kernel_rfl)
  refine nestDef_K rfl rfl rfl ?_
  have hnd : ∀ p ∈ tl, p.1 ≠ D := tailNe hlow (by (first | lia | omega))
  obtain ⟨ps, qs, codes, rfl, hti, htd, hcd⟩ := hTL
  have l38 : (38 : Nat) < L := hlow _ (.head _)
  have l45 : (45 : Nat) < L := hlow _ (.tail _ (.head _))
  rcases hti with rfl | ⟨c', oc, vs, t, rfl, hm, ho, hv⟩
  · refine nest_K (P := 38) (ps := #[]) F N T hK rfl (.tail ?_ (.tail ?_ (.tail ?_ (.tail ?_ (.head ?_))))) (by kn_triples) (by kn_among) rfl ?_
    · exact Nat.ne_of_gt (by (first | lia | omega))
    · exact Nat.ne_of_gt (by (first | lia | omega))
    · exact Nat.ne_of_gt (by (first | lia | omega))
    · exact Nat.ne_of_gt (by (first | lia | omega))
    · intro p hp
      rcases List.mem_cons.mp hp with rfl | hp
      · exact (by decide : (45 : Nat) ≠ 38)
      · exact Nat.ne_of_gt (Nat.lt_trans (by decide : (38 : Nat) < 45) (hcd p hp))
    intro f c' oc vs t ctv doc h' tk F' N' ho hv l1 l2
    dsimp only at N'
    have cD : @LT.lt Nat _ D c' := l1 _ (.head _)
    have c3 : @LT.lt Nat _ (L + 1 + 1 + 1) c' := Nat.lt_trans hD cD
    have cc : ∀ p ∈ codes, @LT.lt Nat _ p.1 L := fun p hp => hlow p (.tail _ (.tail _ hp))
    refine storeX_C (c := L + 1 + 1 + 1) F' N' rfl (.tail ?_ (.tail ?_ (.tail ?_ (.head ?_)))) hoi ?_ rfl rfl
    · exact Nat.ne_of_gt (Nat.lt_trans c3 l2)
    · exact Nat.ne_of_gt c3
    · exact Nat.ne_of_gt hD
    · intro p hp
      rcases List.mem_cons.mp hp with rfl | hp
      · exact Nat.ne_of_lt (Nat.lt_succ_self _)
      rcases List.mem_cons.mp hp with rfl | hp
      · exact Nat.ne_of_lt (Nat.lt_succ_of_lt (Nat.lt_succ_self _))
      rcases List.mem_cons.mp hp with rfl | hp
      · exact Nat.ne_of_lt (by (first | lia | omega))
      rcases List.mem_cons.mp hp with rfl | hp
      · exact Nat.ne_of_lt (by (first | lia | omega))
      · exact Nat.ne_of_lt (by have := cc p hp; (first | lia | omega))
    intro h2 oi' F2 N2 hoi'
    refine ⟨rfl, h2, tk, f, c', oc, oi', vs, t, doc, ((mg (Str.ofString "__name__")).getD Value.none), ctv, (38, tabObj (#[] ++ #[rawInt 73, rawInt 4, Value.ref c'])) :: (45, tabObj qs) :: (c', oc) :: codes, rfl, F2, ?_, .tail _ (.tail _ (.head _)), ho, hv, hoi', ?_, Nat.lt_trans cD l2, ?_⟩
    · refine ⟨_, _, _, rfl, .inr ⟨c', oc, vs, t, rfl, .head _, ho, hv⟩, ?_, ?_⟩
      · rcases htd with rfl | ⟨d, od, vd, td, rfl, hmd, hod, hvd⟩
        · exact .inl rfl
        · exact .inr ⟨d, od, vd, td, rfl, .tail _ hmd, hod, hvd⟩
      · intro p hp
        rcases List.mem_cons.mp hp with rfl | hp
        · show @LT.lt Nat _ 45 c'
          (first | lia | omega)
        · exact hcd p hp
    · refine news_sub N2 fun p hp => ?_
      rcases List.mem_cons.mp hp with rfl | hp
      · exact .head _
      rcases List.mem_cons.mp hp with rfl | hp
      · exact .tail _ (.tail _ (.head _))
      rcases List.mem_cons.mp hp with rfl | hp
      · exact .tail _ (.tail _ (.tail _ (.head _)))
      rcases List.mem_cons.mp hp with rfl | hp
      · exact .tail _ (.tail _ (.tail _ (.tail _ (.head _))))
      rcases List.mem_cons.mp hp with rfl | hp
      · exact .tail _ (.tail _ (.tail _ (.tail _ (.tail _ (.head _)))))
      rcases List.mem_cons.mp hp with rfl | hp
      · exact .tail _ (.tail _ (.tail _ (.tail _ (.tail _ (.tail _ (.head _))))))
      rcases List.mem_cons.mp hp with rfl | hp
      · exact .tail _ (.tail _ (.tail _ (.tail _ (.tail _ (.tail _ (.tail _ (.head _)))))))
      rcases List.mem_cons.mp hp with rfl | hp
      · exact .tail _ (.head _)
      · exact .tail _ (.tail _ (.tail _ (.tail _ (.tail _ (.tail _ (.tail _ (.tail _ hp)))))))
    · intro p hp
      rcases List.mem_cons.mp hp with rfl | hp
      · exact hnd (38, tabObj #[]) (.head _)
      rcases List.mem_cons.mp hp with rfl | hp
      · exact hnd (45, tabObj qs) (.tail _ (.head _))
      rcases List.mem_cons.mp hp with rfl | hp
      · exact Nat.ne_of_gt cD
      · exact hnd p (.tail _ (.tail _ hp))
  · refine nestHit_K (P := 38) F N T hK rfl (.tail _ (.tail _ (.tail _ (.tail _ (.head _))))) (by kn_triples) (by kn_hit) rfl ?_
    intro f ctv doc h' tk F' N' l1
    have cD : @LT.lt Nat _ D f := l1 _ (.head _)
    refine storeX_C (c := L + 1 + 1 + 1) F' N' rfl (.tail ?_ (.tail ?_ (.head ?_))) hoi ?_ rfl rfl
    · exact Nat.ne_of_gt (Nat.lt_trans hD cD)
    · exact Nat.ne_of_gt hD
    · intro p hp
      rcases List.mem_cons.mp hp with rfl | hp
      · exact Nat.ne_of_lt (Nat.lt_succ_self _)
      rcases List.mem_cons.mp hp with rfl | hp
      · exact Nat.ne_of_lt (Nat.lt_succ_of_lt (Nat.lt_succ_self _))
      · exact Nat.ne_of_lt (Nat.lt_of_lt_of_le (hlow p hp) (by show L ≤ L + 1 + 1 + 1; exact Nat.le_of_lt (Nat.lt_succ_of_lt (Nat.lt_succ_of_lt (Nat.lt_succ_self _)))))
    intro h2 oi' F2 N2 hoi'
    exact ⟨rfl, h2, tk, f, c', oc, oi', vs, t, doc, _, ctv, (38, tabObj #[rawInt 73, rawInt 4, Value.ref c']) :: (45, tabObj qs) :: codes, rfl, F2, ⟨_, _, _, rfl, .inr ⟨c', oc, vs, t, rfl, hm, ho, hv⟩, htd, hcd⟩, .tail _ (.tail _ hm), ho, hv, hoi', N2, cD, hnd⟩
end Mine
end
-- I2B
section
open PySem PySem.W PyProof.Rows PySem.Calls
set_option Elab.async false
set_option maxRecDepth 100000
set_option linter.all false
set_option maxHeartbeats 0
namespace Mine
local macro_rules | `(tactic| k_all) => `(tactic| exact tailNe (by assumption) (by omega))
theorem i2d {w : World} {mean mg mb} {x n : Nat} {t u : Tok} (hn : 0 < n) (hn2 : n ≤ 100) (hx : Builtin.Int.intBits x ≤ 48) : CtrG w mean mg mb 43 [.int x t, .int n u] (70+1) (1200+3) (fun _ => True) (fun _ r own => DigPost n x r own) := by
  refine enterG (binds := [(Str.ofString "a", .int x t), (Str.ofString "n", .int n u)]) (by rfl) (by rfl) (fun s _ => BindsTo.of_eq rfl) (by rfl) (by decide +kernel) ?_ rfl rfl rfl
  intro dp un gd outer A₀ base g L cells tl s B X T hd hu _ hTL hlow F N Y
  obtain ⟨oi0, oa0, on0, hE, hi0, ha0, hn0⟩ := CellsAre.three Y
  subst hE
  clear Y
  have hK : CodeHd g 42 38 := codeHd_of_K X (by kernel_rfl)
  simp only [List.cons_append, List.nil_append] at N
  (repeat' (first | (exfalso; (fail_if_success (fail_if_success omega)); (first | lia | omega)) | ((fail_if_success (first | with_reducible show wpAny _ _ (binaryOp Operator.Mult _ _) _ _ _ | with_reducible show wpAny _ _ (binaryOp Operator.FloorDiv _ _) _ _ _ | with_reducible show wpAny _ _ (exec (Stmt.FunctionDef _ _ _ _ _ _ _ _ _ _) _) _ _ _ | with_reducible show wpAny _ _ (call (Value.ref _) _) _ _ _)); first | (walk1; try dsimp only) | leave1)))
  have hl : (((Builtin.Int.intBits (x : Int) : Nat) : Int) + (n : Int) - 1).fdiv (n : Int) = ((lenI n x : Nat) : Int) := by
    rw [Int.fdiv_eq_ediv_of_nonneg _ (Int.natCast_nonneg _)]
    have e : ((Builtin.Int.intBits (x : Int) : Nat) : Int) + (n : Int) - 1 = ((Builtin.Int.intBits (x : Int) + n - 1 : Nat) : Int) := by (first | lia | omega)
    rw [e, ← Int.natCast_ediv]
    rfl
  have hlen : lenI n x ≤ 48 := by
    unfold lenI
    have h1 : Builtin.Int.intBits (x : Int) + n - 1 < 49 * n := by
      have : 49 * n = 48 * n + n := by (first | lia | omega)
      have : 48 ≤ 48 * n := Nat.le_mul_of_pos_right _ hn
      (first | lia | omega)
    exact Nat.le_of_lt_succ ((Nat.div_lt_iff_lt_mul hn).mpr h1)
  refine floordiv_int (by (first | lia | omega)) ?_ (Or.inl (PyProof.noPylong_of_log2 ?_))
  rw [hl]
  dsimp only
  rename News _ _ _ _ => N1
  rename Fr _ _ _ _ => F1
  refine KMa.mul (vs := [_]) (ws := List.replicate (lenI n x) (.int 0 s.toks)) F1 N1 ⟨_, (N1 _ (.head _)).1, rfl, 0, rfl⟩ (by (first | lia | omega)) (by (first | lia | omega)) ?_ ?_ ?_
  · rw [Int.toNat_natCast]
    show 1 * lenI n x ≤ 256
    (first | lia | omega)
  · rw [Int.toNat_natCast]
    induction lenI n x with
    | zero => rfl
    | succ k ih => rw [List.replicate_succ, List.replicate_succ, List.flatten_cons, ih]; rfl
  intro D h2 F2 N2 l2
  k_lt l2
  clear F1 N1
  (repeat' (first | (exfalso; (fail_if_success (fail_if_success omega)); (first | lia | omega)) | ((fail_if_success (first | with_reducible show wpAny _ _ (binaryOp Operator.Mult _ _) _ _ _ | with_reducible show wpAny _ _ (binaryOp Operator.FloorDiv _ _) _ _ _ | with_reducible show wpAny _ _ (exec (Stmt.FunctionDef _ _ _ _ _ _ _ _ _ _) _) _ _ _ | with_reducible show wpAny _ _ (call (Value.ref _) _) _ _ _)); first | (walk1; try dsimp only) | leave1)))
  rename Fr _ _ _ _ => F3
  rename News _ _ _ _ => N3
  rename PySem.Obj.data _ = _ => hoa
  rename PySem.Obj => oa1
  have N4 := news_sub (news' := (D, PySem.W.listOf (List.replicate (lenI n x) (Value.int 0 s.toks)).toArray 0) :: (L + 1 + 1 + 1, oi0) :: (L + 1 + 1, _) :: (L + 1, on0) :: tl) N3 (fun p hp => by
    rcases List.mem_cons.mp hp with rfl | hp
    · exact .head _
    · exact .tail _ (.tail _ hp))
  refine wpAny_mono (afterI B X T hTL hlow l2.2.1 hi0 F3 N4) ?_ (fun _ _ e => e.elim)
  rintro _ _ ⟨rfl, h5, tk5, f, c', oc, oi5, va, tq, doc, pm, ctv, tl5, rfl, F5, hTL5, hm5, hoc, hva, hoi5, N5, hDf, hap5⟩
  clear F3 N3 N4
  dsimp only
  have gg : ∀ (h' : Heap) (tk : Nat) (m' : Str → Option Value) (vs : List Value) (c : Nat) (oi oa : Obj), Fr g L h' m' → News g L h' ((f, foI (L + 1 + 1) (L + 1) (L + 1 + 1 + 1) c' doc pm ctv) :: (D, PySem.W.listOf vs.toArray c) :: (L + 1 + 1 + 1, oi) :: (L + 1 + 1, oa) :: (L + 1, on0) :: tl5) →
      IntsAre vs (digs n x (lenI n x)) → OutG s g L (fun r own => DigPost n x r own) (.ret (.ref D)) { s with heap := h', toks := tk } := fun h' tk m' vs c oi oa F N hI =>
    ⟨h', tk, m', [(D, PySem.W.listOf vs.toArray c)], tl5, rfl, F, hTL5, (fun p hp q hq e => by rw [List.mem_singleton.mp hp] at e; exact hap5 q hq e.symm), news_sub N (fun p hp => by
      rcases List.mem_cons.mp hp with rfl | hp
      · exact .tail _ (.head _)
      · exact .tail _ (.tail _ (.tail _ (.tail _ (.tail _ hp))))), D, vs, c, rfl, rfl, hI⟩
  have hIr : IntsAre (List.replicate (lenI n x) (Value.int 0 s.toks)) (List.replicate (lenI n x) 0) := by
    generalize lenI n x = k
    induction k with
    | zero => exact .nil
    | succ k ih => exact .cons _ _ ih
  rcases Nat.eq_zero_or_pos x with h0 | h0
  · subst h0
    have hz : lenI n 0 = 0 := by
      show (0 + n - 1) / n = 0
      exact Nat.div_eq_of_lt (by (first | lia | omega))
    (repeat' (first | (exfalso; (fail_if_success (fail_if_success omega)); (first | lia | omega)) | ((fail_if_success (first | with_reducible show wpAny _ _ (binaryOp Operator.Mult _ _) _ _ _ | with_reducible show wpAny _ _ (binaryOp Operator.FloorDiv _ _) _ _ _ | with_reducible show wpAny _ _ (exec (Stmt.FunctionDef _ _ _ _ _ _ _ _ _ _) _) _ _ _ | with_reducible show wpAny _ _ (call (Value.ref _) _) _ _ _)); first | (walk1; try dsimp only) | leave1)))
    rename Fr _ _ _ _ => F6
    rename News _ _ _ _ => N6
    refine gg _ _ _ _ _ _ _ F6 N6 ?_
    rw [hz] at hIr ⊢
    exact hIr
  · (repeat' (first | (exfalso; (fail_if_success (fail_if_success omega)); (first | lia | omega)) | ((fail_if_success (first | with_reducible show wpAny _ _ (binaryOp Operator.Mult _ _) _ _ _ | with_reducible show wpAny _ _ (binaryOp Operator.FloorDiv _ _) _ _ _ | with_reducible show wpAny _ _ (exec (Stmt.FunctionDef _ _ _ _ _ _ _ _ _ _) _) _ _ _ | with_reducible show wpAny _ _ (call (Value.ref _) _) _ _ _)); first | (walk1; try dsimp only) | leave1)))
    have hne : (x : Int) ≠ 0 := by (first | lia | omega)
    have hb1 : 1 ≤ Builtin.Int.intBits (x : Int) := by
      unfold Builtin.Int.intBits
      rw [if_neg (by simpa using hne)]
      (first | lia | omega)
    have hlen1 : 0 < lenI n x := by
      unfold lenI
      exact Nat.div_pos (by (first | lia | omega)) hn
    have hcl : Builtin.Int.intBits (x : Int) ≤ n * lenI n x := by
      unfold lenI
      have := Nat.div_add_mod (Builtin.Int.intBits (x : Int) + n - 1) n
      have h2 := Nat.mod_lt (Builtin.Int.intBits (x : Int) + n - 1) hn
      (first | lia | omega)
    have hxl : x < 2 ^ (n * lenI n x) := by
      have h1 := (intBits_le_iff (x := (x : Int))).mp (Nat.le_refl (Builtin.Int.intBits (x : Int)))
      rw [Int.natAbs_natCast] at h1
      exact Nat.lt_of_lt_of_le h1 (Nat.pow_le_pow_right (by decide) hcl)
    have hsz : (List.replicate (lenI n x) (Value.int 0 s.toks)).toArray.size = lenI n x := by simp
    refine call_len_list ⟨_, (N5 _ (.tail _ (.head _))).1, rfl, 0, rfl⟩ (by rw [hsz]; (first | lia | omega)) ?_
    rw [hsz]
    dsimp only
    (repeat' (first | (exfalso; (fail_if_success (fail_if_success omega)); (first | lia | omega)) | ((fail_if_success (first | with_reducible show wpAny _ _ (binaryOp Operator.Mult _ _) _ _ _ | with_reducible show wpAny _ _ (binaryOp Operator.FloorDiv _ _) _ _ _ | with_reducible show wpAny _ _ (exec (Stmt.FunctionDef _ _ _ _ _ _ _ _ _ _) _) _ _ _ | with_reducible show wpAny _ _ (call (Value.ref _) _) _ _ _)); first | (walk1; try dsimp only) | leave1)))
    have N6 : News g L h5 (ledI D (L + 1 + 1) (L + 1) (L + 1 + 1 + 1) f c' _ _ on0 oi5 _ oc) := news_sub N5 (fun p hp => by
      rcases List.mem_cons.mp hp with rfl | hp
      · exact .tail _ (.head _)
      rcases List.mem_cons.mp hp with rfl | hp
      · exact .tail _ (.tail _ (.tail _ (.head _)))
      rcases List.mem_cons.mp hp with rfl | hp
      · exact .tail _ (.tail _ (.tail _ (.tail _ (.head _))))
      rcases List.mem_cons.mp hp with rfl | hp
      · exact .tail _ (.tail _ (.head _))
      rcases List.mem_cons.mp hp with rfl | hp
      · exact .head _
      · rw [List.mem_singleton.mp hp]
        exact .tail _ (.tail _ (.tail _ (.tail _ (.tail _ hm5)))))
    have e1 : D ≠ L + 1 + 1 := Nat.ne_of_gt (by (first | lia | omega))
    have e2 : D ≠ L + 1 := Nat.ne_of_gt (by (first | lia | omega))
    have e3 : D ≠ L + 1 + 1 + 1 := Nat.ne_of_gt (by (first | lia | omega))
    have e4 : D ≠ f := Nat.ne_of_lt hDf
    have e5 : D ≠ c' := fun e => hap5 _ hm5 e.symm
    refine inner_i2d (n := n) (tn := u) hoa hn0 hoi5 hoc hva e1 e2 e3 e4 e5 hn hn2 (lenI n x) x 0 _ _ 0 _ _ _ _ _ _ _ _ _ _ _ _ _ _ _ _ _ _ _ _ _ _ _ hlen1 hxl (by simp) (by simp; (first | lia | omega)) rfl rfl (by simp) hIr B F5 X N6 T rfl (by (first | lia | omega)) (by (first | lia | omega)) ?_
    intro h7 tk7 vs7 c7 F7 k7 hD7 hI7
    have N7 : News g L h7 ((f, foI (L + 1 + 1) (L + 1) (L + 1 + 1 + 1) c' doc pm ctv) :: (D, PySem.W.listOf vs7.toArray c7) :: (L + 1 + 1 + 1, oi5) :: (L + 1 + 1, oa1) :: (L + 1, on0) :: tl5) := by
      intro p hp
      rcases List.mem_cons.mp hp with rfl | hp
      · exact ⟨k7 _ _ (Ne.symm e4) (N5 _ (.head _)).1, (N5 _ (.head _)).2⟩
      rcases List.mem_cons.mp hp with rfl | hp
      · exact ⟨hD7, (N5 _ (.tail _ (.head _))).2⟩
      rcases List.mem_cons.mp hp with rfl | hp
      · exact ⟨k7 _ _ (Ne.symm e3) (N5 _ (.tail _ (.tail _ (.head _)))).1, (N5 _ (.tail _ (.tail _ (.head _)))).2⟩
      rcases List.mem_cons.mp hp with rfl | hp
      · exact ⟨k7 _ _ (Ne.symm e1) (N5 _ (.tail _ (.tail _ (.tail _ (.head _))))).1, (N5 _ (.tail _ (.tail _ (.tail _ (.head _))))).2⟩
      rcases List.mem_cons.mp hp with rfl | hp
      · exact ⟨k7 _ _ (Ne.symm e2) (N5 _ (.tail _ (.tail _ (.tail _ (.tail _ (.head _)))))).1, (N5 _ (.tail _ (.tail _ (.tail _ (.tail _ (.head _)))))).2⟩
      · exact ⟨k7 _ _ (hap5 p hp) (N5 _ (.tail _ (.tail _ (.tail _ (.tail _ (.tail _ hp)))))).1, (N5 _ (.tail _ (.tail _ (.tail _ (.tail _ (.tail _ hp)))))).2⟩
    clear F5 N5
    dsimp only
    (repeat' (first | (exfalso; (fail_if_success (fail_if_success omega)); (first | lia | omega)) | ((fail_if_success (first | with_reducible show wpAny _ _ (binaryOp Operator.Mult _ _) _ _ _ | with_reducible show wpAny _ _ (binaryOp Operator.FloorDiv _ _) _ _ _ | with_reducible show wpAny _ _ (exec (Stmt.FunctionDef _ _ _ _ _ _ _ _ _ _) _) _ _ _ | with_reducible show wpAny _ _ (call (Value.ref _) _) _ _ _)); first | (walk1; try dsimp only) | leave1)))
    rename Fr _ _ _ _ => F8
    rename News _ _ _ _ => N8
    refine gg _ _ _ _ _ _ _ F8 N8 ?_
    simpa using hI7
  exact Nat.lt_of_le_of_lt (Nat.log2_le_self _) (by rw [Int.natAbs_natCast]; (first | lia | omega))
end Mine
end
-- D2D
section
open PySem PySem.W PyProof.Rows PySem.Calls
set_option Elab.async false
set_option maxRecDepth 100000
set_option linter.all false
set_option maxHeartbeats 0
namespace Mine
noncomputable abbrev inD : Stmt := nthS (fdBody (stm 6)) 0
noncomputable abbrev quD : Str := Str.ofString "_digits2int.<locals>.inner"
noncomputable abbrev ledD (ca cn ci f c' : Addr) (oa on oi fo oc : Obj) : List (Addr × Obj) := [(ca, oa), (cn, on), (ci, oi), (f, fo), (c', oc)]
noncomputable abbrev clD (ca cn ci : Addr) : List (Str × Addr) := [(Str.ofString "n", cn), (Str.ofString "inner", ci), (Str.ofString "digits", ca)]
noncomputable abbrev foD (ca cn ci c' : Addr) (doc pm ctv : Value) : Obj := fnMade (Str.ofString "inner") quD (fdArgs inD) (fdBody inD) (fdScope inD) (clD ca cn ci) doc pm c' ctv
/-- a call of the inner def: it brings the number that the digits from place Lo on make -/
noncomputable def InnerD (w : World) (mean : ExcName → Option Value) (mg mb : Str → Option Value) (D ca cn ci f c' : Addr) (oa on oi oc : Obj) (n : Nat) (doc pm ctv : Value) (vs : List Value) (is : List Int) (c cnt : Nat) : Prop :=
  ∀ (Lo : Nat) (A B : Int) (u v : Tok) (dp un : Nat) (gd : Option (List Code)) (cn' : Str) (cs : Scope) (a : Addr) (ccd : Value) (cl : List (Str × Addr)) (outer : List Env) (A₀ : Around) (base h₀ : Heap) (L : Addr) (m : Str → Option Value) (s : Shared) (Q E : Value → Shared → Prop),
    0 < cnt → Lo + cnt ≤ vs.length → A = Lo → B = Lo + cnt →
    Below A₀ base outer h₀ → Fr h₀ L s.heap m → (K w.params).In h₀ → h₀.get? D = some (PySem.W.listOf vs.toArray c) → News h₀ L s.heap (ledD ca cn ci f c' oa on oi (foD ca cn ci c' doc pm ctv) oc) → Top topProg lw mean mg mb h₀ → cs.kind = .function → dp + cnt + 10 < recursionLimit → un + 20 * cnt + 100 < cLine →
    (∀ h' tk tk', Fr h₀ L h' m → (∀ b o, s.heap.get? b = some o → h'.get? b = some o) → Q (.int (dval n ((is.drop Lo).take cnt)) tk') { s with heap := h', toks := tk }) →
    wpAny (model PW w) (ktrTop dp un gd cn' cs L a ccd cl outer) (call (.ref f) [.int A u, .int B v]) Q E s
/-- the end of the inner def's body -/
noncomputable def OutD2 (s : Shared) (g : Heap) (L : Addr) (r : Int) (led : List (Addr × Obj)) (f : Flow) (s' : Shared) : Prop :=
  ∃ h' tk m', s' = { s with heap := h', toks := tk } ∧ Fr g L h' m' ∧ News g L h' led ∧ ∃ tk', f = .ret (.int r tk')
theorem take_split {α : Type} {k cnt : Nat} (h : k ≤ cnt) (l : List α) : l.take cnt = l.take k ++ (l.drop k).take (cnt - k) := by
  obtain ⟨j, rfl⟩ : ∃ j, cnt = k + j := ⟨cnt - k, by (first | lia | omega)⟩
  rw [List.take_add, show k + j - k = j by (first | lia | omega)]
section
variable {w : World} {mean : ExcName → Option Value} {mg mb : Str → Option Value}
theorem innerD_body {D ca cn ci f c' : Addr} {oa on oi oc : Obj} {n : Nat} {tn : Tok} {doc pm ctv : Value} {va : Array Value} {tq : Tok} {vs : List Value} {is : List Int} {c : Nat}
    (hoa : oa.data = .cell (some (.ref D))) (hon : on.data = .cell (some (.int n tn))) (hoi : oi.data = .cell (some (.ref f))) (hoc : oc.data = .fields va) (hva : va[1]? = some (.str quD tq))
    (hn : 0 < n) (hn2 : n ≤ 100) {cnt : Nat} (ih : ∀ k, k < cnt → InnerD w mean mg mb D ca cn ci f c' oa on oi oc n doc pm ctv vs is c k) (hI : IntsAre vs is) (hb : ∀ d ∈ is, 0 ≤ d ∧ d < 2 ^ n) (hv : vs.length ≤ 1000)
    {Lo : Nat} {u v : Tok} {dp un : Nat} {gd : Option (List Code)} {outer : List Env} {A₀ : Around} {base g : Heap} {L : Addr} {s : Shared}
    (hc : 0 < cnt) (hl : Lo + cnt ≤ vs.length)
    (B : Below A₀ base outer g) (X : (K w.params).In g) (hD : g.get? D = some (PySem.W.listOf vs.toArray c)) (T : Top topProg lw mean mg mb g) (hd : dp + cnt + 9 < recursionLimit) (hu : un + 20 * cnt + 90 < cLine)
    (F : Fr g L s.heap (lk [(Str.ofString "R", .int (Lo + cnt : Nat) v), (Str.ofString "L", .int Lo u)]))
    (N : News g L s.heap (ledD ca cn ci f c' oa on oi (foD ca cn ci c' doc pm ctv) oc)) :
    wpAny (model PW w) (ktrTop dp un gd quD (fdScope inD) L f (.ref c') (clD ca cn ci) outer) (execs (fdBody inD) (envX quD (fdScope inD) L f (.ref c') (clD ca cn ci)))
      (OutD2 s g L (dval n ((is.drop Lo).take cnt)) (ledD ca cn ci f c' oa on oi (foD ca cn ci c' doc pm ctv) oc)) (fun _ _ => False) s := by
  have hK : CodeHd g 49 45 := codeHd_of_K X (by kernel_rfl)
  have hlen := hI.length
  rcases Nat.lt_or_ge 1 cnt with h1 | h1
  · (repeat' (first | (exfalso; (fail_if_success (fail_if_success omega)); (first | lia | omega)) | ((fail_if_success (first | with_reducible show wpAny _ _ (binaryOp Operator.Mult _ _) _ _ _ | with_reducible show wpAny _ _ (binaryOp Operator.LShift _ _) _ _ _ | with_reducible show wpAny _ _ (subscriptTail _ _ _ _) _ _ _ | with_reducible show wpAny _ _ (call (Value.ref _) _) _ _ _)); first | (walk1; try dsimp only) | leave1)))
    obtain ⟨k, hk⟩ : ∃ k, k = cnt / 2 := ⟨_, rfl⟩
    have hk0 : 0 < k := by (first | lia | omega)
    have hk1 : k < cnt := by (first | lia | omega)
    have hk2 : cnt - k < cnt := by (first | lia | omega)
    have hns : n * k + n * (cnt - k) = n * cnt := by rw [← Nat.mul_add]; congr 1; (first | lia | omega)
    have hnc : n * cnt ≤ 100 * 1000 := Nat.mul_le_mul hn2 (by (first | lia | omega))
    rename Fr _ _ _ _ => F1
    rename News _ _ _ _ => N1
    simp only [mid_nat, ← hk] at F1 ⊢
    have em : ((Lo + k : Nat) : Int) - (Lo : Int) = ((k : Nat) : Int) := by (first | lia | omega)
    rw [em]
    refine P.mul_int ?_ (IntMulOk.of_left (intBits_le_64 (by (first | lia | omega)) (by (first | lia | omega))))
    rw [show ((k : Nat) : Int) * (n : Int) = ((n * k : Nat) : Int) by rw [Nat.mul_comm, Int.natCast_mul]]
    dsimp only
    (repeat' (first | (exfalso; (fail_if_success (fail_if_success omega)); (first | lia | omega)) | ((fail_if_success (first | with_reducible show wpAny _ _ (binaryOp Operator.Mult _ _) _ _ _ | with_reducible show wpAny _ _ (binaryOp Operator.LShift _ _) _ _ _ | with_reducible show wpAny _ _ (subscriptTail _ _ _ _) _ _ _ | with_reducible show wpAny _ _ (call (Value.ref _) _) _ _ _)); first | (walk1; try dsimp only) | leave1)))
    rename Fr _ _ _ _ => F1
    rename News _ _ _ _ => N1
    refine ih (cnt - k) hk2 (Lo + k) _ _ _ _ _ _ _ _ _ _ _ _ _ _ _ _ _ _ _ _ _ (by (first | lia | omega)) (by (first | lia | omega)) rfl (by (first | lia | omega)) B F1 X hD N1 T rfl (by (first | lia | omega)) (by (first | lia | omega)) ?_
    intro h2 tk2 tk2' F2 k2
    have N2 := news_keep N1 k2
    clear F1 N1
    have hb2 : 0 ≤ dval n ((is.drop (Lo + k)).take (cnt - k)) ∧ dval n ((is.drop (Lo + k)).take (cnt - k)) < 2 ^ (n * (cnt - k)) := by
      have h3 := dval_bound n ((is.drop (Lo + k)).take (cnt - k)) fun d hd => hb d (List.mem_of_mem_drop (List.mem_of_mem_take hd))
      have h4 : ((is.drop (Lo + k)).take (cnt - k)).length = cnt - k := by rw [List.length_take, List.length_drop]; (first | lia | omega)
      rw [h4] at h3
      exact h3
    have hsum : dval n ((is.drop (Lo + k)).take (cnt - k)) * 2 ^ (n * k) + dval n ((is.drop Lo).take k) = dval n ((is.drop Lo).take cnt) := by
      have h5 : (is.drop Lo).take cnt = (is.drop Lo).take k ++ (is.drop (Lo + k)).take (cnt - k) := by
        rw [take_split (Nat.le_of_lt hk1), List.drop_drop]
      have h4 : ((is.drop Lo).take k).length = k := by rw [List.length_take, List.length_drop]; (first | lia | omega)
      rw [h5, dval_append, h4, Int.mul_comm, Int.add_comm]
    generalize dval n ((is.drop (Lo + k)).take (cnt - k)) = hi at *
    (repeat' (first | (exfalso; (fail_if_success (fail_if_success omega)); (first | lia | omega)) | ((fail_if_success (first | with_reducible show wpAny _ _ (binaryOp Operator.Mult _ _) _ _ _ | with_reducible show wpAny _ _ (binaryOp Operator.LShift _ _) _ _ _ | with_reducible show wpAny _ _ (subscriptTail _ _ _ _) _ _ _ | with_reducible show wpAny _ _ (call (Value.ref _) _) _ _ _)); first | (walk1; try dsimp only) | leave1)))
    refine lshift_int (Int.natCast_nonneg _) ?_ ?_
    · have h6 : Builtin.Int.intBits hi ≤ n * (cnt - k) := by
        refine intBits_le ?_
        have h8 : ((hi.natAbs : Nat) : Int) < ((2 ^ (n * (cnt - k)) : Nat) : Int) := by
          rw [Int.natAbs_of_nonneg hb2.1]
          exact_mod_cast hb2.2
        exact_mod_cast h8
      have h7 : Builtin.Int.intBits hi + n * k ≤ 200000 := by (first | lia | omega)
      have h5 : ((Builtin.Int.intBits hi : Nat) : Int) + ((n * k : Nat) : Int) ≤ 200000 := by (first | lia | omega)
      exact Int.le_trans h5 (by decide)
    rw [Int.toNat_natCast]
    dsimp only
    (repeat' (first | (exfalso; (fail_if_success (fail_if_success omega)); (first | lia | omega)) | ((fail_if_success (first | with_reducible show wpAny _ _ (binaryOp Operator.Mult _ _) _ _ _ | with_reducible show wpAny _ _ (binaryOp Operator.LShift _ _) _ _ _ | with_reducible show wpAny _ _ (subscriptTail _ _ _ _) _ _ _ | with_reducible show wpAny _ _ (call (Value.ref _) _) _ _ _)); first | (walk1; try dsimp only) | leave1)))
    rename Fr _ _ _ _ => F3
    rename News _ _ _ _ => N3
    refine ih k hk1 Lo _ _ _ _ _ _ _ _ _ _ _ _ _ _ _ _ _ _ _ _ _ (by (first | lia | omega)) (by (first | lia | omega)) rfl (by (first | lia | omega)) B F3 X hD N3 T rfl (by (first | lia | omega)) (by (first | lia | omega)) ?_
    intro h4 tk4 tk4' F4 k4
    have N4 := news_keep N3 k4
    clear F3 N3
    (repeat' (first | (exfalso; (fail_if_success (fail_if_success omega)); (first | lia | omega)) | ((fail_if_success (first | with_reducible show wpAny _ _ (binaryOp Operator.Mult _ _) _ _ _ | with_reducible show wpAny _ _ (binaryOp Operator.LShift _ _) _ _ _ | with_reducible show wpAny _ _ (subscriptTail _ _ _ _) _ _ _ | with_reducible show wpAny _ _ (call (Value.ref _) _) _ _ _)); first | (walk1; try dsimp only) | leave1)))
    rename Fr _ _ _ _ => F5
    rename News _ _ _ _ => N5
    rw [hsum]
    exact ⟨_, _, _, rfl, F5, N5, _, rfl⟩
  · have e1 : cnt = 1 := by (first | lia | omega)
    subst e1
    clear ih
    (repeat' (first | (exfalso; (fail_if_success (fail_if_success omega)); (first | lia | omega)) | ((fail_if_success (first | with_reducible show wpAny _ _ (binaryOp Operator.Mult _ _) _ _ _ | with_reducible show wpAny _ _ (binaryOp Operator.LShift _ _) _ _ _ | with_reducible show wpAny _ _ (subscriptTail _ _ _ _) _ _ _ | with_reducible show wpAny _ _ (call (Value.ref _) _) _ _ _)); first | (walk1; try dsimp only) | leave1)))
    refine item_anyK (vs := vs) (ns := is) ⟨_, F.keep _ _ hD, rfl, c, rfl⟩ hI (Int.natCast_nonneg _) (by (first | lia | omega)) (by (first | lia | omega)) ?_ (by with_unfolding_all rfl)
    intro tk'
    have e2 : is.getD ((Lo : Nat) : Int).toNat 0 = dval n ((is.drop Lo).take 1) := by
      rw [Int.toNat_natCast]
      have hlt : Lo < is.length := by (first | lia | omega)
      have h9 : (is.drop Lo).take 1 = [is[Lo]] := by rw [List.drop_eq_getElem_cons hlt]; rfl
      rw [h9]
      simp [dval, hlt]
    rw [e2]
    exact ⟨_, _, _, rfl, F, N, _, rfl⟩
theorem inner_d2d {D ca cn ci f c' : Addr} {oa on oi oc : Obj} {n : Nat} {tn : Tok} {doc pm ctv : Value} {va : Array Value} {tq : Tok} {vs : List Value} {is : List Int} {c : Nat}
    (hoa : oa.data = .cell (some (.ref D))) (hon : on.data = .cell (some (.int n tn))) (hoi : oi.data = .cell (some (.ref f))) (hoc : oc.data = .fields va) (hva : va[1]? = some (.str quD tq))
    (hn : 0 < n) (hn2 : n ≤ 100) (hI : IntsAre vs is) (hb : ∀ d ∈ is, 0 ≤ d ∧ d < 2 ^ n) (hv : vs.length ≤ 1000) :
    ∀ cnt : Nat, InnerD w mean mg mb D ca cn ci f c' oa on oi oc n doc pm ctv vs is c cnt := by
  intro cnt
  induction cnt using Nat.strongRecOn with
  | ind cnt ih =>
  intro Lo A B u v dp un gd cn' cs a ccd cl outer A₀ base h₀ L m s Q E hc hl eA eB Be F Xk hD N T hk hd hu hret
  subst eA
  have eB' : B = ((Lo + cnt : Nat) : Int) := by (first | lia | omega)
  subst eB'
  refine wpAny_call ?_
  have A1 : (ktrTop dp un gd cn' cs L a ccd cl outer).frames = some (envX cn' cs L a ccd cl :: outer) := rfl
  obtain ⟨FG, BG, st, lv⟩ := groundX (R := fun _ _ => True) Be F N A1 rfl hk
  have Xg := Xk.keeps st
  have Tg := T.keeps st
  refine codeAny_call_def (fd := fnX (Str.ofString "inner") quD (fdArgs inD) (fdBody inD) (fdScope inD) (clD ca cn ci) .none .none doc pm none (.ref c') ctv) (body := fdBody inD) (binds := [(Str.ofString "L", .int Lo u), (Str.ofString "R", .int (Lo + cnt : Nat) v)])
    (by show dp < recursionLimit; (first | lia | omega)) (N _ (.tail _ (.tail _ (.tail _ (.head _))))).1 rfl (T.nolimit.keeps F.keep) (codeRec_news N (.tail _ (.tail _ (.tail _ (.tail _ (.head _))))) hoc hva) rfl (BindsTo.of_eq rfl) (show ∀ x ∈ (fdScope inD).names, x.2 ≠ .cell by decide) (locs rfl) (fun h₁ hns hk₁ => ?_) rfl rfl rfl
  have F' : Fr (hideAll s.heap [ca, cn, ci, f, c']) s.heap.objs.size h₁ (lk [(Str.ofString "R", .int (Lo + cnt : Nat) v), (Str.ofString "L", .int Lo u)]) := ⟨hns, fun b o e => hk₁ b o (of_hideAll _ e), Nat.le_of_eq (hideAll_size _ _)⟩
  have N' : News (hideAll s.heap [ca, cn, ci, f, c']) s.heap.objs.size h₁ (ledD ca cn ci f c' oa on oi (foD ca cn ci c' doc pm ctv) oc) := fun p hp =>
    ⟨hk₁ _ _ (N p hp).1, Nat.ne_of_lt (Heap.lt_size (N p hp).1), hideAll_none _ (List.mem_map_of_mem hp)⟩
  refine wpAny_mono (innerD_body (dp := dp + 1) (un := un + 3) (gd := gd) (outer := envX cn' cs L a ccd cl :: outer) (s := { s with heap := h₁, toks := s.toks + 2 }) hoa hon hoi hoc hva hn hn2 ih hI hb hv hc hl BG Xg (st _ _ hD) Tg (by (first | lia | omega)) (by (first | lia | omega)) F' N') ?_ (fun _ _ e => e.elim)
  rintro fl s' ⟨h', tk, m', rfl, F2, N2, tk', rfl⟩
  refine hret h' tk tk' (FG.keeps F2.keep) (fun b o e => ?_)
  by_cases hm : b ∈ [ca, cn, ci, f, c']
  · have pick : ∀ p ∈ ledD ca cn ci f c' oa on oi (foD ca cn ci c' doc pm ctv) oc, b = p.1 → h'.get? b = some o := fun p hp q => by
      have q1 := (N2 p hp).1
      have q2 := (N p hp).1
      rw [← q] at q1 q2
      rw [e] at q2
      rw [q1, q2]
    simp only [List.mem_cons, List.not_mem_nil, or_false] at hm
    rcases hm with q | q | q | q | q
    · exact pick _ (.head _) q
    · exact pick _ (.tail _ (.head _)) q
    · exact pick _ (.tail _ (.tail _ (.head _))) q
    · exact pick _ (.tail _ (.tail _ (.tail _ (.head _)))) q
    · exact pick _ (.tail _ (.tail _ (.tail _ (.tail _ (.head _))))) q
  · exact F2.keep _ _ (hideAll_get _ e hm)
end
end Mine
end
-- D2A
section
open PySem PySem.W PyProof.Rows PySem.Calls
set_option Elab.async false
set_option maxRecDepth 100000
set_option linter.all false
set_option maxHeartbeats 0
namespace Mine
/-- behind the inner def -/
noncomputable def AfterD (s₀ : Shared) (g : Heap) (L : Addr) (m : Str → Option Value) (oa on : Obj) (f : Flow) (s' : Shared) : Prop :=
  f = .next ∧ ∃ (h' : Heap) (tk : Nat) (f c' : Addr) (oc oi : Obj) (va : Array Value) (tq : Tok) (doc pm ctv : Value) (tl : List (Addr × Obj)), s' = { s₀ with heap := h', toks := tk } ∧ Fr g L h' m ∧ TL tl ∧ (c', oc) ∈ tl ∧ oc.data = .fields va ∧ va[1]? = some (.str quD tq) ∧ oi.data = .cell (some (.ref f)) ∧
    News g L h' ((f, foD (L + 1) (L + 1 + 1) (L + 1 + 1 + 1) c' doc pm ctv) :: (L + 1 + 1 + 1, oi) :: (L + 1 + 1, on) :: (L + 1, oa) :: tl)
theorem afterD {w : World} {mean : ExcName → Option Value} {mg mb : Str → Option Value} {dp un : Nat} {gd : Option (List Code)} {outer : List Env} {A₀ : Around} {base g : Heap} {L : Addr} {m : Str → Option Value} {s : Shared} {oi oa on : Obj} {tl : List (Addr × Obj)}
    (B : Below A₀ base outer g) (X : (K w.params).In g) (T : Top topProg lw mean mg mb g) (hTL : TL tl) (hlow : ∀ p ∈ tl, p.1 < L) (hoi : oi.data = .cell none)
    (F : Fr g L s.heap m) (N : News g L s.heap ((L + 1 + 1 + 1, oi) :: (L + 1 + 1, on) :: (L + 1, oa) :: tl)) :
    wpAny (model PW w) (ktrTop dp un gd (Str.ofString "_digits2int") (fdScope (stm 6)) L 50 (Value.ref 49) (cellsFrom (L + 1) (fdScope (stm 6)).names []) outer) (exec inD (envOfC (Str.ofString "_digits2int") (fdScope (stm 6)) L 50 (Value.ref 49))) (AfterD s g L m oa on) (fun _ _ => False) s := by
  have hK : CodeHd g 49 45 := codeHd_of_K X (by kernel_rfl)
  refine nestDef_K rfl rfl rfl ?_
  obtain ⟨ps, qs, codes, rfl, hti, htd, hcd⟩ := hTL
  have l38 : (38 : Nat) < L := hlow _ (.head _)
  have l45 : (45 : Nat) < L := hlow _ (.tail _ (.head _))
  have cc : ∀ p ∈ codes, @LT.lt Nat _ p.1 L := fun p hp => hlow p (.tail _ (.tail _ hp))
  rcases htd with rfl | ⟨c', oc, vs, t, rfl, hm, ho, hv⟩
  · refine nest_K (P := 45) (ps := #[]) F N T hK rfl (.tail ?_ (.tail ?_ (.tail ?_ (.tail ?_ (.head ?_))))) (by kn_triples) (by kn_among) rfl ?_
    · exact Nat.ne_of_gt (by (first | lia | omega))
    · exact Nat.ne_of_gt (by (first | lia | omega))
    · exact Nat.ne_of_gt (by (first | lia | omega))
    · exact (by decide : (38 : Nat) ≠ 45)
    · intro p hp
      exact Nat.ne_of_gt (hcd p hp)
    intro f c' oc vs t ctv doc h' tk F' N' ho hv l1 l2
    dsimp only at N'
    have c3 : @LT.lt Nat _ (L + 1 + 1 + 1) c' := l1 _ (.head _)
    refine storeX_C (c := L + 1 + 1 + 1) F' N' rfl (.tail ?_ (.tail ?_ (.head ?_))) hoi ?_ rfl rfl
    · exact Nat.ne_of_gt (Nat.lt_trans c3 l2)
    · exact Nat.ne_of_gt c3
    · intro p hp
      rcases List.mem_cons.mp hp with rfl | hp
      · exact Nat.ne_of_lt (Nat.lt_succ_self _)
      rcases List.mem_cons.mp hp with rfl | hp
      · exact Nat.ne_of_lt (Nat.lt_succ_of_lt (Nat.lt_succ_self _))
      rcases List.mem_cons.mp hp with rfl | hp
      · exact Nat.ne_of_lt (by (first | lia | omega))
      rcases List.mem_cons.mp hp with rfl | hp
      · exact Nat.ne_of_lt (by (first | lia | omega))
      · exact Nat.ne_of_lt (by have := cc p hp; (first | lia | omega))
    intro h2 oi' F2 N2 hoi'
    refine ⟨rfl, h2, tk, f, c', oc, oi', vs, t, doc, ((mg (Str.ofString "__name__")).getD Value.none), ctv, (38, tabObj ps) :: (45, tabObj (#[] ++ #[rawInt 88, rawInt 4, Value.ref c'])) :: (c', oc) :: codes, rfl, F2, ?_, .tail _ (.tail _ (.head _)), ho, hv, hoi', ?_⟩
    · refine ⟨_, _, _, rfl, ?_, .inr ⟨c', oc, vs, t, rfl, .head _, ho, hv⟩, ?_⟩
      · rcases hti with rfl | ⟨d, od, vd, td, rfl, hmd, hod, hvd⟩
        · exact .inl rfl
        · exact .inr ⟨d, od, vd, td, rfl, .tail _ hmd, hod, hvd⟩
      · intro p hp
        rcases List.mem_cons.mp hp with rfl | hp
        · show @LT.lt Nat _ 45 c'
          (first | lia | omega)
        · exact hcd p hp
    · refine news_sub N2 fun p hp => ?_
      rcases List.mem_cons.mp hp with rfl | hp
      · exact .head _
      rcases List.mem_cons.mp hp with rfl | hp
      · exact .tail _ (.tail _ (.head _))
      rcases List.mem_cons.mp hp with rfl | hp
      · exact .tail _ (.tail _ (.tail _ (.head _)))
      rcases List.mem_cons.mp hp with rfl | hp
      · exact .tail _ (.tail _ (.tail _ (.tail _ (.head _))))
      rcases List.mem_cons.mp hp with rfl | hp
      · exact .tail _ (.tail _ (.tail _ (.tail _ (.tail _ (.head _)))))
      rcases List.mem_cons.mp hp with rfl | hp
      · exact .tail _ (.tail _ (.tail _ (.tail _ (.tail _ (.tail _ (.head _))))))
      rcases List.mem_cons.mp hp with rfl | hp
      · exact .tail _ (.head _)
      · exact .tail _ (.tail _ (.tail _ (.tail _ (.tail _ (.tail _ (.tail _ hp))))))
  · refine nestHit_K (P := 45) F N T hK rfl (.tail _ (.tail _ (.tail _ (.tail _ (.head _))))) (by kn_triples) (by kn_hit) rfl ?_
    intro f ctv doc h' tk F' N' l1
    have c3 : @LT.lt Nat _ (L + 1 + 1 + 1) f := l1 _ (.head _)
    refine storeX_C (c := L + 1 + 1 + 1) F' N' rfl (.tail ?_ (.head ?_)) hoi ?_ rfl rfl
    · exact Nat.ne_of_gt c3
    · intro p hp
      rcases List.mem_cons.mp hp with rfl | hp
      · exact Nat.ne_of_lt (Nat.lt_succ_self _)
      rcases List.mem_cons.mp hp with rfl | hp
      · exact Nat.ne_of_lt (Nat.lt_succ_of_lt (Nat.lt_succ_self _))
      · exact Nat.ne_of_lt (Nat.lt_of_lt_of_le (hlow p hp) (by show L ≤ L + 1 + 1 + 1; exact Nat.le_of_lt (Nat.lt_succ_of_lt (Nat.lt_succ_of_lt (Nat.lt_succ_self _)))))
    intro h2 oi' F2 N2 hoi'
    exact ⟨rfl, h2, tk, f, c', oc, oi', vs, t, doc, _, ctv, (38, tabObj ps) :: (45, tabObj #[rawInt 88, rawInt 4, Value.ref c']) :: codes, rfl, F2, ⟨_, _, _, rfl, hti, .inr ⟨c', oc, vs, t, rfl, hm, ho, hv⟩, hcd⟩, .tail _ (.tail _ hm), ho, hv, hoi', N2⟩
end Mine
end
-- D2B
section
open PySem PySem.W PyProof.Rows PySem.Calls
set_option Elab.async false
set_option maxRecDepth 100000
set_option linter.all false
set_option maxHeartbeats 0
namespace Mine
local macro_rules | `(tactic| k_all) => `(tactic| exact tailNe (by assumption) (by omega))
theorem d2i {w : World} {mean mg mb} {D : Addr} {n : Nat} {u : Tok} {vs : List Value} {is : List Int} {c : Nat} (hn : 0 < n) (hn2 : n ≤ 100) (hI : IntsAre vs is) (hb : ∀ d ∈ is, 0 ≤ d ∧ d < 2 ^ n) (hv : vs.length ≤ 48) :
    CtrG w mean mg mb 50 [.ref D, .int n u] (70+1) (1200+3) (fun g => g.get? D = some (PySem.W.listOf vs.toArray c)) (fun _ r own => own = [] ∧ ∃ tk, r = .int (dval n is) tk) := by
  refine enterG (binds := [(Str.ofString "digits", .ref D), (Str.ofString "n", .int n u)]) (by rfl) (by rfl) (fun s _ => BindsTo.of_eq rfl) (by rfl) (by decide +kernel) ?_ rfl rfl rfl
  intro dp un gd outer A₀ base g L cells tl s B X T hd hu hD hTL hlow F N Y
  obtain ⟨oi0, on0, oa0, hE, hi0, hn0, ha0⟩ := CellsAre.three Y
  subst hE
  clear Y
  have hK : CodeHd g 49 45 := codeHd_of_K X (by kernel_rfl)
  simp only [List.cons_append, List.nil_append] at N
  (repeat' (first | (exfalso; (fail_if_success (fail_if_success omega)); (first | lia | omega)) | ((fail_if_success (first | with_reducible show wpAny _ _ (truthy (Value.ref _)) _ _ _ | with_reducible show wpAny _ _ (exec (Stmt.FunctionDef _ _ _ _ _ _ _ _ _ _) _) _ _ _ | with_reducible show wpAny _ _ (call (Value.builtin "len") _) _ _ _ | with_reducible show wpAny _ _ (call (Value.ref _) _) _ _ _)); first | (walk1; try dsimp only) | leave1)))
  refine wpAny_mono (afterD B X T hTL hlow hi0 F N) ?_ (fun _ _ e => e.elim)
  rintro _ _ ⟨rfl, h5, tk5, f, c', oc, oi5, va, tq, doc, pm, ctv, tl5, rfl, F5, hTL5, hm5, hoc, hva, hoi5, N5⟩
  clear F N
  dsimp only
  have hlen := hI.length
  have gg : ∀ (h' : Heap) (tk tk' : Nat) (m' : Str → Option Value), Fr g L h' m' → News g L h' ((f, foD (L + 1) (L + 1 + 1) (L + 1 + 1 + 1) c' doc pm ctv) :: (L + 1 + 1 + 1, oi5) :: (L + 1 + 1, on0) :: (L + 1, oa0) :: tl5) →
      OutG s g L (fun r own => own = [] ∧ ∃ tk, r = .int (dval n is) tk) (.ret (.int (dval n is) tk')) { s with heap := h', toks := tk } := fun h' tk tk' m' F N =>
    ⟨h', tk, m', [], tl5, rfl, F, hTL5, (fun p hp => by cases hp), news_sub N (fun p hp => .tail _ (.tail _ (.tail _ (.tail _ hp)))), rfl, tk', rfl⟩
  (repeat' (first | (exfalso; (fail_if_success (fail_if_success omega)); (first | lia | omega)) | ((fail_if_success (first | with_reducible show wpAny _ _ (truthy (Value.ref _)) _ _ _ | with_reducible show wpAny _ _ (exec (Stmt.FunctionDef _ _ _ _ _ _ _ _ _ _) _) _ _ _ | with_reducible show wpAny _ _ (call (Value.builtin "len") _) _ _ _ | with_reducible show wpAny _ _ (call (Value.ref _) _) _ _ _)); first | (walk1; try dsimp only) | leave1)))
  refine wpAny_truthy_list (items := vs.toArray) ⟨_, F5.keep _ _ hD, rfl, c, rfl⟩ (by rw [List.size_toArray]; (first | lia | omega)) ?_
  rcases Nat.eq_zero_or_pos vs.length with h0 | h0
  · have hvs : vs = [] := List.eq_nil_of_length_eq_zero h0
    subst hvs
    have his : is = [] := List.eq_nil_of_length_eq_zero (by simpa using hlen.symm)
    subst his
    rw [if_neg (by simp)]
    dsimp only
    (repeat' (first | (exfalso; (fail_if_success (fail_if_success omega)); (first | lia | omega)) | ((fail_if_success (first | with_reducible show wpAny _ _ (truthy (Value.ref _)) _ _ _ | with_reducible show wpAny _ _ (exec (Stmt.FunctionDef _ _ _ _ _ _ _ _ _ _) _) _ _ _ | with_reducible show wpAny _ _ (call (Value.builtin "len") _) _ _ _ | with_reducible show wpAny _ _ (call (Value.ref _) _) _ _ _)); first | (walk1; try dsimp only) | leave1)))
    rename Fr _ _ _ _ => F6
    rename News _ _ _ _ => N6
    exact gg _ _ _ _ F6 N6
  · rw [if_pos (by
      cases vs with
      | nil => exact absurd h0 (Nat.lt_irrefl _)
      | cons v r => rfl)]
    dsimp only
    (repeat' (first | (exfalso; (fail_if_success (fail_if_success omega)); (first | lia | omega)) | ((fail_if_success (first | with_reducible show wpAny _ _ (truthy (Value.ref _)) _ _ _ | with_reducible show wpAny _ _ (exec (Stmt.FunctionDef _ _ _ _ _ _ _ _ _ _) _) _ _ _ | with_reducible show wpAny _ _ (call (Value.builtin "len") _) _ _ _ | with_reducible show wpAny _ _ (call (Value.ref _) _) _ _ _)); first | (walk1; try dsimp only) | leave1)))
    refine call_len_list (items := vs.toArray) ⟨_, F5.keep _ _ hD, rfl, c, rfl⟩ (by rw [List.size_toArray]; (first | lia | omega)) ?_
    rw [List.size_toArray]
    dsimp only
    (repeat' (first | (exfalso; (fail_if_success (fail_if_success omega)); (first | lia | omega)) | ((fail_if_success (first | with_reducible show wpAny _ _ (truthy (Value.ref _)) _ _ _ | with_reducible show wpAny _ _ (exec (Stmt.FunctionDef _ _ _ _ _ _ _ _ _ _) _) _ _ _ | with_reducible show wpAny _ _ (call (Value.builtin "len") _) _ _ _ | with_reducible show wpAny _ _ (call (Value.ref _) _) _ _ _)); first | (walk1; try dsimp only) | leave1)))
    have N6 : News g L h5 (ledD (L + 1) (L + 1 + 1) (L + 1 + 1 + 1) f c' oa0 on0 oi5 _ oc) := news_sub N5 (fun p hp => by
      rcases List.mem_cons.mp hp with rfl | hp
      · exact .tail _ (.tail _ (.tail _ (.head _)))
      rcases List.mem_cons.mp hp with rfl | hp
      · exact .tail _ (.tail _ (.head _))
      rcases List.mem_cons.mp hp with rfl | hp
      · exact .tail _ (.head _)
      rcases List.mem_cons.mp hp with rfl | hp
      · exact .head _
      · rw [List.mem_singleton.mp hp]
        exact .tail _ (.tail _ (.tail _ (.tail _ hm5))))
    refine inner_d2d (n := n) (tn := u) (D := D) (vs := vs) (is := is) (c := c) ha0 hn0 hoi5 hoc hva hn hn2 hI hb (by (first | lia | omega)) vs.length 0 _ _ _ _ _ _ _ _ _ _ _ _ _ _ _ _ _ _ _ _ _ h0 (by (first | lia | omega)) rfl (by simp) B F5 X hD N6 T rfl (by (first | lia | omega)) (by (first | lia | omega)) ?_
    intro h7 tk7 tk7' F7 k7
    have N7 := news_keep N5 k7
    have ed : (is.drop 0).take vs.length = is := by rw [List.drop_zero, hlen, List.take_length]
    rw [ed]
    clear F5 N5
    dsimp only
    (repeat' (first | (exfalso; (fail_if_success (fail_if_success omega)); (first | lia | omega)) | ((fail_if_success (first | with_reducible show wpAny _ _ (truthy (Value.ref _)) _ _ _ | with_reducible show wpAny _ _ (exec (Stmt.FunctionDef _ _ _ _ _ _ _ _ _ _) _) _ _ _ | with_reducible show wpAny _ _ (call (Value.builtin "len") _) _ _ _ | with_reducible show wpAny _ _ (call (Value.ref _) _) _ _ _)); first | (walk1; try dsimp only) | leave1)))
    rename Fr _ _ _ _ => F8
    rename News _ _ _ _ => N8
    exact gg _ _ _ _ F8 N8
end Mine
end
-- DIV
section
open PySem PySem.W PyProof.Rows PySem.Calls
set_option Elab.async false
set_option maxRecDepth 100000
set_option linter.all false
set_option maxHeartbeats 0
namespace Mine
/-- a tuple of quotient and rest -/
noncomputable def DivPost (a b : Nat) (r : Value) (own : List (Addr × Obj)) : Prop := ∃ (T : Addr) (tk tk' : Tok), r = .ref T ∧ own = [(T, { cls := .type "tuple", data := .seq #[.int (a / b : Nat) tk, .int (a % b : Nat) tk'] })]
theorem div2n1n {w : World} {mean mg mb} {a b n : Nat} {t u v : Tok} (ha : Builtin.Int.intBits (a : Int) ≤ 100) (hb : 0 < b) (hb2 : b ≤ 1000) :
    CtrF w mean mg mb 29 [.int a t, .int b u, .int n v] (5+1) (20+3) (fun _ => True) (fun _ r own => DivPost a b r own) := by
  refine enterF (binds := [(Str.ofString "a", .int a t), (Str.ofString "b", .int b u), (Str.ofString "n", .int n v)]) (by rfl) (by rfl) (fun s _ => BindsTo.of_eq rfl) (locs rfl) ?_ rfl rfl rfl (by decide)
  intro dp un gd outer A₀ base g L s B X T hd hu _ F
  have N : News g L s.heap [] := .nil
  change Fr g L s.heap (lk [(Str.ofString "n", .int n v), (Str.ofString "b", .int b u), (Str.ofString "a", .int a t)]) at F
  (repeat' (first | (exfalso; (fail_if_success (fail_if_success omega)); (first | lia | omega)) | ((fail_if_success (first | with_reducible show wpAny _ _ (call (Value.builtin "divmod") _) _ _ _ | with_reducible show wpAny _ _ (call (Value.ref _) _) _ _ _)); first | (walk1; try dsimp only) | leave1)))
  refine divmod_N F N (by (first | lia | omega)) ?_ (Or.inl (PyProof.noPylong_of_log2 (Nat.lt_of_le_of_lt (Nat.log2_le_self _) (by rw [Int.natAbs_natCast]; (first | lia | omega)))))
  intro h' F' N'
  have e1 : ((a : Int)).fdiv (b : Int) = ((a / b : Nat) : Int) := by rw [Int.fdiv_eq_ediv_of_nonneg _ (Int.natCast_nonneg _), Int.natCast_ediv]
  have e2 : ((a : Int)).fmod (b : Int) = ((a % b : Nat) : Int) := by rw [Int.fmod_eq_emod_of_nonneg _ (Int.natCast_nonneg _), Int.natCast_emod]
  rw [e1, e2] at N'
  exact ⟨_, _, _, _, rfl, F', N', _, _, _, rfl, rfl⟩
end Mine
end
-- CH
section
open PySem PySem.W PyProof.Rows PySem.Calls
set_option Elab.async false
set_option maxRecDepth 100000
set_option linter.all false
namespace Mine
noncomputable abbrev BodyH (w : World) (mean : ExcName → Option Value) (mg mb : Str → Option Value) (f : Addr) (qual : Str) (scope : Scope) (cdv : Value) (body : List Stmt) (binds : List (Str × Value)) (d u : Nat) (Pre : Heap → Prop) (Post : Value → List (Addr × Obj) → Prop) : Prop :=
  ∀ (dp un : Nat) (gd : Option (List Code)) (outer : List Env) (A₀ : Around) (base g : Heap) (L : Addr) (tl : List (Addr × Obj)) (s : Shared),
    Below A₀ base outer g → (K w.params).In g → Top topProg lw mean mg mb g → dp + d < recursionLimit → un + u < cLine → Pre g → TL tl → (∀ p ∈ tl, p.1 < L) →
    Fr g L s.heap (lk binds.reverse) → News g L s.heap tl →
    wpAny (model PW w) (ktrTop dp un gd qual scope L f cdv [] outer) (execs body (envOf qual scope L f cdv)) (OutG s g L Post) (fun _ _ => False) s
theorem enterH {w : World} {mean : ExcName → Option Value} {mg mb : Str → Option Value} {f : Addr} {args : List Value} {d u : Nat} {Pre : Heap → Prop} {Post : Value → List (Addr × Obj) → Prop}
    {name qual : Str} {params : Arguments} {body : List Stmt} {scope : Scope} {dV kV doc pm cdv ct oc : Value} {an od : Option Addr} {osl : Array (Option Value)} {binds : List (Str × Value)}
    (ho : (K w.params).lookup f = some ⟨oc, od, .func (fnOf name qual params body scope dV kV doc pm an cdv ct), osl⟩) (hcd : codeIn (K w.params) cdv qual = true)
    (hbind : ∀ s : Shared, (K w.params).In s.heap → BindsTo s (fnOf name qual params body scope dV kV doc pm an cdv ct) ⟨args, []⟩ binds) (hloc : ∀ y ∈ binds, scope.names.lookup y.1 = some .local)
    (bd : BodyH w mean mg mb f qual scope cdv body binds d u Pre Post)
    (hco : scope.isCoroutine = false) (hgen : scope.isGenerator = false) (hkf : scope.kind = .function) (hcell : ∀ x ∈ scope.names, x.2 ≠ .cell) : CtrG w mean mg mb f args (d + 1) (u + 3) Pre (fun _ => Post) := by
  intro dp un gd cn cs a ccd cl outer A₀ base h₀ L m news tl s Q E B F X N hTL hap T hk hd hu hp hret
  refine wpAny_call ?_
  have A1 : (ktrTop dp un gd cn cs L a ccd cl outer).frames = some (envX cn cs L a ccd cl :: outer) := rfl
  have Nt : News h₀ L s.heap tl := fun p hp => N p (List.mem_append_right _ hp)
  obtain ⟨FG, BG, st, lv⟩ := groundX (news := tl) (R := fun _ _ => True) B F Nt A1 rfl hk
  have X' := X.keeps F.keep
  have Xg := X.keeps st
  have Tg := T.keeps st
  refine codeAny_call_def (fd := fnOf name qual params body scope dV kV doc pm an cdv ct) (body := body) (binds := binds) (by show dp < recursionLimit; omega) (X' _ _ ho) rfl (T.nolimit.keeps F.keep) (codeRec_of X' hcd) rfl (hbind s X') hcell hloc (fun h₁ hns hk₁ => ?_) hco hgen hkf
  refine wpAny_mono (bd (dp + 1) (un + 3) gd (envX cn cs L a ccd cl :: outer) _ base (hideAll s.heap (tl.map (·.1))) s.heap.objs.size tl _ BG Xg Tg (by omega) (by omega) (hp _ fun b o e hb => hideAll_get _ e hb) hTL (fun p hp => Heap.lt_size (Nt p hp).1)
    ⟨hns, fun b o e => hk₁ b o (of_hideAll _ e), Nat.le_of_eq (hideAll_size _ _)⟩ (fun p hp => ⟨hk₁ _ _ (Nt p hp).1, Nat.ne_of_lt (Heap.lt_size (Nt p hp).1), hideAll_none _ (List.mem_map_of_mem hp)⟩)) ?_ (fun _ _ e => e.elim)
  rintro fl s' ⟨h', tk, m', own, tl', rfl, F2, hTL', hap', N2, P⟩
  obtain ⟨oL, es, ep, hL, hLd⟩ := FG.ns
  have kept : ∀ b o, s.heap.get? b = some o → b ∉ tl.map (·.1) → h'.get? b = some o := fun b o e hb => F2.keep b o (hideAll_get _ e hb)
  have nn : ∀ p ∈ news, p.1 ∉ tl.map (·.1) := fun p hp hq => by
    obtain ⟨q, hq, e⟩ := List.mem_map.mp hq
    exact hap p hp q hq e.symm
  have from2 : ∀ p ∈ own ++ tl', h'.get? p.1 = some p.2 ∧ p.1 ≠ L ∧ h₀.get? p.1 = none := fun p hp => by
    refine ⟨(N2 p hp).1, fun e => ?_, ?_⟩
    · have := (N2 p hp).2.2
      rw [e, hL] at this
      cases this
    · cases q : h₀.get? p.1 with
      | none => rfl
      | some o =>
        have := (N2 p hp).2.2
        rw [st _ _ q] at this
        cases this
  refine hret _ h' tk own tl' (FG.keeps F2.keep) hTL' (fun p hp q hq e => ?_) (fun p hp => ?_) (fun p hp q hq e => ?_) kept P
  · rcases List.mem_append.mp hp with h | h
    · exact hap' p h q hq e
    · have h1 := (N2 q (List.mem_append_right _ hq)).2.2
      have h2 := (N p (List.mem_append_left _ h)).1
      rw [← e, hideAll_get _ h2 (nn p h)] at h1
      cases h1
  · rcases List.mem_append.mp hp with h | h
    · rcases List.mem_append.mp h with h | h
      · exact from2 p (List.mem_append_left _ h)
      · exact ⟨kept _ _ (N p (List.mem_append_left _ h)).1 (nn p h), (N p (List.mem_append_left _ h)).2⟩
    · exact from2 p (List.mem_append_right _ h)
  · have h1 := (N2 p (List.mem_append_left _ hp)).2.2
    have h2 := (N q (List.mem_append_left _ hq)).1
    rw [e, hideAll_get _ h2 (nn q hq)] at h1
    cases h1
theorem ctrG_use {w : World} {mean : ExcName → Option Value} {mg mb : Str → Option Value} {f : Addr} {args : List Value} {d u : Nat} {Pre : Heap → Prop} {Post : Heap → Value → List (Addr × Obj) → Prop}
    {dp un : Nat} {gd : Option (List Code)} {cn : Str} {cs : Scope} {a : Addr} {ccd : Value} {cl : List (Str × Addr)} {outer : List Env} {A₀ : Around} {base h₀ : Heap} {L : Addr} {m : Str → Option Value} {news tl : List (Addr × Obj)} {s : Shared} {Q E : Value → Shared → Prop}
    (C : CtrG w mean mg mb f args d u Pre Post) (B : Below A₀ base outer h₀) (F : Fr h₀ L s.heap m) (X : (K w.params).In h₀) (N : News h₀ L s.heap (news ++ tl)) (hTL : TL tl) (hap : Apart news tl) (T : Top topProg lw mean mg mb h₀) (hk : cs.kind = .function) (hd : dp + d < recursionLimit) (hu : un + u < cLine)
    (hp : ∀ g : Heap, (∀ b o, s.heap.get? b = some o → b ∉ tl.map (·.1) → g.get? b = some o) → Pre g)
    (ret : ∀ r h' tk' own tl', Fr h₀ L h' m → TL tl' → Apart (own ++ news) tl' → News h₀ L h' (own ++ news ++ tl') → Apart own news → (∀ b o, s.heap.get? b = some o → b ∉ tl.map (·.1) → h'.get? b = some o) → Post s.heap r own → Q r { s with heap := h', toks := tk' }) :
    wpAny (model PW w) (ktrTop dp un gd cn cs L a ccd cl outer) (call (.ref f) args) Q E s :=
  C _ _ _ _ _ _ _ _ _ _ _ _ _ _ _ _ _ _ _ B F X N hTL hap T hk hd hu hp ret
end Mine
end
-- DMQ
section
open PySem PySem.W PyProof.Rows PySem.Calls
set_option Elab.async false
set_option maxRecDepth 100000
set_option linter.all false
namespace Mine
theorem digs_get (n : Nat) : ∀ (c x i : Nat), i < c → (digs n x c)[i]? = some (((x / 2 ^ (n * i)) % 2 ^ n : Nat) : Int)
  | 0, _, _, h => absurd h (Nat.not_lt_zero _)
  | c + 1, x, 0, _ => by
    show some (((x % 2 ^ n : Nat) : Int)) = _
    simp
  | c + 1, x, i + 1, h => by
    show (digs n (x / 2 ^ n) c)[i]? = _
    rw [digs_get n c _ i (Nat.lt_of_succ_lt_succ h), Nat.div_div_eq_div_mul, ← Nat.pow_add]
    congr 5
    rw [Nat.mul_add, Nat.mul_one, Nat.add_comm]
/-- one step of the long division -/
theorem ldiv_step {A b d p : Nat} (hb : 0 < b) (hd : d < p) : (A * p + d) % b = ((A % b) * p + d) % b ∧ (A * p + d) / b = ((A % b) * p + d) / b + p * (A / b) ∧ ((A % b) * p + d) / b < p := by
  have h1 : A * p + d = b * (p * (A / b)) + ((A % b) * p + d) := by
    have h := Nat.div_add_mod A b
    have h2 : A * p = (b * (A / b) + A % b) * p := by rw [h]
    rw [h2, Nat.add_mul, Nat.mul_assoc, Nat.mul_comm (A / b) p, Nat.add_assoc]
  refine ⟨?_, ?_, ?_⟩
  · rw [h1, Nat.mul_add_mod]
  · rw [h1, Nat.mul_add_div hb, Nat.add_comm]
  · rw [Nat.div_lt_iff_lt_mul hb]
    have h3 : A % b + 1 ≤ b := Nat.mod_lt _ hb
    have h4 : (A % b + 1) * p ≤ b * p := Nat.mul_le_mul_right _ h3
    rw [Nat.add_mul, Nat.one_mul] at h4
    have h5 : p * b = b * p := Nat.mul_comm _ _
    (first | lia | omega)
theorem ints_snoc {vs : List Value} {is : List Int} (h : IntsAre vs is) (n : Int) (t : Tok) : IntsAre (vs ++ [.int n t]) (is ++ [n]) := by
  induction h with
  | nil => exact .cons _ _ .nil
  | cons m u _ ih => exact .cons _ _ ih
theorem ints_reverse {vs : List Value} {is : List Int} (h : IntsAre vs is) : IntsAre vs.reverse is.reverse := by
  induction h with
  | nil => exact .nil
  | cons m u _ ih => rw [List.reverse_cons, List.reverse_cons]; exact ints_snoc ih _ _
theorem ints_get {vs : List Value} {is : List Int} (h : IntsAre vs is) : ∀ {i : Nat} {x : Int}, is[i]? = some x → ∃ t, vs[i]? = some (.int x t) := by
  induction h with
  | nil => intro i x e; simp at e
  | cons m u _ ih =>
    intro i x e
    cases i with
    | zero => simp only [List.getElem?_cons_zero, Option.some.injEq] at e; subst e; exact ⟨u, rfl⟩
    | succ j => simp only [List.getElem?_cons_succ] at e ⊢; exact ih e
section
variable {prog : Program} {w : World} {A : Around} {E : Value → Shared → Prop} {s : Shared} {h₀ : Heap} {L l it : Addr} {m : Str → Option Value} {news : List (Addr × Obj)} {g : Obj → List (Addr × Obj)} {io : Obj}
noncomputable def RiO (o : Obj) (l : Addr) (i : Int) : Prop := o.cls = .type "list_reverseiterator" ∧ o.data = .fields #[.ref l, rawInt i]
theorem rev_next {vs : Array Value} {c i : Nat} {x : Value} {Q : Option Value → Shared → Prop} (F : Fr h₀ L s.heap m) (N : News h₀ L s.heap news) (U : UpdF it io news g) (ho : RiO io l (i : Int)) (hm : (l, PySem.W.listOf vs c) ∈ news) (hx : vs[i]? = some x)
    (h : ∀ h' io', Fr h₀ L h' m → News h₀ L h' (g io') → RiO io' l ((i : Int) - 1) → Q (some x) { s with heap := h' }) : wpAny (model prog w) A (pyNext (.ref it)) Q E s := by
  have hl := (N _ hm).1
  obtain ⟨own, rest, rfl, hg, h1, h2⟩ := U.split
  have hi := N _ (List.mem_append_right _ (.head _))
  refine wpAny_pyNext_rev_item (l := l) (items := vs) ⟨_, hi.1, ho.1, ho.2⟩ ⟨_, hl, rfl, c, rfl⟩ hx fun h' ⟨io', e1, e2, e3⟩ sb => ?_
  exact h h' io' (F.change sb hi.2.1 hi.2.2) (hg io' ▸ N.setAt h1 h2 sb e1) ⟨e2, e3⟩
theorem rev_done {Q : Option Value → Shared → Prop} (hh : A.handled = none) (F : Fr h₀ L s.heap m) (N : News h₀ L s.heap ((it, io) :: news)) (ha : ∀ p ∈ news, p.1 ≠ it) (ho : RiO io l (-1))
    (h : ∀ h', Fr h₀ L h' m → News h₀ L h' news → Q none { s with heap := h' }) : wpAny (model prog w) A (pyNext (.ref it)) Q E s := by
  have hi := N _ (.head _)
  refine wpAny_pyNext_rev_end (l := l) hh ⟨_, hi.1, ho.1, ho.2⟩ fun h' xb => ?_
  exact h h' (fr_ext F (fun b o hb e => xb b o hb e) hi.2.1 hi.2.2) (news_ext (fun p hp => N p (.tail _ hp)) (fun b o hb e => xb b o hb e) ha)
end
theorem allLt_mem {d : Nat} (l : List (Addr × Obj)) : AllLt d l → ∀ p ∈ l, @LT.lt Nat _ p.1 d := by
  induction l with
  | nil => intro _ p hp; cases hp
  | cons q r ih =>
    intro h p hp
    rcases List.mem_cons.mp hp with e | hp
    · rw [e]; exact h.1
    · exact ih h.2 p hp
end Mine
end
-- DMP
section
open PySem PySem.W PyProof.Rows PySem.Calls
set_option Elab.async false
set_option maxRecDepth 100000
set_option linter.all false
set_option maxHeartbeats 0
namespace Mine
local macro_rules | `(tactic| k_all) => `(tactic| with_reducible assumption)
/-- the state of the long division with k digits to come -/
noncomputable def DInv (s₀ : Shared) (g : Heap) (L : Addr) (a b n len : Nat) (u tn : Tok) (vs : List Value) (cd : Nat) (tl : List (Addr × Obj)) (Da Dq It : Addr) (k : Nat) (s' : Shared) : Prop :=
  ∃ (h : Heap) (tk : Nat) (m : Str → Option Value) (ro : Obj) (qvs : List Value) (qs : List Int) (cq : Nat) (r : Int) (tr : Tok), s' = { s₀ with heap := h, toks := tk } ∧ k ≤ len ∧ Fr g L h m ∧ m (Str.ofString "b") = some (.int b u) ∧ m (Str.ofString "n") = some (.int n tn) ∧
    m (Str.ofString "r") = some (.int r tr) ∧ m (Str.ofString "q_digits") = some (.ref Dq) ∧ News g L h ((It, ro) :: (Dq, PySem.W.listOf qvs.toArray cq) :: (Da, PySem.W.listOf vs.toArray cd) :: tl) ∧ RiO ro Da ((k : Int) - 1) ∧
    IntsAre qvs qs ∧ qs.length = len - k ∧ dval n qs.reverse = (((a / 2 ^ (n * k)) / b : Nat) : Int) ∧ (∀ q ∈ qs, 0 ≤ q ∧ q < 2 ^ n) ∧ r = (((a / 2 ^ (n * k)) % b : Nat) : Int)
theorem dmp {w : World} {mean mg mb} {a b : Nat} {t u : Tok} (ha : Builtin.Int.intBits (a : Int) ≤ 48) (hb : 0 < b) (hb2 : b ≤ 1000) :
    CtrG w mean mg mb 57 [.int a t, .int b u] (90+1) (1500+3) (fun _ => True) (fun _ r own => DivPost a b r own) := by
  refine enterH (binds := [(Str.ofString "a", .int a t), (Str.ofString "b", .int b u)]) (by rfl) (by rfl) (fun s _ => BindsTo.of_eq rfl) (locs rfl) ?_ rfl rfl rfl (by decide)
  intro dp un gd outer A₀ base g L tl s B X T hd hu _ hTL hlow F N
  change Fr g L s.heap (lk [(Str.ofString "b", .int b u), (Str.ofString "a", .int a t)]) at F
  have hn : 0 < Builtin.Int.intBits (b : Int) := by
    unfold Builtin.Int.intBits
    rw [if_neg (by simp; (first | lia | omega))]
    (first | lia | omega)
  have hn2 : Builtin.Int.intBits (b : Int) ≤ 100 := Nat.le_trans (intBits_le_64 (by (first | lia | omega)) (by (first | lia | omega))) (by decide)
  (repeat' (first | (exfalso; (fail_if_success (fail_if_success omega)); (first | lia | omega)) | ((fail_if_success (first | with_reducible show wpAny _ _ (binaryOp Operator.LShift _ _) _ _ _ | with_reducible show wpAny _ _ (pyIter _) _ _ _ | with_reducible show wpAny _ _ (exec (Stmt.For _ _ _ _ _) _) _ _ _ | with_reducible show wpAny _ _ (call (Value.ref _) _) _ _ _)); first | (walk1; try dsimp only) | leave1)))
  rename Fr _ _ _ _ => F1
  rename News _ _ _ _ => N1
  generalize hnn : Builtin.Int.intBits (b : Int) = n at *
  refine ctrG_use (news := []) (i2d hn hn2 ha) B F1 X N1 hTL (fun p hp => by cases hp) T rfl (by (first | lia | omega)) (by (first | lia | omega)) (fun _ _ => trivial) ?_
  rintro _ h2 tk2 _ tl2 F2 hTL2 hap2 N2 _ k2 ⟨Da, vs, cd, rfl, rfl, hI⟩
  simp only [List.append_nil, List.cons_append, List.nil_append] at N2 hap2
  have hDa : ∀ p ∈ tl2, p.1 ≠ Da := fun p hp e => hap2 _ (.head _) p hp e.symm
  clear F1 N1
  dsimp only
  (repeat' (first | (exfalso; (fail_if_success (fail_if_success omega)); (first | lia | omega)) | ((fail_if_success (first | with_reducible show wpAny _ _ (binaryOp Operator.LShift _ _) _ _ _ | with_reducible show wpAny _ _ (pyIter _) _ _ _ | with_reducible show wpAny _ _ (exec (Stmt.For _ _ _ _ _) _) _ _ _ | with_reducible show wpAny _ _ (call (Value.ref _) _) _ _ _)); first | (walk1; try dsimp only) | leave1)))
  refine for_loop ?_
  (repeat' (first | (exfalso; (fail_if_success (fail_if_success omega)); (first | lia | omega)) | ((fail_if_success (first | with_reducible show wpAny _ _ (binaryOp Operator.LShift _ _) _ _ _ | with_reducible show wpAny _ _ (pyIter _) _ _ _ | with_reducible show wpAny _ _ (exec (Stmt.For _ _ _ _ _) _) _ _ _ | with_reducible show wpAny _ _ (call (Value.ref _) _) _ _ _)); first | (walk1; try dsimp only) | leave1)))
  rename Fr _ _ _ _ => F3
  rename News _ _ _ _ => N3
  rename_i Dq hz1 lz1 hz2 It hz3 lz2
  have hlen := hI.length
  rw [digs_length] at hlen
  have hn10 : n ≤ 10 := by
    rw [← hnn]
    exact intBits_le (by rw [Int.natAbs_natCast]; (first | lia | omega))
  have hxl : a < 2 ^ (n * lenI n a) := by
    have h1 := (intBits_le_iff (x := (a : Int))).mp (Nat.le_refl (Builtin.Int.intBits (a : Int)))
    rw [Int.natAbs_natCast] at h1
    refine Nat.lt_of_lt_of_le h1 (Nat.pow_le_pow_right (by decide) ?_)
    unfold lenI
    have := Nat.div_add_mod (Builtin.Int.intBits (a : Int) + n - 1) n
    have h2 := Nat.mod_lt (Builtin.Int.intBits (a : Int) + n - 1) hn
    (first | lia | omega)
  have hll : lenI n a ≤ 48 := by
    unfold lenI
    refine Nat.le_of_lt_succ ((Nat.div_lt_iff_lt_mul hn).mpr ?_)
    have h1 : 49 * n = 48 * n + n := by (first | lia | omega)
    have h2 : 48 ≤ 48 * n := Nat.le_mul_of_pos_right _ hn
    (first | lia | omega)
  generalize lenI n a = len at *
  refine wpAny_pyIter_revIter ⟨_, (N3 _ (.head _)).1, rfl, rfl⟩ ?_
  refine ⟨DInv s g L a b n len u s.toks vs cd tl2 Da Dq It, len, ?_, fun v => rfl, ?_⟩
  · refine ⟨_, _, _, _, [], [], 0, _, _, rfl, Nat.le_refl _, F3, rfl, rfl, rfl, rfl, N3, ⟨rfl, ?_⟩, .nil, by simp, ?_, by simp, ?_⟩
    · rw [hlen]
      rfl
    · rw [Nat.div_eq_of_lt hxl, Nat.zero_div]
      rfl
    · rw [Nat.div_eq_of_lt hxl, Nat.zero_mod]
      rfl
  clear F3 N3
  rintro k _ ⟨h, tk, m, ro, qvs, qs, cq, r, tr, rfl, hkl, F, hmb, hmn, hmr, hmq, N, hro, hqI, hql, hqv, hqb, hre⟩
  have F' := fr_ifs [(Str.ofString "b", .int b u), (Str.ofString "n", .int n s.toks), (Str.ofString "r", _), (Str.ofString "q_digits", _)] F (by
    intro p hp
    simp only [List.mem_cons, List.not_mem_nil, or_false] at hp
    rcases hp with rfl | rfl | rfl | rfl
    · exact hmb
    · exact hmn
    · exact hmr
    · exact hmq)
  dsimp only [ifs] at F'
  clear F hmb hmn hmr hmq
  cases k with
  | zero =>
    refine rev_done rfl F' N ?_ hro ?_
    · intro p hp
      rcases List.mem_cons.mp hp with rfl | hp
      · exact Nat.ne_of_lt lz2.1
      rcases List.mem_cons.mp hp with rfl | hp
      · exact Nat.ne_of_lt lz2.2.1
      · exact Nat.ne_of_lt (allLt_mem _ lz2.2.2 p hp)
    intro h5 F5 N5
    clear F' N
    dsimp only [ForNext]
    (repeat' (first | (exfalso; (fail_if_success (fail_if_success omega)); (first | lia | omega)) | ((fail_if_success (first | with_reducible show wpAny _ _ (binaryOp Operator.LShift _ _) _ _ _ | with_reducible show wpAny _ _ (pyIter _) _ _ _ | with_reducible show wpAny _ _ (exec (Stmt.For _ _ _ _ _) _) _ _ _ | with_reducible show wpAny _ _ (call (Value.ref _) _) _ _ _)); first | (walk1; try dsimp only) | leave1)))
    have hap5 : ∀ p ∈ (Da, PySem.W.listOf vs.toArray cd) :: tl2, p.1 ≠ Dq := by
      intro p hp
      rcases List.mem_cons.mp hp with rfl | hp
      · exact Nat.ne_of_lt lz1.1
      · exact Nat.ne_of_lt (allLt_mem _ lz1.2 p hp)
    have hql2 : qs.length = len := hql
    have hqlen := hqI.length
    refine reverse_head F5 N5 hap5 ?_ (by rw [List.size_toArray, hqlen, hql2, sizeLine_eq]; (first | lia | omega))
    intro h6 F6 N6
    clear F5 N5
    dsimp only
    (repeat' (first | (exfalso; (fail_if_success (fail_if_success omega)); (first | lia | omega)) | ((fail_if_success (first | with_reducible show wpAny _ _ (binaryOp Operator.LShift _ _) _ _ _ | with_reducible show wpAny _ _ (pyIter _) _ _ _ | with_reducible show wpAny _ _ (exec (Stmt.For _ _ _ _ _) _) _ _ _ | with_reducible show wpAny _ _ (call (Value.ref _) _) _ _ _)); first | (walk1; try dsimp only) | leave1)))
    rename Fr _ _ _ _ => F7
    rename News _ _ _ _ => N7
    rw [Nat.mul_zero, Nat.pow_zero, Nat.div_one] at hqv hre
    have hqI2 := ints_reverse hqI
    have N8 : News g L _ ([(Dq, PySem.W.listOf qvs.toArray.toList.reverse.toArray cq)] ++ tl2) := news_sub N7 (fun p hp => by
      rcases List.mem_append.mp hp with hp | hp
      · rw [List.mem_singleton.mp hp]; exact .head _
      · exact .tail _ (.tail _ hp))
    have hap8 : Apart [(Dq, PySem.W.listOf qvs.toArray.toList.reverse.toArray cq)] tl2 := fun p hp q hq e => by
      rw [List.mem_singleton.mp hp] at e
      exact Nat.ne_of_lt (allLt_mem _ lz1.2 q hq) e.symm
    refine ctrG_use (d2i (vs := qvs.toArray.toList.reverse) (is := qs.reverse) (c := cq) hn (by (first | lia | omega)) hqI2 (fun d hd => hqb d (List.mem_reverse.mp hd)) (by rw [List.length_reverse, hqlen, hql2]; exact hll)) B F7 X N8 hTL2 hap8 T rfl (by (first | lia | omega)) (by (first | lia | omega)) ?_ ?_
    · intro g2 k3
      refine k3 _ _ (N7 _ (.head _)).1 fun hm => ?_
      obtain ⟨q, hq, e⟩ := List.mem_map.mp hm
      exact Nat.ne_of_lt (allLt_mem _ lz1.2 q hq) e
    rintro _ h9 tk9 _ tl9 F9 hTL9 hap9 N9 _ k9 ⟨rfl, tkq, rfl⟩
    rw [hqv]
    rw [hre] at F9
    clear F7 N7 N8
    simp only [List.nil_append] at N9
    dsimp only
    (repeat' (first | (exfalso; (fail_if_success (fail_if_success omega)); (first | lia | omega)) | ((fail_if_success (first | with_reducible show wpAny _ _ (binaryOp Operator.LShift _ _) _ _ _ | with_reducible show wpAny _ _ (pyIter _) _ _ _ | with_reducible show wpAny _ _ (exec (Stmt.For _ _ _ _ _) _) _ _ _ | with_reducible show wpAny _ _ (call (Value.ref _) _) _ _ _)); first | (walk1; try dsimp only) | leave1)))
    rename Fr _ _ _ _ => F10
    rename News _ _ _ _ => N10
    rename ∀ p ∈ _ ++ _, _ => l10
    exact ⟨_, _, _, [_], tl9, rfl, F10, hTL9, (fun p hp q hq e => by
      rw [List.mem_singleton.mp hp] at e
      exact Nat.ne_of_lt (l10 q (List.mem_append_right _ hq)) e.symm), news_sub N10 (fun p hp => by
      rcases List.mem_cons.mp hp with rfl | hp
      · exact .head _
      · exact .tail _ (.tail _ hp)), _, _, _, rfl, rfl⟩
  | succ k =>
    have hro2 : RiO ro Da (k : Int) := by
      rw [show (((k + 1 : Nat) : Int) - 1) = (k : Int) by (first | lia | omega)] at hro
      exact hro
    obtain ⟨tv, hv⟩ := ints_get hI (digs_get n len a k (by (first | lia | omega)))
    have hv2 : vs.toArray[k]? = some (.int ((a / 2 ^ (n * k) % 2 ^ n : Nat) : Int) tv) := by simpa using hv
    refine rev_next (l := Da) (vs := vs.toArray) (c := cd) (i := k) F' N (.head ?_) hro2 (.tail _ (.tail _ (.head _))) hv2 ?_
    · intro p hp
      rcases List.mem_cons.mp hp with rfl | hp
      · exact Nat.ne_of_lt lz2.1
      rcases List.mem_cons.mp hp with rfl | hp
      · exact Nat.ne_of_lt lz2.2.1
      · exact Nat.ne_of_lt (allLt_mem _ lz2.2.2 p hp)
    intro h5 ro5 F5 N5 hro5
    clear F' N
    dsimp only [ForNext]
    have hA : a / 2 ^ (n * k) = a / 2 ^ (n * (k + 1)) * 2 ^ n + a / 2 ^ (n * k) % 2 ^ n := by
      have e : a / 2 ^ (n * (k + 1)) = a / 2 ^ (n * k) / 2 ^ n := by rw [Nat.div_div_eq_div_mul, ← Nat.pow_add, Nat.mul_add, Nat.mul_one]
      rw [e]
      have h9 := Nat.div_add_mod (a / 2 ^ (n * k)) (2 ^ n)
      rw [Nat.mul_comm (2 ^ n)] at h9
      exact h9.symm
    have hdl : a / 2 ^ (n * k) % 2 ^ n < 2 ^ n := Nat.mod_lt _ (Nat.two_pow_pos _)
    obtain ⟨st1, st2, st3⟩ := ldiv_step (A := a / 2 ^ (n * (k + 1))) hb hdl
    rw [← hA] at st1 st2
    have hrl : a / 2 ^ (n * (k + 1)) % b < b := Nat.mod_lt _ hb
    generalize a / 2 ^ (n * k) % 2 ^ n = d at *
    generalize hAA : a / 2 ^ (n * (k + 1)) = A at *
    generalize hAB : a / 2 ^ (n * k) = A' at *
    subst hre
    (repeat' (first | (exfalso; (fail_if_success (fail_if_success omega)); (first | lia | omega)) | ((fail_if_success (first | with_reducible show wpAny _ _ (binaryOp Operator.LShift _ _) _ _ _ | with_reducible show wpAny _ _ (pyIter _) _ _ _ | with_reducible show wpAny _ _ (exec (Stmt.For _ _ _ _ _) _) _ _ _ | with_reducible show wpAny _ _ (call (Value.ref _) _) _ _ _)); first | (walk1; try dsimp only) | leave1)))
    refine lshift_int (Int.natCast_nonneg _) ?_ ?_
    · have h6 : Builtin.Int.intBits ((A % b : Nat) : Int) ≤ 64 := intBits_le_64 (by (first | lia | omega)) (by (first | lia | omega))
      have h7 : Builtin.Int.intBits ((A % b : Nat) : Int) + n ≤ 200 := by (first | lia | omega)
      have h8 : ((Builtin.Int.intBits ((A % b : Nat) : Int) : Nat) : Int) + (n : Int) ≤ 200 := by (first | lia | omega)
      exact Int.le_trans h8 (by decide)
    rw [Int.toNat_natCast]
    dsimp only
    (repeat' (first | (exfalso; (fail_if_success (fail_if_success omega)); (first | lia | omega)) | ((fail_if_success (first | with_reducible show wpAny _ _ (binaryOp Operator.LShift _ _) _ _ _ | with_reducible show wpAny _ _ (pyIter _) _ _ _ | with_reducible show wpAny _ _ (exec (Stmt.For _ _ _ _ _) _) _ _ _ | with_reducible show wpAny _ _ (call (Value.ref _) _) _ _ _)); first | (walk1; try dsimp only) | leave1)))
    have ht : ((A % b : Nat) : Int) * 2 ^ n + (d : Int) = (((A % b) * 2 ^ n + d : Nat) : Int) := by
      rw [Int.natCast_add, Int.natCast_mul, Int.natCast_pow]
      rfl
    rw [ht]
    have hbits : Builtin.Int.intBits (((A % b) * 2 ^ n + d : Nat) : Int) ≤ 100 := by
      have h2n : 2 ^ n ≤ 2 ^ 10 := Nat.pow_le_pow_right (by decide) hn10
      have h3 : (A % b) * 2 ^ n ≤ 1000 * 2 ^ 10 := Nat.mul_le_mul (by (first | lia | omega)) h2n
      refine Nat.le_trans (intBits_le_64 (by (first | lia | omega)) ?_) (by decide)
      (first | lia | omega)
    rename Fr _ _ _ _ => F6
    rename News _ _ _ _ => N6
    refine div2n1n hbits hb hb2 _ _ _ _ _ _ _ _ _ _ _ _ _ _ _ _ _ _ B F6 X N6 T rfl (by (first | lia | omega)) (by (first | lia | omega)) trivial ?_
    rintro _ h7 tk7 _ F7 N7 hfr k7 ⟨Tt, tq1, tq2, rfl, rfl⟩
    simp only [List.cons_append, List.nil_append] at N7
    clear F6 N6
    dsimp only
    (repeat' (first | (exfalso; (fail_if_success (fail_if_success omega)); (first | lia | omega)) | ((fail_if_success (first | with_reducible show wpAny _ _ (binaryOp Operator.LShift _ _) _ _ _ | with_reducible show wpAny _ _ (pyIter _) _ _ _ | with_reducible show wpAny _ _ (exec (Stmt.For _ _ _ _ _) _) _ _ _ | with_reducible show wpAny _ _ (call (Value.ref _) _) _ _ _)); first | (walk1; try dsimp only) | leave1)))
    rename Fr _ _ _ _ => F8
    rename News _ _ _ _ => N8
    have hqlen := hqI.length
    refine append_in (own := [(It, ro5)]) (rest := (Da, PySem.W.listOf vs.toArray cd) :: tl2) (ys := qvs) (n := cq) F8 (news_sub N8 fun p hp => .tail _ hp) ?_ ?_ ?_ (by rw [hqlen, sizeLine_eq]; (first | lia | omega))
    · intro p hp
      rw [List.mem_singleton.mp hp]
      exact Nat.ne_of_gt lz2.1
    · intro p hp
      rcases List.mem_cons.mp hp with rfl | hp
      · exact Nat.ne_of_lt lz1.1
      · exact Nat.ne_of_lt (allLt_mem _ lz1.2 p hp)
    intro h9 F9 N9
    clear F8 N8
    dsimp only
    (repeat' (first | (exfalso; (fail_if_success (fail_if_success omega)); (first | lia | omega)) | ((fail_if_success (first | with_reducible show wpAny _ _ (binaryOp Operator.LShift _ _) _ _ _ | with_reducible show wpAny _ _ (pyIter _) _ _ _ | with_reducible show wpAny _ _ (exec (Stmt.For _ _ _ _ _) _) _ _ _ | with_reducible show wpAny _ _ (call (Value.ref _) _) _ _ _)); first | (walk1; try dsimp only) | leave1)))
    rename Fr _ _ _ _ => F10
    rename News _ _ _ _ => N10
    refine ⟨k, Nat.lt_succ_self k, _, _, _, ro5, qvs ++ [Value.int (((A % b * 2 ^ n + d) / b : Nat) : Int) tq1], qs ++ [(((A % b * 2 ^ n + d) / b : Nat) : Int)], cq + 1, _, _, rfl, by (first | lia | omega), F10, rfl, rfl, rfl, rfl, N10, hro5, ints_snoc hqI _ _, ?_, ?_, ?_, ?_⟩
    · rw [List.length_append, hql]
      show len - (k + 1) + 1 = len - k
      (first | lia | omega)
    · rw [List.reverse_append]
      show (((A % b * 2 ^ n + d) / b : Nat) : Int) + 2 ^ n * dval n qs.reverse = _
      rw [hqv, hAB, st2, Int.natCast_add, Int.natCast_mul, Int.natCast_pow]
      rfl
    · intro q hq
      rcases List.mem_append.mp hq with hq | hq
      · exact hqb q hq
      · rw [List.mem_singleton.mp hq]
        refine ⟨Int.natCast_nonneg _, ?_⟩
        have h9 : (((A % b * 2 ^ n + d) / b : Nat) : Int) < ((2 ^ n : Nat) : Int) := Int.ofNat_lt.mpr st3
        rw [Int.natCast_pow] at h9
        exact h9
    · rw [hAB, st1]
end Mine
end
-- IDM
section
open PySem PySem.W PyProof.Rows PySem.Calls
set_option Elab.async false
set_option maxRecDepth 100000
set_option linter.all false
set_option maxHeartbeats 0
namespace Mine
theorem idm {w : World} {mean mg mb} {a b : Nat} {t u : Tok} (ha : Builtin.Int.intBits (a : Int) ≤ 48) (hb : 0 < b) (hb2 : b ≤ 1000) :
    CtrG w mean mg mb 64 [.int a t, .int b u] (100+1) (1600+3) (fun _ => True) (fun _ r own => DivPost a b r own) := by
  refine enterH (binds := [(Str.ofString "a", .int a t), (Str.ofString "b", .int b u)]) (by rfl) (by rfl) (fun s _ => BindsTo.of_eq rfl) (locs rfl) ?_ rfl rfl rfl (by decide)
  intro dp un gd outer A₀ base g L tl s B X T hd hu _ hTL hlow F N
  change Fr g L s.heap (lk [(Str.ofString "b", .int b u), (Str.ofString "a", .int a t)]) at F
  (repeat' (first | (exfalso; (fail_if_success (fail_if_success omega)); (first | lia | omega)) | ((fail_if_success (first | with_reducible show wpAny _ _ (call (Value.ref _) _) _ _ _)); first | (walk1; try dsimp only) | leave1)))
  rename Fr _ _ _ _ => F1
  rename News _ _ _ _ => N1
  refine ctrG_use (news := []) (dmp ha hb hb2) B F1 X N1 hTL (fun p hp => by cases hp) T rfl (by (first | lia | omega)) (by (first | lia | omega)) (fun _ _ => trivial) ?_
  rintro r h2 tk2 own tl2 F2 hTL2 hap2 N2 _ k2 P
  simp only [List.append_nil] at N2 hap2
  exact ⟨_, _, _, own, tl2, rfl, F2, hTL2, hap2, N2, P⟩
end Mine
end
-- PL1
section
set_option linter.all false
namespace Mine
/-- binomials -/
noncomputable def ch : Nat → Nat → Nat
  | _, 0 => 1
  | 0, _ + 1 => 0
  | n + 1, k + 1 => ch n k + ch n (k + 1)
theorem ch_zero (n : Nat) : ch n 0 = 1 := by cases n <;> rfl
theorem ch_gt : ∀ n k, n < k → ch n k = 0
  | _, 0, h => absurd h (Nat.not_lt_zero _)
  | 0, k + 1, _ => rfl
  | n + 1, k + 1, h => by rw [ch, ch_gt n k (by (first | lia | omega)), ch_gt n (k + 1) (by (first | lia | omega))]
theorem ch_one : ∀ n, ch n 1 = n
  | 0 => rfl
  | n + 1 => by
    show ch n 0 + ch n 1 = n + 1
    rw [ch_zero, ch_one n]; (first | lia | omega)
theorem ch_abs : ∀ n k, (k + 1) * ch (n + 1) (k + 1) = (n + 1) * ch n k
  | n, 0 => by rw [ch_zero, show 0 + 1 = 1 from rfl, ch_one]; (first | lia | omega)
  | 0, k + 1 => by simp [ch]
  | n + 1, k + 1 => by
    have h1 := ch_abs n k
    have h2 := ch_abs n (k + 1)
    rw [ch]
    have e : ch (n + 1) (k + 1) = ch n k + ch n (k + 1) := rfl
    grind
theorem ch_abs2 : ∀ n k, (n + 1 - k) * ch (n + 1) k = (n + 1) * ch n k
  | n, 0 => by simp [ch_zero]
  | n, k + 1 => by
    rcases Nat.lt_or_ge n k with h | h
    · rw [ch_gt n (k + 1) (by (first | lia | omega))]
      rcases Nat.lt_or_ge (n + 1) (k + 1) with h2 | h2
      · rw [ch_gt _ _ h2]; simp
      · (first | lia | omega)
    · have h1 := ch_abs n k
      have e : ch (n + 1) (k + 1) = ch n k + ch n (k + 1) := rfl
      obtain ⟨d, rfl⟩ : ∃ d, n = k + d := ⟨n - k, by (first | lia | omega)⟩
      rw [show k + d + 1 - (k + 1) = d by (first | lia | omega)]
      grind
/-- C(a + b, a) by one less of either -/
theorem ch_left (a b : Nat) : (a + 1) * ch (a + 1 + b) (a + 1) = (a + 1 + b) * ch (a + b) a := by
  have := ch_abs (a + b) a
  rw [show a + 1 + b = a + b + 1 by (first | lia | omega)]; exact this
theorem ch_right (a b : Nat) : (b + 1) * ch (a + (b + 1)) a = (a + (b + 1)) * ch (a + b) a := by
  have := ch_abs2 (a + b) a
  rw [show a + b + 1 - a = b + 1 by (first | lia | omega)] at this
  rw [show a + (b + 1) = a + b + 1 by (first | lia | omega)]; exact this
end Mine
end
-- PL2
section
set_option linter.all false
namespace Mine
/-- numbers of the names in a word -/
noncomputable def na (w : List Int) : Nat := w.countP (· == 945)
noncomputable def ni (w : List Int) : Nat := w.countP (· != 945)
theorem na_app (u v : List Int) : na (u ++ v) = na u + na v := List.countP_append
theorem ni_app (u v : List Int) : ni (u ++ v) = ni u + ni v := List.countP_append
/-- derivations of the word w that use the rules just a, b, c, e times (fuel f) -/
noncomputable def D (hd : Nat → List Int) : Nat → List Int → Nat → Nat → Nat → Nat → Nat
  | _, [], a, b, c, e => if a + b + c + e = 0 then 1 else 0
  | 0, _ :: _, _, _, _, _ => 0
  | f + 1, x :: r, a, b, c, e =>
    if x == 945 then (match a with | 0 => 0 | a + 1 => D hd f (hd 0 ++ r) a b c e) + (match b with | 0 => 0 | b + 1 => D hd f (hd 1 ++ r) a b c e)
    else (match c with | 0 => 0 | c + 1 => D hd f (hd 2 ++ r) a b c e) + (match e with | 0 => 0 | e + 1 => D hd f (hd 3 ++ r) a b c e)
/-- what is said of the number N -/
noncomputable abbrev Good (α : Nat → Nat) (ι : Nat → Nat) (p q a b c e N : Nat) : Prop :=
  (N ≠ 0 → a + b = p + (a * α 0 + b * α 1) + (c * α 2 + e * α 3) ∧ c + e = q + (a * ι 0 + b * ι 1) + (c * ι 2 + e * ι 3)) ∧
  (a + b = p + (a * α 0 + b * α 1) + (c * α 2 + e * α 3) → c + e = q + (a * ι 0 + b * ι 1) + (c * ι 2 + e * ι 3) → 0 < a + b → 0 < c + e →
    N * ((a + b) * (c + e)) = ch (a + b) a * ch (c + e) c * (p * q + p * (a * ι 0 + b * ι 1) + q * (c * α 2 + e * α 3))) ∧
  (a + b = p + (a * α 0 + b * α 1) + (c * α 2 + e * α 3) → c + e = q + (a * ι 0 + b * ι 1) + (c * ι 2 + e * ι 3) → 0 < a + b → c + e = 0 → N * (a + b) = ch (a + b) a * p) ∧
  (a + b = p + (a * α 0 + b * α 1) + (c * α 2 + e * α 3) → c + e = q + (a * ι 0 + b * ι 1) + (c * ι 2 + e * ι 3) → a + b = 0 → 0 < c + e → N * (c + e) = ch (c + e) c * q) ∧
  (a + b = p + (a * α 0 + b * α 1) + (c * α 2 + e * α 3) → c + e = q + (a * ι 0 + b * ι 1) + (c * ι 2 + e * ι 3) → a + b = 0 → c + e = 0 → N = 1)
section
variable {α : Nat → Nat} {ι : Nat → Nat} {p q a b c e N : Nat}
theorem Good.bal (h : Good α ι p q a b c e N) : N ≠ 0 → a + b = p + (a * α 0 + b * α 1) + (c * α 2 + e * α 3) ∧ c + e = q + (a * ι 0 + b * ι 1) + (c * ι 2 + e * ι 3) := h.1
theorem Good.both (h : Good α ι p q a b c e N) : a + b = p + (a * α 0 + b * α 1) + (c * α 2 + e * α 3) → c + e = q + (a * ι 0 + b * ι 1) + (c * ι 2 + e * ι 3) → 0 < a + b → 0 < c + e →
    N * ((a + b) * (c + e)) = ch (a + b) a * ch (c + e) c * (p * q + p * (a * ι 0 + b * ι 1) + q * (c * α 2 + e * α 3)) := h.2.1
theorem Good.left (h : Good α ι p q a b c e N) : a + b = p + (a * α 0 + b * α 1) + (c * α 2 + e * α 3) → c + e = q + (a * ι 0 + b * ι 1) + (c * ι 2 + e * ι 3) → 0 < a + b → c + e = 0 → N * (a + b) = ch (a + b) a * p := h.2.2.1
theorem Good.right (h : Good α ι p q a b c e N) : a + b = p + (a * α 0 + b * α 1) + (c * α 2 + e * α 3) → c + e = q + (a * ι 0 + b * ι 1) + (c * ι 2 + e * ι 3) → a + b = 0 → 0 < c + e → N * (c + e) = ch (c + e) c * q := h.2.2.2.1
theorem Good.none (h : Good α ι p q a b c e N) : a + b = p + (a * α 0 + b * α 1) + (c * α 2 + e * α 3) → c + e = q + (a * ι 0 + b * ι 1) + (c * ι 2 + e * ι 3) → a + b = 0 → c + e = 0 → N = 1 := h.2.2.2.2
end
theorem Good.nil {α ι : Nat → Nat} {a b c e : Nat} : Good α ι 0 0 a b c e (if a + b + c + e = 0 then 1 else 0) := by
  by_cases h : a + b + c + e = 0
  · obtain ⟨rfl, rfl, rfl, rfl⟩ : a = 0 ∧ b = 0 ∧ c = 0 ∧ e = 0 := by (first | lia | omega)
    simp only [if_pos]
    refine ⟨fun _ => by simp, fun _ _ h => by (first | lia | omega), fun _ _ h => by (first | lia | omega), fun _ _ _ h => by (first | lia | omega), fun _ _ _ _ => rfl⟩
  · rw [if_neg h]
    refine ⟨fun h => absurd rfl h, fun h1 h2 h3 h4 => ?_, fun h1 h2 h3 h4 => by simp, fun h1 h2 h3 h4 => by simp, fun h1 h2 h3 h4 => by (first | lia | omega)⟩
    simp
/-- the identity behind the step: a and b the uses, x, y their letters -/
theorem step_id (a b x y p q B S Dv i j : Nat) (hS : S = a * x + b * y) (hB : B = a * i + b * j) (hn : a + b = p + 1 + S + Dv) :
    a * ((p + x) * (q + B) + (q + i) * Dv) + b * ((p + y) * (q + B) + (q + j) * Dv) = (p + S + Dv) * ((p + 1) * (q + B) + q * Dv) := by
  have e1 : a * ((p + x) * (q + B) + (q + i) * Dv) + b * ((p + y) * (q + B) + (q + j) * Dv) = ((a + b) * p + S) * (q + B) + ((a + b) * q + B) * Dv := by
    subst hS hB; grind
  rw [e1, hn]
  grind
theorem fin_id {N0 N1 n1 m n C1 C2 a b X0 X1 p q B Dv : Nat} (k0 : N0 * n1 * m * n = C1 * C2 * (a * X0)) (k1 : N1 * n1 * m * n = C1 * C2 * (b * X1)) (id : a * X0 + b * X1 = n1 * ((p + 1) * (q + B) + q * Dv)) :
    n1 * ((N0 + N1) * (n * m)) = n1 * (C1 * C2 * ((p + 1) * q + (p + 1) * B + q * Dv)) := by
  have e : n1 * ((N0 + N1) * (n * m)) = N0 * n1 * m * n + N1 * n1 * m * n := by grind
  rw [e, k0, k1, ← Nat.mul_add, id]
  grind
theorem fin_id0 {N0 N1 n1 n C a b X0 X1 p : Nat} (k0 : N0 * n1 * n = C * (a * X0)) (k1 : N1 * n1 * n = C * (b * X1)) (id : a * X0 + b * X1 = n1 * (p + 1)) : n1 * ((N0 + N1) * n) = n1 * (C * (p + 1)) := by
  have e : n1 * ((N0 + N1) * n) = N0 * n1 * n + N1 * n1 * n := by grind
  rw [e, k0, k1, ← Nat.mul_add, id]
  grind
/-- one step at a leftmost alpha -/
theorem Good.alpha {α ι : Nat → Nat} {p q a b c e N0 N1 : Nat}
    (h0 : ∀ a', a = a' + 1 → Good α ι (p + α 0) (q + ι 0) a' b c e N0) (h0' : a = 0 → N0 = 0)
    (h1 : ∀ b', b = b' + 1 → Good α ι (p + α 1) (q + ι 1) a b' c e N1) (h1' : b = 0 → N1 = 0) : Good α ι (p + 1) q a b c e (N0 + N1) := by
  -- one alpha alone
  have one : a + b = p + 1 + (a * α 0 + b * α 1) + (c * α 2 + e * α 3) → c + e = q + (a * ι 0 + b * ι 1) + (c * ι 2 + e * ι 3) → a + b = 1 → p = 0 ∧ (c * α 2 + e * α 3) = 0 ∧ ch (a + b) a = 1 ∧
      ((0 < c + e → (N0 + N1) * (c + e) = ch (c + e) c * (q + (a * ι 0 + b * ι 1))) ∧ (c + e = 0 → N0 + N1 = 1)) := by
    intro g1 g2 hn
    refine ⟨by (first | lia | omega), by (first | lia | omega), ?_, ?_⟩
    · rcases Nat.eq_zero_or_pos a with h | h
      · subst h; exact ch_zero _
      · obtain ⟨rfl, rfl⟩ : a = 1 ∧ b = 0 := by (first | lia | omega)
        rfl
    rcases Nat.eq_zero_or_pos a with h | h
    · obtain rfl : b = 1 := by (first | lia | omega)
      subst h
      rw [h0' rfl]
      have G := h1 0 rfl
      simp only [Nat.zero_mul, Nat.one_mul, Nat.zero_add, Nat.add_zero] at g1 g2 G ⊢
      refine ⟨fun hm => ?_, fun hm => ?_⟩
      · exact G.right (by simp; (first | lia | omega)) (by simp; (first | lia | omega)) (by (first | lia | omega)) hm
      · exact G.none (by simp; (first | lia | omega)) (by simp; (first | lia | omega)) (by (first | lia | omega)) hm
    · obtain ⟨rfl, rfl⟩ : a = 1 ∧ b = 0 := by (first | lia | omega)
      rw [h1' rfl]
      have G := h0 0 rfl
      simp only [Nat.zero_mul, Nat.one_mul, Nat.zero_add, Nat.add_zero] at g1 g2 G ⊢
      refine ⟨fun hm => ?_, fun hm => ?_⟩
      · exact G.right (by simp; (first | lia | omega)) (by simp; (first | lia | omega)) (by (first | lia | omega)) hm
      · exact G.none (by simp; (first | lia | omega)) (by simp; (first | lia | omega)) (by (first | lia | omega)) hm
  refine ⟨fun h => ?_, fun g1 g2 g3 g4 => ?_, fun g1 g2 g3 g4 => ?_, fun g1 g2 g3 g4 => ?_, fun g1 g2 g3 g4 => ?_⟩
  · by_cases z : N0 = 0
    · have z1 : N1 ≠ 0 := by (first | lia | omega)
      cases b with
      | zero => exact absurd (h1' rfl) z1
      | succ b' =>
        obtain ⟨x, y⟩ := (h1 b' rfl).bal z1
        simp only [Nat.add_mul, Nat.one_mul] at x y ⊢
        (first | lia | omega)
    · cases a with
      | zero => exact absurd (h0' rfl) z
      | succ a' =>
        obtain ⟨x, y⟩ := (h0 a' rfl).bal z
        simp only [Nat.add_mul, Nat.one_mul] at x y ⊢
        (first | lia | omega)
  · by_cases hn : a + b = 1
    · obtain ⟨rfl, d0, hc, hm, _⟩ := one g1 g2 hn
      have := hm g4
      rw [hc, d0, hn]
      simp only [Nat.one_mul, Nat.zero_add, Nat.mul_zero, Nat.add_zero] at this ⊢
      rw [this]
    · have k0 : N0 * (p + (a * α 0 + b * α 1) + (c * α 2 + e * α 3)) * (c + e) * (a + b) = ch (a + b) a * ch (c + e) c * (a * ((p + α 0) * (q + (a * ι 0 + b * ι 1)) + (q + ι 0) * (c * α 2 + e * α 3))) := by
        cases a with
        | zero => rw [h0' rfl]; simp
        | succ a' =>
          have G := (h0 a' rfl).both (by simp only [Nat.add_mul, Nat.one_mul] at g1 ⊢; (first | lia | omega)) (by simp only [Nat.add_mul, Nat.one_mul] at g2 ⊢; (first | lia | omega)) (by (first | lia | omega)) g4
          have hb := ch_left a' b
          rw [show p + ((a' + 1) * α 0 + b * α 1) + (c * α 2 + e * α 3) = a' + b by (first | lia | omega)]
          rw [show N0 * (a' + b) * (c + e) * (a' + 1 + b) = N0 * ((a' + b) * (c + e)) * (a' + 1 + b) by grind, G]
          rw [show ch (a' + 1 + b) (a' + 1) * ch (c + e) c * ((a' + 1) * ((p + α 0) * (q + ((a' + 1) * ι 0 + b * ι 1)) + (q + ι 0) * (c * α 2 + e * α 3))) = ((a' + 1) * ch (a' + 1 + b) (a' + 1)) * (ch (c + e) c * ((p + α 0) * (q + ((a' + 1) * ι 0 + b * ι 1)) + (q + ι 0) * (c * α 2 + e * α 3))) by grind, hb]
          grind
      have k1 : N1 * (p + (a * α 0 + b * α 1) + (c * α 2 + e * α 3)) * (c + e) * (a + b) = ch (a + b) a * ch (c + e) c * (b * ((p + α 1) * (q + (a * ι 0 + b * ι 1)) + (q + ι 1) * (c * α 2 + e * α 3))) := by
        cases b with
        | zero => rw [h1' rfl]; simp
        | succ b' =>
          have G := (h1 b' rfl).both (by simp only [Nat.add_mul, Nat.one_mul] at g1 ⊢; (first | lia | omega)) (by simp only [Nat.add_mul, Nat.one_mul] at g2 ⊢; (first | lia | omega)) (by (first | lia | omega)) g4
          have hb := ch_right a b'
          rw [show p + (a * α 0 + (b' + 1) * α 1) + (c * α 2 + e * α 3) = a + b' by (first | lia | omega)]
          rw [show N1 * (a + b') * (c + e) * (a + (b' + 1)) = N1 * ((a + b') * (c + e)) * (a + (b' + 1)) by grind, G]
          rw [show ch (a + (b' + 1)) a * ch (c + e) c * ((b' + 1) * ((p + α 1) * (q + (a * ι 0 + (b' + 1) * ι 1)) + (q + ι 1) * (c * α 2 + e * α 3))) = ((b' + 1) * ch (a + (b' + 1)) a) * (ch (c + e) c * ((p + α 1) * (q + (a * ι 0 + (b' + 1) * ι 1)) + (q + ι 1) * (c * α 2 + e * α 3))) by grind, hb]
          grind
      have id := step_id a b (α 0) (α 1) p q (a * ι 0 + b * ι 1) (a * α 0 + b * α 1) (c * α 2 + e * α 3) (ι 0) (ι 1) rfl rfl g1
      have pos : 0 < p + (a * α 0 + b * α 1) + (c * α 2 + e * α 3) := by (first | lia | omega)
      apply Nat.eq_of_mul_eq_mul_left pos
      exact fin_id k0 k1 id
  · obtain ⟨rfl, rfl⟩ : c = 0 ∧ e = 0 := by (first | lia | omega)
    obtain ⟨rfl, B0⟩ : q = 0 ∧ a * ι 0 + b * ι 1 = 0 := by (first | lia | omega)
    by_cases hn : a + b = 1
    · obtain ⟨rfl, d0, hc, _, hm⟩ := one g1 g2 hn
      rw [hc, hn, hm rfl]
    · have k0 : N0 * (p + (a * α 0 + b * α 1)) * (a + b) = ch (a + b) a * (a * (p + α 0)) := by
        cases a with
        | zero => rw [h0' rfl]; simp
        | succ a' =>
          have G := (h0 a' rfl).left (by simp only [Nat.add_mul, Nat.one_mul] at g1 ⊢; (first | lia | omega)) (by simp only [Nat.add_mul, Nat.one_mul] at B0 ⊢; (first | lia | omega)) (by (first | lia | omega)) rfl
          have hb := ch_left a' b
          rw [show p + ((a' + 1) * α 0 + b * α 1) = a' + b by (first | lia | omega), G]
          rw [show ch (a' + 1 + b) (a' + 1) * ((a' + 1) * (p + α 0)) = ((a' + 1) * ch (a' + 1 + b) (a' + 1)) * (p + α 0) by grind, hb]
          grind
      have k1 : N1 * (p + (a * α 0 + b * α 1)) * (a + b) = ch (a + b) a * (b * (p + α 1)) := by
        cases b with
        | zero => rw [h1' rfl]; simp
        | succ b' =>
          have G := (h1 b' rfl).left (by simp only [Nat.add_mul, Nat.one_mul] at g1 ⊢; (first | lia | omega)) (by simp only [Nat.add_mul, Nat.one_mul] at B0 ⊢; (first | lia | omega)) (by (first | lia | omega)) rfl
          have hb := ch_right a b'
          rw [show p + (a * α 0 + (b' + 1) * α 1) = a + b' by (first | lia | omega), G]
          rw [show ch (a + (b' + 1)) a * ((b' + 1) * (p + α 1)) = ((b' + 1) * ch (a + (b' + 1)) a) * (p + α 1) by grind, hb]
          grind
      have id : a * (p + α 0) + b * (p + α 1) = (p + (a * α 0 + b * α 1)) * (p + 1) := by
        have e1 : a * (p + α 0) + b * (p + α 1) = (a + b) * p + (a * α 0 + b * α 1) := by grind
        have e2 : a + b = p + 1 + (a * α 0 + b * α 1) := by (first | lia | omega)
        rw [e1, e2]
        grind
      have pos : 0 < p + (a * α 0 + b * α 1) := by (first | lia | omega)
      apply Nat.eq_of_mul_eq_mul_left pos
      exact fin_id0 k0 k1 id
  · (first | lia | omega)
  · (first | lia | omega)
end Mine
end
-- PL3
section
set_option linter.all false
namespace Mine
noncomputable def sw (f : Nat → Nat) : Nat → Nat
  | 0 => f 2
  | 1 => f 3
  | 2 => f 0
  | 3 => f 1
  | n => f n
theorem Good.swap {α ι : Nat → Nat} {p q a b c e N : Nat} (h : Good α ι p q a b c e N) : Good (sw ι) (sw α) q p c e a b N := by
  refine ⟨fun z => ?_, fun g1 g2 g3 g4 => ?_, fun g1 g2 g3 g4 => ?_, fun g1 g2 g3 g4 => ?_, fun g1 g2 g3 g4 => ?_⟩
  · have := h.bal z
    simp only [sw]
    (first | lia | omega)
  · simp only [sw] at g1 g2 ⊢
    have := h.both (by (first | lia | omega)) (by (first | lia | omega)) g4 g3
    have e1 : N * ((c + e) * (a + b)) = N * ((a + b) * (c + e)) := by grind
    rw [e1, this]
    grind
  · simp only [sw] at g1 g2
    exact h.right (by (first | lia | omega)) (by (first | lia | omega)) g4 g3
  · simp only [sw] at g1 g2
    exact h.left (by (first | lia | omega)) (by (first | lia | omega)) g4 g3
  · simp only [sw] at g1 g2
    exact h.none (by (first | lia | omega)) (by (first | lia | omega)) g4 g3
theorem sw_sw (f : Nat → Nat) : sw (sw f) = f := by
  funext n
  match n with
  | 0 => rfl
  | 1 => rfl
  | 2 => rfl
  | 3 => rfl
  | n + 4 => rfl
theorem Good.iota {α ι : Nat → Nat} {p q a b c e N0 N1 : Nat}
    (h0 : ∀ c', c = c' + 1 → Good α ι (p + α 2) (q + ι 2) a b c' e N0) (h0' : c = 0 → N0 = 0)
    (h1 : ∀ e', e = e' + 1 → Good α ι (p + α 3) (q + ι 3) a b c e' N1) (h1' : e = 0 → N1 = 0) : Good α ι p (q + 1) a b c e (N0 + N1) := by
  have := Good.alpha (α := sw ι) (ι := sw α) (p := q) (q := p) (a := c) (b := e) (c := a) (e := b) (N0 := N0) (N1 := N1)
    (fun c' hc => (h0 c' hc).swap) h0' (fun e' he => (h1 e' he).swap) h1'
  have := this.swap
  rw [sw_sw, sw_sw] at this
  exact this
theorem na_cons (x : Int) (r : List Int) : na (x :: r) = na r + (if x == 945 then 1 else 0) := by
  unfold na; rw [List.countP_cons]
theorem ni_cons (x : Int) (r : List Int) : ni (x :: r) = ni r + (if x == 945 then 0 else 1) := by
  unfold ni
  rw [List.countP_cons]
  by_cases h : (x == 945) = true <;> simp [h, bne]
theorem D_cons (hd : Nat → List Int) (f : Nat) (x : Int) (r : List Int) (a b c e : Nat) : D hd (f + 1) (x :: r) a b c e =
    if x == 945 then (match a with | 0 => 0 | a + 1 => D hd f (hd 0 ++ r) a b c e) + (match b with | 0 => 0 | b + 1 => D hd f (hd 1 ++ r) a b c e)
    else (match c with | 0 => 0 | c + 1 => D hd f (hd 2 ++ r) a b c e) + (match e with | 0 => 0 | e + 1 => D hd f (hd 3 ++ r) a b c e) := by
  cases a <;> cases b <;> cases c <;> cases e <;> rfl
theorem good_D (hd : Nat → List Int) : ∀ (f : Nat) (w : List Int) (a b c e : Nat), a + b + c + e ≤ f → Good (fun i => na (hd i)) (fun i => ni (hd i)) (na w) (ni w) a b c e (D hd f w a b c e)
  | f, [], a, b, c, e, _ => by
    have := Good.nil (α := fun i => na (hd i)) (ι := fun i => ni (hd i)) (a := a) (b := b) (c := c) (e := e)
    cases f <;> exact this
  | 0, x :: r, a, b, c, e, h => by
    obtain ⟨rfl, rfl, rfl, rfl⟩ : a = 0 ∧ b = 0 ∧ c = 0 ∧ e = 0 := by (first | lia | omega)
    refine ⟨fun z => absurd rfl z, fun _ _ h => by (first | lia | omega), fun _ _ h => by (first | lia | omega), fun _ _ _ h => by (first | lia | omega), fun g1 g2 _ _ => ?_⟩
    rw [na_cons] at g1
    rw [ni_cons] at g2
    by_cases hx : (x == 945) = true <;> simp [hx] at g1 g2
  | f + 1, x :: r, a, b, c, e, h => by
    rw [D_cons, na_cons, ni_cons]
    by_cases hx : (x == 945) = true
    · rw [if_pos hx, if_pos hx, if_pos hx]
      refine Good.alpha (fun a' ha => ?_) (fun ha => by subst ha; rfl) (fun b' hb => ?_) (fun hb => by subst hb; rfl)
      · subst ha
        have := good_D hd f (hd 0 ++ r) a' b c e (by (first | lia | omega))
        rw [na_app, ni_app, Nat.add_comm (na (hd 0)), Nat.add_comm (ni (hd 0))] at this
        exact this
      · subst hb
        have := good_D hd f (hd 1 ++ r) a b' c e (by (first | lia | omega))
        rw [na_app, ni_app, Nat.add_comm (na (hd 1)), Nat.add_comm (ni (hd 1))] at this
        exact this
    · rw [if_neg hx, if_neg hx, if_neg hx]
      refine Good.iota (fun c' hc => ?_) (fun hc => by subst hc; rfl) (fun e' he => ?_) (fun he => by subst he; rfl)
      · subst hc
        have := good_D hd f (hd 2 ++ r) a b c' e (by (first | lia | omega))
        rw [na_app, ni_app, Nat.add_comm (na (hd 2)), Nat.add_comm (ni (hd 2))] at this
        exact this
      · subst he
        have := good_D hd f (hd 3 ++ r) a b c e' (by (first | lia | omega))
        rw [na_app, ni_app, Nat.add_comm (na (hd 3)), Nat.add_comm (ni (hd 3))] at this
        exact this
end Mine
end
-- PL4
section
set_option linter.all false
namespace Mine
noncomputable def enc (a b c e : Nat) : Int := a + 8 * b + 64 * c + 512 * e
/-- the keys that the walk finds from the row w (its names), in some order -/
noncomputable def leaves (hd : Nat → List Int) : Nat → List Int → Int → Nat → List Int
  | _, [], key, _ => [key]
  | 0, _ :: _, _, _ => []
  | f + 1, x :: r, key, used =>
    if r.length + 1 + used ≤ 5 then
      (if x == 945 then leaves hd f (hd 0 ++ r) (key + 1) (used + 1) ++ leaves hd f (hd 1 ++ r) (key + 8) (used + 1)
       else leaves hd f (hd 2 ++ r) (key + 64) (used + 1) ++ leaves hd f (hd 3 ++ r) (key + 512) (used + 1))
    else []
theorem leaves_nil (hd : Nat → List Int) (f : Nat) (key : Int) (used : Nat) : leaves hd f [] key used = [key] := by cases f <;> rfl
theorem D_len (hd : Nat → List Int) : ∀ (f : Nat) (w : List Int) (a b c e : Nat), D hd f w a b c e ≠ 0 → w.length ≤ a + b + c + e
  | f, [], a, b, c, e, _ => Nat.zero_le _
  | 0, _ :: _, a, b, c, e, h => absurd rfl h
  | f + 1, x :: r, a, b, c, e, h => by
    rw [D_cons] at h
    rw [List.length_cons]
    by_cases hx : (x == 945) = true
    · rw [if_pos hx] at h
      cases a with
      | zero =>
        cases b with
        | zero => simp at h
        | succ b =>
          have := D_len hd f (hd 1 ++ r) 0 b c e (by simpa using h)
          rw [List.length_append] at this; (first | lia | omega)
      | succ a =>
        by_cases z : D hd f (hd 0 ++ r) a b c e = 0
        · cases b with
          | zero => simp [z] at h
          | succ b =>
            have := D_len hd f (hd 1 ++ r) (a + 1) b c e (by simpa [z] using h)
            rw [List.length_append] at this; (first | lia | omega)
        · have := D_len hd f (hd 0 ++ r) a b c e z
          rw [List.length_append] at this; (first | lia | omega)
    · rw [if_neg hx] at h
      cases c with
      | zero =>
        cases e with
        | zero => simp at h
        | succ e =>
          have := D_len hd f (hd 3 ++ r) a b 0 e (by simpa using h)
          rw [List.length_append] at this; (first | lia | omega)
      | succ c =>
        by_cases z : D hd f (hd 2 ++ r) a b c e = 0
        · cases e with
          | zero => simp [z] at h
          | succ e =>
            have := D_len hd f (hd 3 ++ r) a b (c + 1) e (by simpa [z] using h)
            rw [List.length_append] at this; (first | lia | omega)
        · have := D_len hd f (hd 2 ++ r) a b c e z
          rw [List.length_append] at this; (first | lia | omega)
theorem leaves_mem (hd : Nat → List Int) : ∀ (f : Nat) (w : List Int) (qa qb qc qe : Nat) (k : Int), qa + qb + qc + qe ≤ 5 → k ∈ leaves hd f w (enc qa qb qc qe) (qa + qb + qc + qe) →
    ∃ a b c e, k = enc (qa + a) (qb + b) (qc + c) (qe + e) ∧ qa + qb + qc + qe + (a + b + c + e) ≤ 5
  | f, [], qa, qb, qc, qe, k, h5, h => by
    rw [leaves_nil, List.mem_singleton] at h
    exact ⟨0, 0, 0, 0, h, by (first | lia | omega)⟩
  | 0, _ :: _, qa, qb, qc, qe, k, h5, h => by cases h
  | f + 1, x :: r, qa, qb, qc, qe, k, h5, h => by
    rw [leaves] at h
    by_cases hl : r.length + 1 + (qa + qb + qc + qe) ≤ 5
    · rw [if_pos hl] at h
      by_cases hx : (x == 945) = true
      · rw [if_pos hx] at h
        rcases List.mem_append.mp h with h | h
        · rw [show enc qa qb qc qe + 1 = enc (qa + 1) qb qc qe by unfold enc; (first | lia | omega), show qa + qb + qc + qe + 1 = qa + 1 + qb + qc + qe by (first | lia | omega)] at h
          obtain ⟨a, b, c, e, h1, h2⟩ := leaves_mem hd f _ _ _ _ _ k (by (first | lia | omega)) h
          exact ⟨a + 1, b, c, e, by rw [h1, show qa + 1 + a = qa + (a + 1) by (first | lia | omega)], by (first | lia | omega)⟩
        · rw [show enc qa qb qc qe + 8 = enc qa (qb + 1) qc qe by unfold enc; (first | lia | omega), show qa + qb + qc + qe + 1 = qa + (qb + 1) + qc + qe by (first | lia | omega)] at h
          obtain ⟨a, b, c, e, h1, h2⟩ := leaves_mem hd f _ _ _ _ _ k (by (first | lia | omega)) h
          exact ⟨a, b + 1, c, e, by rw [h1, show qb + 1 + b = qb + (b + 1) by (first | lia | omega)], by (first | lia | omega)⟩
      · rw [if_neg hx] at h
        rcases List.mem_append.mp h with h | h
        · rw [show enc qa qb qc qe + 64 = enc qa qb (qc + 1) qe by unfold enc; (first | lia | omega), show qa + qb + qc + qe + 1 = qa + qb + (qc + 1) + qe by (first | lia | omega)] at h
          obtain ⟨a, b, c, e, h1, h2⟩ := leaves_mem hd f _ _ _ _ _ k (by (first | lia | omega)) h
          exact ⟨a, b, c + 1, e, by rw [h1, show qc + 1 + c = qc + (c + 1) by (first | lia | omega)], by (first | lia | omega)⟩
        · rw [show enc qa qb qc qe + 512 = enc qa qb qc (qe + 1) by unfold enc; (first | lia | omega), show qa + qb + qc + qe + 1 = qa + qb + qc + (qe + 1) by (first | lia | omega)] at h
          obtain ⟨a, b, c, e, h1, h2⟩ := leaves_mem hd f _ _ _ _ _ k (by (first | lia | omega)) h
          exact ⟨a, b, c, e + 1, by rw [h1, show qe + 1 + e = qe + (e + 1) by (first | lia | omega)], by (first | lia | omega)⟩
    · rw [if_neg hl] at h; cases h
theorem enc_inj {a b c e a' b' c' e' : Nat} (h : enc a b c e = enc a' b' c' e') (h1 : a + b + c + e ≤ 5) (h2 : a' + b' + c' + e' ≤ 5) : a = a' ∧ b = b' ∧ c = c' ∧ e = e' := by
  unfold enc at h
  have hN : a + 8 * (b + 8 * (c + 8 * e)) = a' + 8 * (b' + 8 * (c' + 8 * e')) := by (first | lia | omega)
  have ea : a = a' := by (first | lia | omega)
  have hN : b + 8 * (c + 8 * e) = b' + 8 * (c' + 8 * e') := by (first | lia | omega)
  have eb : b = b' := by (first | lia | omega)
  have hN : c + 8 * e = c' + 8 * e' := by (first | lia | omega)
  have ec : c = c' := by (first | lia | omega)
  exact ⟨ea, eb, ec, by (first | lia | omega)⟩
theorem leaves_count (hd : Nat → List Int) : ∀ (f : Nat) (w : List Int) (qa qb qc qe a b c e : Nat), 5 ≤ f + (qa + qb + qc + qe) → qa + qb + qc + qe + (a + b + c + e) ≤ 5 →
    (leaves hd f w (enc qa qb qc qe) (qa + qb + qc + qe)).count (enc (qa + a) (qb + b) (qc + c) (qe + e)) = D hd f w a b c e
  | f, [], qa, qb, qc, qe, a, b, c, e, hf, h5 => by
    have hD : D hd f [] a b c e = if a + b + c + e = 0 then 1 else 0 := by cases f <;> rfl
    rw [leaves_nil, hD, List.count_singleton]
    by_cases z : a + b + c + e = 0
    · obtain ⟨rfl, rfl, rfl, rfl⟩ : a = 0 ∧ b = 0 ∧ c = 0 ∧ e = 0 := by (first | lia | omega)
      simp
    · rw [if_neg z, if_neg]
      intro h
      have := enc_inj (eq_of_beq h) (by (first | lia | omega)) (by (first | lia | omega))
      (first | lia | omega)
  | 0, x :: r, qa, qb, qc, qe, a, b, c, e, hf, h5 => rfl
  | f + 1, x :: r, qa, qb, qc, qe, a, b, c, e, hf, h5 => by
    have zero : ∀ (w : List Int) (ra rb rc re : Nat), ra + rb + rc + re ≤ 5 → (qa + a < ra ∨ qb + b < rb ∨ qc + c < rc ∨ qe + e < re) →
        (leaves hd f w (enc ra rb rc re) (ra + rb + rc + re)).count (enc (qa + a) (qb + b) (qc + c) (qe + e)) = 0 := by
      intro w ra rb rc re h1 h2
      rw [List.count_eq_zero]
      intro hm
      obtain ⟨a', b', c', e', h3, h4⟩ := leaves_mem hd f w ra rb rc re _ h1 hm
      have := enc_inj h3 (by (first | lia | omega)) (by (first | lia | omega))
      (first | lia | omega)
    rw [leaves, D_cons]
    by_cases hl : r.length + 1 + (qa + qb + qc + qe) ≤ 5
    · rw [if_pos hl]
      by_cases hx : (x == 945) = true
      · rw [if_pos hx, if_pos hx, List.count_append]
        congr 1
        · rw [show enc qa qb qc qe + 1 = enc (qa + 1) qb qc qe by unfold enc; (first | lia | omega), show qa + qb + qc + qe + 1 = qa + 1 + qb + qc + qe by (first | lia | omega)]
          cases a with
          | zero => exact zero _ _ _ _ _ (by (first | lia | omega)) (.inl (by (first | lia | omega)))
          | succ a =>
            have := leaves_count hd f (hd 0 ++ r) (qa + 1) qb qc qe a b c e (by (first | lia | omega)) (by (first | lia | omega))
            rw [show qa + 1 + a = qa + (a + 1) by (first | lia | omega)] at this
            exact this
        · rw [show enc qa qb qc qe + 8 = enc qa (qb + 1) qc qe by unfold enc; (first | lia | omega), show qa + qb + qc + qe + 1 = qa + (qb + 1) + qc + qe by (first | lia | omega)]
          cases b with
          | zero => exact zero _ _ _ _ _ (by (first | lia | omega)) (.inr (.inl (by (first | lia | omega))))
          | succ b =>
            have := leaves_count hd f (hd 1 ++ r) qa (qb + 1) qc qe a b c e (by (first | lia | omega)) (by (first | lia | omega))
            rw [show qb + 1 + b = qb + (b + 1) by (first | lia | omega)] at this
            exact this
      · rw [if_neg hx, if_neg hx, List.count_append]
        congr 1
        · rw [show enc qa qb qc qe + 64 = enc qa qb (qc + 1) qe by unfold enc; (first | lia | omega), show qa + qb + qc + qe + 1 = qa + qb + (qc + 1) + qe by (first | lia | omega)]
          cases c with
          | zero => exact zero _ _ _ _ _ (by (first | lia | omega)) (.inr (.inr (.inl (by (first | lia | omega)))))
          | succ c =>
            have := leaves_count hd f (hd 2 ++ r) qa qb (qc + 1) qe a b c e (by (first | lia | omega)) (by (first | lia | omega))
            rw [show qc + 1 + c = qc + (c + 1) by (first | lia | omega)] at this
            exact this
        · rw [show enc qa qb qc qe + 512 = enc qa qb qc (qe + 1) by unfold enc; (first | lia | omega), show qa + qb + qc + qe + 1 = qa + qb + qc + (qe + 1) by (first | lia | omega)]
          cases e with
          | zero => exact zero _ _ _ _ _ (by (first | lia | omega)) (.inr (.inr (.inr (by (first | lia | omega)))))
          | succ e =>
            have := leaves_count hd f (hd 3 ++ r) qa qb qc (qe + 1) a b c e (by (first | lia | omega)) (by (first | lia | omega))
            rw [show qe + 1 + e = qe + (e + 1) by (first | lia | omega)] at this
            exact this
    · rw [if_neg hl]
      have : D hd (f + 1) (x :: r) a b c e = 0 := by
        by_cases z : D hd (f + 1) (x :: r) a b c e = 0
        · exact z
        · have := D_len hd _ _ _ _ _ _ z
          rw [List.length_cons] at this
          (first | lia | omega)
      rw [← D_cons, this]; rfl
end Mine
end
-- PL5
section
set_option linter.all false
namespace Mine
/-- the number of derivations, as the law asks it -/
noncomputable def NN (hd : Nat → List Int) (a b c e : Nat) : Nat := D hd 5 [945] a b c e
/-- twice the alphas, twice the iotas of a right side -/
noncomputable def A2 (hd : Nat → List Int) (i : Nat) : Int := 2 * (na (hd i) : Int)
noncomputable def I2 (hd : Nat → List Int) (i : Nat) : Int := 2 * (ni (hd i) : Int)
noncomputable def cond (hd : Nat → List Int) (a b c e : Nat) : Prop :=
  c * A2 hd 2 + e * A2 hd 3 = 2 * ((a : Int) + b) - 2 - a * A2 hd 0 - b * A2 hd 1 ∧ (a * I2 hd 0 + b * I2 hd 1) + c * I2 hd 2 + e * I2 hd 3 = 2 * ((c : Int) + e)
theorem cond_bal {hd : Nat → List Int} {a b c e : Nat} : cond hd a b c e ↔ (a + b = 1 + (a * na (hd 0) + b * na (hd 1)) + (c * na (hd 2) + e * na (hd 3)) ∧ c + e = 0 + (a * ni (hd 0) + b * ni (hd 1)) + (c * ni (hd 2) + e * ni (hd 3))) := by
  unfold cond A2 I2
  have h (x y : Nat) : (x : Int) * (2 * (y : Int)) = 2 * ((x * y : Nat) : Int) := by rw [Int.natCast_mul]; grind
  simp only [h]
  (first | lia | omega)
theorem nn_good (hd : Nat → List Int) (a b c e : Nat) (h : a + b + c + e ≤ 5) : Good (fun i => na (hd i)) (fun i => ni (hd i)) 1 0 a b c e (NN hd a b c e) := good_D hd 5 [945] a b c e h
theorem nn_zero {hd : Nat → List Int} {a b c e : Nat} (h : a + b + c + e ≤ 5) (hc : ¬ cond hd a b c e) : NN hd a b c e = 0 := by
  by_cases z : NN hd a b c e = 0
  · exact z
  · exact absurd (cond_bal.mpr ((nn_good hd a b c e h).bal z)) hc
theorem cond_pos {hd : Nat → List Int} {a b c e : Nat} (hc : cond hd a b c e) : 0 < a + b := by
  have := (cond_bal.mp hc).1
  (first | lia | omega)
theorem told_left {hd : Nat → List Int} {a b c e : Nat} (h : a + b + c + e ≤ 5) (hc : cond hd a b c e) (hm : c + e = 0) : (ch (a + b) a : Int) = (a + b : Nat) * (NN hd a b c e : Int) := by
  obtain ⟨g1, g2⟩ := cond_bal.mp hc
  have := (nn_good hd a b c e h).left g1 g2 (cond_pos hc) hm
  rw [Nat.mul_one, Nat.mul_comm] at this
  rw [← this, Int.natCast_mul]
theorem told_both {hd : Nat → List Int} {a b c e : Nat} (h : a + b + c + e ≤ 5) (hc : cond hd a b c e) (hm : c + e ≠ 0) :
    (ch (a + b) a : Int) * ch (c + e) c * (a * I2 hd 0 + b * I2 hd 1) = 2 * (a + b : Nat) * (c + e : Nat) * (NN hd a b c e : Int) := by
  obtain ⟨g1, g2⟩ := cond_bal.mp hc
  have := (nn_good hd a b c e h).both g1 g2 (cond_pos hc) (by (first | lia | omega))
  simp only [Nat.mul_zero, Nat.zero_mul, Nat.zero_add, Nat.one_mul, Nat.add_zero] at this
  have e : ((NN hd a b c e * ((a + b) * (c + e)) : Nat) : Int) = ((ch (a + b) a * ch (c + e) c * (a * ni (hd 0) + b * ni (hd 1)) : Nat) : Int) := by rw [this]
  simp only [Int.natCast_mul, Int.natCast_add] at e ⊢
  unfold I2
  grind
/-- the entries due -/
noncomputable def dueE (hd : Nat → List Int) (a b c e : Nat) : List (Int × Int) := if NN hd a b c e = 0 then [] else [(enc a b c e, (NN hd a b c e : Int))]
noncomputable def dueC (hd : Nat → List Int) (a b c : Nat) : List (Int × Int) := (List.range (6 - a - b - c)).flatMap (dueE hd a b c)
noncomputable def dueB (hd : Nat → List Int) (a b : Nat) : List (Int × Int) := (List.range (6 - a - b)).flatMap (dueC hd a b)
noncomputable def dueA (hd : Nat → List Int) (a : Nat) : List (Int × Int) := (List.range (6 - a)).flatMap (dueB hd a)
noncomputable def due (hd : Nat → List Int) : List (Int × Int) := (List.range 6).flatMap (dueA hd)
theorem mem_dueE {hd : Nat → List Int} {a b c e : Nat} {x : Int × Int} : x ∈ dueE hd a b c e ↔ NN hd a b c e ≠ 0 ∧ x = (enc a b c e, (NN hd a b c e : Int)) := by
  unfold dueE
  by_cases h : NN hd a b c e = 0
  · simp [h]
  · simp [h]
theorem mem_dueC {hd : Nat → List Int} {a b c : Nat} {x : Int × Int} : x ∈ dueC hd a b c ↔ ∃ e, a + b + c + e ≤ 5 ∧ x ∈ dueE hd a b c e ∨ (e < 6 - a - b - c ∧ x ∈ dueE hd a b c e) := by
  unfold dueC
  rw [List.mem_flatMap]
  constructor
  · rintro ⟨e, he, hx⟩; exact ⟨e, .inr ⟨List.mem_range.mp he, hx⟩⟩
  · rintro ⟨e, ⟨he, hx⟩ | ⟨he, hx⟩⟩
    · exact ⟨e, List.mem_range.mpr (by (first | lia | omega)), hx⟩
    · exact ⟨e, List.mem_range.mpr he, hx⟩
theorem of_dueC {hd : Nat → List Int} {a b c : Nat} {x : Int × Int} (h : x ∈ dueC hd a b c) : ∃ e, a + b + c + e ≤ 5 ∧ x ∈ dueE hd a b c e := by
  unfold dueC at h
  obtain ⟨e, he, hx⟩ := List.mem_flatMap.mp h
  have := List.mem_range.mp he
  exact ⟨e, by (first | lia | omega), hx⟩
theorem of_dueB {hd : Nat → List Int} {a b : Nat} {x : Int × Int} (h : x ∈ dueB hd a b) : ∃ c e, a + b + c + e ≤ 5 ∧ x ∈ dueE hd a b c e := by
  obtain ⟨c, _, hx⟩ := List.mem_flatMap.mp h
  exact ⟨c, of_dueC hx⟩
theorem of_dueA {hd : Nat → List Int} {a : Nat} {x : Int × Int} (h : x ∈ dueA hd a) : ∃ b c e, a + b + c + e ≤ 5 ∧ x ∈ dueE hd a b c e := by
  obtain ⟨b, _, hx⟩ := List.mem_flatMap.mp h
  exact ⟨b, of_dueB hx⟩
theorem mem_due {hd : Nat → List Int} {x : Int × Int} : x ∈ due hd ↔ ∃ a b c e, a + b + c + e ≤ 5 ∧ NN hd a b c e ≠ 0 ∧ x = (enc a b c e, (NN hd a b c e : Int)) := by
  constructor
  · intro h
    obtain ⟨a, _, hx⟩ := List.mem_flatMap.mp h
    obtain ⟨b, c, e, h5, h⟩ := of_dueA hx
    exact ⟨a, b, c, e, h5, mem_dueE.mp h⟩
  · rintro ⟨a, b, c, e, h5, h⟩
    refine List.mem_flatMap.mpr ⟨a, List.mem_range.mpr (by (first | lia | omega)), List.mem_flatMap.mpr ⟨b, List.mem_range.mpr (by (first | lia | omega)), List.mem_flatMap.mpr ⟨c, List.mem_range.mpr (by (first | lia | omega)), List.mem_flatMap.mpr ⟨e, List.mem_range.mpr (by (first | lia | omega)), mem_dueE.mpr h⟩⟩⟩⟩
/-- what stands in the dict when the turn (a, b, c, e) comes -/
noncomputable def pre (hd : Nat → List Int) (a b c e : Nat) : List (Int × Int) := (List.range a).flatMap (dueA hd) ++ (List.range b).flatMap (dueB hd a) ++ (List.range c).flatMap (dueC hd a b) ++ (List.range e).flatMap (dueE hd a b c)
theorem pre_fresh {hd : Nat → List Int} {a b c e : Nat} (h : a + b + c + e ≤ 5) : ∀ x ∈ pre hd a b c e, x.1 ≠ enc a b c e := by
  intro x hx hk
  unfold pre at hx
  simp only [List.mem_append] at hx
  have key : ∀ a' b' c' e', a' + b' + c' + e' ≤ 5 → x ∈ dueE hd a' b' c' e' → a' = a ∧ b' = b ∧ c' = c ∧ e' = e := by
    intro a' b' c' e' h5 h6
    have := (mem_dueE.mp h6).2
    rw [this] at hk
    exact enc_inj hk h5 h
  rcases hx with ((hx | hx) | hx) | hx
  · obtain ⟨a', ha, hx⟩ := List.mem_flatMap.mp hx
    have := List.mem_range.mp ha
    obtain ⟨b', c', e', h5, h6⟩ := of_dueA hx
    have := key _ _ _ _ h5 h6; (first | lia | omega)
  · obtain ⟨b', hb, hx⟩ := List.mem_flatMap.mp hx
    have := List.mem_range.mp hb
    obtain ⟨c', e', h5, h6⟩ := of_dueB hx
    have := key _ _ _ _ h5 h6; (first | lia | omega)
  · obtain ⟨c', hc, hx⟩ := List.mem_flatMap.mp hx
    have := List.mem_range.mp hc
    obtain ⟨e', h5, h6⟩ := of_dueC hx
    have := key _ _ _ _ h5 h6; (first | lia | omega)
  · obtain ⟨e', he, hx⟩ := List.mem_flatMap.mp hx
    have := List.mem_range.mp he
    have := key a b c e' (by (first | lia | omega)) hx; (first | lia | omega)
theorem range_flat {α : Type} (f : Nat → List α) (n : Nat) : (List.range (n + 1)).flatMap f = (List.range n).flatMap f ++ f n := by
  rw [List.range_succ, List.flatMap_append]; simp
/-- the walk's map and the due map are one -/
noncomputable def Lv (hd : Nat → List Int) : List Int := leaves hd 5 [945] 0 0
theorem due_keys (hd : Nat → List Int) (k v : Int) : (k, v) ∈ due hd ↔ (k ∈ Lv hd ∧ v = ((Lv hd).count k : Int)) := by
  have e0 : Lv hd = leaves hd 5 [945] (enc 0 0 0 0) (0 + 0 + 0 + 0) := rfl
  have cnt : ∀ a b c e, a + b + c + e ≤ 5 → (Lv hd).count (enc a b c e) = NN hd a b c e := by
    intro a b c e h
    have := leaves_count hd 5 [945] 0 0 0 0 a b c e (by (first | lia | omega)) (by (first | lia | omega))
    simp only [Nat.zero_add] at this
    exact this
  rw [mem_due]
  constructor
  · rintro ⟨a, b, c, e, h5, hn, hx⟩
    obtain ⟨rfl, rfl⟩ := Prod.mk.inj hx
    refine ⟨?_, by rw [cnt a b c e h5]⟩
    rw [← List.count_pos_iff, cnt a b c e h5]
    (first | lia | omega)
  · rintro ⟨hk, rfl⟩
    obtain ⟨a, b, c, e, h1, h2⟩ := leaves_mem hd 5 [945] 0 0 0 0 k (by (first | lia | omega)) (e0 ▸ hk)
    simp only [Nat.zero_add] at h1 h2
    subst h1
    refine ⟨a, b, c, e, h2, ?_, by rw [cnt a b c e h2]⟩
    rw [← cnt a b c e h2]
    exact Nat.ne_of_gt (List.count_pos_iff.mpr hk)
end Mine
end
-- TOLD
section
open PySem PySem.W PyProof.Rows PySem.Calls
set_option Elab.async false
set_option maxRecDepth 100000
set_option linter.all false
set_option maxHeartbeats 0
namespace Mine
theorem sub_any {prog : Program} {w : World} {A : Around} {E : Value → Shared → Prop} {s : Shared} {value slice : PySem.Expr} {l : Addr} {vs : Array Value} {k : Int} {u : Tok} {x : Value} {Q : Value → Shared → Prop} (hl : s.heap.IsList l vs)
    (h0 : 0 ≤ k) (hfit : k < 2 ^ 63) (hx : vs[k.toNat]? = some x) (h : Q x s)
    (hs : subscripted slice false (.ref l) (.int k u) = operate [.ref l, .int k u] (getItem (.ref l) (.int k u)) := by with_unfolding_all rfl) :
    wpAny (model prog w) A (subscriptTail value slice (.ref l) (.int k u)) Q E s :=
  tail_any hl.typeIs slot_list_getitem.lookup (wpAny_getItem_list hl h0 hfit hx h) hs
/-- the rows of Pascal's triangle in a heap -/
noncomputable def PascalAt (g : Heap) (Pl : Addr) (k : Nat) : Prop := ∃ (rs : List Addr) (c : Nat), g.get? Pl = some (PySem.W.listOf (rs.map Value.ref).toArray c) ∧ rs.length = k ∧ ∀ n p, rs[n]? = some p → ∃ (vs : List Value) (c : Nat), g.get? p = some (PySem.W.listOf vs.toArray c) ∧ IntsAre vs ((List.range (n + 1)).map fun k => ((ch n k : Nat) : Int))
noncomputable def IntsAt (g : Heap) (l : Addr) (is : List Int) : Prop := ∃ (vs : List Value) (c : Nat), g.get? l = some (PySem.W.listOf vs.toArray c) ∧ IntsAre vs is
noncomputable def ToldPre (Nt Pl Il : Addr) (a b c e : Nat) (is : List Int) (g : Heap) : Prop :=
  (∃ ta tb tc te, g.get? Nt = some { cls := .type "tuple", data := .seq #[.int a ta, .int b tb, .int c tc, .int e te] }) ∧ PascalAt g Pl 6 ∧ IntsAt g Il is
noncomputable def toldN (a b c e x : Nat) : Nat := if c + e = 0 then ch (a + b) a else ch (a + b) a * ch (c + e) c * x
noncomputable def toldD (a b c e : Nat) : Nat := if c + e = 0 then a + b else 2 * (a + b) * (c + e)
theorem told {w : World} {mean mg mb} {a b c e i0 i1 : Nat} {r : List Int} {Nt Pl Il : Addr} (h5 : a + b + c + e ≤ 5) (h0 : 0 < a + b) (hi0 : i0 ≤ 100) (hi1 : i1 ≤ 100) :
    CtrG w mean mg mb 189 [.ref Nt, .ref Pl, .ref Il] (110+1) (1700+3) (ToldPre Nt Pl Il a b c e ((i0 : Int) :: (i1 : Int) :: r)) (fun _ r own => DivPost (toldN a b c e (a * i0 + b * i1)) (toldD a b c e) r own) := by
  refine enterH (binds := [(Str.ofString "numbers", .ref Nt), (Str.ofString "pascal", .ref Pl), (Str.ofString "iotas", .ref Il)]) (by rfl) (by rfl) (fun s _ => BindsTo.of_eq rfl) (locs rfl) ?_ rfl rfl rfl (by decide)
  intro dp un gd outer A₀ base g L tl s B X T hd hu ⟨⟨ta, tb, tc, te, hN⟩, hP, hIo⟩ hTL hlow F N
  change Fr g L s.heap (lk [(Str.ofString "iotas", .ref Il), (Str.ofString "pascal", .ref Pl), (Str.ofString "numbers", .ref Nt)]) at F
  refine wpAny_execs_cons ?_
  walk1
  walk1
  refine unpackN_ F N ⟨_, F.keep _ _ hN, rfl, 0, rfl⟩ rfl rfl rfl ?_
  intro h1 F1 N1
  clear F N
  obtain ⟨rs, cp, hPl, hrl, hrow⟩ := hP
  obtain ⟨vsI, cI, hIl, hII⟩ := hIo
  have row : ∀ n, n ≤ 5 → ∃ p vs cv, (rs.map Value.ref).toArray[n]? = some (.ref p) ∧ g.get? p = some (PySem.W.listOf vs.toArray cv) ∧ IntsAre vs ((List.range (n + 1)).map fun k => ((ch n k : Nat) : Int)) := fun n hn => by
    have hlt : n < rs.length := by (first | lia | omega)
    obtain ⟨vs, cv, h2, h3⟩ := hrow n rs[n] (List.getElem?_eq_getElem hlt)
    exact ⟨rs[n], vs, cv, by simp [hlt], h2, h3⟩
  have cell : ∀ n k, k ≤ n → ((List.range (n + 1)).map fun k => ((ch n k : Nat) : Int)).getD k 0 = ((ch n k : Nat) : Int) := fun n k hk => by
    have : k < n + 1 := by (first | lia | omega)
    simp [this]
  have small : ∀ n, n ≤ 5 → ∀ k, k ≤ 5 → ch n k ≤ 10 := by decide
  obtain ⟨p1, vs1, c1, hr1, hg1, hi1'⟩ := row (a + b) (by (first | lia | omega))
  rcases Nat.eq_zero_or_pos (c + e) with hz | hz
  · (repeat' (first | (exfalso; (fail_if_success (fail_if_success omega)); (first | lia | omega)) | ((fail_if_success (first | with_reducible show wpAny _ _ (subscriptTail _ _ _ _) _ _ _ | with_reducible show wpAny _ _ (binaryOp Operator.Mult _ _) _ _ _ | with_reducible show wpAny _ _ (call (Value.ref _) _) _ _ _)); first | (walk1; try dsimp only) | leave1)))
    rename Fr _ _ _ _ => F2
    refine sub_any (vs := (rs.map Value.ref).toArray) ⟨_, F2.keep _ _ hPl, rfl, cp, rfl⟩ (by (first | lia | omega)) (by (first | lia | omega)) (x := .ref p1) (by rw [show (((a : Int) + (b : Int))).toNat = a + b by (first | lia | omega)]; exact hr1) ?_ (by with_unfolding_all rfl)
    try dsimp only
    (repeat' (first | (exfalso; (fail_if_success (fail_if_success omega)); (first | lia | omega)) | ((fail_if_success (first | with_reducible show wpAny _ _ (subscriptTail _ _ _ _) _ _ _ | with_reducible show wpAny _ _ (binaryOp Operator.Mult _ _) _ _ _ | with_reducible show wpAny _ _ (call (Value.ref _) _) _ _ _)); first | (walk1; try dsimp only) | leave1)))
    refine item_anyK (vs := vs1) (ns := _) ⟨_, F2.keep _ _ hg1, rfl, c1, rfl⟩ hi1' (by (first | lia | omega)) (by simp; (first | lia | omega)) (by (first | lia | omega)) ?_ (by with_unfolding_all rfl)
    intro t1
    rw [Int.toNat_natCast, cell _ _ (by (first | lia | omega))]
    try dsimp only
    (repeat' (first | (exfalso; (fail_if_success (fail_if_success omega)); (first | lia | omega)) | ((fail_if_success (first | with_reducible show wpAny _ _ (subscriptTail _ _ _ _) _ _ _ | with_reducible show wpAny _ _ (binaryOp Operator.Mult _ _) _ _ _ | with_reducible show wpAny _ _ (call (Value.ref _) _) _ _ _)); first | (walk1; try dsimp only) | leave1)))
    rename News _ _ _ _ => N2
    have eN : toldN a b c e (a * i0 + b * i1) = ch (a + b) a := by unfold toldN; rw [if_pos hz]
    have eD : toldD a b c e = a + b := by unfold toldD; rw [if_pos hz]
    rw [eN, eD]
    have hsm := small (a + b) (by (first | lia | omega)) a (by (first | lia | omega))
    rw [show ((a : Int) + (b : Int)) = ((a + b : Nat) : Int) by (first | lia | omega)]
    refine ctrG_use (news := []) (idm (Nat.le_trans (bits_nat (k := 20) (by (first | lia | omega))) (by decide)) h0 (by (first | lia | omega))) B F2 X N2 hTL (fun p hp => by cases hp) T rfl (by (first | lia | omega)) (by (first | lia | omega)) (fun _ _ => trivial) ?_
    rintro rr h2 tk2 own tl2 F2 hTL2 hap2 N2 _ k2 P
    simp only [List.append_nil] at N2 hap2
    exact ⟨_, _, _, own, tl2, rfl, F2, hTL2, hap2, N2, P⟩
  · obtain ⟨p2, vs2, c2, hr2, hg2, hi2'⟩ := row (c + e) (by (first | lia | omega))
    have hsm1 := small (a + b) (by (first | lia | omega)) a (by (first | lia | omega))
    have hsm2 := small (c + e) (by (first | lia | omega)) c (by (first | lia | omega))
    have hai : a * i0 ≤ 500 := Nat.le_trans (Nat.mul_le_mul (by (first | lia | omega) : a ≤ 5) hi0) (by decide)
    have hbi : b * i1 ≤ 500 := Nat.le_trans (Nat.mul_le_mul (by (first | lia | omega) : b ≤ 5) hi1) (by decide)
    (repeat' (first | (exfalso; (fail_if_success (fail_if_success omega)); (first | lia | omega)) | ((fail_if_success (first | with_reducible show wpAny _ _ (subscriptTail _ _ _ _) _ _ _ | with_reducible show wpAny _ _ (binaryOp Operator.Mult _ _) _ _ _ | with_reducible show wpAny _ _ (call (Value.ref _) _) _ _ _)); first | (walk1; try dsimp only) | leave1)))
    rename Fr _ _ _ _ => F2
    refine item_anyK (vs := vsI) (ns := _) ⟨_, F2.keep _ _ hIl, rfl, cI, rfl⟩ hII (by decide) (by simp; (first | lia | omega)) (by decide) ?_ (by with_unfolding_all rfl)
    intro t1
    rw [show ((i0 : Int) :: (i1 : Int) :: r).getD (Int.toNat 0) 0 = (i0 : Int) from rfl]
    try dsimp only
    (repeat' (first | (exfalso; (fail_if_success (fail_if_success omega)); (first | lia | omega)) | ((fail_if_success (first | with_reducible show wpAny _ _ (subscriptTail _ _ _ _) _ _ _ | with_reducible show wpAny _ _ (binaryOp Operator.Mult _ _) _ _ _ | with_reducible show wpAny _ _ (call (Value.ref _) _) _ _ _)); first | (walk1; try dsimp only) | leave1)))
    refine P.mul_int ?_ (IntMulOk.of_left (intBits_le_64 (by (first | lia | omega)) (by (first | lia | omega))))
    try dsimp only
    (repeat' (first | (exfalso; (fail_if_success (fail_if_success omega)); (first | lia | omega)) | ((fail_if_success (first | with_reducible show wpAny _ _ (subscriptTail _ _ _ _) _ _ _ | with_reducible show wpAny _ _ (binaryOp Operator.Mult _ _) _ _ _ | with_reducible show wpAny _ _ (call (Value.ref _) _) _ _ _)); first | (walk1; try dsimp only) | leave1)))
    refine item_anyK (vs := vsI) (ns := _) ⟨_, F2.keep _ _ hIl, rfl, cI, rfl⟩ hII (by decide) (by simp; (first | lia | omega)) (by decide) ?_ (by with_unfolding_all rfl)
    intro t2
    rw [show ((i0 : Int) :: (i1 : Int) :: r).getD (Int.toNat 1) 0 = (i1 : Int) from rfl]
    try dsimp only
    (repeat' (first | (exfalso; (fail_if_success (fail_if_success omega)); (first | lia | omega)) | ((fail_if_success (first | with_reducible show wpAny _ _ (subscriptTail _ _ _ _) _ _ _ | with_reducible show wpAny _ _ (binaryOp Operator.Mult _ _) _ _ _ | with_reducible show wpAny _ _ (call (Value.ref _) _) _ _ _)); first | (walk1; try dsimp only) | leave1)))
    refine P.mul_int ?_ (IntMulOk.of_left (intBits_le_64 (by (first | lia | omega)) (by (first | lia | omega))))
    try dsimp only
    (repeat' (first | (exfalso; (fail_if_success (fail_if_success omega)); (first | lia | omega)) | ((fail_if_success (first | with_reducible show wpAny _ _ (subscriptTail _ _ _ _) _ _ _ | with_reducible show wpAny _ _ (binaryOp Operator.Mult _ _) _ _ _ | with_reducible show wpAny _ _ (call (Value.ref _) _) _ _ _)); first | (walk1; try dsimp only) | leave1)))

    rename Fr _ _ _ _ => F2
    refine sub_any (vs := (rs.map Value.ref).toArray) ⟨_, F2.keep _ _ hPl, rfl, cp, rfl⟩ (by (first | lia | omega)) (by (first | lia | omega)) (x := .ref p1) (by rw [show (((a : Int) + (b : Int))).toNat = a + b by (first | lia | omega)]; exact hr1) ?_ (by with_unfolding_all rfl)
    try dsimp only
    (repeat' (first | (exfalso; (fail_if_success (fail_if_success omega)); (first | lia | omega)) | ((fail_if_success (first | with_reducible show wpAny _ _ (subscriptTail _ _ _ _) _ _ _ | with_reducible show wpAny _ _ (binaryOp Operator.Mult _ _) _ _ _ | with_reducible show wpAny _ _ (call (Value.ref _) _) _ _ _)); first | (walk1; try dsimp only) | leave1)))
    refine item_anyK (vs := vs1) (ns := _) ⟨_, F2.keep _ _ hg1, rfl, c1, rfl⟩ hi1' (by (first | lia | omega)) (by simp; (first | lia | omega)) (by (first | lia | omega)) ?_ (by with_unfolding_all rfl)
    intro t1
    rw [Int.toNat_natCast, cell _ _ (by (first | lia | omega))]
    try dsimp only
    (repeat' (first | (exfalso; (fail_if_success (fail_if_success omega)); (first | lia | omega)) | ((fail_if_success (first | with_reducible show wpAny _ _ (subscriptTail _ _ _ _) _ _ _ | with_reducible show wpAny _ _ (binaryOp Operator.Mult _ _) _ _ _ | with_reducible show wpAny _ _ (call (Value.ref _) _) _ _ _)); first | (walk1; try dsimp only) | leave1)))
    refine sub_any (vs := (rs.map Value.ref).toArray) ⟨_, F2.keep _ _ hPl, rfl, cp, rfl⟩ (by (first | lia | omega)) (by (first | lia | omega)) (x := .ref p2) (by rw [show (((c : Int) + (e : Int))).toNat = c + e by (first | lia | omega)]; exact hr2) ?_ (by with_unfolding_all rfl)
    try dsimp only
    (repeat' (first | (exfalso; (fail_if_success (fail_if_success omega)); (first | lia | omega)) | ((fail_if_success (first | with_reducible show wpAny _ _ (subscriptTail _ _ _ _) _ _ _ | with_reducible show wpAny _ _ (binaryOp Operator.Mult _ _) _ _ _ | with_reducible show wpAny _ _ (call (Value.ref _) _) _ _ _)); first | (walk1; try dsimp only) | leave1)))
    refine item_anyK (vs := vs2) (ns := _) ⟨_, F2.keep _ _ hg2, rfl, c2, rfl⟩ hi2' (by (first | lia | omega)) (by simp; (first | lia | omega)) (by (first | lia | omega)) ?_ (by with_unfolding_all rfl)
    intro t3
    rw [Int.toNat_natCast, cell _ _ (by (first | lia | omega))]
    try dsimp only
    (repeat' (first | (exfalso; (fail_if_success (fail_if_success omega)); (first | lia | omega)) | ((fail_if_success (first | with_reducible show wpAny _ _ (subscriptTail _ _ _ _) _ _ _ | with_reducible show wpAny _ _ (binaryOp Operator.Mult _ _) _ _ _ | with_reducible show wpAny _ _ (call (Value.ref _) _) _ _ _)); first | (walk1; try dsimp only) | leave1)))
    refine P.mul_int ?_ (IntMulOk.of_left (intBits_le_64 (by (first | lia | omega)) (by (first | lia | omega))))
    try dsimp only
    (repeat' (first | (exfalso; (fail_if_success (fail_if_success omega)); (first | lia | omega)) | ((fail_if_success (first | with_reducible show wpAny _ _ (subscriptTail _ _ _ _) _ _ _ | with_reducible show wpAny _ _ (binaryOp Operator.Mult _ _) _ _ _ | with_reducible show wpAny _ _ (call (Value.ref _) _) _ _ _)); first | (walk1; try dsimp only) | leave1)))
    have hX : (a : Int) * (i0 : Int) + (b : Int) * (i1 : Int) = ((a * i0 + b * i1 : Nat) : Int) := by rw [Int.natCast_add, Int.natCast_mul, Int.natCast_mul]
    refine P.mul_int ?_ (IntMulOk.of_right (intBits_le_64 (by rw [hX]; (first | lia | omega)) (by rw [hX]; (first | lia | omega))))
    try dsimp only
    (repeat' (first | (exfalso; (fail_if_success (fail_if_success omega)); (first | lia | omega)) | ((fail_if_success (first | with_reducible show wpAny _ _ (subscriptTail _ _ _ _) _ _ _ | with_reducible show wpAny _ _ (binaryOp Operator.Mult _ _) _ _ _ | with_reducible show wpAny _ _ (call (Value.ref _) _) _ _ _)); first | (walk1; try dsimp only) | leave1)))
    refine P.mul_int ?_ (IntMulOk.of_left (intBits_le_64 (by decide) (by decide)))
    try dsimp only
    (repeat' (first | (exfalso; (fail_if_success (fail_if_success omega)); (first | lia | omega)) | ((fail_if_success (first | with_reducible show wpAny _ _ (subscriptTail _ _ _ _) _ _ _ | with_reducible show wpAny _ _ (binaryOp Operator.Mult _ _) _ _ _ | with_reducible show wpAny _ _ (call (Value.ref _) _) _ _ _)); first | (walk1; try dsimp only) | leave1)))
    refine P.mul_int ?_ (IntMulOk.of_right (intBits_le_64 (by (first | lia | omega)) (by (first | lia | omega))))
    try dsimp only
    (repeat' (first | (exfalso; (fail_if_success (fail_if_success omega)); (first | lia | omega)) | ((fail_if_success (first | with_reducible show wpAny _ _ (subscriptTail _ _ _ _) _ _ _ | with_reducible show wpAny _ _ (binaryOp Operator.Mult _ _) _ _ _ | with_reducible show wpAny _ _ (call (Value.ref _) _) _ _ _)); first | (walk1; try dsimp only) | leave1)))
    rename Fr _ _ _ _ => F3
    rename News _ _ _ _ => N3
    have hprod : ch (a + b) a * ch (c + e) c * (a * i0 + b * i1) ≤ 100 * 1000 := Nat.mul_le_mul (Nat.mul_le_mul hsm1 hsm2) (by (first | lia | omega))
    have hz' : ¬ c + e = 0 := by (first | lia | omega)
    have eN : ((ch (a + b) a : Nat) : Int) * ((ch (c + e) c : Nat) : Int) * ((a : Int) * (i0 : Int) + (b : Int) * (i1 : Int)) = ((toldN a b c e (a * i0 + b * i1) : Nat) : Int) := by
      unfold toldN
      rw [if_neg hz', hX, Int.natCast_mul, Int.natCast_mul]
    have eD : 2 * ((a : Int) + (b : Int)) * ((c : Int) + (e : Int)) = ((toldD a b c e : Nat) : Int) := by
      unfold toldD
      rw [if_neg hz', Int.natCast_mul, Int.natCast_mul, Int.natCast_add, Int.natCast_add]
      rfl
    rw [eN, eD]
    have hN1 : toldN a b c e (a * i0 + b * i1) ≤ 100 * 1000 := by unfold toldN; rw [if_neg hz']; exact hprod
    have hD0 : 0 < toldD a b c e := by unfold toldD; rw [if_neg hz']; exact Nat.mul_pos (by (first | lia | omega)) hz
    have hD1 : toldD a b c e ≤ 1000 := by unfold toldD; rw [if_neg hz']; exact Nat.le_trans (Nat.mul_le_mul (by (first | lia | omega) : 2 * (a + b) ≤ 10) (by (first | lia | omega) : c + e ≤ 5)) (by decide)
    refine ctrG_use (news := []) (idm (Nat.le_trans (bits_nat (k := 20) (by (first | lia | omega))) (by decide)) hD0 hD1) B F3 X N3 hTL (fun p hp => by cases hp) T rfl (by (first | lia | omega)) (by (first | lia | omega)) (fun _ _ => trivial) ?_
    rintro rr h2 tk2 own tl2 F2 hTL2 hap2 N2 _ k2 P
    simp only [List.append_nil] at N2 hap2
    exact ⟨_, _, _, own, tl2, rfl, F2, hTL2, hap2, N2, P⟩
end Mine
end
-- WLP
section
open PySem PySem.W PyProof.Rows PySem.Calls
set_option Elab.async false
set_option maxRecDepth 100000
set_option linter.all false
namespace Mine
/-- an item that waits: its row (without the end), key, use -/
noncomputable abbrev Itm := List Int × Int × Nat
noncomputable abbrev tupO (R : Addr) (key : Int) (tk : Tok) (used : Int) (tk' : Tok) : Obj := { cls := .type "tuple", data := .seq #[.ref R, .int key tk, .int used tk'] }
noncomputable def ItemAt (led : List (Addr × Obj)) (v : Value) (it : Itm) : Prop :=
  ∃ (Tp R : Addr) (vs : List Value) (c : Nat) (tk tk' : Tok), v = .ref Tp ∧ (Tp, tupO R it.2.1 tk (it.2.2 : Nat) tk') ∈ led ∧ (R, PySem.W.listOf vs.toArray c) ∈ led ∧ IntsAre vs (it.1 ++ [0])
noncomputable def Items (led : List (Addr × Obj)) : List Value → List Itm → Prop
  | [], [] => True
  | v :: ws, it :: its => ItemAt led v it ∧ Items led ws its
  | [], _ :: _ => False
  | _ :: _, [] => False
theorem Items.nil {led : List (Addr × Obj)} : Items led [] [] := trivial
theorem Items.cons {led : List (Addr × Obj)} {v : Value} {it : Itm} {ws : List Value} {its : List Itm} (h : ItemAt led v it) (r : Items led ws its) : Items led (v :: ws) (it :: its) := ⟨h, r⟩
theorem Items.inv {led : List (Addr × Obj)} {it : Itm} {ws : List Value} {its : List Itm} (h : Items led ws (it :: its)) : ∃ v ws', ws = v :: ws' ∧ ItemAt led v it ∧ Items led ws' its := by
  cases ws with
  | nil => exact h.elim
  | cons v ws => exact ⟨v, ws, rfl, h.1, h.2⟩
theorem ItemAt.mono {led led' : List (Addr × Obj)} {v : Value} {it : Itm} (h : ∀ p ∈ led, p ∈ led') (x : ItemAt led v it) : ItemAt led' v it := by
  obtain ⟨Tp, R, vs, c, tk, tk', e1, e2, e3, e4⟩ := x
  exact ⟨Tp, R, vs, c, tk, tk', e1, h _ e2, h _ e3, e4⟩
theorem Items.mono {led led' : List (Addr × Obj)} (h : ∀ p ∈ led, p ∈ led') : ∀ {ws : List Value} {its : List Itm}, Items led ws its → Items led' ws its
  | [], [], _ => .nil
  | _ :: _, _ :: _, x => .cons (x.1.mono h) (Items.mono h x.2)
  | [], _ :: _, x => x.elim
  | _ :: _, [], x => x.elim
theorem Items.length {led : List (Addr × Obj)} : ∀ {ws : List Value} {its : List Itm}, Items led ws its → ws.length = its.length
  | [], [], _ => rfl
  | _ :: _, _ :: _, x => by rw [List.length_cons, List.length_cons, Items.length x.2]
  | [], _ :: _, x => x.elim
  | _ :: _, [], x => x.elim
noncomputable def wt (it : Itm) : Nat := 3 ^ (6 - it.2.2)
noncomputable def msr : List Itm → Nat
  | [] => 0
  | it :: r => wt it + msr r
theorem wt_pos (it : Itm) : 0 < wt it := Nat.pow_pos (by decide)
theorem len_msr : ∀ its : List Itm, its.length ≤ msr its
  | [] => Nat.le_refl _
  | it :: r => by
    have := wt_pos it
    have := len_msr r
    show r.length + 1 ≤ wt it + msr r
    (first | lia | omega)
/-- the leaves that wait -/
noncomputable def tot (hd : Nat → List Int) (k : Int) : List Itm → Nat
  | [] => 0
  | it :: r => (leaves hd (5 - it.2.2) it.1 it.2.1 it.2.2).count k + tot hd k r
noncomputable def FoundOk (kvs : List (Int × Value)) (cnt : Int → Nat) : Prop := ∀ k, (cnt k = 0 → valueAt kvs k = none) ∧ (cnt k ≠ 0 → ∃ tk, valueAt kvs k = some (.int (cnt k : Nat) tk))
theorem valueAt_stored (kvs : List (Int × Value)) (k : Int) (v : Value) (j : Int) : valueAt (stored kvs k v) j = if j = k then some v else valueAt kvs j := by
  unfold stored valueAt
  by_cases h : kvs.any (fun kv => kv.1 = k) = true
  · rw [if_pos h]
    induction kvs with
    | nil => simp at h
    | cons q r ih =>
      obtain ⟨a, b⟩ := q
      by_cases ha : a = k
      · subst ha
        by_cases hj : j = a
        · subst hj; simp
        · rw [if_neg hj]
          have haj : ¬ a = j := fun e => hj e.symm
          by_cases hr : r.any (fun kv => kv.1 = a) = true
          · have := ih hr
            rw [if_neg hj] at this
            simp only [List.map_cons, if_true, List.find?_cons, haj, decide_false]
            exact this
          · have : r.map (fun kv => if kv.1 = a then (kv.1, v) else kv) = r := by
              refine (List.map_congr_left fun q hq => ?_).trans (List.map_id r)
              have : ¬ q.1 = a := fun e => hr (List.any_eq_true.mpr ⟨q, hq, by simpa using e⟩)
              simp [this]
            simp only [List.map_cons, if_true, List.find?_cons, haj, decide_false]
            rw [this]
      · have hr : r.any (fun kv => kv.1 = k) = true := by simpa [ha] using h
        have := ih hr
        simp only [List.map_cons, ha, if_false, List.find?_cons]
        by_cases haj : a = j
        · subst haj
          simp [ha]
        · simp only [haj, decide_false]
          exact this
  · rw [if_neg h, List.find?_append]
    by_cases hj : j = k
    · subst hj
      have : kvs.find? (fun kv => kv.1 = j) = none := by
        rw [List.find?_eq_none]
        intro q hq e
        exact h (List.any_eq_true.mpr ⟨q, hq, e⟩)
      rw [this]
      simp
    · have hkj : ¬ k = j := fun e => hj e.symm
      rw [if_neg hj]
      simp [hkj]
theorem stored_len (kvs : List (Int × Value)) (k : Int) (v : Value) : (stored kvs k v).length ≤ kvs.length + 1 := by
  unfold stored
  split <;> simp
theorem found_stored {kvs : List (Int × Value)} {cnt : Int → Nat} (h : FoundOk kvs cnt) (key : Int) (tk : Tok) : FoundOk (stored kvs key (.int ((cnt key + 1 : Nat) : Int) tk)) (fun k => cnt k + if k = key then 1 else 0) := by
  intro k
  rw [valueAt_stored]
  by_cases e : k = key
  · subst e
    simp only [if_true]
    exact ⟨fun h0 => by (first | lia | omega), fun _ => ⟨tk, rfl⟩⟩
  · simp only [e, if_false, Nat.add_zero]
    exact h k
theorem get_cnt {prog : Program} {w : World} {A : Around} {E : Value → Shared → Prop} {s : Shared} {h₀ : Heap} {L d : Addr} {news : List (Addr × Obj)} {o : Obj} {kvs : List (Int × Value)} {cnt : Int → Nat} {key : Int} {t tz : Tok} {Q : Value → Shared → Prop}
    (N : News h₀ L s.heap news) (hp : (d, o) ∈ news) (hd : o.IsDictOf (intKind prog w) kvs) (lo : (d == sysModules) = false) (hf : FoundOk kvs cnt) (h : ∀ tg, Q (.int ((cnt key : Nat) : Int) tg) { s with toks := s.toks + 1 }) :
    wpAny (model prog w) A (call (.builtin "dict.get") [.ref d, .int key t, .int 0 tz]) Q E s := by
  refine kdg_get2 (knd := PySem.intKind prog w) N hp hd lo (intKind_is _ _ _ _) _ rfl ?_
  rcases Nat.eq_zero_or_pos (cnt key) with h0 | h0
  · rw [(hf key).1 h0]
    have := h tz
    rw [h0] at this
    exact this
  · obtain ⟨tg, e⟩ := (hf key).2 (Nat.ne_of_gt h0)
    rw [e]; exact h tg
theorem kl_last_snoc : ∀ (l : List Value) (y : Value), kl_last (l ++ [y]) = some (l, y)
  | [], y => rfl
  | x :: l, y => by
    show (match kl_last (l ++ [y]) with | some (p, y) => some (x :: p, y) | none => some ([], x)) = _
    rw [kl_last_snoc l y]
section
variable {prog : Program} {w : World} {A : Around} {E : Value → Shared → Prop} {s : Shared} {h₀ : Heap} {L l it : Addr} {m : Str → Option Value} {news : List (Addr × Obj)} {g : Obj → List (Addr × Obj)} {io : Obj}
noncomputable def TiO (o : Obj) (l : Addr) (i : Nat) : Prop := o.cls = .type "tuple_iterator" ∧ o.data = .fields #[.ref l, .int i 0]
noncomputable abbrev tupOf (vs : Array Value) : Obj := { cls := .type "tuple", data := .seq vs }
theorem tup_iter {vs : Array Value} {Q : Value → Shared → Prop} (F : Fr h₀ L s.heap m) (N : News h₀ L s.heap news) (hm : (l, tupOf vs) ∈ news)
    (h : ∀ I h' io, Fr h₀ L h' m → News h₀ L h' ((I, io) :: news) → (∀ p ∈ news, p.1 < I) → TiO io l 0 → Q (.ref I) { s with heap := h' }) : wpAny (model prog w) A (pyIter (.ref l)) Q E s :=
  wpAny_pyIter_tuple (items := vs) ⟨_, (N _ hm).1, rfl, 0, rfl⟩ (h _ _ _ (F.push _) (N.push F _) (fun p hp => Heap.lt_size (N p hp).1) ⟨rfl, rfl⟩)
theorem tup_next {vs : Array Value} {i : Nat} {x : Value} {Q : Option Value → Shared → Prop} (F : Fr h₀ L s.heap m) (N : News h₀ L s.heap news) (U : UpdF it io news g) (ho : TiO io l i) (hm : (l, tupOf vs) ∈ news) (hx : vs[i]? = some x)
    (h : ∀ h' io', Fr h₀ L h' m → News h₀ L h' (g io') → TiO io' l (i + 1) → Q (some x) { s with heap := h' }) : wpAny (model prog w) A (pyNext (.ref it)) Q E s := by
  have hl := (N _ hm).1
  obtain ⟨own, rest, rfl, hg, h1, h2⟩ := U.split
  have hi := N _ (List.mem_append_right _ (.head _))
  refine wpAny_pyNext_tuple_item (t := l) (items := vs) ⟨_, hi.1, ho.1, ho.2⟩ ⟨_, hl, rfl, 0, rfl⟩ hx fun h' ⟨io', e1, e2, e3⟩ sb => ?_
  exact h h' io' (F.change sb hi.2.1 hi.2.2) (hg io' ▸ N.setAt h1 h2 sb e1) ⟨e2, e3⟩
theorem tup_done {vs : Array Value} {i : Nat} {Q : Option Value → Shared → Prop} (hh : A.handled = none) (F : Fr h₀ L s.heap m) (N : News h₀ L s.heap ((it, io) :: news)) (ha : ∀ p ∈ news, p.1 ≠ it) (ho : TiO io l i) (hm : (l, tupOf vs) ∈ news) (hx : vs[i]? = none)
    (h : ∀ h', Fr h₀ L h' m → News h₀ L h' news → Q none { s with heap := h' }) : wpAny (model prog w) A (pyNext (.ref it)) Q E s := by
  have hi := N _ (.head _)
  have hl := (N _ (.tail _ hm)).1
  refine wpAny_pyNext_tuple_end (t := l) (items := vs) hh ⟨_, hi.1, ho.1, ho.2⟩ ⟨_, hl, rfl, 0, rfl⟩ hx fun h' xb => ?_
  exact h h' (fr_ext F (fun b o hb e => xb b o hb e) hi.2.1 hi.2.2) (news_ext (fun p hp => N p (.tail _ hp)) (fun b o hb e => xb b o hb e) ha)
end
end Mine
end
-- WLX
section
open PySem PySem.W PyProof.Rows PySem.Calls
set_option Elab.async false
set_option maxRecDepth 100000
set_option linter.all false
set_option maxHeartbeats 0
namespace Mine
noncomputable def HeadsAt (g : Heap) (Hl : Addr) (hd : Nat → List Int) : Prop := ∃ (rs : List Addr) (c : Nat), g.get? Hl = some (PySem.W.listOf (rs.map Value.ref).toArray c) ∧ rs.length = 4 ∧ ∀ i p, rs[i]? = some p → ∃ (vs : List Value) (c : Nat), g.get? p = some (PySem.W.listOf vs.toArray c) ∧ IntsAre vs (hd i)
/-- the state of the walk -/
noncomputable def WInv (w : World) (s₀ : Shared) (g : Heap) (L : Addr) (hd : Nat → List Int) (t : Tok) (Hl Dd Wl : Addr) (k : Nat) (s' : Shared) : Prop :=
  ∃ (h : Heap) (tk : Nat) (m : Str → Option Value) (o : Obj) (kvs : List (Int × Value)) (cnt : Int → Nat) (ws : List Value) (its : List Itm) (cw : Nat) (led : List (Addr × Obj)),
    s' = { s₀ with heap := h, toks := tk } ∧ Fr g L h m ∧ m (Str.ofString "heads") = some (.ref Hl) ∧ m (Str.ofString "most") = some (.int 5 t) ∧ m (Str.ofString "found") = some (.ref Dd) ∧ m (Str.ofString "waiting") = some (.ref Wl) ∧
    News g L h ((Wl, PySem.W.listOf ws.reverse.toArray cw) :: (Dd, o) :: led) ∧ (∀ p ∈ led, p.1 ≠ Wl) ∧ (∀ p ∈ led, p.1 ≠ Dd) ∧ o.IsDictOf (intKind PW w) kvs ∧ FoundOk kvs cnt ∧ Items led ws its ∧
    (∀ it ∈ its, it.2.2 ≤ 5 ∧ it.1.length ≤ 20 ∧ ∀ x ∈ it.1, x ≠ 0) ∧ (∀ j, cnt j + tot hd j its = (Lv hd).count j) ∧ kvs.length + msr its ≤ 1000 ∧ k = msr its
noncomputable def WalkedPost (w : World) (hd : Nat → List Int) (r : Value) (own : List (Addr × Obj)) : Prop :=
  ∃ (d : Addr) (o : Obj) (kvs : List (Int × Value)) (cnt : Int → Nat), r = .ref d ∧ own = [(d, o)] ∧ (d == sysModules) = false ∧ o.IsDictOf (intKind PW w) kvs ∧ FoundOk kvs cnt ∧ ∀ j, cnt j = (Lv hd).count j
noncomputable abbrev wlA (dp un : Nat) (gd : Option (List Code)) (L : Addr) (outer : List Env) : Around := ktrTop dp un gd (Str.ofString "_law_walked") (fdScope (stm 29)) L 182 (Value.ref 181) [] outer
noncomputable abbrev wlE (L : Addr) : Env := envOf (Str.ofString "_law_walked") (fdScope (stm 29)) L 182 (Value.ref 181)
noncomputable abbrev wlW : Stmt := nthS (fdBody (stm 29)) 2
noncomputable def whTest : Stmt → PySem.Expr
  | .While t _ _ _ => t
  | _ => default
noncomputable def whBody : Stmt → List Stmt
  | .While _ b _ _ => b
  | _ => []
noncomputable def forBody : Stmt → List Stmt
  | .For _ _ b _ _ => b
  | _ => []
noncomputable def forIter : Stmt → PySem.Expr
  | .For _ i _ _ _ => i
  | _ => default
noncomputable def ifElse : Stmt → List Stmt
  | .If _ _ e _ => e
  | _ => []
noncomputable def ifThen : Stmt → List Stmt
  | .If _ t _ _ => t
  | _ => []
/-- the inner loop's statement -/
noncomputable abbrev wlF : Stmt := nthS (ifThen (nthS (ifElse (nthS (whBody wlW) 1)) 0)) 0
/-- in the inner loop -/
noncomputable def WCore (w : World) (s₀ : Shared) (g : Heap) (L : Addr) (t : Tok) (Hl Dd Wl R Tt It : Addr) (o : Obj) (key : Int) (used : Nat) (tk1 tk2 : Tok) (vs : List Value) (c : Nat) (tv : Array Value) (its : List Itm) (i : Nat) (s' : Shared) : Prop :=
  ∃ (h : Heap) (tk : Nat) (m : Str → Option Value) (io : Obj) (ws : List Value) (cw : Nat) (led : List (Addr × Obj)),
    s' = { s₀ with heap := h, toks := tk } ∧ Fr g L h m ∧ m (Str.ofString "heads") = some (.ref Hl) ∧ m (Str.ofString "most") = some (.int 5 t) ∧ m (Str.ofString "found") = some (.ref Dd) ∧ m (Str.ofString "waiting") = some (.ref Wl) ∧
    m (Str.ofString "row") = some (.ref R) ∧ m (Str.ofString "key") = some (.int key tk1) ∧ m (Str.ofString "used") = some (.int used tk2) ∧
    News g L h ((It, io) :: (Wl, PySem.W.listOf ws.reverse.toArray cw) :: (Dd, o) :: led) ∧ TiO io Tt i ∧ (Tt, tupOf tv) ∈ led ∧ (R, PySem.W.listOf vs.toArray c) ∈ led ∧
    (∀ p ∈ led, p.1 ≠ Wl) ∧ (∀ p ∈ led, p.1 ≠ Dd) ∧ (∀ p ∈ led, p.1 ≠ It) ∧ Items led ws its
section
variable {w : World} {mean : ExcName → Option Value} {mg mb : Str → Option Value} {dp un : Nat} {gd : Option (List Code)} {outer : List Env} {A₀ : Around} {base g : Heap} {L : Addr} {s₀ : Shared} {hd : Nat → List Int} {t : Tok} {Hl Dd Wl R Tt It : Addr}
theorem wlx_body {o : Obj} {key : Int} {used : Nat} {tk1 tk2 tr : Tok} {vs : List Value} {c : Nat} {tv : Array Value} {its : List Itm} {i ρ : Nat} {x : Int} {r : List Int} {Qn : Flow → Shared → Prop}
    (hl : ∀ i, (hd i).length ≤ 10) (hH : HeadsAt g Hl hd) (hDW : Dd ≠ Wl) (hIW : Wl ≠ It) (hID : Dd ≠ It) (hρ : ρ < 4) (hr : r.length ≤ 20) (hIR : IntsAre vs (x :: r ++ [0])) (hlen : its.length ≤ 1000)
    (B : Below A₀ base outer g) (X : (K w.params).In g) (T : Top topProg lw mean mg mb g) (hdp : dp + 10 < recursionLimit) (hu : un + 100 < cLine) (s : Shared) (hI : WCore w s₀ g L t Hl Dd Wl R Tt It o key used tk1 tk2 vs c tv its i s) :
    wpAny (model PW w) (wlA dp un gd L outer) (assign (PySem.Expr.Name (Str.ofString "rule") ⟨197, 16, 197, 20⟩) (wlE L) (.int ρ tr)) (fun _ s₂ => wpAny (model PW w) (wlA dp un gd L outer) (execs (forBody wlF) (wlE L))
      (fun f s' => f = .next ∧ WCore w s₀ g L t Hl Dd Wl R Tt It o key used tk1 tk2 vs c tv ((hd ρ ++ r, key + 8 ^ ρ, used + 1) :: its) i s') (fun _ _ => False) s₂) (fun _ _ => False) s := by
  obtain ⟨h, tk, m, io, ws, cw, led, rfl, F, m1, m2, m3, m4, m5, m6, m7, N, hio, mT, mR, a1, a2, a3, hit⟩ := hI
  have F1 := fr_ifs [(Str.ofString "waiting", .ref Wl), (Str.ofString "heads", .ref Hl), (Str.ofString "most", .int 5 t), (Str.ofString "found", .ref Dd), (Str.ofString "row", .ref R), (Str.ofString "key", .int key tk1), (Str.ofString "used", .int used tk2)] F (by
    intro p hp
    simp only [List.mem_cons, List.not_mem_nil, or_false] at hp
    rcases hp with rfl | rfl | rfl | rfl | rfl | rfl | rfl <;> assumption)
  dsimp only [ifs] at F1
  clear F m1 m2 m3 m4 m5 m6 m7
  obtain ⟨rs, ch, hH1, hrl, hrow⟩ := hH
  obtain ⟨vh, cvh, hg1, hIh⟩ := hrow ρ (rs[ρ]'(by (first | lia | omega))) (List.getElem?_eq_getElem (by (first | lia | omega)))
  (repeat' (first | (exfalso; (fail_if_success (fail_if_success omega)); (first | lia | omega)) | ((fail_if_success (first | with_reducible show wpAny _ _ (binaryOp Operator.Pow _ _) _ _ _ | with_reducible show wpAny _ _ (binaryOp Operator.Add (Value.ref _) _) _ _ _ | with_reducible show wpAny _ _ (call (Value.builtin "list.append") _) _ _ _ | with_reducible show wpAny _ _ (exec (Stmt.While _ _ _ _) _) _ _ _ | with_reducible show wpAny _ _ (exec (Stmt.For _ _ _ _ _) _) _ _ _ | with_reducible show wpAny _ _ (truthy (Value.ref _)) _ _ _ | with_reducible show wpAny _ _ (subscriptTail _ _ _ _) _ _ _ | with_reducible show wpAny _ _ (call (Value.builtin "list.pop") _) _ _ _ | with_reducible show wpAny _ _ (call (Value.builtin "len") _) _ _ _ | with_reducible show wpAny _ _ (call (Value.builtin "dict.get") _) _ _ _ | with_reducible show wpAny _ _ (getMethod (Value.ref _) (Str.ofString "get") _) _ _ _ | with_reducible show wpAny _ _ (setItem _ _ _) _ _ _ | with_reducible show wpAny _ _ (assign (PySem.Expr.Tuple _ _ _) _ _) _ _ _ | with_reducible show wpAny _ _ (call (Value.ref _) _) _ _ _)); first | (walk1; try dsimp only) | leave1)))
  rename Fr _ _ _ _ => F2
  rename News _ _ _ _ => N2
  have hlt : ρ < rs.length := by (first | lia | omega)
  refine sub_any (vs := (rs.map Value.ref).toArray) ⟨_, F2.keep _ _ hH1, rfl, ch, rfl⟩ (Int.natCast_nonneg _) (by (first | lia | omega)) (x := .ref rs[ρ]) (by rw [Int.toNat_natCast]; simp [hlt]) ?_ (by with_unfolding_all rfl)
  try dsimp only
  (repeat' (first | (exfalso; (fail_if_success (fail_if_success omega)); (first | lia | omega)) | ((fail_if_success (first | with_reducible show wpAny _ _ (binaryOp Operator.Pow _ _) _ _ _ | with_reducible show wpAny _ _ (binaryOp Operator.Add (Value.ref _) _) _ _ _ | with_reducible show wpAny _ _ (call (Value.builtin "list.append") _) _ _ _ | with_reducible show wpAny _ _ (exec (Stmt.While _ _ _ _) _) _ _ _ | with_reducible show wpAny _ _ (exec (Stmt.For _ _ _ _ _) _) _ _ _ | with_reducible show wpAny _ _ (truthy (Value.ref _)) _ _ _ | with_reducible show wpAny _ _ (subscriptTail _ _ _ _) _ _ _ | with_reducible show wpAny _ _ (call (Value.builtin "list.pop") _) _ _ _ | with_reducible show wpAny _ _ (call (Value.builtin "len") _) _ _ _ | with_reducible show wpAny _ _ (call (Value.builtin "dict.get") _) _ _ _ | with_reducible show wpAny _ _ (getMethod (Value.ref _) (Str.ofString "get") _) _ _ _ | with_reducible show wpAny _ _ (setItem _ _ _) _ _ _ | with_reducible show wpAny _ _ (assign (PySem.Expr.Tuple _ _ _) _ _) _ _ _ | with_reducible show wpAny _ _ (call (Value.ref _) _) _ _ _)); first | (walk1; try dsimp only) | leave1)))
  have hvl := hIR.length
  have hns : ((x :: r) ++ ([0] : List Int)).length = r.length + 2 := by rw [List.length_append]; rfl
  have hR : ∀ h' : Heap, News g L h' ((It, io) :: (Wl, PySem.W.listOf ws.reverse.toArray cw) :: (Dd, o) :: led) → h'.IsList R vs.toArray := fun h' N => ⟨_, (N _ (.tail _ (.tail _ (.tail _ mR)))).1, rfl, c, rfl⟩
  refine kmk_slice_ints (s := { s₀ with heap := _, toks := _ }) (vs := vs) (ns := (x :: r) ++ [0]) (c := r.length + 1) F2 N2 (hR _ N2) (.int 1 _) .none hIR (kmk_from hIR (by decide)) (by show (r ++ [0]).length = _; rw [List.length_append]; rfl) ?_ (by with_unfolding_all rfl) (by intro _; with_unfolding_all rfl) (by rw [List.size_toArray, hvl, hns, sizeLine_eq]; (first | lia | omega))
  intro Dn wsn h3 F3 N3 l3 hI3 _ _
  try dsimp only
  (repeat' (first | (exfalso; (fail_if_success (fail_if_success omega)); (first | lia | omega)) | ((fail_if_success (first | with_reducible show wpAny _ _ (binaryOp Operator.Pow _ _) _ _ _ | with_reducible show wpAny _ _ (binaryOp Operator.Add (Value.ref _) _) _ _ _ | with_reducible show wpAny _ _ (call (Value.builtin "list.append") _) _ _ _ | with_reducible show wpAny _ _ (exec (Stmt.While _ _ _ _) _) _ _ _ | with_reducible show wpAny _ _ (exec (Stmt.For _ _ _ _ _) _) _ _ _ | with_reducible show wpAny _ _ (truthy (Value.ref _)) _ _ _ | with_reducible show wpAny _ _ (subscriptTail _ _ _ _) _ _ _ | with_reducible show wpAny _ _ (call (Value.builtin "list.pop") _) _ _ _ | with_reducible show wpAny _ _ (call (Value.builtin "len") _) _ _ _ | with_reducible show wpAny _ _ (call (Value.builtin "dict.get") _) _ _ _ | with_reducible show wpAny _ _ (getMethod (Value.ref _) (Str.ofString "get") _) _ _ _ | with_reducible show wpAny _ _ (setItem _ _ _) _ _ _ | with_reducible show wpAny _ _ (assign (PySem.Expr.Tuple _ _ _) _ _) _ _ _ | with_reducible show wpAny _ _ (call (Value.ref _) _) _ _ _)); first | (walk1; try dsimp only) | leave1)))
  have hI3' : IntsAre wsn (r ++ [0]) := hI3
  have hlh := hl ρ
  have l4 : ∀ p ∈ (Dn, PySem.W.listOf wsn.toArray 0) :: (It, io) :: (Wl, PySem.W.listOf ws.reverse.toArray cw) :: (Dd, o) :: led, p.1 < h3.objs.size := fun p hp => Heap.lt_size (N3 p hp).1
  refine add_lists_ints (vs := vh) (ws := wsn) F3 N3 ⟨_, F3.keep _ _ hg1, rfl, cvh, rfl⟩ ⟨_, (N3 _ (.head _)).1, rfl, 0, rfl⟩ hIh hI3' ?_ (by rw [List.length_append, List.length_singleton, sizeLine_eq]; (first | lia | omega))
  intro h4 F4 N4 hI4
  clear F3 N3
  dsimp only at F4 N4 ⊢
  generalize h3.objs.size = Rn at *
  (repeat' (first | (exfalso; (fail_if_success (fail_if_success omega)); (first | lia | omega)) | ((fail_if_success (first | with_reducible show wpAny _ _ (binaryOp Operator.Pow _ _) _ _ _ | with_reducible show wpAny _ _ (binaryOp Operator.Add (Value.ref _) _) _ _ _ | with_reducible show wpAny _ _ (call (Value.builtin "list.append") _) _ _ _ | with_reducible show wpAny _ _ (exec (Stmt.While _ _ _ _) _) _ _ _ | with_reducible show wpAny _ _ (exec (Stmt.For _ _ _ _ _) _) _ _ _ | with_reducible show wpAny _ _ (truthy (Value.ref _)) _ _ _ | with_reducible show wpAny _ _ (subscriptTail _ _ _ _) _ _ _ | with_reducible show wpAny _ _ (call (Value.builtin "list.pop") _) _ _ _ | with_reducible show wpAny _ _ (call (Value.builtin "len") _) _ _ _ | with_reducible show wpAny _ _ (call (Value.builtin "dict.get") _) _ _ _ | with_reducible show wpAny _ _ (getMethod (Value.ref _) (Str.ofString "get") _) _ _ _ | with_reducible show wpAny _ _ (setItem _ _ _) _ _ _ | with_reducible show wpAny _ _ (assign (PySem.Expr.Tuple _ _ _) _ _) _ _ _ | with_reducible show wpAny _ _ (call (Value.ref _) _) _ _ _)); first | (walk1; try dsimp only) | leave1)))
  refine pow_int (Int.natCast_nonneg _) ?_ ?_
  · have : ρ = 0 ∨ ρ = 1 ∨ ρ = 2 ∨ ρ = 3 := by (first | lia | omega)
    rcases this with rfl | rfl | rfl | rfl <;> decide
  rw [Int.toNat_natCast]
  try dsimp only
  (repeat' (first | (exfalso; (fail_if_success (fail_if_success omega)); (first | lia | omega)) | ((fail_if_success (first | with_reducible show wpAny _ _ (binaryOp Operator.Pow _ _) _ _ _ | with_reducible show wpAny _ _ (binaryOp Operator.Add (Value.ref _) _) _ _ _ | with_reducible show wpAny _ _ (call (Value.builtin "list.append") _) _ _ _ | with_reducible show wpAny _ _ (exec (Stmt.While _ _ _ _) _) _ _ _ | with_reducible show wpAny _ _ (exec (Stmt.For _ _ _ _ _) _) _ _ _ | with_reducible show wpAny _ _ (truthy (Value.ref _)) _ _ _ | with_reducible show wpAny _ _ (subscriptTail _ _ _ _) _ _ _ | with_reducible show wpAny _ _ (call (Value.builtin "list.pop") _) _ _ _ | with_reducible show wpAny _ _ (call (Value.builtin "len") _) _ _ _ | with_reducible show wpAny _ _ (call (Value.builtin "dict.get") _) _ _ _ | with_reducible show wpAny _ _ (getMethod (Value.ref _) (Str.ofString "get") _) _ _ _ | with_reducible show wpAny _ _ (setItem _ _ _) _ _ _ | with_reducible show wpAny _ _ (assign (PySem.Expr.Tuple _ _ _) _ _) _ _ _ | with_reducible show wpAny _ _ (call (Value.ref _) _) _ _ _)); first | (walk1; try dsimp only) | leave1)))
  rename Fr _ _ _ _ => F5
  rename News _ _ _ _ => N5
  rename_i Tn hz lz
  have hap : ∀ p ∈ (Dd, o) :: led, p.1 ≠ Wl := by
    intro p hp
    rcases List.mem_cons.mp hp with rfl | hp
    · exact hDW
    · exact a1 p hp
  have hwl : ws.reverse.length ≤ sizeLine := by
    rw [List.length_reverse, hit.length, sizeLine_eq]
    (first | lia | omega)
  have lR : ∀ p ∈ (It, io) :: (Wl, PySem.W.listOf ws.reverse.toArray cw) :: (Dd, o) :: led, p.1 < Rn := fun p hp => l4 p (.tail _ hp)
  refine append_in (own := [(Tn, _), (Rn, _), (Dn, _), (It, io)]) (rest := (Dd, o) :: led) (ys := ws.reverse) (n := cw) F5 N5 ?_ hap ?_ hwl
  · intro p hp
    simp only [List.mem_cons, List.not_mem_nil, or_false] at hp
    rcases hp with rfl | rfl | rfl | rfl
    · exact Nat.ne_of_gt lz.2.2.2.1
    · exact Nat.ne_of_gt (lR _ (.tail _ (.head _)))
    · exact Nat.ne_of_gt (l3 _ (.tail _ (.head _)))
    · exact Ne.symm hIW
  intro h6 F6 N6
  clear F5 N5
  try dsimp only
  (repeat' (first | (exfalso; (fail_if_success (fail_if_success omega)); (first | lia | omega)) | ((fail_if_success (first | with_reducible show wpAny _ _ (binaryOp Operator.Pow _ _) _ _ _ | with_reducible show wpAny _ _ (binaryOp Operator.Add (Value.ref _) _) _ _ _ | with_reducible show wpAny _ _ (call (Value.builtin "list.append") _) _ _ _ | with_reducible show wpAny _ _ (exec (Stmt.While _ _ _ _) _) _ _ _ | with_reducible show wpAny _ _ (exec (Stmt.For _ _ _ _ _) _) _ _ _ | with_reducible show wpAny _ _ (truthy (Value.ref _)) _ _ _ | with_reducible show wpAny _ _ (subscriptTail _ _ _ _) _ _ _ | with_reducible show wpAny _ _ (call (Value.builtin "list.pop") _) _ _ _ | with_reducible show wpAny _ _ (call (Value.builtin "len") _) _ _ _ | with_reducible show wpAny _ _ (call (Value.builtin "dict.get") _) _ _ _ | with_reducible show wpAny _ _ (getMethod (Value.ref _) (Str.ofString "get") _) _ _ _ | with_reducible show wpAny _ _ (setItem _ _ _) _ _ _ | with_reducible show wpAny _ _ (assign (PySem.Expr.Tuple _ _ _) _ _) _ _ _ | with_reducible show wpAny _ _ (call (Value.ref _) _) _ _ _)); first | (walk1; try dsimp only) | leave1)))
  rename Fr _ _ _ _ => F7
  rename News _ _ _ _ => N7
  have eu : (used : Int) + 1 = ((used + 1 : Nat) : Int) := rfl
  rw [eu] at N7
  obtain ⟨ta, tb, N8⟩ : ∃ ta tb, News g L h6 ((Tn, tupO Rn (key + 8 ^ ρ) ta ((used + 1 : Nat) : Int) tb) :: (Rn, PySem.W.listOf (vh ++ wsn).toArray 0) :: (Dn, PySem.W.listOf wsn.toArray 0) :: (It, io) :: (Wl, PySem.W.listOf (ws.reverse ++ [Value.ref Tn]).toArray (cw + 1)) :: (Dd, o) :: led) := ⟨_, _, N7⟩
  refine ⟨_, _, _, io, .ref Tn :: ws, cw + 1, (Tn, tupO Rn (key + 8 ^ ρ) ta ((used + 1 : Nat) : Int) tb) :: (Rn, PySem.W.listOf (vh ++ wsn).toArray 0) :: led, rfl, F7, rfl, rfl, rfl, rfl, rfl, rfl, rfl, news_sub N8 ?_, hio, .tail _ (.tail _ mT), .tail _ (.tail _ mR), ?_, ?_, ?_, .cons ⟨Tn, Rn, vh ++ wsn, 0, ta, tb, rfl, .head _, .tail _ (.head _), ?_⟩ (hit.mono fun p hp => .tail _ (.tail _ hp))⟩
  · intro p hp
    rw [List.reverse_cons] at hp
    rcases List.mem_cons.mp hp with rfl | hp
    · exact .tail _ (.tail _ (.tail _ (.head _)))
    rcases List.mem_cons.mp hp with rfl | hp
    · exact .tail _ (.tail _ (.tail _ (.tail _ (.head _))))
    rcases List.mem_cons.mp hp with rfl | hp
    · exact .tail _ (.tail _ (.tail _ (.tail _ (.tail _ (.head _)))))
    rcases List.mem_cons.mp hp with rfl | hp
    · exact .head _
    rcases List.mem_cons.mp hp with rfl | hp
    · exact .tail _ (.head _)
    · exact .tail _ (.tail _ (.tail _ (.tail _ (.tail _ (.tail _ hp)))))
  · intro p hp
    rcases List.mem_cons.mp hp with rfl | hp
    · exact Nat.ne_of_gt lz.2.2.2.1
    rcases List.mem_cons.mp hp with rfl | hp
    · exact Nat.ne_of_gt (lR _ (.tail _ (.head _)))
    · exact a1 p hp
  · intro p hp
    rcases List.mem_cons.mp hp with rfl | hp
    · exact Nat.ne_of_gt lz.2.2.2.2.1
    rcases List.mem_cons.mp hp with rfl | hp
    · exact Nat.ne_of_gt (lR _ (.tail _ (.tail _ (.head _))))
    · exact a2 p hp
  · intro p hp
    rcases List.mem_cons.mp hp with rfl | hp
    · exact Nat.ne_of_gt lz.2.2.1
    rcases List.mem_cons.mp hp with rfl | hp
    · exact Nat.ne_of_gt (lR _ (.head _))
    · exact a3 p hp
  · show IntsAre (vh ++ wsn) (hd ρ ++ r ++ [0])
    rw [List.append_assoc]
    exact hI4
noncomputable def newIt (hd : Nat → List Int) (r : List Int) (key : Int) (used ρ : Nat) : Itm := (hd ρ ++ r, key + 8 ^ ρ, used + 1)
noncomputable def itsAt (hd : Nat → List Int) (r : List Int) (key : Int) (used ρ0 ρ1 : Nat) (its : List Itm) : Nat → List Itm
  | 0 => its
  | 1 => newIt hd r key used ρ0 :: its
  | _ => newIt hd r key used ρ1 :: newIt hd r key used ρ0 :: its
theorem wlx_for {o : Obj} {key : Int} {used : Nat} {tk1 tk2 ta tb : Tok} {vs : List Value} {c : Nat} {its : List Itm} {ρ0 ρ1 : Nat} {x : Int} {r : List Int} {Q : Flow → Shared → Prop}
    (hl : ∀ i, (hd i).length ≤ 10) (hH : HeadsAt g Hl hd) (hDW : Dd ≠ Wl) (hIW : Wl ≠ It) (hID : Dd ≠ It) (hρ0 : ρ0 < 4) (hρ1 : ρ1 < 4) (hr : r.length ≤ 20) (hIR : IntsAre vs (x :: r ++ [0])) (hlen : its.length ≤ 999)
    (B : Below A₀ base outer g) (X : (K w.params).In g) (T : Top topProg lw mean mg mb g) (hdp : dp + 10 < recursionLimit) (hu : un + 100 < cLine) (s : Shared) (hI : WCore w s₀ g L t Hl Dd Wl R Tt It o key used tk1 tk2 vs c #[.int ρ0 ta, .int ρ1 tb] its 0 s)
    (hend : ∀ (h : Heap) (tk : Nat) (m : Str → Option Value) (ws : List Value) (cw : Nat) (led : List (Addr × Obj)), Fr g L h m → m (Str.ofString "heads") = some (.ref Hl) → m (Str.ofString "most") = some (.int 5 t) → m (Str.ofString "found") = some (.ref Dd) → m (Str.ofString "waiting") = some (.ref Wl) →
      News g L h ((Wl, PySem.W.listOf ws.reverse.toArray cw) :: (Dd, o) :: led) → (∀ p ∈ led, p.1 ≠ Wl) → (∀ p ∈ led, p.1 ≠ Dd) → Items led ws (newIt hd r key used ρ1 :: newIt hd r key used ρ0 :: its) → Q .next { s₀ with heap := h, toks := tk }) :
    ∃ (I : Nat → Shared → Prop) (n : Nat), I n s ∧ (∀ v, letOwnedTupleGo (PySem.Expr.Name (Str.ofString "rule") ⟨197, 16, 197, 20⟩) (.ref It) v = pure ()) ∧
      ∀ n s, I n s → wpAny (model PW w) (wlA dp un gd L outer) (pyNext (.ref It)) (ForNext PW w (wlA dp un gd L outer) (wlE L) I n Q (PySem.Expr.Name (Str.ofString "rule") ⟨197, 16, 197, 20⟩) (forBody wlF)) (fun _ _ => False) s := by
  refine ⟨fun n s' => ∃ i, n + i = 2 ∧ WCore w s₀ g L t Hl Dd Wl R Tt It o key used tk1 tk2 vs c #[.int ρ0 ta, .int ρ1 tb] (itsAt hd r key used ρ0 ρ1 its i) i s', 2, ⟨0, rfl, hI⟩, fun v => rfl, ?_⟩
  rintro n s' ⟨i, hn, hC⟩
  have step : ∀ ρ tr, ρ < 4 → (#[Value.int (ρ0 : Nat) ta, .int (ρ1 : Nat) tb])[i]? = some (.int (ρ : Nat) tr) → (itsAt hd r key used ρ0 ρ1 its i).length ≤ 1000 → newIt hd r key used ρ :: itsAt hd r key used ρ0 ρ1 its i = itsAt hd r key used ρ0 ρ1 its (i + 1) → i < 2 →
      wpAny (model PW w) (wlA dp un gd L outer) (pyNext (.ref It)) (ForNext PW w (wlA dp un gd L outer) (wlE L) (fun n s' => ∃ i, n + i = 2 ∧ WCore w s₀ g L t Hl Dd Wl R Tt It o key used tk1 tk2 vs c #[.int ρ0 ta, .int ρ1 tb] (itsAt hd r key used ρ0 ρ1 its i) i s') n Q (PySem.Expr.Name (Str.ofString "rule") ⟨197, 16, 197, 20⟩) (forBody wlF)) (fun _ _ => False) s' := by
    intro ρ tr hρ hx hle he hi2
    obtain ⟨h, tk, m, io, ws, cw, led, rfl, F, m1, m2, m3, m4, m5, m6, m7, N, hio, mT, mR, a1, a2, a3, hit⟩ := hC
    refine tup_next (l := Tt) (i := i) F N (.head ?_) hio (.tail _ (.tail _ (.tail _ mT))) hx ?_
    · intro p hp
      rcases List.mem_cons.mp hp with rfl | hp
      · exact hIW
      rcases List.mem_cons.mp hp with rfl | hp
      · exact hID
      · exact a3 p hp
    intro h2 io2 F2 N2 hio2
    refine wpAny_mono (wlx_body (ρ := ρ) (x := x) (r := r) (i := i + 1) (Qn := fun _ _ => True) hl hH hDW hIW hID hρ hr hIR hle B X T hdp hu _ ⟨h2, tk, m, io2, ws, cw, led, rfl, F2, m1, m2, m3, m4, m5, m6, m7, N2, hio2, mT, mR, a1, a2, a3, hit⟩) ?_ (fun _ _ e => e.elim)
    intro _ s2 h3
    refine wpAny_mono h3 ?_ (fun _ _ e => e.elim)
    rintro f s3 ⟨rfl, hC3⟩
    refine ⟨n - 1, by (first | lia | omega), i + 1, by (first | lia | omega), ?_⟩
    rw [← he]
    exact hC3
  match i, hn with
  | 0, hn => exact step ρ0 ta hρ0 rfl (Nat.le_trans hlen (by decide)) rfl (by decide)
  | 1, hn => exact step ρ1 tb hρ1 rfl (by show its.length + 1 ≤ 1000; (first | lia | omega)) rfl (by decide)
  | 2, hn =>
    obtain ⟨h, tk, m, io, ws, cw, led, rfl, F, m1, m2, m3, m4, m5, m6, m7, N, hio, mT, mR, a1, a2, a3, hit⟩ := hC
    refine tup_done (l := Tt) (i := 2) rfl F N ?_ hio (.tail _ (.tail _ mT)) rfl ?_
    · intro p hp
      rcases List.mem_cons.mp hp with rfl | hp
      · exact hIW
      rcases List.mem_cons.mp hp with rfl | hp
      · exact hID
      · exact a3 p hp
    intro h2 F2 N2
    exact hend h2 tk m ws cw led F2 m1 m2 m3 m4 N2 a1 a2 hit
end
end Mine
end
-- WLK
section
open PySem PySem.W PyProof.Rows PySem.Calls
set_option Elab.async false
set_option maxRecDepth 100000
set_option linter.all false
set_option maxHeartbeats 0
namespace Mine
section
variable {w : World} {mean : ExcName → Option Value} {mg mb : Str → Option Value} {dp un : Nat} {gd : Option (List Code)} {outer : List Env} {A₀ : Around} {base g : Heap} {L : Addr} {s₀ : Shared} {hd : Nat → List Int} {t : Tok} {Hl Dd Wl : Addr}
/-- behind an inner loop -/
theorem wlk_end {o : Obj} {kvs : List (Int × Value)} {cnt : Int → Nat} {its : List Itm} {x : Int} {r : List Int} {key : Int} {used ρ0 ρ1 : Nat} {k : Nat}
    (hh : ∀ i x, x ∈ hd i → x ≠ 0) (hl : ∀ i, (hd i).length ≤ 10) (hdo : o.IsDictOf (intKind PW w) kvs) (hf : FoundOk kvs cnt) (hok : ∀ it ∈ (x :: r, key, used) :: its, it.2.2 ≤ 5 ∧ it.1.length ≤ 20 ∧ ∀ x ∈ it.1, x ≠ 0)
    (htot : ∀ j, cnt j + tot hd j ((x :: r, key, used) :: its) = (Lv hd).count j) (hms : kvs.length + msr ((x :: r, key, used) :: its) ≤ 1000) (hc : r.length + 1 + used ≤ 5) (hk : k = msr ((x :: r, key, used) :: its))
    (hlv : ∀ f j, 5 - used = f + 1 → (leaves hd (5 - used) (x :: r) key used).count j = (leaves hd f (hd ρ1 ++ r) (key + 8 ^ ρ1) (used + 1)).count j + (leaves hd f (hd ρ0 ++ r) (key + 8 ^ ρ0) (used + 1)).count j)
    {h : Heap} {tk : Nat} {m : Str → Option Value} {ws : List Value} {cw : Nat} {led : List (Addr × Obj)} (F : Fr g L h m) (m1 : m (Str.ofString "heads") = some (.ref Hl)) (m2 : m (Str.ofString "most") = some (.int 5 t)) (m3 : m (Str.ofString "found") = some (.ref Dd)) (m4 : m (Str.ofString "waiting") = some (.ref Wl))
    (N : News g L h ((Wl, PySem.W.listOf ws.reverse.toArray cw) :: (Dd, o) :: led)) (a1 : ∀ p ∈ led, p.1 ≠ Wl) (a2 : ∀ p ∈ led, p.1 ≠ Dd) (hit : Items led ws (newIt hd r key used ρ1 :: newIt hd r key used ρ0 :: its)) (Q : Flow → Shared → Prop) :
    TurnEnd (WInv w s₀ g L hd t Hl Dd Wl) k Q .next { s₀ with heap := h, toks := tk } := by
  subst hk
  obtain ⟨f, hf5⟩ : ∃ f, 5 - used = f + 1 := ⟨4 - used, by (first | lia | omega)⟩
  have e5 : 5 - (used + 1) = f := by (first | lia | omega)
  have hw : wt (newIt hd r key used ρ1) + (wt (newIt hd r key used ρ0) + msr its) < wt (x :: r, key, used) + msr its := by
    show 3 ^ (6 - (used + 1)) + (3 ^ (6 - (used + 1)) + msr its) < 3 ^ (6 - used) + msr its
    have e : 6 - used = (6 - (used + 1)) + 1 := by (first | lia | omega)
    rw [e, Nat.pow_succ]
    have : 0 < 3 ^ (6 - (used + 1)) := Nat.pow_pos (by decide)
    (first | lia | omega)
  refine ⟨_, hw, h, tk, m, o, kvs, cnt, ws, _, cw, led, rfl, F, m1, m2, m3, m4, N, a1, a2, hdo, hf, hit, ?_, ?_, ?_, rfl⟩
  · have h0 := hok _ (.head _)
    have hnew : ∀ ρ, (newIt hd r key used ρ).2.2 ≤ 5 ∧ (newIt hd r key used ρ).1.length ≤ 20 ∧ ∀ x ∈ (newIt hd r key used ρ).1, x ≠ 0 := by
      intro ρ
      refine ⟨by show used + 1 ≤ 5; (first | lia | omega), ?_, ?_⟩
      · show (hd ρ ++ r).length ≤ 20
        rw [List.length_append]
        have := hl ρ
        (first | lia | omega)
      · intro y hy
        rcases List.mem_append.mp hy with hy | hy
        · exact hh ρ y hy
        · exact h0.2.2 y (.tail _ hy)
    intro it hi
    rcases List.mem_cons.mp hi with rfl | hi
    · exact hnew _
    rcases List.mem_cons.mp hi with rfl | hi
    · exact hnew _
    · exact hok it (.tail _ hi)
  · intro j
    rw [← htot j]
    show cnt j + ((leaves hd (5 - (used + 1)) (hd ρ1 ++ r) (key + 8 ^ ρ1) (used + 1)).count j + ((leaves hd (5 - (used + 1)) (hd ρ0 ++ r) (key + 8 ^ ρ0) (used + 1)).count j + tot hd j its)) = cnt j + ((leaves hd (5 - used) (x :: r) key used).count j + tot hd j its)
    rw [hlv f j hf5, e5]
    (first | lia | omega)
  · have h1 : kvs.length + (wt (x :: r, key, used) + msr its) ≤ 1000 := hms
    show kvs.length + (wt (newIt hd r key used ρ1) + (wt (newIt hd r key used ρ0) + msr its)) ≤ 1000
    (first | lia | omega)
theorem wlk_turn (hh : ∀ i x, x ∈ hd i → x ≠ 0) (hl : ∀ i, (hd i).length ≤ 10) (hH : HeadsAt g Hl hd) (lo : (Dd == sysModules) = false) (hDW : Dd ≠ Wl)
    (B : Below A₀ base outer g) (X : (K w.params).In g) (T : Top topProg lw mean mg mb g) (hdp : dp + 10 < recursionLimit) (hu : un + 100 < cLine) (k : Nat) (s : Shared) (hI : WInv w s₀ g L hd t Hl Dd Wl k s) :
    wpAny (model PW w) (wlA dp un gd L outer) (PySem.isTrue (whTest wlW) (wlE L) (eval (whTest wlW) (wlE L)))
      (fun b s₂ => WhlIf b (wpAny (model PW w) (wlA dp un gd L outer) (execs (whBody wlW) (wlE L)) (TurnEnd (WInv w s₀ g L hd t Hl Dd Wl) k (fun f s' => f = .next ∧ WInv w s₀ g L hd t Hl Dd Wl 0 s')) (fun _ _ => False) s₂)
        (wpAny (model PW w) (wlA dp un gd L outer) (execs [] (wlE L)) (fun f s' => f = .next ∧ WInv w s₀ g L hd t Hl Dd Wl 0 s') (fun _ _ => False) s₂)) (fun _ _ => False) s := by
  obtain ⟨h, tk, m, o, kvs, cnt, ws, its, cw, led, rfl, F, m1, m2, m3, m4, N, a1, a2, hdo, hf, hit, hok, htot, hms, rfl⟩ := hI
  have F1 := fr_ifs [(Str.ofString "waiting", .ref Wl), (Str.ofString "heads", .ref Hl), (Str.ofString "most", .int 5 t), (Str.ofString "found", .ref Dd)] F (by
    intro p hp
    simp only [List.mem_cons, List.not_mem_nil, or_false] at hp
    rcases hp with rfl | rfl | rfl | rfl
    · exact m4
    · exact m1
    · exact m2
    · exact m3)
  dsimp only [ifs] at F1
  have hwl : ws.length ≤ 1000 := by
    have := hit.length
    have := len_msr its
    (first | lia | omega)
  (repeat' (first | (exfalso; (fail_if_success (fail_if_success omega)); (first | lia | omega)) | ((fail_if_success (first | with_reducible show wpAny _ _ (pyIter _) _ _ _ | with_reducible show wpAny _ _ (exec (Stmt.While _ _ _ _) _) _ _ _ | with_reducible show wpAny _ _ (exec (Stmt.For _ _ _ _ _) _) _ _ _ | with_reducible show wpAny _ _ (truthy (Value.ref _)) _ _ _ | with_reducible show wpAny _ _ (subscriptTail _ _ _ _) _ _ _ | with_reducible show wpAny _ _ (call (Value.builtin "list.pop") _) _ _ _ | with_reducible show wpAny _ _ (call (Value.builtin "len") _) _ _ _ | with_reducible show wpAny _ _ (call (Value.builtin "dict.get") _) _ _ _ | with_reducible show wpAny _ _ (getMethod (Value.ref _) (Str.ofString "get") _) _ _ _ | with_reducible show wpAny _ _ (setItem _ _ _) _ _ _ | with_reducible show wpAny _ _ (assign (PySem.Expr.Tuple _ _ _) _ _) _ _ _ | with_reducible show wpAny _ _ (call (Value.ref _) _) _ _ _)); first | (walk1; try dsimp only) | leave1)))
  change wpAny _ _ (eval (PySem.Expr.Name (Str.ofString "waiting") _) _) _ _ _
  (repeat' (first | (exfalso; (fail_if_success (fail_if_success omega)); (first | lia | omega)) | ((fail_if_success (first | with_reducible show wpAny _ _ (pyIter _) _ _ _ | with_reducible show wpAny _ _ (exec (Stmt.While _ _ _ _) _) _ _ _ | with_reducible show wpAny _ _ (exec (Stmt.For _ _ _ _ _) _) _ _ _ | with_reducible show wpAny _ _ (truthy (Value.ref _)) _ _ _ | with_reducible show wpAny _ _ (subscriptTail _ _ _ _) _ _ _ | with_reducible show wpAny _ _ (call (Value.builtin "list.pop") _) _ _ _ | with_reducible show wpAny _ _ (call (Value.builtin "len") _) _ _ _ | with_reducible show wpAny _ _ (call (Value.builtin "dict.get") _) _ _ _ | with_reducible show wpAny _ _ (getMethod (Value.ref _) (Str.ofString "get") _) _ _ _ | with_reducible show wpAny _ _ (setItem _ _ _) _ _ _ | with_reducible show wpAny _ _ (assign (PySem.Expr.Tuple _ _ _) _ _) _ _ _ | with_reducible show wpAny _ _ (call (Value.ref _) _) _ _ _)); first | (walk1; try dsimp only) | leave1)))
  have hW : h.get? Wl = some (PySem.W.listOf ws.reverse.toArray cw) := (N _ (.head _)).1
  refine wpAny_truthy_list (items := ws.reverse.toArray) ⟨_, hW, rfl, cw, rfl⟩ (by rw [List.size_toArray, List.length_reverse]; (first | lia | omega)) ?_
  cases its with
  | nil =>
    obtain rfl : ws = [] := List.length_eq_zero_iff.mp hit.length
    refine WhlIf.no (by rfl) ?_
    exact wpAny_execs_nil ⟨rfl, h, _, m, o, kvs, cnt, [], [], cw, led, rfl, F, m1, m2, m3, m4, N, a1, a2, hdo, hf, .nil, hok, htot, hms, rfl⟩
  | cons it its =>
    obtain ⟨v, ws, rfl, hi, hr⟩ := hit.inv
    clear hit
    refine WhlIf.yes (by simp) ?_
    obtain ⟨Tp, R, vs, c, tk1, tk2, rfl, mT, mR, hIR⟩ := hi
    obtain ⟨row, key, used⟩ := it
    dsimp only at hIR mT
    (repeat' (first | (exfalso; (fail_if_success (fail_if_success omega)); (first | lia | omega)) | ((fail_if_success (first | with_reducible show wpAny _ _ (pyIter _) _ _ _ | with_reducible show wpAny _ _ (exec (Stmt.While _ _ _ _) _) _ _ _ | with_reducible show wpAny _ _ (exec (Stmt.For _ _ _ _ _) _) _ _ _ | with_reducible show wpAny _ _ (truthy (Value.ref _)) _ _ _ | with_reducible show wpAny _ _ (subscriptTail _ _ _ _) _ _ _ | with_reducible show wpAny _ _ (call (Value.builtin "list.pop") _) _ _ _ | with_reducible show wpAny _ _ (call (Value.builtin "len") _) _ _ _ | with_reducible show wpAny _ _ (call (Value.builtin "dict.get") _) _ _ _ | with_reducible show wpAny _ _ (getMethod (Value.ref _) (Str.ofString "get") _) _ _ _ | with_reducible show wpAny _ _ (setItem _ _ _) _ _ _ | with_reducible show wpAny _ _ (assign (PySem.Expr.Tuple _ _ _) _ _) _ _ _ | with_reducible show wpAny _ _ (call (Value.ref _) _) _ _ _)); first | (walk1; try dsimp only) | leave1)))
    have hap : ∀ p ∈ (Dd, o) :: led, p.1 ≠ Wl := by
      intro p hp
      rcases List.mem_cons.mp hp with rfl | hp
      · exact hDW
      · exact a1 p hp
    refine kl_pop (its := (Value.ref Tp :: ws).reverse.toArray) (n := cw) (p := ws.reverse) (y := .ref Tp) (news' := (Wl, PySem.W.listOf ws.reverse.toArray (cw + 1)) :: (Dd, o) :: led) F1 N (by rw [List.toList_toArray, List.reverse_cons]; exact kl_last_snoc _ _) (.head hap) (by rw [List.toList_toArray, List.length_reverse, sizeLine_eq]; (first | lia | omega)) ?_
    intro h2 F2 N2
    clear F F1 N hW
    dsimp only
    refine unpackN_ F2 N2 ⟨_, (N2 _ (.tail _ (.tail _ mT))).1, rfl, 0, rfl⟩ rfl rfl rfl ?_
    intro h3 F3 N3
    clear F2 N2
    dsimp only
    (repeat' (first | (exfalso; (fail_if_success (fail_if_success omega)); (first | lia | omega)) | ((fail_if_success (first | with_reducible show wpAny _ _ (pyIter _) _ _ _ | with_reducible show wpAny _ _ (exec (Stmt.While _ _ _ _) _) _ _ _ | with_reducible show wpAny _ _ (exec (Stmt.For _ _ _ _ _) _) _ _ _ | with_reducible show wpAny _ _ (truthy (Value.ref _)) _ _ _ | with_reducible show wpAny _ _ (subscriptTail _ _ _ _) _ _ _ | with_reducible show wpAny _ _ (call (Value.builtin "list.pop") _) _ _ _ | with_reducible show wpAny _ _ (call (Value.builtin "len") _) _ _ _ | with_reducible show wpAny _ _ (call (Value.builtin "dict.get") _) _ _ _ | with_reducible show wpAny _ _ (getMethod (Value.ref _) (Str.ofString "get") _) _ _ _ | with_reducible show wpAny _ _ (setItem _ _ _) _ _ _ | with_reducible show wpAny _ _ (assign (PySem.Expr.Tuple _ _ _) _ _) _ _ _ | with_reducible show wpAny _ _ (call (Value.ref _) _) _ _ _)); first | (walk1; try dsimp only) | leave1)))
    rename Fr _ _ _ _ => F4
    rename News _ _ _ _ => N4
    have hlR : ∀ h' : Heap, News g L h' ((Wl, PySem.W.listOf ws.reverse.toArray (cw + 1)) :: (Dd, o) :: led) → h'.IsList R vs.toArray := fun h' N => ⟨_, (N _ (.tail _ (.tail _ mR))).1, rfl, c, rfl⟩
    obtain ⟨hu5, hrl, hx0⟩ := hok _ (.head _)
    dsimp only at hu5 hrl hx0
    cases row with
    | nil =>
      refine item_anyK (vs := vs) (ns := [] ++ [0]) (hlR _ N4) hIR (by decide) (by decide) (by decide) ?_ (by with_unfolding_all rfl)
      intro t1
      try dsimp only
      have e0 : List.getD (([] : List Int) ++ ([0] : List Int)) (Int.toNat 0) 0 = 0 := rfl
      rw [e0]
      (repeat' (first | (exfalso; (fail_if_success (fail_if_success omega)); (first | lia | omega)) | ((fail_if_success (first | with_reducible show wpAny _ _ (pyIter _) _ _ _ | with_reducible show wpAny _ _ (exec (Stmt.While _ _ _ _) _) _ _ _ | with_reducible show wpAny _ _ (exec (Stmt.For _ _ _ _ _) _) _ _ _ | with_reducible show wpAny _ _ (truthy (Value.ref _)) _ _ _ | with_reducible show wpAny _ _ (subscriptTail _ _ _ _) _ _ _ | with_reducible show wpAny _ _ (call (Value.builtin "list.pop") _) _ _ _ | with_reducible show wpAny _ _ (call (Value.builtin "len") _) _ _ _ | with_reducible show wpAny _ _ (call (Value.builtin "dict.get") _) _ _ _ | with_reducible show wpAny _ _ (getMethod (Value.ref _) (Str.ofString "get") _) _ _ _ | with_reducible show wpAny _ _ (setItem _ _ _) _ _ _ | with_reducible show wpAny _ _ (assign (PySem.Expr.Tuple _ _ _) _ _) _ _ _ | with_reducible show wpAny _ _ (call (Value.ref _) _) _ _ _)); first | (walk1; try dsimp only) | leave1)))
      refine ctrV_use (iseof) B F4 X N4 T rfl (by (first | lia | omega)) (by (first | lia | omega)) ?_
      rintro r h5 tk5 F5 N5 k5 rfl
      clear F4 N4
      try dsimp only
      (repeat' (first | (exfalso; (fail_if_success (fail_if_success omega)); (first | lia | omega)) | ((fail_if_success (first | with_reducible show wpAny _ _ (pyIter _) _ _ _ | with_reducible show wpAny _ _ (exec (Stmt.While _ _ _ _) _) _ _ _ | with_reducible show wpAny _ _ (exec (Stmt.For _ _ _ _ _) _) _ _ _ | with_reducible show wpAny _ _ (truthy (Value.ref _)) _ _ _ | with_reducible show wpAny _ _ (subscriptTail _ _ _ _) _ _ _ | with_reducible show wpAny _ _ (call (Value.builtin "list.pop") _) _ _ _ | with_reducible show wpAny _ _ (call (Value.builtin "len") _) _ _ _ | with_reducible show wpAny _ _ (call (Value.builtin "dict.get") _) _ _ _ | with_reducible show wpAny _ _ (getMethod (Value.ref _) (Str.ofString "get") _) _ _ _ | with_reducible show wpAny _ _ (setItem _ _ _) _ _ _ | with_reducible show wpAny _ _ (assign (PySem.Expr.Tuple _ _ _) _ _) _ _ _ | with_reducible show wpAny _ _ (call (Value.ref _) _) _ _ _)); first | (walk1; try dsimp only) | leave1)))
      refine kdg_method N5 (.tail _ (.head _)) hdo ?_
      (repeat' (first | (exfalso; (fail_if_success (fail_if_success omega)); (first | lia | omega)) | ((fail_if_success (first | with_reducible show wpAny _ _ (pyIter _) _ _ _ | with_reducible show wpAny _ _ (exec (Stmt.While _ _ _ _) _) _ _ _ | with_reducible show wpAny _ _ (exec (Stmt.For _ _ _ _ _) _) _ _ _ | with_reducible show wpAny _ _ (truthy (Value.ref _)) _ _ _ | with_reducible show wpAny _ _ (subscriptTail _ _ _ _) _ _ _ | with_reducible show wpAny _ _ (call (Value.builtin "list.pop") _) _ _ _ | with_reducible show wpAny _ _ (call (Value.builtin "len") _) _ _ _ | with_reducible show wpAny _ _ (call (Value.builtin "dict.get") _) _ _ _ | with_reducible show wpAny _ _ (getMethod (Value.ref _) (Str.ofString "get") _) _ _ _ | with_reducible show wpAny _ _ (setItem _ _ _) _ _ _ | with_reducible show wpAny _ _ (assign (PySem.Expr.Tuple _ _ _) _ _) _ _ _ | with_reducible show wpAny _ _ (call (Value.ref _) _) _ _ _)); first | (walk1; try dsimp only) | leave1)))
      refine get_cnt N5 (.tail _ (.head _)) hdo lo hf ?_
      intro tg
      try dsimp only
      (repeat' (first | (exfalso; (fail_if_success (fail_if_success omega)); (first | lia | omega)) | ((fail_if_success (first | with_reducible show wpAny _ _ (pyIter _) _ _ _ | with_reducible show wpAny _ _ (exec (Stmt.While _ _ _ _) _) _ _ _ | with_reducible show wpAny _ _ (exec (Stmt.For _ _ _ _ _) _) _ _ _ | with_reducible show wpAny _ _ (truthy (Value.ref _)) _ _ _ | with_reducible show wpAny _ _ (subscriptTail _ _ _ _) _ _ _ | with_reducible show wpAny _ _ (call (Value.builtin "list.pop") _) _ _ _ | with_reducible show wpAny _ _ (call (Value.builtin "len") _) _ _ _ | with_reducible show wpAny _ _ (call (Value.builtin "dict.get") _) _ _ _ | with_reducible show wpAny _ _ (getMethod (Value.ref _) (Str.ofString "get") _) _ _ _ | with_reducible show wpAny _ _ (setItem _ _ _) _ _ _ | with_reducible show wpAny _ _ (assign (PySem.Expr.Tuple _ _ _) _ _) _ _ _ | with_reducible show wpAny _ _ (call (Value.ref _) _) _ _ _)); first | (walk1; try dsimp only) | leave1)))
      have hkl : kvs.length ≤ sizeLine := by rw [sizeLine_eq]; (first | lia | omega)
      refine kda_set (knd := PySem.intKind PW w) (k := key) F5 N5 (.tail (Ne.symm hDW) (.head a2)) hdo (intKind_is _ _ _ _) hkl ?_
      intro h6 o6 F6 N6 hdo6
      clear F5 N5
      try dsimp only at N6
      try dsimp only
      (repeat' (first | (exfalso; (fail_if_success (fail_if_success omega)); (first | lia | omega)) | ((fail_if_success (first | with_reducible show wpAny _ _ (pyIter _) _ _ _ | with_reducible show wpAny _ _ (exec (Stmt.While _ _ _ _) _) _ _ _ | with_reducible show wpAny _ _ (exec (Stmt.For _ _ _ _ _) _) _ _ _ | with_reducible show wpAny _ _ (truthy (Value.ref _)) _ _ _ | with_reducible show wpAny _ _ (subscriptTail _ _ _ _) _ _ _ | with_reducible show wpAny _ _ (call (Value.builtin "list.pop") _) _ _ _ | with_reducible show wpAny _ _ (call (Value.builtin "len") _) _ _ _ | with_reducible show wpAny _ _ (call (Value.builtin "dict.get") _) _ _ _ | with_reducible show wpAny _ _ (getMethod (Value.ref _) (Str.ofString "get") _) _ _ _ | with_reducible show wpAny _ _ (setItem _ _ _) _ _ _ | with_reducible show wpAny _ _ (assign (PySem.Expr.Tuple _ _ _) _ _) _ _ _ | with_reducible show wpAny _ _ (call (Value.ref _) _) _ _ _)); first | (walk1; try dsimp only) | leave1)))
      rename Fr _ _ _ _ => F7
      rename News _ _ _ _ => N7
      refine ⟨msr its, ?_, ?_⟩
      · show msr its < wt ([], key, used) + msr its
        have := wt_pos ([], key, used)
        (first | lia | omega)
      refine ⟨_, _, _, o6, _, fun j => cnt j + if j = key then 1 else 0, ws, its, cw + 1, led, rfl, F7, rfl, rfl, rfl, rfl, N7, a1, a2, hdo6, found_stored hf key _, hr, (fun it hi => hok it (.tail _ hi)), ?_, ?_, rfl⟩
      · intro j
        have h1 := htot j
        rw [← h1]
        show _ = cnt j + ((leaves hd (5 - used) [] key used).count j + tot hd j its)
        rw [leaves_nil, List.count_singleton]
        by_cases e : j = key
        · subst e; simp; (first | lia | omega)
        · have e2 : (key == j) = false := by simpa using fun q : key = j => e q.symm
          simp [e, e2]
      · have h1 : kvs.length + (wt ([], key, used) + msr its) ≤ 1000 := hms
        have h2 := stored_len kvs key (.int ((cnt key + 1 : Nat) : Int) (tk5 + 1 + 1 + 1))
        have h3 := wt_pos ([], key, used)
        refine Nat.le_trans (Nat.add_le_add_right h2 _) ?_
        (first | lia | omega)
    | cons x r =>
      refine item_anyK (vs := vs) (ns := (x :: r) ++ [0]) (hlR _ N4) hIR (by decide) (by simp; (first | lia | omega)) (by decide) ?_ (by with_unfolding_all rfl)
      intro t1
      try dsimp only
      have e0 : List.getD ((x :: r) ++ ([0] : List Int)) (Int.toNat 0) 0 = x := rfl
      rw [e0]
      (repeat' (first | (exfalso; (fail_if_success (fail_if_success omega)); (first | lia | omega)) | ((fail_if_success (first | with_reducible show wpAny _ _ (pyIter _) _ _ _ | with_reducible show wpAny _ _ (exec (Stmt.While _ _ _ _) _) _ _ _ | with_reducible show wpAny _ _ (exec (Stmt.For _ _ _ _ _) _) _ _ _ | with_reducible show wpAny _ _ (truthy (Value.ref _)) _ _ _ | with_reducible show wpAny _ _ (subscriptTail _ _ _ _) _ _ _ | with_reducible show wpAny _ _ (call (Value.builtin "list.pop") _) _ _ _ | with_reducible show wpAny _ _ (call (Value.builtin "len") _) _ _ _ | with_reducible show wpAny _ _ (call (Value.builtin "dict.get") _) _ _ _ | with_reducible show wpAny _ _ (getMethod (Value.ref _) (Str.ofString "get") _) _ _ _ | with_reducible show wpAny _ _ (setItem _ _ _) _ _ _ | with_reducible show wpAny _ _ (assign (PySem.Expr.Tuple _ _ _) _ _) _ _ _ | with_reducible show wpAny _ _ (call (Value.ref _) _) _ _ _)); first | (walk1; try dsimp only) | leave1)))
      refine ctrV_use (iseof) B F4 X N4 T rfl (by (first | lia | omega)) (by (first | lia | omega)) ?_
      rintro _ h5 tk5 F5 N5 k5 rfl
      have hxz : (x == 0) = false := by
        have := hx0 x (.head _)
        simpa using this
      rw [hxz]
      clear F4 N4
      try dsimp only
      (repeat' (first | (exfalso; (fail_if_success (fail_if_success omega)); (first | lia | omega)) | ((fail_if_success (first | with_reducible show wpAny _ _ (pyIter _) _ _ _ | with_reducible show wpAny _ _ (exec (Stmt.While _ _ _ _) _) _ _ _ | with_reducible show wpAny _ _ (exec (Stmt.For _ _ _ _ _) _) _ _ _ | with_reducible show wpAny _ _ (truthy (Value.ref _)) _ _ _ | with_reducible show wpAny _ _ (subscriptTail _ _ _ _) _ _ _ | with_reducible show wpAny _ _ (call (Value.builtin "list.pop") _) _ _ _ | with_reducible show wpAny _ _ (call (Value.builtin "len") _) _ _ _ | with_reducible show wpAny _ _ (call (Value.builtin "dict.get") _) _ _ _ | with_reducible show wpAny _ _ (getMethod (Value.ref _) (Str.ofString "get") _) _ _ _ | with_reducible show wpAny _ _ (setItem _ _ _) _ _ _ | with_reducible show wpAny _ _ (assign (PySem.Expr.Tuple _ _ _) _ _) _ _ _ | with_reducible show wpAny _ _ (call (Value.ref _) _) _ _ _)); first | (walk1; try dsimp only) | leave1)))
      have hvl := hIR.length
      have hrl2 : r.length + 1 ≤ 20 := hrl
      rw [List.length_append, List.length_cons, List.length_singleton] at hvl
      refine call_len_list (items := vs.toArray) (hlR _ N5) (by rw [List.size_toArray]; (first | lia | omega)) ?_
      rw [List.size_toArray]
      try dsimp only
      by_cases hc : r.length + 1 + used ≤ 5
      · have hlen9 : its.length ≤ 999 := by
          have h1 : kvs.length + (wt (x :: r, key, used) + msr its) ≤ 1000 := hms
          have h2 := len_msr its
          have h3 := wt_pos (x :: r, key, used)
          (first | lia | omega)
        by_cases hx9 : x = 945
        · (repeat' (first | (exfalso; (fail_if_success (fail_if_success omega)); (first | lia | omega)) | ((fail_if_success (first | with_reducible show wpAny _ _ (pyIter _) _ _ _ | with_reducible show wpAny _ _ (exec (Stmt.While _ _ _ _) _) _ _ _ | with_reducible show wpAny _ _ (exec (Stmt.For _ _ _ _ _) _) _ _ _ | with_reducible show wpAny _ _ (truthy (Value.ref _)) _ _ _ | with_reducible show wpAny _ _ (subscriptTail _ _ _ _) _ _ _ | with_reducible show wpAny _ _ (call (Value.builtin "list.pop") _) _ _ _ | with_reducible show wpAny _ _ (call (Value.builtin "len") _) _ _ _ | with_reducible show wpAny _ _ (call (Value.builtin "dict.get") _) _ _ _ | with_reducible show wpAny _ _ (getMethod (Value.ref _) (Str.ofString "get") _) _ _ _ | with_reducible show wpAny _ _ (setItem _ _ _) _ _ _ | with_reducible show wpAny _ _ (assign (PySem.Expr.Tuple _ _ _) _ _) _ _ _ | with_reducible show wpAny _ _ (call (Value.ref _) _) _ _ _)); first | (walk1; try dsimp only) | leave1)))
          refine for_loop ?_
          (repeat' (first | (exfalso; (fail_if_success (fail_if_success omega)); (first | lia | omega)) | ((fail_if_success (first | with_reducible show wpAny _ _ (pyIter _) _ _ _ | with_reducible show wpAny _ _ (exec (Stmt.While _ _ _ _) _) _ _ _ | with_reducible show wpAny _ _ (exec (Stmt.For _ _ _ _ _) _) _ _ _ | with_reducible show wpAny _ _ (truthy (Value.ref _)) _ _ _ | with_reducible show wpAny _ _ (subscriptTail _ _ _ _) _ _ _ | with_reducible show wpAny _ _ (call (Value.builtin "list.pop") _) _ _ _ | with_reducible show wpAny _ _ (call (Value.builtin "len") _) _ _ _ | with_reducible show wpAny _ _ (call (Value.builtin "dict.get") _) _ _ _ | with_reducible show wpAny _ _ (getMethod (Value.ref _) (Str.ofString "get") _) _ _ _ | with_reducible show wpAny _ _ (setItem _ _ _) _ _ _ | with_reducible show wpAny _ _ (assign (PySem.Expr.Tuple _ _ _) _ _) _ _ _ | with_reducible show wpAny _ _ (call (Value.ref _) _) _ _ _)); first | (walk1; try dsimp only) | leave1)))
          refine item_anyK (vs := vs) (ns := (x :: r) ++ [0]) (hlR _ N5) hIR (by decide) (by simp; (first | lia | omega)) (by decide) ?_ (by with_unfolding_all rfl)
          intro t2
          try dsimp only
          rw [e0]
          
          (repeat' (first | (exfalso; (fail_if_success (fail_if_success omega)); (first | lia | omega)) | ((fail_if_success (first | with_reducible show wpAny _ _ (pyIter _) _ _ _ | with_reducible show wpAny _ _ (exec (Stmt.While _ _ _ _) _) _ _ _ | with_reducible show wpAny _ _ (exec (Stmt.For _ _ _ _ _) _) _ _ _ | with_reducible show wpAny _ _ (truthy (Value.ref _)) _ _ _ | with_reducible show wpAny _ _ (subscriptTail _ _ _ _) _ _ _ | with_reducible show wpAny _ _ (call (Value.builtin "list.pop") _) _ _ _ | with_reducible show wpAny _ _ (call (Value.builtin "len") _) _ _ _ | with_reducible show wpAny _ _ (call (Value.builtin "dict.get") _) _ _ _ | with_reducible show wpAny _ _ (getMethod (Value.ref _) (Str.ofString "get") _) _ _ _ | with_reducible show wpAny _ _ (setItem _ _ _) _ _ _ | with_reducible show wpAny _ _ (assign (PySem.Expr.Tuple _ _ _) _ _) _ _ _ | with_reducible show wpAny _ _ (call (Value.ref _) _) _ _ _)); first | (walk1; try dsimp only) | leave1)))
          rename Fr _ _ _ _ => F6
          rename News _ _ _ _ => N6
          rename_i Tt hz lz
          refine tup_iter (l := Tt) F6 N6 (.head _) ?_
          intro It h7 io F7 N7 lI hio
          have hIW : Wl ≠ It := Nat.ne_of_lt (lI _ (.tail _ (.head _)))
          have hID : Dd ≠ It := Nat.ne_of_lt (lI _ (.tail _ (.tail _ (.head _))))
          have hTI : Tt ≠ It := Nat.ne_of_lt (lI _ (.head _))
          have lz2 : ∀ p ∈ led, p.1 ≠ Tt := fun p hp => Nat.ne_of_lt (allLt_mem _ lz.2.2 p hp)
          obtain ⟨ta, tb, N8⟩ : ∃ ta tb, News g L h7 ((It, io) :: (Tt, tupOf #[.int ((0 : Nat) : Int) ta, .int ((1 : Nat) : Int) tb]) :: (Wl, PySem.W.listOf ws.reverse.toArray (cw + 1)) :: (Dd, o) :: led) := ⟨_, _, N7⟩
          refine wlx_for (o := o) (s₀ := s₀) (ρ0 := 0) (ρ1 := 1) (ta := ta) (tb := tb) (Tt := Tt) (R := R) (key := key) (used := used) (tk1 := tk1) (tk2 := tk2) (vs := vs) (c := c) (its := its) (x := x) (r := r) hl hH hDW hIW hID (by decide) (by decide) (by (first | lia | omega)) hIR hlen9 B X T hdp hu _ ⟨h7, _, _, io, ws, cw + 1, (Tt, tupOf #[.int ((0 : Nat) : Int) ta, .int ((1 : Nat) : Int) tb]) :: led, rfl, F7, rfl, rfl, rfl, rfl, rfl, rfl, rfl, news_sub N8 ?_, hio, .head _, .tail _ mR, ?_, ?_, ?_, hr.mono fun p hp => .tail _ hp⟩ ?_
          · intro p hp
            rcases List.mem_cons.mp hp with e | hp
            · rw [e]; exact .head _
            rcases List.mem_cons.mp hp with e | hp
            · rw [e]; exact .tail _ (.tail _ (.head _))
            rcases List.mem_cons.mp hp with e | hp
            · rw [e]; exact .tail _ (.tail _ (.tail _ (.head _)))
            rcases List.mem_cons.mp hp with e | hp
            · rw [e]; exact .tail _ (.head _)
            · exact .tail _ (.tail _ (.tail _ (.tail _ hp)))
          · intro p hp
            rcases List.mem_cons.mp hp with e | hp
            · rw [e]; exact Nat.ne_of_gt lz.1
            · exact a1 p hp
          · intro p hp
            rcases List.mem_cons.mp hp with e | hp
            · rw [e]; exact Nat.ne_of_gt lz.2.1
            · exact a2 p hp
          · intro p hp
            rcases List.mem_cons.mp hp with e | hp
            · rw [e]; exact hTI
            · exact Nat.ne_of_lt (lI p (.tail _ (.tail _ (.tail _ hp))))
          · intro h9 tk9 m9 ws9 cw9 led9 F9 q1 q2 q3 q4 N9 b1 b2 hit9
            try dsimp only
            (repeat' (first | (exfalso; (fail_if_success (fail_if_success omega)); (first | lia | omega)) | ((fail_if_success (first | with_reducible show wpAny _ _ (pyIter _) _ _ _ | with_reducible show wpAny _ _ (exec (Stmt.While _ _ _ _) _) _ _ _ | with_reducible show wpAny _ _ (exec (Stmt.For _ _ _ _ _) _) _ _ _ | with_reducible show wpAny _ _ (truthy (Value.ref _)) _ _ _ | with_reducible show wpAny _ _ (subscriptTail _ _ _ _) _ _ _ | with_reducible show wpAny _ _ (call (Value.builtin "list.pop") _) _ _ _ | with_reducible show wpAny _ _ (call (Value.builtin "len") _) _ _ _ | with_reducible show wpAny _ _ (call (Value.builtin "dict.get") _) _ _ _ | with_reducible show wpAny _ _ (getMethod (Value.ref _) (Str.ofString "get") _) _ _ _ | with_reducible show wpAny _ _ (setItem _ _ _) _ _ _ | with_reducible show wpAny _ _ (assign (PySem.Expr.Tuple _ _ _) _ _) _ _ _ | with_reducible show wpAny _ _ (call (Value.ref _) _) _ _ _)); first | (walk1; try dsimp only) | leave1)))
            refine wlk_end hh hl hdo hf hok htot hms hc rfl ?_ F9 q1 q2 q3 q4 N9 b1 b2 hit9 _
            intro f j hf5
            rw [hf5]
            show (if r.length + 1 + used ≤ 5 then (if x == 945 then leaves hd f (hd 0 ++ r) (key + 1) (used + 1) ++ leaves hd f (hd 1 ++ r) (key + 8) (used + 1) else leaves hd f (hd 2 ++ r) (key + 64) (used + 1) ++ leaves hd f (hd 3 ++ r) (key + 512) (used + 1)) else []).count j = _
            rw [if_pos hc, if_pos (by simp [hx9]), List.count_append, Nat.add_comm]
            rfl
        · (repeat' (first | (exfalso; (fail_if_success (fail_if_success omega)); (first | lia | omega)) | ((fail_if_success (first | with_reducible show wpAny _ _ (pyIter _) _ _ _ | with_reducible show wpAny _ _ (exec (Stmt.While _ _ _ _) _) _ _ _ | with_reducible show wpAny _ _ (exec (Stmt.For _ _ _ _ _) _) _ _ _ | with_reducible show wpAny _ _ (truthy (Value.ref _)) _ _ _ | with_reducible show wpAny _ _ (subscriptTail _ _ _ _) _ _ _ | with_reducible show wpAny _ _ (call (Value.builtin "list.pop") _) _ _ _ | with_reducible show wpAny _ _ (call (Value.builtin "len") _) _ _ _ | with_reducible show wpAny _ _ (call (Value.builtin "dict.get") _) _ _ _ | with_reducible show wpAny _ _ (getMethod (Value.ref _) (Str.ofString "get") _) _ _ _ | with_reducible show wpAny _ _ (setItem _ _ _) _ _ _ | with_reducible show wpAny _ _ (assign (PySem.Expr.Tuple _ _ _) _ _) _ _ _ | with_reducible show wpAny _ _ (call (Value.ref _) _) _ _ _)); first | (walk1; try dsimp only) | leave1)))
          refine for_loop ?_
          (repeat' (first | (exfalso; (fail_if_success (fail_if_success omega)); (first | lia | omega)) | ((fail_if_success (first | with_reducible show wpAny _ _ (pyIter _) _ _ _ | with_reducible show wpAny _ _ (exec (Stmt.While _ _ _ _) _) _ _ _ | with_reducible show wpAny _ _ (exec (Stmt.For _ _ _ _ _) _) _ _ _ | with_reducible show wpAny _ _ (truthy (Value.ref _)) _ _ _ | with_reducible show wpAny _ _ (subscriptTail _ _ _ _) _ _ _ | with_reducible show wpAny _ _ (call (Value.builtin "list.pop") _) _ _ _ | with_reducible show wpAny _ _ (call (Value.builtin "len") _) _ _ _ | with_reducible show wpAny _ _ (call (Value.builtin "dict.get") _) _ _ _ | with_reducible show wpAny _ _ (getMethod (Value.ref _) (Str.ofString "get") _) _ _ _ | with_reducible show wpAny _ _ (setItem _ _ _) _ _ _ | with_reducible show wpAny _ _ (assign (PySem.Expr.Tuple _ _ _) _ _) _ _ _ | with_reducible show wpAny _ _ (call (Value.ref _) _) _ _ _)); first | (walk1; try dsimp only) | leave1)))
          refine item_anyK (vs := vs) (ns := (x :: r) ++ [0]) (hlR _ N5) hIR (by decide) (by simp; (first | lia | omega)) (by decide) ?_ (by with_unfolding_all rfl)
          intro t2
          try dsimp only
          rw [e0]
          
          (repeat' (first | (exfalso; (fail_if_success (fail_if_success omega)); (first | lia | omega)) | ((fail_if_success (first | with_reducible show wpAny _ _ (pyIter _) _ _ _ | with_reducible show wpAny _ _ (exec (Stmt.While _ _ _ _) _) _ _ _ | with_reducible show wpAny _ _ (exec (Stmt.For _ _ _ _ _) _) _ _ _ | with_reducible show wpAny _ _ (truthy (Value.ref _)) _ _ _ | with_reducible show wpAny _ _ (subscriptTail _ _ _ _) _ _ _ | with_reducible show wpAny _ _ (call (Value.builtin "list.pop") _) _ _ _ | with_reducible show wpAny _ _ (call (Value.builtin "len") _) _ _ _ | with_reducible show wpAny _ _ (call (Value.builtin "dict.get") _) _ _ _ | with_reducible show wpAny _ _ (getMethod (Value.ref _) (Str.ofString "get") _) _ _ _ | with_reducible show wpAny _ _ (setItem _ _ _) _ _ _ | with_reducible show wpAny _ _ (assign (PySem.Expr.Tuple _ _ _) _ _) _ _ _ | with_reducible show wpAny _ _ (call (Value.ref _) _) _ _ _)); first | (walk1; try dsimp only) | leave1)))
          rename Fr _ _ _ _ => F6
          rename News _ _ _ _ => N6
          rename_i Tt hz lz
          refine tup_iter (l := Tt) F6 N6 (.head _) ?_
          intro It h7 io F7 N7 lI hio
          have hIW : Wl ≠ It := Nat.ne_of_lt (lI _ (.tail _ (.head _)))
          have hID : Dd ≠ It := Nat.ne_of_lt (lI _ (.tail _ (.tail _ (.head _))))
          have hTI : Tt ≠ It := Nat.ne_of_lt (lI _ (.head _))
          have lz2 : ∀ p ∈ led, p.1 ≠ Tt := fun p hp => Nat.ne_of_lt (allLt_mem _ lz.2.2 p hp)
          obtain ⟨ta, tb, N8⟩ : ∃ ta tb, News g L h7 ((It, io) :: (Tt, tupOf #[.int ((2 : Nat) : Int) ta, .int ((3 : Nat) : Int) tb]) :: (Wl, PySem.W.listOf ws.reverse.toArray (cw + 1)) :: (Dd, o) :: led) := ⟨_, _, N7⟩
          refine wlx_for (o := o) (s₀ := s₀) (ρ0 := 2) (ρ1 := 3) (ta := ta) (tb := tb) (Tt := Tt) (R := R) (key := key) (used := used) (tk1 := tk1) (tk2 := tk2) (vs := vs) (c := c) (its := its) (x := x) (r := r) hl hH hDW hIW hID (by decide) (by decide) (by (first | lia | omega)) hIR hlen9 B X T hdp hu _ ⟨h7, _, _, io, ws, cw + 1, (Tt, tupOf #[.int ((2 : Nat) : Int) ta, .int ((3 : Nat) : Int) tb]) :: led, rfl, F7, rfl, rfl, rfl, rfl, rfl, rfl, rfl, news_sub N8 ?_, hio, .head _, .tail _ mR, ?_, ?_, ?_, hr.mono fun p hp => .tail _ hp⟩ ?_
          · intro p hp
            rcases List.mem_cons.mp hp with e | hp
            · rw [e]; exact .head _
            rcases List.mem_cons.mp hp with e | hp
            · rw [e]; exact .tail _ (.tail _ (.head _))
            rcases List.mem_cons.mp hp with e | hp
            · rw [e]; exact .tail _ (.tail _ (.tail _ (.head _)))
            rcases List.mem_cons.mp hp with e | hp
            · rw [e]; exact .tail _ (.head _)
            · exact .tail _ (.tail _ (.tail _ (.tail _ hp)))
          · intro p hp
            rcases List.mem_cons.mp hp with e | hp
            · rw [e]; exact Nat.ne_of_gt lz.1
            · exact a1 p hp
          · intro p hp
            rcases List.mem_cons.mp hp with e | hp
            · rw [e]; exact Nat.ne_of_gt lz.2.1
            · exact a2 p hp
          · intro p hp
            rcases List.mem_cons.mp hp with e | hp
            · rw [e]; exact hTI
            · exact Nat.ne_of_lt (lI p (.tail _ (.tail _ (.tail _ hp))))
          · intro h9 tk9 m9 ws9 cw9 led9 F9 q1 q2 q3 q4 N9 b1 b2 hit9
            try dsimp only
            (repeat' (first | (exfalso; (fail_if_success (fail_if_success omega)); (first | lia | omega)) | ((fail_if_success (first | with_reducible show wpAny _ _ (pyIter _) _ _ _ | with_reducible show wpAny _ _ (exec (Stmt.While _ _ _ _) _) _ _ _ | with_reducible show wpAny _ _ (exec (Stmt.For _ _ _ _ _) _) _ _ _ | with_reducible show wpAny _ _ (truthy (Value.ref _)) _ _ _ | with_reducible show wpAny _ _ (subscriptTail _ _ _ _) _ _ _ | with_reducible show wpAny _ _ (call (Value.builtin "list.pop") _) _ _ _ | with_reducible show wpAny _ _ (call (Value.builtin "len") _) _ _ _ | with_reducible show wpAny _ _ (call (Value.builtin "dict.get") _) _ _ _ | with_reducible show wpAny _ _ (getMethod (Value.ref _) (Str.ofString "get") _) _ _ _ | with_reducible show wpAny _ _ (setItem _ _ _) _ _ _ | with_reducible show wpAny _ _ (assign (PySem.Expr.Tuple _ _ _) _ _) _ _ _ | with_reducible show wpAny _ _ (call (Value.ref _) _) _ _ _)); first | (walk1; try dsimp only) | leave1)))
            refine wlk_end hh hl hdo hf hok htot hms hc rfl ?_ F9 q1 q2 q3 q4 N9 b1 b2 hit9 _
            intro f j hf5
            rw [hf5]
            show (if r.length + 1 + used ≤ 5 then (if x == 945 then leaves hd f (hd 0 ++ r) (key + 1) (used + 1) ++ leaves hd f (hd 1 ++ r) (key + 8) (used + 1) else leaves hd f (hd 2 ++ r) (key + 64) (used + 1) ++ leaves hd f (hd 3 ++ r) (key + 512) (used + 1)) else []).count j = _
            rw [if_pos hc, if_neg (by simp [hx9]), List.count_append, Nat.add_comm]
            rfl
      · (repeat' (first | (exfalso; (fail_if_success (fail_if_success omega)); (first | lia | omega)) | ((fail_if_success (first | with_reducible show wpAny _ _ (pyIter _) _ _ _ | with_reducible show wpAny _ _ (exec (Stmt.While _ _ _ _) _) _ _ _ | with_reducible show wpAny _ _ (exec (Stmt.For _ _ _ _ _) _) _ _ _ | with_reducible show wpAny _ _ (truthy (Value.ref _)) _ _ _ | with_reducible show wpAny _ _ (subscriptTail _ _ _ _) _ _ _ | with_reducible show wpAny _ _ (call (Value.builtin "list.pop") _) _ _ _ | with_reducible show wpAny _ _ (call (Value.builtin "len") _) _ _ _ | with_reducible show wpAny _ _ (call (Value.builtin "dict.get") _) _ _ _ | with_reducible show wpAny _ _ (getMethod (Value.ref _) (Str.ofString "get") _) _ _ _ | with_reducible show wpAny _ _ (setItem _ _ _) _ _ _ | with_reducible show wpAny _ _ (assign (PySem.Expr.Tuple _ _ _) _ _) _ _ _ | with_reducible show wpAny _ _ (call (Value.ref _) _) _ _ _)); first | (walk1; try dsimp only) | leave1)))
        rename Fr _ _ _ _ => F7
        rename News _ _ _ _ => N7
        refine ⟨msr its, ?_, ?_⟩
        · show msr its < wt (x :: r, key, used) + msr its
          have := wt_pos (x :: r, key, used)
          (first | lia | omega)
        refine ⟨_, _, _, o, kvs, cnt, ws, its, cw + 1, led, rfl, F7, rfl, rfl, rfl, rfl, N7, a1, a2, hdo, hf, hr, (fun it hi => hok it (.tail _ hi)), ?_, ?_, rfl⟩
        · intro j
          have h1 := htot j
          have h2 : leaves hd (5 - used) (x :: r) key used = [] := by
            cases 5 - used with
            | zero => rfl
            | succ f => show (if r.length + 1 + used ≤ 5 then _ else []) = _; rw [if_neg hc]
          show cnt j + tot hd j its = _
          rw [← h1]
          show _ = cnt j + ((leaves hd (5 - used) (x :: r) key used).count j + tot hd j its)
          rw [h2]
          simp
        · have h1 : kvs.length + (wt (x :: r, key, used) + msr its) ≤ 1000 := hms
          (first | lia | omega)
end
end Mine
end
-- WLM
section
open PySem PySem.W PyProof.Rows PySem.Calls
set_option Elab.async false
set_option maxRecDepth 100000
set_option linter.all false
set_option maxHeartbeats 0
namespace Mine
theorem walked {w : World} {mean mg mb} {Hl : Addr} {hd : Nat → List Int} {t : Tok} (hh : ∀ i x, x ∈ hd i → x ≠ 0) (hl : ∀ i, (hd i).length ≤ 10) :
    CtrF w mean mg mb 182 [.ref Hl, .int 5 t] (10+1) (100+3) (fun g => HeadsAt g Hl hd) (fun _ r own => WalkedPost w hd r own) := by
  refine enterF (binds := [(Str.ofString "heads", .ref Hl), (Str.ofString "most", .int 5 t)]) (by rfl) (by rfl) (fun s _ => BindsTo.of_eq rfl) (locs rfl) ?_ rfl rfl rfl (by decide)
  intro dp un gd outer A₀ base g L s B X T hdp hu hH F
  have N : News g L s.heap [] := .nil
  change Fr g L s.heap (lk [(Str.ofString "most", .int 5 t), (Str.ofString "heads", .ref Hl)]) at F
  (repeat' (first | (exfalso; (fail_if_success (fail_if_success omega)); (first | lia | omega)) | ((fail_if_success (with_reducible show wpAny _ _ (exec (Stmt.While _ _ _ _) _) _ _ _)); first | (walk1; try dsimp only) | leave1)))
  rename Fr _ _ _ _ => F1
  rename News _ _ _ _ => N1
  rename Obj.IsDictOf (intKind _ _) _ _ => hdo
  rename _ = false => lo
  rename_i Dd hz5 oo hz6 hz7 hz8 hz9 hz10 hz11 Rw hz1 lz1 Tp hz2 lz2 Wl hz3 lz3 hz4
  have hDW : Dd ≠ Wl := Nat.ne_of_lt lz3.2.2
  obtain ⟨ta, tb, tc, td, N2⟩ : ∃ ta tb tc td, News g L hz4 [(Wl, PySem.W.listOf ([Value.ref Tp] : List Value).reverse.toArray 0), (Tp, tupO Rw 0 ta ((0 : Nat) : Int) tb), (Rw, PySem.W.listOf ([Value.int 945 tc, .int 0 td] : List Value).toArray 0), (Dd, oo)] := ⟨_, _, _, _, N1⟩
  have hI : WInv w s g L hd t Hl Dd Wl (msr [([945], 0, 0)]) { s with heap := hz4, toks := tk } := by
    refine ⟨hz4, tk, _, oo, [], fun _ => 0, [.ref Tp], [([945], 0, 0)], 0, [(Tp, tupO Rw 0 ta ((0 : Nat) : Int) tb), (Rw, PySem.W.listOf ([Value.int 945 tc, .int 0 td] : List Value).toArray 0)], rfl, F1, rfl, rfl, rfl, rfl, news_sub N2 ?_, ?_, ?_, hdo, ?_, .cons ⟨Tp, Rw, [.int 945 tc, .int 0 td], 0, ta, tb, rfl, .head _, .tail _ (.head _), .cons _ _ (.cons _ _ .nil)⟩ .nil, ?_, ?_, by decide, rfl⟩
    · intro p hp
      rcases List.mem_cons.mp hp with e | hp
      · rw [e]; exact .head _
      rcases List.mem_cons.mp hp with e | hp
      · rw [e]; exact .tail _ (.tail _ (.tail _ (.head _)))
      rcases List.mem_cons.mp hp with e | hp
      · rw [e]; exact .tail _ (.head _)
      · rw [List.mem_singleton.mp hp]; exact .tail _ (.tail _ (.head _))
    · intro p hp
      rcases List.mem_cons.mp hp with e | hp
      · rw [e]; exact Nat.ne_of_lt lz3.1
      · rw [List.mem_singleton.mp hp]; exact Nat.ne_of_lt lz3.2.1
    · intro p hp
      rcases List.mem_cons.mp hp with e | hp
      · rw [e]; exact Nat.ne_of_gt lz2.2
      · rw [List.mem_singleton.mp hp]; exact Nat.ne_of_gt lz1
    · intro k
      exact ⟨fun _ => rfl, fun h => absurd rfl h⟩
    · intro it hi
      rw [List.mem_singleton.mp hi]
      refine ⟨by decide, by decide, ?_⟩
      intro x hx
      rw [List.mem_singleton.mp hx]
      decide
    · intro j
      show 0 + ((leaves hd 5 [945] 0 0).count j + 0) = (leaves hd 5 [945] 0 0).count j
      (first | lia | omega)
  refine wpAny_mono (whl_start 1 (whl_ind (WInv w s g L hd t Hl Dd Wl) .never (fun n s' h => wlk_turn hh hl hH lo hDW B X T hdp hu n s' h) _ _ hI)) ?_ (fun _ _ e => e.elim)
  rintro _ s' ⟨rfl, h, tk2, m, o, kvs, cnt, ws, its, cw, led, rfl, F, m1, m2, m3, m4, N, a1, a2, hdo2, hf, hit, hok, htot, hms, hk⟩
  have hits : its = [] := by
    cases its with
    | nil => rfl
    | cons it r =>
      have := wt_pos it
      have h0 : 0 = wt it + msr r := hk
      (first | lia | omega)
  subst hits
  have F3 := fr_ifs [(Str.ofString "found", .ref Dd)] F (by
    intro p hp
    rw [List.mem_singleton.mp hp]
    exact m3)
  dsimp only [ifs] at F3
  clear F F1 N1
  dsimp only
  (repeat' (first | (exfalso; (fail_if_success (fail_if_success omega)); (first | lia | omega)) | ((fail_if_success (with_reducible show wpAny _ _ (exec (Stmt.While _ _ _ _) _) _ _ _)); first | (walk1; try dsimp only) | leave1)))
  rename Fr _ _ _ _ => F4
  rename News _ _ _ _ => N4
  exact ⟨_, _, _, [(Dd, o)], rfl, F4, news_sub N4 (fun p hp => by rw [List.mem_singleton.mp hp]; exact .tail _ (.head _)), Dd, o, kvs, cnt, rfl, rfl, lo, hdo2, hf, fun j => by have := htot j; simpa [tot] using this⟩
end Mine
end
-- LW1
section
open PySem PySem.W PyProof.Rows PySem.Calls
set_option Elab.async false
set_option maxRecDepth 100000
set_option linter.all false
set_option maxHeartbeats 0
namespace Mine
noncomputable abbrev laA (dp un : Nat) (gd : Option (List Code)) (L fa : Addr) (cd : Value) (outer : List Env) : Around := ktrTop dp un gd (Str.ofString "law") (fdScope (stm 31)) L fa cd [] outer
noncomputable abbrev laE (L fa : Addr) (cd : Value) : Env := envX (Str.ofString "law") (fdScope (stm 31)) L fa cd []
noncomputable abbrev laS (i : Nat) : Stmt := nthS (fdBody (stm 31)) i
section
variable {w : World} {mean : ExcName → Option Value} {mg mb : Str → Option Value} {dp un : Nat} {gd : Option (List Code)} {outer : List Env} {A₀ : Around} {base g : Heap} {L fa : Addr} {cd : Value} {s₀ : Shared}
theorem range_le8 : ∀ N : Nat, N ≤ 8 → Builtin.Range.small 0 (N : Int) 1 = true ∧ Builtin.Range.rangeSize 0 (N : Int) 1 = (N : Int) := by decide
/-- in the cells' loop -/
noncomputable def CInv (s₀ : Shared) (g : Heap) (L S Cl It : Addr) (tl : List (Addr × Obj)) (N : Nat) (k : Nat) (s' : Shared) : Prop :=
  ∃ (h : Heap) (tk : Nat) (m : Str → Option Value) (vs : List Value) (is : List Int) (c : Nat), s' = { s₀ with heap := h, toks := tk } ∧ k ≤ N ∧ Fr g L h m ∧ m (Str.ofString "script") = some (.ref S) ∧ m (Str.ofString "cells") = some (.ref Cl) ∧
    News g L h ((It, riObj ((N - k : Nat) : Int) (k : Int)) :: (Cl, PySem.W.listOf vs.toArray c) :: tl) ∧ IntsAre vs is ∧ is.length = 4
theorem law_cells {S Cl : Addr} {tl : List (Addr × Obj)} {svs : List Value} {ns : List Int} {m : Str → Option Value} {s : Shared} {vs : List Value} {is : List Int} {c : Nat}
    (B : Below A₀ base outer g) (X : (K w.params).In g) (T : Top topProg lw mean mg mb g) (hS : g.IsList S svs.toArray) (hI : IntsAre svs ns) (h63 : ns.length ≤ 63) (hC : ∀ p ∈ tl, p.1 ≠ Cl)
    (F : Fr g L s.heap m) (m1 : m (Str.ofString "script") = some (.ref S)) (m2 : m (Str.ofString "cells") = some (.ref Cl)) (N : News g L s.heap ((Cl, PySem.W.listOf vs.toArray c) :: tl)) (hIc : IntsAre vs is) (h4 : is.length = 4) :
    wpAny (model PW w) (laA dp un gd L fa cd outer) (exec (laS 1) (laE L fa cd)) (fun f s' => f = .next ∧ ∃ (h : Heap) (tk : Nat) (m : Str → Option Value) (vs : List Value) (is : List Int) (c : Nat), s' = { s with heap := h, toks := tk } ∧ Fr g L h m ∧ m (Str.ofString "cells") = some (.ref Cl) ∧ News g L h ((Cl, PySem.W.listOf vs.toArray c) :: tl) ∧ IntsAre vs is ∧ is.length = 4) (fun _ _ => False) s := by
  have F1 := fr_ifs [(Str.ofString "script", .ref S), (Str.ofString "cells", .ref Cl)] F (by
    intro p hp
    simp only [List.mem_cons, List.not_mem_nil, or_false] at hp
    rcases hp with rfl | rfl
    · exact m1
    · exact m2)
  dsimp only [ifs] at F1
  clear F m1 m2
  refine for_loop ?_
  (repeat' (first | (exfalso; (fail_if_success (fail_if_success omega)); (first | lia | omega)) | ((fail_if_success (first | with_reducible show wpAny _ _ (pyIter _) _ _ _ | with_reducible show wpAny _ _ (call (Value.builtin "len") _) _ _ _ | with_reducible show wpAny _ _ (subscriptTail _ _ _ _) _ _ _ | with_reducible show wpAny _ _ (getItem _ _) _ _ _ | with_reducible show wpAny _ _ (setItem _ _ _) _ _ _ | with_reducible show wpAny _ _ (call (Value.ref _) _) _ _ _)); first | (walk1; try dsimp only) | leave1)))
  obtain ⟨oS, hoS, hcS, nS, hdS⟩ := hS
  have hlen := hI.length
  refine call_len_list (items := svs.toArray) ⟨oS, F1.keep _ _ hoS, hcS, nS, hdS⟩ (by rw [List.size_toArray]; (first | lia | omega)) ?_
  rw [List.size_toArray, hlen]
  try dsimp only
  (repeat' (first | (exfalso; (fail_if_success (fail_if_success omega)); (first | lia | omega)) | ((fail_if_success (first | with_reducible show wpAny _ _ (pyIter _) _ _ _ | with_reducible show wpAny _ _ (call (Value.builtin "len") _) _ _ _ | with_reducible show wpAny _ _ (subscriptTail _ _ _ _) _ _ _ | with_reducible show wpAny _ _ (getItem _ _) _ _ _ | with_reducible show wpAny _ _ (setItem _ _ _) _ _ _ | with_reducible show wpAny _ _ (call (Value.ref _) _) _ _ _)); first | (walk1; try dsimp only) | leave1)))
  rename Fr _ _ _ _ => F2
  rename News _ _ _ _ => N2
  rename IsRange _ _ _ _ _ _ _ _ => hr
  obtain ⟨M, hM8, hMn, hMe⟩ : ∃ M : Nat, M ≤ 8 ∧ M ≤ ns.length ∧ (if (ns.length : Int) < 8 then (ns.length : Int) else 8) = (M : Int) := by
    by_cases h : (ns.length : Int) < 8
    · exact ⟨ns.length, by (first | lia | omega), Nat.le_refl _, by rw [if_pos h]⟩
    · exact ⟨8, Nat.le_refl _, by (first | lia | omega), by rw [if_neg h]; rfl⟩
  rw [hMe] at hr
  obtain ⟨hsm, hsz⟩ := range_le8 M hM8
  refine range_iter hr F2 N2 hsm hsz ?_
  intro It h3 F3 N3 l3
  have lIC : Cl ≠ It := Nat.ne_of_lt (l3 _ (.head _))
  have lIt : ∀ p ∈ tl, p.1 ≠ It := fun p hp => Nat.ne_of_lt (l3 p (.tail _ hp))
  refine ⟨CInv s g L S Cl It tl M, M, ⟨h3, _, _, vs, is, c, rfl, Nat.le_refl _, F3, rfl, rfl, ?_, hIc, h4⟩, fun v => rfl, ?_⟩
  · rw [Nat.sub_self]; exact N3
  clear F2 N2 F3 N3 F1 hr
  rintro k _ ⟨h, tk, m2, vs2, is2, c2, rfl, hkM, F, q1, q2, N4, hI2, h42⟩
  have F4 := fr_ifs [(Str.ofString "script", .ref S), (Str.ofString "cells", .ref Cl)] F (by
    intro p hp
    simp only [List.mem_cons, List.not_mem_nil, or_false] at hp
    rcases hp with rfl | rfl
    · exact q1
    · exact q2)
  dsimp only [ifs] at F4
  clear F q1 q2
  have hrest : ∀ p ∈ (Cl, PySem.W.listOf vs2.toArray c2) :: tl, p.1 ≠ It := by
    intro p hp
    rcases List.mem_cons.mp hp with rfl | hp
    · exact lIC
    · exact lIt p hp
  cases k with
  | zero =>
    refine range_done rfl F4 N4 hrest (by decide) ?_
    intro h5 F5 N5
    exact ⟨rfl, h5, _, _, vs2, is2, c2, rfl, F5, rfl, N5, hI2, h42⟩
  | succ k =>
    refine range_next F4 N4 (.head hrest) (by (first | lia | omega)) ?_
    intro h5 F5 N5
    dsimp only [ForNext]
    clear F4 N4
    (repeat' (first | (exfalso; (fail_if_success (fail_if_success omega)); (first | lia | omega)) | ((fail_if_success (first | with_reducible show wpAny _ _ (pyIter _) _ _ _ | with_reducible show wpAny _ _ (call (Value.builtin "len") _) _ _ _ | with_reducible show wpAny _ _ (subscriptTail _ _ _ _) _ _ _ | with_reducible show wpAny _ _ (getItem _ _) _ _ _ | with_reducible show wpAny _ _ (setItem _ _ _) _ _ _ | with_reducible show wpAny _ _ (call (Value.ref _) _) _ _ _)); first | (walk1; try dsimp only) | leave1)))
    rename Fr _ _ _ _ => F6
    rename News _ _ _ _ => N6
    have hlv := hI2.length
    generalize hp : M - (k + 1) = p at *
    have ep : ((p : Nat) : Int).fmod 4 = ((p % 4 : Nat) : Int) := by
      rw [Int.fmod_eq_emod_of_nonneg _ (by decide)]
      rfl
    rw [ep]
    have hp4 : p % 4 < 4 := Nat.mod_lt _ (by decide)
    refine getItem_intsK (vs := vs2) (ns := is2) ⟨_, (N6 _ (.tail _ (.head _))).1, rfl, c2, rfl⟩ hI2 (Int.natCast_nonneg _) (by (first | lia | omega)) (by (first | lia | omega)) ?_
    intro t1
    try dsimp only
    (repeat' (first | (exfalso; (fail_if_success (fail_if_success omega)); (first | lia | omega)) | ((fail_if_success (first | with_reducible show wpAny _ _ (pyIter _) _ _ _ | with_reducible show wpAny _ _ (call (Value.builtin "len") _) _ _ _ | with_reducible show wpAny _ _ (subscriptTail _ _ _ _) _ _ _ | with_reducible show wpAny _ _ (getItem _ _) _ _ _ | with_reducible show wpAny _ _ (setItem _ _ _) _ _ _ | with_reducible show wpAny _ _ (call (Value.ref _) _) _ _ _)); first | (walk1; try dsimp only) | leave1)))
    refine item_anyK (vs := svs) (ns := ns) ⟨oS, F6.keep _ _ hoS, hcS, nS, hdS⟩ hI (Int.natCast_nonneg _) (by (first | lia | omega)) (by (first | lia | omega)) ?_ (by with_unfolding_all rfl)
    intro t2
    try dsimp only
    (repeat' (first | (exfalso; (fail_if_success (fail_if_success omega)); (first | lia | omega)) | ((fail_if_success (first | with_reducible show wpAny _ _ (pyIter _) _ _ _ | with_reducible show wpAny _ _ (call (Value.builtin "len") _) _ _ _ | with_reducible show wpAny _ _ (subscriptTail _ _ _ _) _ _ _ | with_reducible show wpAny _ _ (getItem _ _) _ _ _ | with_reducible show wpAny _ _ (setItem _ _ _) _ _ _ | with_reducible show wpAny _ _ (call (Value.ref _) _) _ _ _)); first | (walk1; try dsimp only) | leave1)))
    refine ksa_set (vs := vs2) (ns := is2) (n := c2) F6 N6 (.tail (Ne.symm lIC) (.head hC)) hI2 (Int.natCast_nonneg _) (by (first | lia | omega)) (by (first | lia | omega)) ?_
    intro h7 F7 N7 hI7 hl7 _
    clear F6 N6
    try dsimp only
    (repeat' (first | (exfalso; (fail_if_success (fail_if_success omega)); (first | lia | omega)) | ((fail_if_success (first | with_reducible show wpAny _ _ (pyIter _) _ _ _ | with_reducible show wpAny _ _ (call (Value.builtin "len") _) _ _ _ | with_reducible show wpAny _ _ (subscriptTail _ _ _ _) _ _ _ | with_reducible show wpAny _ _ (getItem _ _) _ _ _ | with_reducible show wpAny _ _ (setItem _ _ _) _ _ _ | with_reducible show wpAny _ _ (call (Value.ref _) _) _ _ _)); first | (walk1; try dsimp only) | leave1)))
    rename Fr _ _ _ _ => F8
    rename News _ _ _ _ => N8
    refine ⟨k, Nat.lt_succ_self k, _, _, _, _, _, c2, rfl, by (first | lia | omega), F8, rfl, rfl, ?_, hI7, by rw [hl7]; exact h42⟩
    have e1 : ((M - k : Nat) : Int) = ((p : Nat) : Int) + 1 := by (first | lia | omega)
    have e2 : ((k + 1 : Nat) : Int) - 1 = (k : Int) := by (first | lia | omega)
    rw [e1, ← e2]
    exact N8
end
end Mine
end
-- PCS
section
open PySem PySem.W PyProof.Rows PySem.Calls
set_option Elab.async false
set_option maxRecDepth 100000
set_option linter.all false
set_option maxHeartbeats 0
namespace Mine
/-- the typed pieces, by number: the sign, what it is prepared to -/
noncomputable def sgP : Nat → Nat
  | 0 => 88 | 1 => 173 | 2 => 120546 | 3 => 120496 | 4 => 8124 | 5 => 8126 | 6 => 120488 | _ => 223
noncomputable def mpP : Nat → Str
  | 0 => Str.ofString "x" | 1 => Str.ofString "" | 2 => Str.ofString "α" | 3 => Str.ofString "ι" | 4 => Str.ofString "αι" | 5 => Str.ofString "ι" | 6 => Str.ofString "α" | _ => Str.ofString "ss"
noncomputable abbrev pairO (a b : Str) (t u : Tok) : Obj := { cls := .type "tuple", data := .seq #[.str a t, .str b u] }
noncomputable def PiecesIn (led : List (Addr × Obj)) (Pc : Addr) : Prop :=
  ∃ (ps : List Addr) (c : Nat), (Pc, PySem.W.listOf (ps.map Value.ref).toArray c) ∈ led ∧ ps.length = 8 ∧ ∀ i p, ps[i]? = some p → ∃ t u, (p, pairO ⟨#[sgP i]⟩ (mpP i) t u) ∈ led
theorem sgE : Str.ofString "X" = ⟨#[sgP 0]⟩ ∧ Str.ofString "\u00ad" = ⟨#[sgP 1]⟩ ∧ Str.ofString "𝛢" = ⟨#[sgP 2]⟩ ∧ Str.ofString "𝚰" = ⟨#[sgP 3]⟩ ∧ Str.ofString "ᾼ" = ⟨#[sgP 4]⟩ ∧ Str.ofString "\u1fbe" = ⟨#[sgP 5]⟩ ∧ Str.ofString "𝚨" = ⟨#[sgP 6]⟩ ∧ Str.ofString "ß" = ⟨#[sgP 7]⟩ := by decide +kernel
theorem pieces {w : World} {mean mg mb} : CtrF w mean mg mb 163 [] (5+1) (40+3) (fun _ => True) (fun _ r own => ∃ Pc, r = .ref Pc ∧ PiecesIn own Pc) := by
  refine enterF (binds := []) (by rfl) (by rfl) (fun s _ => BindsTo.of_eq rfl) (locs rfl) ?_ rfl rfl rfl (by decide)
  intro dp un gd outer A₀ base g L s B X T hd hu _ F
  have N : News g L s.heap [] := .nil
  change Fr g L s.heap (lk []) at F
  (repeat' (first | (walk1; try dsimp only) | leave1))
  rename Fr _ _ _ _ => F1
  rename News _ _ _ _ => N1
  obtain ⟨e0, e1, e2, e3, e4, e5, e6, e7⟩ := sgE
  simp only [e0, e1, e2, e3, e4, e5, e6, e7] at N1
  refine ⟨_, _, _, _, rfl, F1, N1, _, rfl, [_, _, _, _, _, _, _, _], 0, .head _, rfl, ?_⟩
  intro i p hp
  have hi : i < 8 := by
    rcases Nat.lt_or_ge i 8 with h | h
    · exact h
    · rw [List.getElem?_eq_none h] at hp; cases hp
  have : i = 0 ∨ i = 1 ∨ i = 2 ∨ i = 3 ∨ i = 4 ∨ i = 5 ∨ i = 6 ∨ i = 7 := by omega
  rcases this with rfl | rfl | rfl | rfl | rfl | rfl | rfl | rfl
  · cases hp; exact ⟨_, _, .tail _ (.tail _ (.tail _ (.tail _ (.tail _ (.tail _ (.tail _ (.tail _ (.head _))))))))⟩
  · cases hp; exact ⟨_, _, .tail _ (.tail _ (.tail _ (.tail _ (.tail _ (.tail _ (.tail _ (.head _)))))))⟩
  · cases hp; exact ⟨_, _, .tail _ (.tail _ (.tail _ (.tail _ (.tail _ (.tail _ (.head _))))))⟩
  · cases hp; exact ⟨_, _, .tail _ (.tail _ (.tail _ (.tail _ (.tail _ (.head _)))))⟩
  · cases hp; exact ⟨_, _, .tail _ (.tail _ (.tail _ (.tail _ (.head _))))⟩
  · cases hp; exact ⟨_, _, .tail _ (.tail _ (.tail _ (.head _)))⟩
  · cases hp; exact ⟨_, _, .tail _ (.tail _ (.head _))⟩
  · cases hp; exact ⟨_, _, .tail _ (.head _)⟩
end Mine
end
-- LVR
section
open PySem PySem.W PyProof.Rows PySem.Calls
set_option Elab.async false
set_option maxRecDepth 100000
set_option linter.all false
set_option maxHeartbeats 0
namespace Mine
noncomputable def txP (i j : Nat) : Str := mpP i ++ mpP j
/-- a right side's names -/
noncomputable def hdP (i j : Nat) : List Int := ((txP i j).cps.toList.filter fun c => decide (256 ≤ c)).map Int.ofNat
theorem pre_all : ∀ i : Fin 8, ∀ j : Fin 8, prepOf (sgP i) (sgP j) = txP i j := by decide +kernel
theorem len_all : ∀ i : Fin 8, ∀ j : Fin 8, (txP i j).length ≤ 4 ∧ (hdP i j).length ≤ 4 := by decide +kernel
theorem lev_a : ∀ i : Fin 8, ∀ j : Fin 8, LevR (txP i j) (Txt.replace (txP i j) (Str.ofString "α") (Str.ofString "")) (2 * (na (hdP i j) : Int)) := by
  unfold LevR LevT
  decide +kernel
theorem lev_i : ∀ i : Fin 8, ∀ j : Fin 8, LevR (txP i j) (Txt.replace (txP i j) (Str.ofString "ι") (Str.ofString "")) (2 * (ni (hdP i j) : Int)) := by
  unfold LevR LevT
  decide +kernel
theorem rep_len : ∀ i : Fin 8, ∀ j : Fin 8, (Txt.replace (txP i j) (Str.ofString "α") (Str.ofString "")).length ≤ 10 ∧ (Txt.replace (txP i j) (Str.ofString "ι") (Str.ofString "")).length ≤ 10 := by decide +kernel
theorem hd_ne : ∀ i : Fin 8, ∀ j : Fin 8, ∀ x ∈ hdP i j, x ≠ 0 := by decide +kernel
end Mine
end
-- HCM
section
open PySem PySem.W PyProof.Rows PySem.Calls
set_option Elab.async false
set_option maxRecDepth 100000
set_option linter.all false
set_option maxHeartbeats 0
namespace Mine
noncomputable def pS : Value → Bool
  | .str x _ => decide (256 ≤ x.cps.getD 0 0)
  | _ => false
noncomputable def FmS (v y : Value) : Prop := ∃ t', y = .int (Int.ofNat (sgOf v)) t'
theorem paired_ints : ∀ {xs ys : List Value}, Paired FmS xs ys → IntsAre ys ((xs.map sgOf).map Int.ofNat)
  | _, _, .nil => .nil
  | _, _, .cons ⟨t', e⟩ h => by subst e; exact .cons _ _ (paired_ints h)
theorem signs_all {X : Str} : ∀ {vs : List Value}, vs.length = X.cps.size → (∀ j v, vs[j]? = some v → SignAt X j v) → vs.map sgOf = X.cps.toList ∧ (vs.filter pS).map sgOf = X.cps.toList.filter fun c => decide (256 ≤ c) := by
  intro vs hl hs
  have e1 : vs.map sgOf = X.cps.toList := by
    apply List.ext_getElem
    · simp [hl]
    · intro j h1 h2
      obtain ⟨c, u, e, ev⟩ := hs j _ (List.getElem?_eq_getElem (by simpa using h1))
      rw [List.getElem_map, ev]
      have : j < X.cps.size := by rw [← hl]; simpa using h1
      rw [Array.getElem?_eq_getElem this] at e
      simp only [Array.getElem_toList]
      exact (Option.some.inj e).symm
  refine ⟨e1, ?_⟩
  rw [← e1, List.filter_map]
  congr 1
  apply List.filter_congr
  intro v hv
  obtain ⟨j, hj, ej⟩ := List.getElem_of_mem hv
  obtain ⟨c, u, e, ev⟩ := hs j _ (List.getElem?_eq_getElem hj)
  rw [← ej, ev]
  rfl
noncomputable def stE : Stmt → PySem.Expr
  | .Expr e _ => e
  | _ => default
noncomputable def arg0 : PySem.Expr → PySem.Expr
  | .Call _ (a :: _) _ _ => a
  | e => e
section
variable {w : World} {mean : ExcName → Option Value} {mg mb : Str → Option Value} {dp un : Nat} {gd : Option (List Code)} {outer : List Env} {A₀ : Around} {base g : Heap} {L fa : Addr} {cd : Value}
theorem heads_comp {X : Str} {t : Tok} {m : Str → Option Value} {s : Shared} {news : List (Addr × Obj)} {Q E : Value → Shared → Prop}
    (B : Below A₀ base outer g) (XK : (K w.params).In g) (T : Top topProg lw mean mg mb g) (hdp : dp + 20 < recursionLimit) (hu : un + 200 < cLine)
    (F : Fr g L s.heap m) (N : News g L s.heap news) (hm : m (Str.ofString "text") = some (.str X t)) (hX : X.length ≤ 10)
    (ret : ∀ D h' tk vs k, Fr g L h' m → News g L h' ((D, PySem.W.listOf vs.toArray k) :: news) → s.heap.get? D = none → (∀ b o, s.heap.get? b = some o → h'.get? b = some o) → IntsAre vs ((X.cps.toList.filter fun c => decide (256 ≤ c)).map Int.ofNat) → Q (.ref D) { s with heap := h', toks := tk }) :
    wpAny (model PW w) (laA dp un gd L fa cd outer) (eval (arg0 (stE (nthS (forBody (laS 7)) 4))) (laE L fa cd)) Q E s := by
  refine comp_str (cl := []) (X := X) (t := t) pS FmS rfl F N (by show X.length ≤ _; exact Nat.le_trans hX (by decide)) (by rfl) (by decide) rfl (by decide) (by rfl) ?_ ?_ ?_ ?_
  · intro Q' hQ
    exact ld F hm hQ
  · rintro C v s₃ m₃ E' ⟨i, cc, u, hi, rfl⟩ hn hm F₃ _
    refine wpAny_tests_one ?_
    (repeat' (first | (walk1; try dsimp only) | leave1))
    refine ctrV_use isnt B F₃ XK News.nil T rfl (by (first | lia | omega)) (by (first | lia | omega)) ?_
    rintro _ h' tk' F' N' k rfl
    (repeat' (first | (walk1; try dsimp only) | leave1))
    · show decide (256 ≤ (cc : Int)) = decide (256 ≤ cc)
      rw [decide_eq_decide]
      (first | lia | omega)
    · exact ⟨h', tk', rfl, k⟩
  · rintro C v s₃ m₃ E' ⟨i, cc, u, hi, rfl⟩ hp hn hm F₃ _
    (repeat' (first | (walk1; try dsimp only) | leave1))
    all_goals first | rfl | exact ⟨_, rfl⟩ | exact ⟨_, _, rfl, fun _ _ h => h⟩ | trace_state
  · intro D h' tk ys vs k F' N' h0 hk hlen hs hP
    obtain ⟨e1, e2⟩ := signs_all hlen hs
    refine ret D h' tk ys k F' N' h0 hk ?_
    rw [← e2]
    exact paired_ints hP
end
end Mine
end
-- LW2
section
open PySem PySem.W PyProof.Rows PySem.Calls
set_option Elab.async false
set_option maxRecDepth 100000
set_option linter.all false
set_option maxHeartbeats 0
namespace Mine
theorem seqK {prog : Program} {w : World} {A : Around} {env : Env} {st : Stmt} {rest : List Stmt} {Q : Flow → Shared → Prop} {E : Value → Shared → Prop} {s : Shared}
    (h : wpAny (model prog w) A (exec st env) (fun f s' => s.toks ≤ s'.toks → match f with | .next => wpAny (model prog w) A (execs rest env) Q E s' | f => Q f s') E s) : wpAny (model prog w) A (execs (st :: rest) env) Q E s :=
  wpAny_execs_cons (wpAny_mono (wpAny_toks h) (fun f s' h' => h'.2 h'.1) (fun _ _ e => e.2))
/-- the heads so far -/
noncomputable def HeadsL (R : List (Addr × Obj)) (hrs : List Addr) (hd : Nat → List Int) (k : Nat) : Prop := hrs.length = k ∧ ∀ i p, hrs[i]? = some p → ∃ (vs : List Value) (c : Nat), (p, PySem.W.listOf vs.toArray c) ∈ R ∧ IntsAre vs (hd i)
section
variable {w : World} {mean : ExcName → Option Value} {mg mb : Str → Option Value} {dp un : Nat} {gd : Option (List Code)} {outer : List Env} {A₀ : Around} {base g : Heap} {L fa : Addr} {cd : Value} {s₀ : Shared}
/-- in the loop over the cells, k of them done -/
noncomputable def HInv (s₀ : Shared) (g : Heap) (L Cl Pc Hl Al Il It : Addr) (tm : Tok) (cs : List Int) (hd : Nat → List Int) (tl : List (Addr × Obj)) (k : Nat) (s' : Shared) : Prop :=
  ∃ (h : Heap) (tk : Nat) (m : Str → Option Value) (io : Obj) (hrs : List Addr) (avs ivs cvs : List Value) (c1 c2 c3 c4 : Nat) (R : List (Addr × Obj)), s' = { s₀ with heap := h, toks := tk } ∧ 0 < tk ∧ k ≤ 4 ∧ Fr g L h m ∧
    m (Str.ofString "most") = some (.int 5 tm) ∧ m (Str.ofString "pieces") = some (.ref Pc) ∧ m (Str.ofString "heads") = some (.ref Hl) ∧ m (Str.ofString "alphas") = some (.ref Al) ∧ m (Str.ofString "iotas") = some (.ref Il) ∧
    News g L h ((It, io) :: (Hl, PySem.W.listOf (hrs.map Value.ref).toArray c1) :: (Al, PySem.W.listOf avs.toArray c2) :: (Il, PySem.W.listOf ivs.toArray c3) :: (R ++ tl)) ∧ LiO io Cl k ∧ (Cl, PySem.W.listOf cvs.toArray c4) ∈ R ∧ IntsAre cvs cs ∧ PiecesIn R Pc ∧ HeadsL R hrs hd k ∧
    IntsAre avs ((List.range k).map (A2 hd)) ∧ IntsAre ivs ((List.range k).map (I2 hd)) ∧ (∀ p ∈ R ++ tl, p.1 ≠ It ∧ p.1 ≠ Hl ∧ p.1 ≠ Al ∧ p.1 ≠ Il) ∧ Apart R tl
noncomputable def ci (c : Int) : Nat := (c.fmod 8).toNat
noncomputable def cj (c : Int) : Nat := ((c.fdiv 8).fmod 8).toNat
theorem fmod8 (c : Int) : c.fmod 8 = ((c.fmod 8).toNat : Int) ∧ (c.fmod 8).toNat < 8 := by
  rw [Int.fmod_eq_emod_of_nonneg _ (by decide)]
  have h1 := Int.emod_nonneg c (show (8 : Int) ≠ 0 by decide)
  have h2 := Int.emod_lt_of_pos c (show (0 : Int) < 8 by decide)
  (first | lia | omega)
theorem p8 : ∀ i, i < 8 → sgP i ∈ P8 := by decide +kernel
theorem mpL : ∀ i, i < 8 → (mpP i).length ≤ 2 := by decide +kernel
theorem law_cell {Cl Pc Hl Al Il It : Addr} {tm tc : Tok} {cs : List Int} {hd : Nat → List Int} {tl : List (Addr × Obj)} {k : Nat} {x : Int} {Q : Flow → Shared → Prop}
    (B : Below A₀ base outer g) (X : (K w.params).In g) (T : Top topProg lw mean mg mb g) (hdp : dp + 20 < recursionLimit) (hu : un + 200 < cLine) (hIH : It ≠ Hl) (hIA : It ≠ Al) (hII : It ≠ Il) (hHA : Hl ≠ Al) (hHI : Hl ≠ Il) (hAI : Al ≠ Il)
    (hk : k < 4) (hx : cs[k]? = some x) (hhd : hd k = hdP (ci x) (cj x))
    {h : Heap} {tk : Nat} {m : Str → Option Value} {io : Obj} {hrs : List Addr} {avs ivs cvs : List Value} {c1 c2 c3 c4 : Nat} {R : List (Addr × Obj)} (htk : 0 < tk) (F : Fr g L h m)
    (m1 : m (Str.ofString "most") = some (.int 5 tm)) (m2 : m (Str.ofString "pieces") = some (.ref Pc)) (m3 : m (Str.ofString "heads") = some (.ref Hl)) (m4 : m (Str.ofString "alphas") = some (.ref Al)) (m5 : m (Str.ofString "iotas") = some (.ref Il)) (m6 : m (Str.ofString "cell") = some (.int x tc))
    (N : News g L h ((It, io) :: (Hl, PySem.W.listOf (hrs.map Value.ref).toArray c1) :: (Al, PySem.W.listOf avs.toArray c2) :: (Il, PySem.W.listOf ivs.toArray c3) :: (R ++ tl))) (hio : LiO io Cl (k + 1)) (hCl : (Cl, PySem.W.listOf cvs.toArray c4) ∈ R) (hIc : IntsAre cvs cs) (hPc : PiecesIn R Pc) (hHd : HeadsL R hrs hd k)
    (hIa : IntsAre avs ((List.range k).map (A2 hd))) (hIi : IntsAre ivs ((List.range k).map (I2 hd))) (hap : ∀ p ∈ R ++ tl, p.1 ≠ It ∧ p.1 ≠ Hl ∧ p.1 ≠ Al ∧ p.1 ≠ Il) (hat : Apart R tl) :
    wpAny (model PW w) (laA dp un gd L fa cd outer) (execs (forBody (laS 7)) (laE L fa cd)) (fun f s' => f = .next ∧ HInv s₀ g L Cl Pc Hl Al Il It tm cs hd tl (k + 1) s') (fun _ _ => False) { s₀ with heap := h, toks := tk } := by
  have F1 := fr_ifs [(Str.ofString "most", .int 5 tm), (Str.ofString "pieces", .ref Pc), (Str.ofString "heads", .ref Hl), (Str.ofString "alphas", .ref Al), (Str.ofString "iotas", .ref Il), (Str.ofString "cell", .int x tc)] F (by
    intro p hp
    simp only [List.mem_cons, List.not_mem_nil, or_false] at hp
    rcases hp with rfl | rfl | rfl | rfl | rfl | rfl <;> assumption)
  dsimp only [ifs] at F1
  clear F m1 m2 m3 m4 m5 m6
  obtain ⟨ps, cp, hP1, hpl, hpr⟩ := hPc
  obtain ⟨ei, hi8⟩ := fmod8 x
  obtain ⟨ej, hj8⟩ := fmod8 (x.fdiv 8)
  obtain ⟨tp1, up1, hp1⟩ := hpr (ci x) (ps[ci x]'(by show _ < ps.length; rw [hpl]; exact hi8)) (List.getElem?_eq_getElem _)
  obtain ⟨tp2, up2, hp2⟩ := hpr (cj x) (ps[cj x]'(by show _ < ps.length; rw [hpl]; exact hj8)) (List.getElem?_eq_getElem _)
  have hli : ci x < ps.length := by rw [hpl]; exact hi8
  have hlj : cj x < ps.length := by rw [hpl]; exact hj8
  generalize hpi : ps[ci x] = p1 at *
  generalize hpj : ps[cj x] = p2 at *
  have inR : ∀ p ∈ R, p ∈ (It, io) :: (Hl, PySem.W.listOf (hrs.map Value.ref).toArray c1) :: (Al, PySem.W.listOf avs.toArray c2) :: (Il, PySem.W.listOf ivs.toArray c3) :: (R ++ tl) := fun p hp => .tail _ (.tail _ (.tail _ (.tail _ (List.mem_append_left _ hp))))
  refine seqK ?_
  (repeat' (first | (exfalso; (fail_if_success (fail_if_success omega)); (first | lia | omega)) | ((fail_if_success (first | with_reducible show wpAny _ _ (execs (_ :: _) _) _ _ _ | with_reducible show wpAny _ _ (pyIter _) _ _ _ | with_reducible show wpAny _ _ (subscriptTail _ _ _ _) _ _ _ | with_reducible show wpAny _ _ (eval (PySem.Expr.ListComp _ _ _ _) _) _ _ _ | with_reducible show wpAny _ _ (call (Value.builtin "list.append") _) _ _ _ | with_reducible show wpAny _ _ (call (Value.ref _) _) _ _ _)); first | (walk1; try dsimp only) | leave1)))
  rw [ei]
  refine sub_any (vs := (ps.map Value.ref).toArray) ⟨_, (N _ (inR _ hP1)).1, rfl, cp, rfl⟩ (Int.natCast_nonneg _) (by (first | lia | omega)) (x := .ref p1) (by rw [Int.toNat_natCast]; show ((ps.map Value.ref).toArray)[ci x]? = _; simp [hli, hpi]) ?_ (by with_unfolding_all rfl)
  try dsimp only
  (repeat' (first | (exfalso; (fail_if_success (fail_if_success omega)); (first | lia | omega)) | ((fail_if_success (first | with_reducible show wpAny _ _ (execs (_ :: _) _) _ _ _ | with_reducible show wpAny _ _ (pyIter _) _ _ _ | with_reducible show wpAny _ _ (subscriptTail _ _ _ _) _ _ _ | with_reducible show wpAny _ _ (eval (PySem.Expr.ListComp _ _ _ _) _) _ _ _ | with_reducible show wpAny _ _ (call (Value.builtin "list.append") _) _ _ _ | with_reducible show wpAny _ _ (call (Value.ref _) _) _ _ _)); first | (walk1; try dsimp only) | leave1)))
  rename _ ≤ _ => ht1
  refine seqK ?_
  (repeat' (first | (exfalso; (fail_if_success (fail_if_success omega)); (first | lia | omega)) | ((fail_if_success (first | with_reducible show wpAny _ _ (execs (_ :: _) _) _ _ _ | with_reducible show wpAny _ _ (pyIter _) _ _ _ | with_reducible show wpAny _ _ (subscriptTail _ _ _ _) _ _ _ | with_reducible show wpAny _ _ (eval (PySem.Expr.ListComp _ _ _ _) _) _ _ _ | with_reducible show wpAny _ _ (call (Value.builtin "list.append") _) _ _ _ | with_reducible show wpAny _ _ (call (Value.ref _) _) _ _ _)); first | (walk1; try dsimp only) | leave1)))
  rename Fr _ _ _ _ => F2
  rename News _ _ _ _ => N2
  rw [ej]
  refine sub_any (vs := (ps.map Value.ref).toArray) ⟨_, (N2 _ (inR _ hP1)).1, rfl, cp, rfl⟩ (Int.natCast_nonneg _) (by (first | lia | omega)) (x := .ref p2) (by rw [Int.toNat_natCast]; show ((ps.map Value.ref).toArray)[cj x]? = _; simp [hlj, hpj]) ?_ (by with_unfolding_all rfl)
  try dsimp only
  (repeat' (first | (exfalso; (fail_if_success (fail_if_success omega)); (first | lia | omega)) | ((fail_if_success (first | with_reducible show wpAny _ _ (execs (_ :: _) _) _ _ _ | with_reducible show wpAny _ _ (pyIter _) _ _ _ | with_reducible show wpAny _ _ (subscriptTail _ _ _ _) _ _ _ | with_reducible show wpAny _ _ (eval (PySem.Expr.ListComp _ _ _ _) _) _ _ _ | with_reducible show wpAny _ _ (call (Value.builtin "list.append") _) _ _ _ | with_reducible show wpAny _ _ (call (Value.ref _) _) _ _ _)); first | (walk1; try dsimp only) | leave1)))
  rename _ ≤ _ => ht2
  refine seqK ?_
  (repeat' (first | (exfalso; (fail_if_success (fail_if_success omega)); (first | lia | omega)) | ((fail_if_success (first | with_reducible show wpAny _ _ (execs (_ :: _) _) _ _ _ | with_reducible show wpAny _ _ (pyIter _) _ _ _ | with_reducible show wpAny _ _ (subscriptTail _ _ _ _) _ _ _ | with_reducible show wpAny _ _ (eval (PySem.Expr.ListComp _ _ _ _) _) _ _ _ | with_reducible show wpAny _ _ (call (Value.builtin "list.append") _) _ _ _ | with_reducible show wpAny _ _ (call (Value.ref _) _) _ _ _)); first | (walk1; try dsimp only) | leave1)))
  rename Fr _ _ _ _ => F3
  rename News _ _ _ _ => N3
  refine item_tupleT (l := [.str ⟨#[sgP (ci x)]⟩ tp1, .str (mpP (ci x)) up1]) (j := 0) ⟨_, (N3 _ (inR _ hp1)).1, rfl, 0, rfl⟩ (by decide) (by decide) rfl rfl ?_ (by with_unfolding_all rfl)
  try dsimp only
  (repeat' (first | (exfalso; (fail_if_success (fail_if_success omega)); (first | lia | omega)) | ((fail_if_success (first | with_reducible show wpAny _ _ (execs (_ :: _) _) _ _ _ | with_reducible show wpAny _ _ (pyIter _) _ _ _ | with_reducible show wpAny _ _ (subscriptTail _ _ _ _) _ _ _ | with_reducible show wpAny _ _ (eval (PySem.Expr.ListComp _ _ _ _) _) _ _ _ | with_reducible show wpAny _ _ (call (Value.builtin "list.append") _) _ _ _ | with_reducible show wpAny _ _ (call (Value.ref _) _) _ _ _)); first | (walk1; try dsimp only) | leave1)))
  refine item_tupleT (l := [.str ⟨#[sgP (cj x)]⟩ tp2, .str (mpP (cj x)) up2]) (j := 0) ⟨_, (N3 _ (inR _ hp2)).1, rfl, 0, rfl⟩ (by decide) (by decide) rfl rfl ?_ (by with_unfolding_all rfl)
  try dsimp only
  (repeat' (first | (exfalso; (fail_if_success (fail_if_success omega)); (first | lia | omega)) | ((fail_if_success (first | with_reducible show wpAny _ _ (execs (_ :: _) _) _ _ _ | with_reducible show wpAny _ _ (pyIter _) _ _ _ | with_reducible show wpAny _ _ (subscriptTail _ _ _ _) _ _ _ | with_reducible show wpAny _ _ (eval (PySem.Expr.ListComp _ _ _ _) _) _ _ _ | with_reducible show wpAny _ _ (call (Value.builtin "list.append") _) _ _ _ | with_reducible show wpAny _ _ (call (Value.ref _) _) _ _ _)); first | (walk1; try dsimp only) | leave1)))
  have e8 : (⟨#[sgP (ci x)]⟩ : Str) ++ ⟨#[sgP (cj x)]⟩ = ⟨#[sgP (ci x), sgP (cj x)]⟩ := rfl
  rw [e8]
  refine ctrV_use (prep (p8 _ hi8) (p8 _ hj8)) B F3 X N3 T rfl (by (first | lia | omega)) (by (first | lia | omega)) ?_
  intro r h5 tk5 F5 N5 k5 hpo
  obtain ⟨tx, rfl⟩ := hpo
  rw [show prepOf (sgP (ci x)) (sgP (cj x)) = txP (ci x) (cj x) from pre_all ⟨_, hi8⟩ ⟨_, hj8⟩]
  clear F3 N3
  try dsimp only
  (repeat' (first | (exfalso; (fail_if_success (fail_if_success omega)); (first | lia | omega)) | ((fail_if_success (first | with_reducible show wpAny _ _ (execs (_ :: _) _) _ _ _ | with_reducible show wpAny _ _ (pyIter _) _ _ _ | with_reducible show wpAny _ _ (subscriptTail _ _ _ _) _ _ _ | with_reducible show wpAny _ _ (eval (PySem.Expr.ListComp _ _ _ _) _) _ _ _ | with_reducible show wpAny _ _ (call (Value.builtin "list.append") _) _ _ _ | with_reducible show wpAny _ _ (call (Value.ref _) _) _ _ _)); first | (walk1; try dsimp only) | leave1)))
  rename _ ≤ _ => ht3
  rename Fr _ _ _ _ => F6
  rename News _ _ _ _ => N6
  refine seqK ?_
  (repeat' (first | (exfalso; (fail_if_success (fail_if_success omega)); (first | lia | omega)) | ((fail_if_success (first | with_reducible show wpAny _ _ (execs (_ :: _) _) _ _ _ | with_reducible show wpAny _ _ (pyIter _) _ _ _ | with_reducible show wpAny _ _ (subscriptTail _ _ _ _) _ _ _ | with_reducible show wpAny _ _ (eval (PySem.Expr.ListComp _ _ _ _) _) _ _ _ | with_reducible show wpAny _ _ (call (Value.builtin "list.append") _) _ _ _ | with_reducible show wpAny _ _ (call (Value.ref _) _) _ _ _)); first | (walk1; try dsimp only) | leave1)))
  refine item_tupleT (l := [.str ⟨#[sgP (ci x)]⟩ tp1, .str (mpP (ci x)) up1]) (j := 1) ⟨_, (N6 _ (inR _ hp1)).1, rfl, 0, rfl⟩ (by decide) (by decide) rfl rfl ?_ (by with_unfolding_all rfl)
  try dsimp only
  (repeat' (first | (exfalso; (fail_if_success (fail_if_success omega)); (first | lia | omega)) | ((fail_if_success (first | with_reducible show wpAny _ _ (execs (_ :: _) _) _ _ _ | with_reducible show wpAny _ _ (pyIter _) _ _ _ | with_reducible show wpAny _ _ (subscriptTail _ _ _ _) _ _ _ | with_reducible show wpAny _ _ (eval (PySem.Expr.ListComp _ _ _ _) _) _ _ _ | with_reducible show wpAny _ _ (call (Value.builtin "list.append") _) _ _ _ | with_reducible show wpAny _ _ (call (Value.ref _) _) _ _ _)); first | (walk1; try dsimp only) | leave1)))
  refine item_tupleT (l := [.str ⟨#[sgP (cj x)]⟩ tp2, .str (mpP (cj x)) up2]) (j := 1) ⟨_, (N6 _ (inR _ hp2)).1, rfl, 0, rfl⟩ (by decide) (by decide) rfl rfl ?_ (by with_unfolding_all rfl)
  try dsimp only
  (repeat' (first | (exfalso; (fail_if_success (fail_if_success omega)); (first | lia | omega)) | ((fail_if_success (first | with_reducible show wpAny _ _ (execs (_ :: _) _) _ _ _ | with_reducible show wpAny _ _ (pyIter _) _ _ _ | with_reducible show wpAny _ _ (subscriptTail _ _ _ _) _ _ _ | with_reducible show wpAny _ _ (eval (PySem.Expr.ListComp _ _ _ _) _) _ _ _ | with_reducible show wpAny _ _ (call (Value.builtin "list.append") _) _ _ _ | with_reducible show wpAny _ _ (call (Value.ref _) _) _ _ _)); first | (walk1; try dsimp only) | leave1)))
  refine KXadd.add (K := 2) (L := 2) (mpL _ hi8) (mpL _ hj8) (by decide) ?_
  intro t7 k7 _
  try dsimp only
  rw [show mpP (ci x) ++ mpP (cj x) = txP (ci x) (cj x) from rfl]
  (repeat' (first | (exfalso; (fail_if_success (fail_if_success omega)); (first | lia | omega)) | ((fail_if_success (first | with_reducible show wpAny _ _ (execs (_ :: _) _) _ _ _ | with_reducible show wpAny _ _ (pyIter _) _ _ _ | with_reducible show wpAny _ _ (subscriptTail _ _ _ _) _ _ _ | with_reducible show wpAny _ _ (eval (PySem.Expr.ListComp _ _ _ _) _) _ _ _ | with_reducible show wpAny _ _ (call (Value.builtin "list.append") _) _ _ _ | with_reducible show wpAny _ _ (call (Value.ref _) _) _ _ _)); first | (walk1; try dsimp only) | leave1)))
  · rename (_ != _) = true => hq
    rw [bne_self_eq_false] at hq
    cases hq
  rename Fr _ _ _ _ => F7
  rename News _ _ _ _ => N7
  try clear k5
  refine seqK ?_
  (repeat' (first | (exfalso; (fail_if_success (fail_if_success omega)); (first | lia | omega)) | ((fail_if_success (first | with_reducible show wpAny _ _ (execs (_ :: _) _) _ _ _ | with_reducible show wpAny _ _ (pyIter _) _ _ _ | with_reducible show wpAny _ _ (subscriptTail _ _ _ _) _ _ _ | with_reducible show wpAny _ _ (eval (PySem.Expr.ListComp _ _ _ _) _) _ _ _ | with_reducible show wpAny _ _ (call (Value.builtin "list.append") _) _ _ _ | with_reducible show wpAny _ _ (call (Value.ref _) _) _ _ _)); first | (walk1; try dsimp only) | leave1)))
  have nD : ∀ p ∈ (It, io) :: (Hl, PySem.W.listOf (hrs.map Value.ref).toArray c1) :: (Al, PySem.W.listOf avs.toArray c2) :: (Il, PySem.W.listOf ivs.toArray c3) :: (R ++ tl), ∀ D, (_ : Heap).get? D = none → D ≠ p.1 := fun p hp D h0 e => by
    rw [e, (N7 p hp).1] at h0
    cases h0
  refine heads_comp B X T hdp hu F7 N7 rfl (Nat.le_trans (len_all ⟨_, hi8⟩ ⟨_, hj8⟩).1 (by decide)) ?_
  intro D h8 tk8 dvs kk F8 N8 hD0 k8 hIv
  have nD' := fun p hp => nD p hp D hD0
  clear nD
  try dsimp only
  (repeat' (first | (exfalso; (fail_if_success (fail_if_success omega)); (first | lia | omega)) | ((fail_if_success (first | with_reducible show wpAny _ _ (execs (_ :: _) _) _ _ _ | with_reducible show wpAny _ _ (pyIter _) _ _ _ | with_reducible show wpAny _ _ (subscriptTail _ _ _ _) _ _ _ | with_reducible show wpAny _ _ (eval (PySem.Expr.ListComp _ _ _ _) _) _ _ _ | with_reducible show wpAny _ _ (call (Value.builtin "list.append") _) _ _ _ | with_reducible show wpAny _ _ (call (Value.ref _) _) _ _ _)); first | (walk1; try dsimp only) | leave1)))
  refine append_in (own := [(D, _), (It, io)]) (rest := (Al, _) :: (Il, _) :: (R ++ tl)) (ys := hrs.map Value.ref) (n := c1) (by assumption) (by assumption) ?_ ?_ ?_ (by rw [List.length_map, hHd.1]; exact Nat.le_trans (Nat.le_of_lt hk) (by decide))
  · intro p hp
    simp only [List.mem_cons, List.not_mem_nil, or_false] at hp
    rcases hp with rfl | rfl
    · exact nD' _ (.tail _ (.head _))
    · exact hIH
  · intro p hp
    rcases List.mem_cons.mp hp with rfl | hp
    · exact Ne.symm hHA
    rcases List.mem_cons.mp hp with rfl | hp
    · exact Ne.symm hHI
    exact (hap p hp).2.1
  intro h9 F9 N9
  try dsimp only
  (repeat' (first | (exfalso; (fail_if_success (fail_if_success omega)); (first | lia | omega)) | ((fail_if_success (first | with_reducible show wpAny _ _ (execs (_ :: _) _) _ _ _ | with_reducible show wpAny _ _ (pyIter _) _ _ _ | with_reducible show wpAny _ _ (subscriptTail _ _ _ _) _ _ _ | with_reducible show wpAny _ _ (eval (PySem.Expr.ListComp _ _ _ _) _) _ _ _ | with_reducible show wpAny _ _ (call (Value.builtin "list.append") _) _ _ _ | with_reducible show wpAny _ _ (call (Value.ref _) _) _ _ _)); first | (walk1; try dsimp only) | leave1)))
  rename k7 ≤ tk8 => hk8
  have N9' : News g L h9 ((D, PySem.W.listOf dvs.toArray kk) :: (It, io) :: (Hl, PySem.W.listOf ((hrs ++ [D]).map Value.ref).toArray (c1 + 1)) :: (Al, PySem.W.listOf avs.toArray c2) :: (Il, PySem.W.listOf ivs.toArray c3) :: (R ++ tl)) := by
    have e : (hrs ++ [D]).map Value.ref = hrs.map Value.ref ++ [Value.ref D] := by simp
    rw [e]
    exact N9
  clear N9
  have tk0 : 0 < tk8 := by (first | lia | omega)
  refine seqK ?_
  (repeat' (first | (exfalso; (fail_if_success (fail_if_success omega)); (first | lia | omega)) | ((fail_if_success (first | with_reducible show wpAny _ _ (execs (_ :: _) _) _ _ _ | with_reducible show wpAny _ _ (pyIter _) _ _ _ | with_reducible show wpAny _ _ (subscriptTail _ _ _ _) _ _ _ | with_reducible show wpAny _ _ (eval (PySem.Expr.ListComp _ _ _ _) _) _ _ _ | with_reducible show wpAny _ _ (call (Value.builtin "list.append") _) _ _ _ | with_reducible show wpAny _ _ (call (Value.ref _) _) _ _ _)); first | (walk1; try dsimp only) | leave1)))
  rename Fr _ _ _ _ => F10
  rename News _ _ _ _ => N10
  refine ctrT_int (twice (Nat.le_trans (len_all ⟨_, hi8⟩ ⟨_, hj8⟩).1 (by decide)) (rep_len ⟨_, hi8⟩ ⟨_, hj8⟩).1 (by decide) (lev_a ⟨_, hi8⟩ ⟨_, hj8⟩)) ?_ B F10 X N10 T rfl (by (first | lia | omega)) (by (first | lia | omega)) ?_
  · exact ⟨Nat.ne_of_gt tk0, Nat.lt_succ_self _⟩
  intro t11 h11 tk11 hl11 F11 N11 _
  try dsimp only
  (repeat' (first | (exfalso; (fail_if_success (fail_if_success omega)); (first | lia | omega)) | ((fail_if_success (first | with_reducible show wpAny _ _ (execs (_ :: _) _) _ _ _ | with_reducible show wpAny _ _ (pyIter _) _ _ _ | with_reducible show wpAny _ _ (subscriptTail _ _ _ _) _ _ _ | with_reducible show wpAny _ _ (eval (PySem.Expr.ListComp _ _ _ _) _) _ _ _ | with_reducible show wpAny _ _ (call (Value.builtin "list.append") _) _ _ _ | with_reducible show wpAny _ _ (call (Value.ref _) _) _ _ _)); first | (walk1; try dsimp only) | leave1)))
  have lA : avs.length = k := by rw [hIa.length]; simp
  have lI : ivs.length = k := by rw [hIi.length]; simp
  refine append_in (own := [(D, _), (It, io), (Hl, _)]) (rest := (Il, _) :: (R ++ tl)) (ys := avs) (n := c2) (by assumption) (by assumption) ?_ ?_ ?_ (by rw [lA]; exact Nat.le_trans (Nat.le_of_lt hk) (by decide))
  · intro p hp
    simp only [List.mem_cons, List.not_mem_nil, or_false] at hp
    rcases hp with rfl | rfl | rfl
    · exact nD' _ (.tail _ (.tail _ (.head _)))
    · exact hIA
    · exact hHA
  · intro p hp
    rcases List.mem_cons.mp hp with rfl | hp
    · exact Ne.symm hAI
    exact (hap p hp).2.2.1
  intro h12 F12 N12
  dsimp only [List.cons_append, List.nil_append] at N12
  try dsimp only
  (repeat' (first | (exfalso; (fail_if_success (fail_if_success omega)); (first | lia | omega)) | ((fail_if_success (first | with_reducible show wpAny _ _ (execs (_ :: _) _) _ _ _ | with_reducible show wpAny _ _ (pyIter _) _ _ _ | with_reducible show wpAny _ _ (subscriptTail _ _ _ _) _ _ _ | with_reducible show wpAny _ _ (eval (PySem.Expr.ListComp _ _ _ _) _) _ _ _ | with_reducible show wpAny _ _ (call (Value.builtin "list.append") _) _ _ _ | with_reducible show wpAny _ _ (call (Value.ref _) _) _ _ _)); first | (walk1; try dsimp only) | leave1)))
  rename tk8 ≤ _ => hk12
  refine seqK ?_
  (repeat' (first | (exfalso; (fail_if_success (fail_if_success omega)); (first | lia | omega)) | ((fail_if_success (first | with_reducible show wpAny _ _ (execs (_ :: _) _) _ _ _ | with_reducible show wpAny _ _ (pyIter _) _ _ _ | with_reducible show wpAny _ _ (subscriptTail _ _ _ _) _ _ _ | with_reducible show wpAny _ _ (eval (PySem.Expr.ListComp _ _ _ _) _) _ _ _ | with_reducible show wpAny _ _ (call (Value.builtin "list.append") _) _ _ _ | with_reducible show wpAny _ _ (call (Value.ref _) _) _ _ _)); first | (walk1; try dsimp only) | leave1)))
  rename Fr _ _ _ _ => F13
  rename News _ _ _ _ => N13
  refine ctrT_int (twice (Nat.le_trans (len_all ⟨_, hi8⟩ ⟨_, hj8⟩).1 (by decide)) (rep_len ⟨_, hi8⟩ ⟨_, hj8⟩).2 (by decide) (lev_i ⟨_, hi8⟩ ⟨_, hj8⟩)) ?_ B F13 X N13 T rfl (by (first | lia | omega)) (by (first | lia | omega)) ?_
  · exact ⟨Nat.ne_of_gt (Nat.lt_of_lt_of_le tk0 hk12), Nat.lt_succ_self _⟩
  intro t14 h14 tk14 hl14 F14 N14 _
  try dsimp only
  (repeat' (first | (exfalso; (fail_if_success (fail_if_success omega)); (first | lia | omega)) | ((fail_if_success (first | with_reducible show wpAny _ _ (execs (_ :: _) _) _ _ _ | with_reducible show wpAny _ _ (pyIter _) _ _ _ | with_reducible show wpAny _ _ (subscriptTail _ _ _ _) _ _ _ | with_reducible show wpAny _ _ (eval (PySem.Expr.ListComp _ _ _ _) _) _ _ _ | with_reducible show wpAny _ _ (call (Value.builtin "list.append") _) _ _ _ | with_reducible show wpAny _ _ (call (Value.ref _) _) _ _ _)); first | (walk1; try dsimp only) | leave1)))
  refine append_in (own := [(D, _), (It, io), (Hl, _), (Al, _)]) (rest := R ++ tl) (ys := ivs) (n := c3) (by assumption) (by assumption) ?_ ?_ ?_ (by rw [lI]; exact Nat.le_trans (Nat.le_of_lt hk) (by decide))
  · intro p hp
    simp only [List.mem_cons, List.not_mem_nil, or_false] at hp
    rcases hp with rfl | rfl | rfl | rfl
    · exact nD' _ (.tail _ (.tail _ (.tail _ (.head _))))
    · exact hII
    · exact hHI
    · exact hAI
  · intro p hp
    exact (hap p hp).2.2.2
  intro h15 F15 N15
  dsimp only [List.cons_append, List.nil_append] at N15
  try dsimp only
  (repeat' (first | (exfalso; (fail_if_success (fail_if_success omega)); (first | lia | omega)) | ((fail_if_success (first | with_reducible show wpAny _ _ (execs (_ :: _) _) _ _ _ | with_reducible show wpAny _ _ (pyIter _) _ _ _ | with_reducible show wpAny _ _ (subscriptTail _ _ _ _) _ _ _ | with_reducible show wpAny _ _ (eval (PySem.Expr.ListComp _ _ _ _) _) _ _ _ | with_reducible show wpAny _ _ (call (Value.builtin "list.append") _) _ _ _ | with_reducible show wpAny _ _ (call (Value.ref _) _) _ _ _)); first | (walk1; try dsimp only) | leave1)))
  rename _ ≤ tk14 => hk15
  have eA : 2 * (na (hdP (x.fmod 8).toNat ((x.fdiv 8).fmod 8).toNat) : Int) = A2 hd k := by
    unfold A2
    rw [hhd]
    rfl
  have eI : 2 * (ni (hdP (x.fmod 8).toNat ((x.fdiv 8).fmod 8).toNat) : Int) = I2 hd k := by
    unfold I2
    rw [hhd]
    rfl
  rw [eA, eI] at N15
  refine ⟨h15, tk14, _, io, hrs ++ [D], avs ++ [.int (A2 hd k) t11], ivs ++ [.int (I2 hd k) t14], cvs, c1 + 1, c2 + 1, c3 + 1, c4, (D, PySem.W.listOf dvs.toArray kk) :: R, rfl, Nat.lt_of_lt_of_le tk0 (Nat.le_trans hk12 hk15), by (first | lia | omega), F15, rfl, rfl, rfl, rfl, rfl, ?_, hio, .tail _ hCl, hIc, ⟨ps, cp, .tail _ hP1, hpl, ?_⟩, ⟨by simp [hHd.1], ?_⟩, ?_, ?_, ?_, ?_⟩
  · refine news_sub N15 fun p hp => ?_
    simp only [List.mem_cons, List.cons_append] at hp
    rcases hp with rfl | rfl | rfl | rfl | rfl | hp
    · exact .tail _ (.head _)
    · exact .tail _ (.tail _ (.head _))
    · exact .tail _ (.tail _ (.tail _ (.head _)))
    · exact .tail _ (.tail _ (.tail _ (.tail _ (.head _))))
    · exact .head _
    · exact .tail _ (.tail _ (.tail _ (.tail _ (.tail _ hp))))
  · intro i p hp
    obtain ⟨t, u, h⟩ := hpr i p hp
    exact ⟨t, u, .tail _ h⟩
  · intro i p hp
    by_cases hik : i < k
    · rw [List.getElem?_append_left (by rw [hHd.1]; exact hik)] at hp
      obtain ⟨vs, c, h1, h2⟩ := hHd.2 i p hp
      exact ⟨vs, c, .tail _ h1, h2⟩
    · rw [List.getElem?_append_right (by rw [hHd.1]; (first | lia | omega)), hHd.1] at hp
      have e0 : i - k = 0 := by
        rcases Nat.eq_zero_or_pos (i - k) with h | h
        · exact h
        · rw [List.getElem?_eq_none (by simp; (first | lia | omega))] at hp
          cases hp
      rw [e0] at hp
      have e1 : i = k := by (first | lia | omega)
      cases hp
      refine ⟨dvs, kk, .head _, ?_⟩
      rw [e1, hhd]
      exact hIv
  · rw [List.range_succ, List.map_append]
    exact ints_snoc hIa _ _
  · rw [List.range_succ, List.map_append]
    exact ints_snoc hIi _ _
  · intro p hp
    simp only [List.mem_cons, List.cons_append] at hp
    rcases hp with rfl | hp
    · exact ⟨nD' _ (.head _), nD' _ (.tail _ (.head _)), nD' _ (.tail _ (.tail _ (.head _))), nD' _ (.tail _ (.tail _ (.tail _ (.head _))))⟩
    · exact hap p hp
  · intro p hp q hq
    rcases List.mem_cons.mp hp with rfl | hp
    · exact nD' _ (.tail _ (.tail _ (.tail _ (.tail _ (List.mem_append_right _ hq)))))
    · exact hat p hp q hq
end
end Mine
end
-- LW3
section
open PySem PySem.W PyProof.Rows PySem.Calls
set_option Elab.async false
set_option maxRecDepth 100000
set_option linter.all false
set_option maxHeartbeats 0
namespace Mine
section
variable {w : World} {mean : ExcName → Option Value} {mg mb : Str → Option Value} {dp un : Nat} {gd : Option (List Code)} {outer : List Env} {A₀ : Around} {base g : Heap} {L fa : Addr} {cd : Value}
theorem law_heads {Cl Pc Hl Al Il : Addr} {tm : Tok} {cs : List Int} {hd : Nat → List Int} {R tl : List (Addr × Obj)} {cvs : List Value} {c1 c2 c3 c4 : Nat} {m : Str → Option Value} {s : Shared}
    (B : Below A₀ base outer g) (X : (K w.params).In g) (T : Top topProg lw mean mg mb g) (hdp : dp + 20 < recursionLimit) (hu : un + 200 < cLine) (hHA : Hl ≠ Al) (hHI : Hl ≠ Il) (hAI : Al ≠ Il)
    (h4 : cs.length = 4) (hhd : ∀ k x, cs[k]? = some x → hd k = hdP (ci x) (cj x)) (htk : 0 < s.toks) (F : Fr g L s.heap m)
    (m1 : m (Str.ofString "most") = some (.int 5 tm)) (m2 : m (Str.ofString "pieces") = some (.ref Pc)) (m3 : m (Str.ofString "heads") = some (.ref Hl)) (m4 : m (Str.ofString "alphas") = some (.ref Al)) (m5 : m (Str.ofString "iotas") = some (.ref Il)) (m6 : m (Str.ofString "cells") = some (.ref Cl))
    (N : News g L s.heap ((Hl, PySem.W.listOf #[] c1) :: (Al, PySem.W.listOf #[] c2) :: (Il, PySem.W.listOf #[] c3) :: (R ++ tl))) (hCl : (Cl, PySem.W.listOf cvs.toArray c4) ∈ R) (hIc : IntsAre cvs cs) (hPc : PiecesIn R Pc) (hap : ∀ p ∈ R ++ tl, p.1 ≠ Hl ∧ p.1 ≠ Al ∧ p.1 ≠ Il) (hat : Apart R tl) :
    wpAny (model PW w) (laA dp un gd L fa cd outer) (exec (laS 7) (laE L fa cd)) (fun f s' => f = .next ∧ ∃ (h : Heap) (tk : Nat) (m : Str → Option Value) (hrs : List Addr) (avs ivs : List Value) (c1 c2 c3 : Nat) (R : List (Addr × Obj)), s' = { s with heap := h, toks := tk } ∧ 0 < tk ∧ Fr g L h m ∧
      m (Str.ofString "most") = some (.int 5 tm) ∧ m (Str.ofString "heads") = some (.ref Hl) ∧ m (Str.ofString "alphas") = some (.ref Al) ∧ m (Str.ofString "iotas") = some (.ref Il) ∧
      News g L h ((Hl, PySem.W.listOf (hrs.map Value.ref).toArray c1) :: (Al, PySem.W.listOf avs.toArray c2) :: (Il, PySem.W.listOf ivs.toArray c3) :: (R ++ tl)) ∧ HeadsL R hrs hd 4 ∧
      IntsAre avs ((List.range 4).map (A2 hd)) ∧ IntsAre ivs ((List.range 4).map (I2 hd)) ∧ (∀ p ∈ R ++ tl, p.1 ≠ Hl ∧ p.1 ≠ Al ∧ p.1 ≠ Il) ∧ Apart R tl) (fun _ _ => False) s := by
  have F1 := fr_ifs [(Str.ofString "cells", .ref Cl)] F (by
    intro p hp
    simp only [List.mem_cons, List.not_mem_nil, or_false] at hp
    rcases hp with rfl
    assumption)
  dsimp only [ifs] at F1
  refine for_loop ?_
  (repeat' (first | (exfalso; (fail_if_success (fail_if_success omega)); (first | lia | omega)) | ((fail_if_success (first | with_reducible show wpAny _ _ (execs (_ :: _) _) _ _ _ | with_reducible show wpAny _ _ (pyIter _) _ _ _)); first | (walk1; try dsimp only) | leave1)))
  refine list_iter (vs := cvs.toArray) F N (.tail _ (.tail _ (.tail _ (List.mem_append_left _ hCl)))) ?_
  intro It h3 io F3 N3 l3 ho
  have lH : It ≠ Hl := Nat.ne_of_gt (l3 _ (.head _))
  have lA : It ≠ Al := Nat.ne_of_gt (l3 _ (.tail _ (.head _)))
  have lI : It ≠ Il := Nat.ne_of_gt (l3 _ (.tail _ (.tail _ (.head _))))
  refine ⟨fun n s' => n ≤ 4 ∧ HInv s g L Cl Pc Hl Al Il It tm cs hd tl (4 - n) s', 4, ⟨Nat.le_refl _, ?_⟩, fun v => rfl, ?_⟩
  · rw [Nat.sub_self]
    refine ⟨h3, s.toks, m, io, [], [], [], cvs, c1, c2, c3, c4, R, rfl, htk, Nat.zero_le _, F3, m1, m2, m3, m4, m5, N3, ho, hCl, hIc, hPc, ⟨rfl, fun i p h => by simp at h⟩, .nil, .nil, ?_, hat⟩
    intro p hp
    exact ⟨Nat.ne_of_lt (l3 p (.tail _ (.tail _ (.tail _ hp)))), hap p hp⟩
  clear F1 F3 N3 F N m1 m2 m3 m4 m5 m6 hPc hCl hIc hat
  rintro n _ ⟨hn4, h, tk, m, io, hrs, avs, ivs, cvs, c1, c2, c3, c4, R, rfl, htk, hk4, F, m1, m2, m3, m4, m5, N, ho, hCl, hIc, hPc, hHd, hIa, hIi, hap, hat⟩
  have hlc := hIc.length
  cases n with
  | zero =>
    refine list_done (vs := cvs.toArray) rfl F N ?_ ho (.tail _ (.tail _ (.tail _ (List.mem_append_left _ hCl)))) (by simp; (first | lia | omega)) ?_
    · intro p hp
      rcases List.mem_cons.mp hp with rfl | hp
      · exact Ne.symm lH
      rcases List.mem_cons.mp hp with rfl | hp
      · exact Ne.symm lA
      rcases List.mem_cons.mp hp with rfl | hp
      · exact Ne.symm lI
      exact (hap p hp).1
    intro h5 F5 N5
    exact ⟨rfl, h5, tk, m, hrs, avs, ivs, c1, c2, c3, R, rfl, htk, F5, m1, m3, m4, m5, N5, hHd, hIa, hIi, fun p hp => (hap p hp).2, hat⟩
  | succ n =>
    have hkl : 4 - (n + 1) < cs.length := by (first | lia | omega)
    obtain ⟨tc, hx⟩ := hIc.get (4 - (n + 1)) _ (List.getElem?_eq_getElem hkl)
    refine list_next (vs := cvs.toArray) (x := .int (cs[4 - (n + 1)]) tc) F N (.head ?_) ho (.tail _ (.tail _ (.tail _ (.tail _ (List.mem_append_left _ hCl))))) (by simpa using hx) ?_
    · intro p hp
      rcases List.mem_cons.mp hp with rfl | hp
      · exact Ne.symm lH
      rcases List.mem_cons.mp hp with rfl | hp
      · exact Ne.symm lA
      rcases List.mem_cons.mp hp with rfl | hp
      · exact Ne.symm lI
      exact (hap p hp).1
    intro h5 io5 F5 N5 ho5
    dsimp only [ForNext]
    (repeat' (first | (exfalso; (fail_if_success (fail_if_success omega)); (first | lia | omega)) | ((fail_if_success (first | with_reducible show wpAny _ _ (execs (_ :: _) _) _ _ _ | with_reducible show wpAny _ _ (pyIter _) _ _ _)); first | (walk1; try dsimp only) | leave1)))
    rename Fr _ _ _ _ => F6
    rename News _ _ _ _ => N6
    refine wpAny_mono (law_cell (s₀ := s) (tc := tc) (tm := tm) (Q := fun _ _ => True) B X T hdp hu lH lA lI hHA hHI hAI (k := 4 - (n + 1)) (by (first | lia | omega)) (List.getElem?_eq_getElem hkl) (hhd _ _ (List.getElem?_eq_getElem hkl)) (Nat.lt_succ_of_lt htk) F6 ?_ ?_ ?_ ?_ ?_ rfl N6 ho5 hCl hIc hPc hHd hIa hIi hap hat) ?_ (fun _ _ e => e.elim)
    iterate 5 (first | exact m1 | exact m2 | exact m3 | exact m4 | exact m5)
    rintro f s' ⟨rfl, hI⟩
    refine ⟨n, Nat.lt_succ_self n, by (first | lia | omega), ?_⟩
    have e : 4 - (n + 1) + 1 = 4 - n := by (first | lia | omega)
    rw [← e]
    exact hI
end
end Mine
end
-- LW4
section
open PySem PySem.W PyProof.Rows PySem.Calls
set_option Elab.async false
set_option maxRecDepth 100000
set_option linter.all false
set_option maxHeartbeats 0
namespace Mine
theorem rows_digs : ∀ n, 1 ≤ n → n ≤ 5 → digs 8 (257 ^ n) (lenI 8 (257 ^ n)) = (List.range (n + 1)).map (fun k => ((ch n k : Nat) : Int)) ∧ Builtin.Int.intBits ((257 ^ n : Nat) : Int) ≤ 48 := by
  intro n h1 h2
  have : n = 1 ∨ n = 2 ∨ n = 3 ∨ n = 4 ∨ n = 5 := by (first | lia | omega)
  rcases this with rfl | rfl | rfl | rfl | rfl <;> decide +kernel
noncomputable def RowsL (R : List (Addr × Obj)) (rs : List Addr) (k : Nat) : Prop := rs.length = k ∧ ∀ n p, rs[n]? = some p → ∃ (vs : List Value) (c : Nat), (p, PySem.W.listOf vs.toArray c) ∈ R ∧ IntsAre vs ((List.range (n + 1)).map fun k => ((ch n k : Nat) : Int))
section
variable {w : World} {mean : ExcName → Option Value} {mg mb : Str → Option Value} {dp un : Nat} {gd : Option (List Code)} {outer : List Env} {A₀ : Around} {base g : Heap} {L fa : Addr} {cd : Value}
/-- in the loop over the rows; k are left -/
noncomputable def PInv (s₀ : Shared) (g : Heap) (L Pl It Hl Al Il : Addr) (tm : Tok) (R0 : List (Addr × Obj)) (k : Nat) (s' : Shared) : Prop :=
  ∃ (h : Heap) (tk : Nat) (dr : Drawn) (m : Str → Option Value) (rs : List Addr) (cP : Nat) (R tl : List (Addr × Obj)), s' = { s₀ with heap := h, toks := tk, drawn := dr } ∧ k ≤ 5 ∧ Fr g L h m ∧
    m (Str.ofString "most") = some (.int 5 tm) ∧ m (Str.ofString "heads") = some (.ref Hl) ∧ m (Str.ofString "alphas") = some (.ref Al) ∧ m (Str.ofString "iotas") = some (.ref Il) ∧ m (Str.ofString "pascal") = some (.ref Pl) ∧
    News g L h ((It, riObj ((6 - k : Nat) : Int) (k : Int)) :: (Pl, PySem.W.listOf (rs.map Value.ref).toArray cP) :: (R ++ tl)) ∧ TL tl ∧ (∀ p ∈ R0, p ∈ R) ∧ RowsL R rs (6 - k) ∧ (∀ p ∈ R ++ tl, p.1 ≠ It ∧ p.1 ≠ Pl) ∧ Apart R tl
theorem law_pascal {Pl P0 Hl Al Il : Addr} {tm t0 : Tok} {R tl : List (Addr × Obj)} {c0 c1 : Nat} {m : Str → Option Value} {s : Shared}
    (B : Below A₀ base outer g) (X : (K w.params).In g) (T : Top topProg lw mean mg mb g) (hdp : dp + 90 < recursionLimit) (hu : un + 1300 < cLine) (F : Fr g L s.heap m)
    (m1 : m (Str.ofString "most") = some (.int 5 tm)) (m3 : m (Str.ofString "heads") = some (.ref Hl)) (m4 : m (Str.ofString "alphas") = some (.ref Al)) (m5 : m (Str.ofString "iotas") = some (.ref Il)) (m6 : m (Str.ofString "pascal") = some (.ref Pl))
    (N : News g L s.heap ((Pl, PySem.W.listOf #[.ref P0] c1) :: (R ++ tl))) (hTL : TL tl) (hP0 : (P0, PySem.W.listOf #[.int 1 t0] c0) ∈ R) (hap : ∀ p ∈ R ++ tl, p.1 ≠ Pl) (hat : Apart R tl) :
    wpAny (model PW w) (laA dp un gd L fa cd outer) (exec (laS 9) (laE L fa cd)) (fun f s' => f = .next ∧ ∃ (h : Heap) (tk : Nat) (dr : Drawn) (m : Str → Option Value) (rs : List Addr) (cP : Nat) (R' tl' : List (Addr × Obj)), s' = { s with heap := h, toks := tk, drawn := dr } ∧ Fr g L h m ∧
      m (Str.ofString "most") = some (.int 5 tm) ∧ m (Str.ofString "heads") = some (.ref Hl) ∧ m (Str.ofString "alphas") = some (.ref Al) ∧ m (Str.ofString "iotas") = some (.ref Il) ∧ m (Str.ofString "pascal") = some (.ref Pl) ∧
      News g L h ((Pl, PySem.W.listOf (rs.map Value.ref).toArray cP) :: (R' ++ tl')) ∧ TL tl' ∧ (∀ p ∈ R, p ∈ R') ∧ RowsL R' rs 6 ∧ (∀ p ∈ R' ++ tl', p.1 ≠ Pl) ∧ Apart R' tl') (fun _ _ => False) s := by
  have F1 := fr_ifs [(Str.ofString "most", .int 5 tm)] F (by
    intro p hp
    simp only [List.mem_cons, List.not_mem_nil, or_false] at hp
    rcases hp with rfl
    assumption)
  dsimp only [ifs] at F1
  refine for_loop ?_
  (repeat' (first | (exfalso; (fail_if_success (fail_if_success omega)); (first | lia | omega)) | ((fail_if_success (first | with_reducible show wpAny _ _ (pyIter _) _ _ _ | with_reducible show wpAny _ _ (subscriptTail _ _ _ _) _ _ _ | with_reducible show wpAny _ _ (call (Value.builtin "list.append") _) _ _ _ | with_reducible show wpAny _ _ (call (Value.builtin "len") _) _ _ _ | with_reducible show wpAny _ _ (call (Value.ref _) _) _ _ _)); first | (walk1; try dsimp only) | leave1)))
  rename Fr _ _ _ _ => F2
  rename News _ _ _ _ => N2
  rename IsRange _ _ _ _ _ _ _ _ => hr
  refine range_iter (n := 5) hr F2 N2 (by decide) (by decide) ?_
  intro It h3 F3 N3 l3
  have lP : It ≠ Pl := Nat.ne_of_gt (l3 _ (.head _))
  refine ⟨PInv s g L Pl It Hl Al Il tm R, 5, ⟨h3, _, s.drawn, _, [P0], c1, R, tl, rfl, Nat.le_refl _, F3, rfl, m3, m4, m5, m6, N3, hTL, fun p hp => hp, ⟨rfl, ?_⟩, ?_, hat⟩, fun v => rfl, ?_⟩
  · intro n p hp
    match n, hp with
    | 0, hp =>
      cases hp
      exact ⟨_, c0, hP0, .cons _ _ .nil⟩
  · intro p hp
    exact ⟨Nat.ne_of_lt (l3 p (.tail _ hp)), hap p hp⟩
  clear F2 N2 F3 N3 hr F l3
  rintro k _ ⟨h, tk, dr, m, rs, cP, R', tl', rfl, hk5, F, m1, m3, m4, m5, m6, N, hTL', hsub, hrows, hap', hat'⟩
  have hrest : ∀ p ∈ (Pl, PySem.W.listOf (rs.map Value.ref).toArray cP) :: (R' ++ tl'), p.1 ≠ It := by
    intro p hp
    rcases List.mem_cons.mp hp with rfl | hp
    · exact Ne.symm lP
    · exact (hap' p hp).1
  cases k with
  | zero =>
    refine range_done rfl F N hrest (by decide) ?_
    intro h5 F5 N5
    exact ⟨rfl, h5, tk, dr, m, rs, cP, R', tl', rfl, F5, m1, m3, m4, m5, m6, N5, hTL', hsub, hrows, fun p hp => (hap' p hp).2, hat'⟩
  | succ k =>
    obtain ⟨n, hn⟩ : ∃ n, n = 6 - (k + 1) := ⟨_, rfl⟩
    rw [← hn] at N hrows
    have hn1 : 1 ≤ n := by (first | lia | omega)
    have hn5 : n ≤ 5 := by (first | lia | omega)
    refine range_next F N (.head hrest) (by (first | lia | omega)) ?_
    intro h5 F5 N5
    dsimp only [ForNext]
    have F6 := fr_ifs [(Str.ofString "most", .int 5 tm), (Str.ofString "heads", .ref Hl), (Str.ofString "alphas", .ref Al), (Str.ofString "iotas", .ref Il), (Str.ofString "pascal", .ref Pl)] F5 (by
      intro p hp
      simp only [List.mem_cons, List.not_mem_nil, or_false] at hp
      rcases hp with rfl | rfl | rfl | rfl | rfl <;> assumption)
    dsimp only [ifs] at F6
    clear F5 F N m1 m3 m4 m5 m6
    (repeat' (first | (exfalso; (fail_if_success (fail_if_success omega)); (first | lia | omega)) | ((fail_if_success (first | with_reducible show wpAny _ _ (pyIter _) _ _ _ | with_reducible show wpAny _ _ (subscriptTail _ _ _ _) _ _ _ | with_reducible show wpAny _ _ (call (Value.builtin "list.append") _) _ _ _ | with_reducible show wpAny _ _ (call (Value.builtin "len") _) _ _ _ | with_reducible show wpAny _ _ (call (Value.ref _) _) _ _ _)); first | (walk1; try dsimp only) | leave1)))
    rename Fr _ _ _ _ => F7
    rename News _ _ _ _ => N7
    refine cpw hn1 hn5 _ _ _ _ _ _ _ _ _ _ _ _ _ _ _ _ _ _ B F7 X N7 T rfl (by (first | lia | omega)) (by (first | lia | omega)) trivial ?_
    rintro _ h8 tk8 dr8 _ F8 N8 fr8 k8 ⟨d, o, td, rfl, rfl, hdo⟩
    have ld : ∀ p ∈ (It, riObj ((n : Int) + 1) (((k + 1 : Nat) : Int) - 1)) :: (Pl, PySem.W.listOf (rs.map Value.ref).toArray cP) :: (R' ++ tl'), d ≠ p.1 := by
      intro p hp e
      have h1 := fr8 _ (.head _)
      dsimp only at h1
      rw [e, (N7 p hp).1] at h1
      cases h1
    try dsimp only
    (repeat' (first | (exfalso; (fail_if_success (fail_if_success omega)); (first | lia | omega)) | ((fail_if_success (first | with_reducible show wpAny _ _ (pyIter _) _ _ _ | with_reducible show wpAny _ _ (subscriptTail _ _ _ _) _ _ _ | with_reducible show wpAny _ _ (call (Value.builtin "list.append") _) _ _ _ | with_reducible show wpAny _ _ (call (Value.builtin "len") _) _ _ _ | with_reducible show wpAny _ _ (call (Value.ref _) _) _ _ _)); first | (walk1; try dsimp only) | leave1)))
    refine tail_any (kda_dict N8 (.head _) hdo).typeIs slot_dict_getitem.lookup (wpAny_getItem_of (knd := PySem.intKind PW w) (k := (n : Int)) (intKind_is _ _ _ _) (kda_dict N8 (.head _) hdo).mapOf (v := .int (257 ^ n) td) (by simp [valueAt]) ?_) (by with_unfolding_all rfl)
    try dsimp only
    (repeat' (first | (exfalso; (fail_if_success (fail_if_success omega)); (first | lia | omega)) | ((fail_if_success (first | with_reducible show wpAny _ _ (pyIter _) _ _ _ | with_reducible show wpAny _ _ (subscriptTail _ _ _ _) _ _ _ | with_reducible show wpAny _ _ (call (Value.builtin "list.append") _) _ _ _ | with_reducible show wpAny _ _ (call (Value.builtin "len") _) _ _ _ | with_reducible show wpAny _ _ (call (Value.ref _) _) _ _ _)); first | (walk1; try dsimp only) | leave1)))
    obtain ⟨hdg, hbits⟩ := rows_digs n hn1 hn5
    rw [show ((257 : Int) ^ n) = ((257 ^ n : Nat) : Int) by push_cast; rfl]
    have N8' : News g L h8 ((((d, o) :: (It, riObj ((n : Int) + 1) (((k + 1 : Nat) : Int) - 1)) :: (Pl, PySem.W.listOf (rs.map Value.ref).toArray cP) :: R')) ++ tl') := N8
    have ap8 : Apart ((d, o) :: (It, riObj ((n : Int) + 1) (((k + 1 : Nat) : Int) - 1)) :: (Pl, PySem.W.listOf (rs.map Value.ref).toArray cP) :: R') tl' := by
      intro p hp q hq
      rcases List.mem_cons.mp hp with rfl | hp
      · exact ld q (.tail _ (.tail _ (List.mem_append_right _ hq)))
      rcases List.mem_cons.mp hp with rfl | hp
      · exact Ne.symm (hap' q (List.mem_append_right _ hq)).1
      rcases List.mem_cons.mp hp with rfl | hp
      · exact Ne.symm (hap' q (List.mem_append_right _ hq)).2
      exact hat' p hp q hq
    refine ctrG_use (i2d (n := 8) (by decide) (by decide) hbits) B F8 X N8' hTL' ap8 T rfl (by (first | lia | omega)) (by (first | lia | omega)) (fun _ _ => trivial) ?_
    rintro _ h9 tk9 _ tl2 F9 hTL2 ap9 N9 own9 k9 ⟨D, dvs, cD, rfl, rfl, hID⟩
    rw [hdg] at hID
    clear N8 N8' F8 N7 F7 ap8
    dsimp only [List.cons_append, List.nil_append] at N9 ap9 own9
    have nD : ∀ p ∈ (d, o) :: (It, riObj ((n : Int) + 1) (((k + 1 : Nat) : Int) - 1)) :: (Pl, PySem.W.listOf (rs.map Value.ref).toArray cP) :: R', D ≠ p.1 := fun p hp => own9 _ (.head _) p hp
    try dsimp only
    (repeat' (first | (exfalso; (fail_if_success (fail_if_success omega)); (first | lia | omega)) | ((fail_if_success (first | with_reducible show wpAny _ _ (pyIter _) _ _ _ | with_reducible show wpAny _ _ (subscriptTail _ _ _ _) _ _ _ | with_reducible show wpAny _ _ (call (Value.builtin "list.append") _) _ _ _ | with_reducible show wpAny _ _ (call (Value.builtin "len") _) _ _ _ | with_reducible show wpAny _ _ (call (Value.ref _) _) _ _ _)); first | (walk1; try dsimp only) | leave1)))
    refine append_in (own := [(D, _), (d, o), (It, _)]) (rest := R' ++ tl2) (ys := rs.map Value.ref) (n := cP) (by assumption) (by assumption) ?_ ?_ ?_ (by rw [List.length_map, hrows.1]; exact Nat.le_trans hn5 (by decide))
    · intro p hp
      simp only [List.mem_cons, List.not_mem_nil, or_false] at hp
      rcases hp with rfl | rfl | rfl
      · exact nD _ (.tail _ (.tail _ (.head _)))
      · exact ld _ (.tail _ (.head _))
      · exact lP
    · intro p hp
      rcases List.mem_append.mp hp with hp | hp
      · exact (hap' p (List.mem_append_left _ hp)).2
      · exact Ne.symm (ap9 _ (.tail _ (.tail _ (.tail _ (.head _)))) p hp)
    intro h10 F10 N10
    have er : rs.map Value.ref ++ [Value.ref D] = (rs ++ [D]).map Value.ref := by simp
    rw [er] at N10
    dsimp only [List.cons_append, List.nil_append] at N10
    clear F9 N9
    try dsimp only
    (repeat' (first | (exfalso; (fail_if_success (fail_if_success omega)); (first | lia | omega)) | ((fail_if_success (first | with_reducible show wpAny _ _ (pyIter _) _ _ _ | with_reducible show wpAny _ _ (subscriptTail _ _ _ _) _ _ _ | with_reducible show wpAny _ _ (call (Value.builtin "list.append") _) _ _ _ | with_reducible show wpAny _ _ (call (Value.builtin "len") _) _ _ _ | with_reducible show wpAny _ _ (call (Value.ref _) _) _ _ _)); first | (walk1; try dsimp only) | leave1)))
    have hrl := hrows.1
    refine sub_any (vs := ((rs ++ [D]).map Value.ref).toArray) ⟨_, (N10 _ (.tail _ (.tail _ (.tail _ (.head _))))).1, rfl, cP + 1, rfl⟩ (Int.natCast_nonneg _) (by (first | lia | omega)) (x := .ref D) (by rw [Int.toNat_natCast]; simp [hrl]) ?_ (by with_unfolding_all rfl)
    have hdl : dvs.length = n + 1 := by rw [hID.length]; simp
    try dsimp only
    (repeat' (first | (exfalso; (fail_if_success (fail_if_success omega)); (first | lia | omega)) | ((fail_if_success (first | with_reducible show wpAny _ _ (pyIter _) _ _ _ | with_reducible show wpAny _ _ (subscriptTail _ _ _ _) _ _ _ | with_reducible show wpAny _ _ (call (Value.builtin "list.append") _) _ _ _ | with_reducible show wpAny _ _ (call (Value.builtin "len") _) _ _ _ | with_reducible show wpAny _ _ (call (Value.ref _) _) _ _ _)); first | (walk1; try dsimp only) | leave1)))
    refine call_len_list (items := dvs.toArray) ⟨_, (N10 _ (.head _)).1, rfl, cD, rfl⟩ (by rw [List.size_toArray]; (first | lia | omega)) ?_
    rw [List.size_toArray, hdl]
    try dsimp only
    (repeat' (first | (exfalso; (fail_if_success (fail_if_success omega)); (first | lia | omega)) | ((fail_if_success (first | with_reducible show wpAny _ _ (pyIter _) _ _ _ | with_reducible show wpAny _ _ (subscriptTail _ _ _ _) _ _ _ | with_reducible show wpAny _ _ (call (Value.builtin "list.append") _) _ _ _ | with_reducible show wpAny _ _ (call (Value.builtin "len") _) _ _ _ | with_reducible show wpAny _ _ (call (Value.ref _) _) _ _ _)); first | (walk1; try dsimp only) | leave1)))
    rename_i tkE
    refine ⟨k, Nat.lt_succ_self k, h10, _, dr8, _, rs ++ [D], cP + 1, (D, PySem.W.listOf dvs.toArray cD) :: (d, o) :: R', tl2, rfl, by (first | lia | omega), F10, rfl, rfl, rfl, rfl, rfl, ?_, hTL2, fun p hp => .tail _ (.tail _ (hsub p hp)), ⟨by simp [hrl]; (first | lia | omega), ?_⟩, ?_, ?_⟩
    · have e1 : ((6 - k : Nat) : Int) = (n : Int) + 1 := by (first | lia | omega)
      have e2 : ((k + 1 : Nat) : Int) - 1 = (k : Int) := by (first | lia | omega)
      rw [e1, ← e2]
      refine news_sub N10 fun p hp => ?_
      simp only [List.mem_cons, List.cons_append] at hp
      rcases hp with rfl | rfl | rfl | rfl | hp
      · exact .tail _ (.tail _ (.head _))
      · exact .tail _ (.tail _ (.tail _ (.head _)))
      · exact .head _
      · exact .tail _ (.head _)
      · exact .tail _ (.tail _ (.tail _ (.tail _ hp)))
    · intro i p hp
      by_cases hik : i < n
      · rw [List.getElem?_append_left (by (first | lia | omega))] at hp
        obtain ⟨vs, c, h1, h2⟩ := hrows.2 i p hp
        exact ⟨vs, c, .tail _ (.tail _ h1), h2⟩
      · rw [List.getElem?_append_right (by (first | lia | omega)), hrl] at hp
        have e0 : i - n = 0 := by
          rcases Nat.eq_zero_or_pos (i - n) with h | h
          · exact h
          · rw [List.getElem?_eq_none (by simp; (first | lia | omega))] at hp
            cases hp
        rw [e0] at hp
        have e1 : i = n := by (first | lia | omega)
        cases hp
        rw [e1]
        exact ⟨dvs, cD, .head _, hID⟩
    · intro p hp
      simp only [List.mem_cons, List.cons_append] at hp
      rcases hp with rfl | rfl | hp
      · exact ⟨nD _ (.tail _ (.head _)), nD _ (.tail _ (.tail _ (.head _)))⟩
      · exact ⟨ld _ (.head _), ld _ (.tail _ (.head _))⟩
      rcases List.mem_append.mp hp with hp | hp
      · exact hap' p (List.mem_append_left _ hp)
      · exact ⟨Ne.symm (ap9 _ (.tail _ (.tail _ (.head _))) p hp), Ne.symm (ap9 _ (.tail _ (.tail _ (.tail _ (.head _)))) p hp)⟩
    · intro p hp q hq
      simp only [List.mem_cons] at hp
      rcases hp with rfl | rfl | hp
      · exact ap9 _ (.head _) q hq
      · exact ap9 _ (.tail _ (.head _)) q hq
      · exact ap9 _ (.tail _ (.tail _ (.tail _ (.tail _ hp)))) q hq
end
end Mine
end
-- LW5
section
open PySem PySem.W PyProof.Rows PySem.Calls
set_option Elab.async false
set_option maxRecDepth 100000
set_option linter.all false
set_option maxHeartbeats 0
namespace Mine
theorem told_eq {hd : Nat → List Int} {a b c e : Nat} (h : a + b + c + e ≤ 5) (hc : cond hd a b c e) :
    toldN a b c e (a * (2 * ni (hd 0)) + b * (2 * ni (hd 1))) = toldD a b c e * NN hd a b c e ∧ 0 < toldD a b c e := by
  have h0 := cond_pos hc
  unfold toldN toldD
  by_cases hm : c + e = 0
  · rw [if_pos hm, if_pos hm]
    have := told_left h hc hm
    exact ⟨by exact_mod_cast this, h0⟩
  · rw [if_neg hm, if_neg hm]
    have := told_both h hc hm
    unfold I2 at this
    refine ⟨by exact_mod_cast this, Nat.mul_pos (by (first | lia | omega)) (by (first | lia | omega))⟩
/-- a dict's entries, as numbers -/
noncomputable def PrsOk (kvs : List (Int × Value)) (prs : List (Int × Int)) : Prop := kvs.length = prs.length ∧ ∀ (i : Nat) (k v : Int), prs[i]? = some (k, v) → ∃ t : Tok, kvs[i]? = some (k, Value.int v t)
theorem PrsOk.nil : PrsOk [] [] := ⟨rfl, fun i k v h => by simp at h⟩
theorem PrsOk.keys {kvs : List (Int × Value)} {prs : List (Int × Int)} (h : PrsOk kvs prs) : kvs.map (·.1) = prs.map (·.1) := by
  apply List.ext_getElem?
  intro i
  rw [List.getElem?_map, List.getElem?_map]
  by_cases hi : i < prs.length
  · obtain ⟨t, ht⟩ := h.2 i _ _ (List.getElem?_eq_getElem hi)
    rw [ht, List.getElem?_eq_getElem hi]
    rfl
  · rw [List.getElem?_eq_none (l := prs) (by (first | lia | omega)), List.getElem?_eq_none (l := kvs) (by have := h.1; (first | lia | omega))]
    rfl
theorem PrsOk.stored {kvs : List (Int × Value)} {prs : List (Int × Int)} {k v : Int} {t : Tok} (h : PrsOk kvs prs) (hf : ∀ x ∈ prs, x.1 ≠ k) : PrsOk (PySem.stored kvs k (.int v t)) (prs ++ [(k, v)]) := by
  have e : PySem.stored kvs k (.int v t) = kvs ++ [(k, .int v t)] := by
    unfold PySem.stored
    rw [if_neg]
    intro hx
    obtain ⟨kv, h1, h2⟩ := List.any_eq_true.mp hx
    have : kv.1 ∈ prs.map (·.1) := by rw [← h.keys]; exact List.mem_map_of_mem h1
    obtain ⟨x, hx, ex⟩ := List.mem_map.mp this
    exact hf x hx (ex.trans (of_decide_eq_true h2))
  rw [e]
  refine ⟨by simp [h.1], ?_⟩
  intro i k' v' hi
  by_cases hl : i < prs.length
  · rw [List.getElem?_append_left hl] at hi
    obtain ⟨t', ht⟩ := h.2 i k' v' hi
    exact ⟨t', by rw [List.getElem?_append_left (by rw [h.1]; exact hl)]; exact ht⟩
  · rw [List.getElem?_append_right (by (first | lia | omega))] at hi
    have e0 : i - prs.length = 0 := by
      rcases Nat.eq_zero_or_pos (i - prs.length) with h | h
      · exact h
      · rw [List.getElem?_eq_none (by simp; (first | lia | omega))] at hi
        cases hi
    rw [e0] at hi
    cases hi
    refine ⟨t, ?_⟩
    rw [List.getElem?_append_right (by rw [h.1]; (first | lia | omega)), h.1, e0]
    rfl
/-- in the loops that make the dict `due` -/
noncomputable def DCore (w : World) (s₀ : Shared) (g : Heap) (L Dd : Addr) (nm : List (Str × Value)) (R0 its : List (Addr × Obj)) (prs : List (Int × Int)) (s' : Shared) : Prop :=
  ∃ (h : Heap) (tk : Nat) (m : Str → Option Value) (o : Obj) (kvs : List (Int × Value)) (R tl : List (Addr × Obj)), s' = { s₀ with heap := h, toks := tk } ∧ Fr g L h m ∧ (∀ p ∈ nm, m p.1 = some p.2) ∧
    News g L h (its ++ (Dd, o) :: (R ++ tl)) ∧ TL tl ∧ (∀ p ∈ R0, p ∈ R) ∧ Apart R tl ∧ (∀ p ∈ R ++ tl, p.1 ≠ Dd ∧ ∀ q ∈ its, p.1 ≠ q.1) ∧ o.IsDictOf (intKind PW w) kvs ∧ PrsOk kvs prs
theorem DCore.weaken {w : World} {s₀ : Shared} {g : Heap} {L Dd : Addr} {nm nm' : List (Str × Value)} {R0 its : List (Addr × Obj)} {prs : List (Int × Int)} {s' : Shared} (h : DCore w s₀ g L Dd nm R0 its prs s') (hs : ∀ p ∈ nm', p ∈ nm) : DCore w s₀ g L Dd nm' R0 its prs s' := by
  obtain ⟨h, tk, m, o, kvs, R, tl, e, F, hm, r⟩ := h
  exact ⟨h, tk, m, o, kvs, R, tl, e, F, fun p hp => hm p (hs p hp), r⟩
section
variable {w : World} {mean : ExcName → Option Value} {mg mb : Str → Option Value} {dp un : Nat} {gd : Option (List Code)} {outer : List Env} {A₀ : Around} {base g : Heap} {L fa : Addr} {cd : Value} {s₀ : Shared}
theorem due_range {Dd r : Addr} {nm : List (Str × Value)} {R0 its : List (Addr × Obj)} {N : Nat} {f : Nat → List (Int × Int)} {t u v : Tok} {target : PySem.Expr} {body : List Stmt} {env : Env} {Q : Flow → Shared → Prop} {s : Shared} {z : Int}
    (hr : IsRange s.heap r 0 z 1 t u v) (hz : z = (N : Int)) (hN : N ≤ 8) (hID : ∀ q ∈ its, q.1 ≠ Dd) (hI : DCore w s₀ g L Dd nm R0 its (f 0) s) (hQ : ∀ s', DCore w s₀ g L Dd nm R0 its (f N) s' → Q .next s') (ht : ∀ it v, letOwnedTupleGo target it v = pure ())
    (turn : ∀ (i : Nat) It io t s', i < N → (∀ q ∈ (It, io) :: its, q.1 ≠ Dd) → DCore w s₀ g L Dd nm R0 ((It, io) :: its) (f i) s' → wpAny (model PW w) (laA dp un gd L fa cd outer) (assign target env (.int i t)) (fun _ s₂ => wpAny (model PW w) (laA dp un gd L fa cd outer) (execs body env) (fun fl s3 => fl = .next ∧ DCore w s₀ g L Dd nm R0 ((It, io) :: its) (f (i + 1)) s3) (fun _ _ => False) s₂) (fun _ _ => False) s') :
    wpAny (model PW w) (laA dp un gd L fa cd outer) (pyIter (.ref r)) (fun it s₂ => ∃ (I : Nat → Shared → Prop) (n : Nat), I n s₂ ∧ (∀ v, letOwnedTupleGo target it v = pure ()) ∧
      ∀ n s, I n s → wpAny (model PW w) (laA dp un gd L fa cd outer) (pyNext it) (ForNext PW w (laA dp un gd L fa cd outer) env I n Q target body) (fun _ _ => False) s) (fun _ _ => False) s := by
  subst hz
  obtain ⟨h, tk, m, o, kvs, R, tl, rfl, F, hm, Nw, hTL, hsub, hat, hap, hd, hp⟩ := hI
  refine range_iter hr F Nw (range_le8 N hN).1 (range_le8 N hN).2 ?_
  intro It h3 F3 N3 l3
  have lI : ∀ q ∈ its, q.1 ≠ It := fun q hq => Nat.ne_of_lt (l3 q (List.mem_append_left _ hq))
  have lD : Dd ≠ It := Nat.ne_of_lt (l3 (Dd, o) (List.mem_append_right _ (.head _)))
  have hID' : ∀ io, ∀ q ∈ (It, io) :: its, q.1 ≠ Dd := by
    intro io q hq
    rcases List.mem_cons.mp hq with rfl | hq
    · exact Ne.symm lD
    · exact hID q hq
  refine ⟨fun n s' => n ≤ N ∧ DCore w s₀ g L Dd nm R0 ((It, riObj ((N - n : Nat) : Int) (n : Int)) :: its) (f (N - n)) s', N, ⟨Nat.le_refl _, ?_⟩, fun v => ht _ v, ?_⟩
  · rw [Nat.sub_self]
    refine ⟨h3, tk, m, o, kvs, R, tl, rfl, F3, hm, N3, hTL, hsub, hat, ?_, hd, hp⟩
    intro p hp
    refine ⟨(hap p hp).1, fun q hq => ?_⟩
    rcases List.mem_cons.mp hq with rfl | hq
    · exact Nat.ne_of_lt (l3 p (List.mem_append_right _ (.tail _ hp)))
    · exact (hap p hp).2 q hq
  clear F3 N3 F Nw hm hTL hsub hat hap hd hp hr l3
  rintro n _ ⟨hnN, h, tk, m, o, kvs, R, tl, rfl, F, hm, Nw, hTL, hsub, hat, hap, hd, hp⟩
  have hrest : ∀ p ∈ its ++ (Dd, o) :: (R ++ tl), p.1 ≠ It := by
    intro p hp
    rcases List.mem_append.mp hp with hp | hp
    · exact lI p hp
    rcases List.mem_cons.mp hp with rfl | hp
    · exact lD
    · exact (hap p hp).2 _ (.head _)
  cases n with
  | zero =>
    refine range_done rfl F Nw hrest (by decide) ?_
    intro h5 F5 N5
    exact hQ _ ⟨h5, tk, m, o, kvs, R, tl, rfl, F5, hm, N5, hTL, hsub, hat, fun p hp => ⟨(hap p hp).1, fun q hq => (hap p hp).2 q (.tail _ hq)⟩, hd, hp⟩
  | succ n =>
    refine range_next F Nw (.head hrest) (by (first | lia | omega)) ?_
    intro h5 F5 N5
    dsimp only [ForNext]
    refine wpAny_mono (turn (N - (n + 1)) It _ _ _ (by (first | lia | omega)) (hID' _) ⟨h5, tk + 1, m, o, kvs, R, tl, rfl, F5, hm, N5, hTL, hsub, hat, ?_, hd, hp⟩) (fun _ s₂ h₂ => wpAny_mono h₂ ?_ fun _ _ e => e.elim) fun _ _ e => e.elim
    · intro p hp
      refine ⟨(hap p hp).1, fun q hq => ?_⟩
      rcases List.mem_cons.mp hq with rfl | hq
      · exact (hap p hp).2 (It, riObj ((N - (n + 1) : Nat) : Int) ((n + 1 : Nat) : Int)) (.head _)
      · exact (hap p hp).2 q (.tail _ hq)
    rintro fl s3 ⟨rfl, hI⟩
    refine ⟨n, Nat.lt_succ_self n, by (first | lia | omega), ?_⟩
    have e1 : ((N - n : Nat) : Int) = ((N - (n + 1) : Nat) : Int) + 1 := by (first | lia | omega)
    have e2 : ((n + 1 : Nat) : Int) - 1 = (n : Int) := by (first | lia | omega)
    have e3 : N - (n + 1) + 1 = N - n := by (first | lia | omega)
    rw [e3, e2, ← e1] at hI
    exact hI
end
theorem pre_e (hd : Nat → List Int) (a b c e : Nat) : pre hd a b c (e + 1) = pre hd a b c e ++ dueE hd a b c e := by
  unfold pre
  rw [range_flat]
  simp only [List.append_assoc]
theorem pre_c (hd : Nat → List Int) (a b c : Nat) : pre hd a b (c + 1) 0 = pre hd a b c (6 - a - b - c) := by
  unfold pre
  rw [range_flat]
  simp [dueC]
theorem pre_b (hd : Nat → List Int) (a b : Nat) : pre hd a (b + 1) 0 0 = pre hd a b (6 - a - b) 0 := by
  unfold pre
  rw [range_flat]
  simp [dueB]
theorem pre_a (hd : Nat → List Int) (a : Nat) : pre hd (a + 1) 0 0 0 = pre hd a (6 - a) 0 0 := by
  unfold pre
  rw [range_flat]
  simp [dueA]
theorem pre_end (hd : Nat → List Int) : pre hd 6 0 0 0 = due hd := by
  unfold pre due
  simp
end Mine
end
-- LW6
section
open PySem PySem.W PyProof.Rows PySem.Calls
set_option Elab.async false
set_option maxRecDepth 100000
set_option linter.all false
set_option maxHeartbeats 0
namespace Mine
noncomputable abbrev aS : Stmt := laS 11
noncomputable abbrev bS : Stmt := nthS (forBody aS) 0
noncomputable abbrev cS : Stmt := nthS (forBody bS) 2
noncomputable abbrev eS : Stmt := nthS (forBody cS) 0
noncomputable def forTgt : Stmt → PySem.Expr
  | .For t _ _ _ _ => t
  | _ => default
theorem flat_len {α : Type} (f : Nat → List α) (k : Nat) (h : ∀ x, (f x).length ≤ k) : ∀ n, ((List.range n).flatMap f).length ≤ n * k
  | 0 => by simp
  | n + 1 => by
    rw [range_flat, List.length_append, Nat.succ_mul]
    exact Nat.add_le_add (flat_len f k h n) (h n)
theorem dueE_len (hd : Nat → List Int) (a b c e : Nat) : (dueE hd a b c e).length ≤ 1 := by
  unfold dueE
  split <;> simp
theorem dueC_len (hd : Nat → List Int) (a b c : Nat) : (dueC hd a b c).length ≤ 6 := by
  refine Nat.le_trans (flat_len _ 1 (dueE_len hd a b c) _) ?_
  (first | lia | omega)
theorem dueB_len (hd : Nat → List Int) (a b : Nat) : (dueB hd a b).length ≤ 36 := by
  refine Nat.le_trans (flat_len _ 6 (dueC_len hd a b) _) ?_
  (first | lia | omega)
theorem dueA_len (hd : Nat → List Int) (a : Nat) : (dueA hd a).length ≤ 216 := by
  refine Nat.le_trans (flat_len _ 36 (dueB_len hd a) _) ?_
  (first | lia | omega)
theorem pre_len (hd : Nat → List Int) {a b c e : Nat} (h : a + b + c + e ≤ 5) : (pre hd a b c e).length ≤ 2000 := by
  unfold pre
  simp only [List.length_append]
  have h1 := flat_len _ 216 (dueA_len hd) a
  have h2 := flat_len _ 36 (dueB_len hd a) b
  have h3 := flat_len _ 6 (dueC_len hd a b) c
  have h4 := flat_len _ 1 (dueE_len hd a b c) e
  (first | lia | omega)
theorem due_len (hd : Nat → List Int) : (due hd).length ≤ 2000 := by
  have := flat_len _ 216 (dueA_len hd) 6
  unfold due
  (first | lia | omega)
section
variable {w : World} {mean : ExcName → Option Value} {mg mb : Str → Option Value} {dp un : Nat} {gd : Option (List Code)} {outer : List Env} {A₀ : Around} {base g : Heap} {L fa : Addr} {cd : Value} {s₀ : Shared}
/-- the names in the due loops -/
noncomputable abbrev nm0 (Hl Al Il Pl Dd : Addr) (tm : Tok) : List (Str × Value) := [(Str.ofString "most", .int 5 tm), (Str.ofString "heads", .ref Hl), (Str.ofString "alphas", .ref Al), (Str.ofString "iotas", .ref Il), (Str.ofString "pascal", .ref Pl), (Str.ofString "due", .ref Dd)]
noncomputable abbrev lackZ (hd : Nat → List Int) (a b : Nat) : Int := 2 * ((a : Int) + (b : Int)) - 2 - (a : Int) * A2 hd 0 - (b : Int) * A2 hd 1
noncomputable abbrev brZ (hd : Nat → List Int) (a b : Nat) : Int := (a : Int) * I2 hd 0 + (b : Int) * I2 hd 1
noncomputable abbrev nmA (hd : Nat → List Int) (Hl Al Il Pl Dd : Addr) (tm : Tok) (a : Nat) (ta : Tok) : List (Str × Value) := (Str.ofString "a", .int a ta) :: nm0 Hl Al Il Pl Dd tm
noncomputable abbrev nmB (hd : Nat → List Int) (Hl Al Il Pl Dd : Addr) (tm : Tok) (a b : Nat) (ta tb tl tr : Tok) : List (Str × Value) := (Str.ofString "brought", .int (brZ hd a b) tr) :: (Str.ofString "lack", .int (lackZ hd a b) tl) :: (Str.ofString "b", .int b tb) :: nmA hd Hl Al Il Pl Dd tm a ta
noncomputable abbrev nmC (hd : Nat → List Int) (Hl Al Il Pl Dd : Addr) (tm : Tok) (a b c : Nat) (ta tb tl tr tc : Tok) : List (Str × Value) := (Str.ofString "c", .int c tc) :: nmB hd Hl Al Il Pl Dd tm a b ta tb tl tr
/-- what the ledger keeps -/
noncomputable def DFix (hd : Nat → List Int) (Hl Al Il Pl : Addr) (R0 : List (Addr × Obj)) : Prop :=
  (∃ (avs : List Value) (c : Nat), (Al, PySem.W.listOf avs.toArray c) ∈ R0 ∧ IntsAre avs ((List.range 4).map (A2 hd))) ∧ (∃ (ivs : List Value) (c : Nat), (Il, PySem.W.listOf ivs.toArray c) ∈ R0 ∧ IntsAre ivs ((List.range 4).map (I2 hd))) ∧
  (∃ (rs : List Addr) (c : Nat), (Pl, PySem.W.listOf (rs.map Value.ref).toArray c) ∈ R0 ∧ RowsL R0 rs 6)
theorem e_turn {hd : Nat → List Int} {Hl Al Il Pl Dd : Addr} {tm ta tb tl tr tc te : Tok} {a b c e : Nat} {R0 its : List (Addr × Obj)} {s : Shared}
    (B : Below A₀ base outer g) (X : (K w.params).In g) (T : Top topProg lw mean mg mb g) (hdp : dp + 120 < recursionLimit) (hu : un + 1800 < cLine) (hl : ∀ i, (hd i).length ≤ 4) (h5 : a + b + c + e ≤ 5) (hfix : DFix hd Hl Al Il Pl R0) (hID : ∀ q ∈ its, q.1 ≠ Dd)
    (hI : DCore w s₀ g L Dd (nmC hd Hl Al Il Pl Dd tm a b c ta tb tl tr tc) R0 its (pre hd a b c e) s) :
    wpAny (model PW w) (laA dp un gd L fa cd outer) (assign (forTgt eS) (laE L fa cd) (.int e te)) (fun _ s₂ => wpAny (model PW w) (laA dp un gd L fa cd outer) (execs (forBody eS) (laE L fa cd))
      (fun fl s3 => fl = .next ∧ DCore w s₀ g L Dd (nmC hd Hl Al Il Pl Dd tm a b c ta tb tl tr tc) R0 its (pre hd a b c (e + 1)) s3) (fun _ _ => False) s₂) (fun _ _ => False) s := by
  obtain ⟨h, tk, m, o, kvs, R, tl2, rfl, F, hm, N, hTL, hsub, hat, hap, hd1, hp1⟩ := hI
  have F1 := fr_ifs _ F hm
  dsimp only [ifs] at F1
  clear F hm
  obtain ⟨⟨avs, ca, hA, hIA⟩, ⟨ivs, cI, hIl, hII⟩, ⟨rs, cr, hP, hrl, hrow⟩⟩ := hfix
  have al : ∀ i, 0 ≤ A2 hd i ∧ A2 hd i ≤ 8 := fun i => by
    have : na (hd i) ≤ 4 := Nat.le_trans List.countP_le_length (hl i)
    unfold A2
    (first | lia | omega)
  have il : ∀ i, 0 ≤ I2 hd i ∧ I2 hd i ≤ 8 := fun i => by
    have : ni (hd i) ≤ 4 := Nat.le_trans List.countP_le_length (hl i)
    unfold I2
    (first | lia | omega)
  have inR : ∀ p ∈ R0, p ∈ its ++ (Dd, o) :: (R ++ tl2) := fun p hp => List.mem_append_right _ (.tail _ (List.mem_append_left _ (hsub p hp)))
  have lA : ((List.range 4).map (A2 hd)).length = 4 := by simp
  have lI : ((List.range 4).map (I2 hd)).length = 4 := by simp
  have hLA : ∀ h', News g L h' (its ++ (Dd, o) :: (R ++ tl2)) → h'.IsList Al avs.toArray := fun h' N => ⟨_, (N _ (inR _ hA)).1, rfl, ca, rfl⟩
  have hLI : ∀ h', News g L h' (its ++ (Dd, o) :: (R ++ tl2)) → h'.IsList Il ivs.toArray := fun h' N => ⟨_, (N _ (inR _ hIl)).1, rfl, cI, rfl⟩
  have fin : ∀ h' tk' m', Fr g L h' m' → (∀ p ∈ nmC hd Hl Al Il Pl Dd tm a b c ta tb tl tr tc, m' p.1 = some p.2) → News g L h' (its ++ (Dd, o) :: (R ++ tl2)) → ¬ cond hd a b c e →
      DCore w s₀ g L Dd (nmC hd Hl Al Il Pl Dd tm a b c ta tb tl tr tc) R0 its (pre hd a b c (e + 1)) { s₀ with heap := h', toks := tk' } := by
    intro h' tk' m' F' hm' N' hc
    have e0 : dueE hd a b c e = [] := by
      unfold dueE
      rw [if_pos (nn_zero h5 hc)]
    rw [pre_e, e0, List.append_nil]
    exact ⟨h', tk', m', o, kvs, R, tl2, rfl, F', hm', N', hTL, hsub, hat, hap, hd1, hp1⟩
  have al2 := al 2
  have al3 := al 3
  have il2 := il 2
  have il3 := il 3
  show wpAny _ _ (assign (PySem.Expr.Name (Str.ofString "e") _) _ _) (fun _ s₂ => wpAny _ _ (execs (_ :: _) _) _ _ s₂) _ _
  (repeat' (first | (exfalso; (fail_if_success (fail_if_success omega)); (first | lia | omega)) | ((fail_if_success (first | with_reducible show wpAny _ _ (pyIter _) _ _ _ | with_reducible show wpAny _ _ (subscriptTail _ _ _ _) _ _ _ | with_reducible show wpAny _ _ (setItem _ _ _) _ _ _ | with_reducible show wpAny _ _ (binaryOp Operator.Mult _ _) _ _ _ | with_reducible show wpAny _ _ (call (Value.ref _) _) _ _ _)); first | (walk1; try dsimp only) | leave1)))
  refine item_anyK (vs := avs) (ns := (List.range 4).map (A2 hd)) (hLA _ (by assumption)) hIA (by decide) (by rw [lA]; decide) (by decide) ?_ (by with_unfolding_all rfl)
  intro t1
  rw [show ((List.range 4).map (A2 hd)).getD (Int.toNat 2) 0 = A2 hd 2 from rfl]
  try dsimp only
  (repeat' (first | (exfalso; (fail_if_success (fail_if_success omega)); (first | lia | omega)) | ((fail_if_success (first | with_reducible show wpAny _ _ (pyIter _) _ _ _ | with_reducible show wpAny _ _ (subscriptTail _ _ _ _) _ _ _ | with_reducible show wpAny _ _ (setItem _ _ _) _ _ _ | with_reducible show wpAny _ _ (binaryOp Operator.Mult _ _) _ _ _ | with_reducible show wpAny _ _ (call (Value.ref _) _) _ _ _)); first | (walk1; try dsimp only) | leave1)))
  refine P.mul_int ?_ (IntMulOk.of_left (intBits_le_64 (by (first | lia | omega)) (by (first | lia | omega))))
  try dsimp only
  (repeat' (first | (exfalso; (fail_if_success (fail_if_success omega)); (first | lia | omega)) | ((fail_if_success (first | with_reducible show wpAny _ _ (pyIter _) _ _ _ | with_reducible show wpAny _ _ (subscriptTail _ _ _ _) _ _ _ | with_reducible show wpAny _ _ (setItem _ _ _) _ _ _ | with_reducible show wpAny _ _ (binaryOp Operator.Mult _ _) _ _ _ | with_reducible show wpAny _ _ (call (Value.ref _) _) _ _ _)); first | (walk1; try dsimp only) | leave1)))
  refine item_anyK (vs := avs) (ns := (List.range 4).map (A2 hd)) (hLA _ (by assumption)) hIA (by decide) (by rw [lA]; decide) (by decide) ?_ (by with_unfolding_all rfl)
  intro t2
  rw [show ((List.range 4).map (A2 hd)).getD (Int.toNat 3) 0 = A2 hd 3 from rfl]
  try dsimp only
  (repeat' (first | (exfalso; (fail_if_success (fail_if_success omega)); (first | lia | omega)) | ((fail_if_success (first | with_reducible show wpAny _ _ (pyIter _) _ _ _ | with_reducible show wpAny _ _ (subscriptTail _ _ _ _) _ _ _ | with_reducible show wpAny _ _ (setItem _ _ _) _ _ _ | with_reducible show wpAny _ _ (binaryOp Operator.Mult _ _) _ _ _ | with_reducible show wpAny _ _ (call (Value.ref _) _) _ _ _)); first | (walk1; try dsimp only) | leave1)))
  refine P.mul_int ?_ (IntMulOk.of_left (intBits_le_64 (by (first | lia | omega)) (by (first | lia | omega))))
  try dsimp only
  (repeat' (first | (exfalso; (fail_if_success (fail_if_success omega)); (first | lia | omega)) | ((fail_if_success (first | with_reducible show wpAny _ _ (pyIter _) _ _ _ | with_reducible show wpAny _ _ (subscriptTail _ _ _ _) _ _ _ | with_reducible show wpAny _ _ (setItem _ _ _) _ _ _ | with_reducible show wpAny _ _ (binaryOp Operator.Mult _ _) _ _ _ | with_reducible show wpAny _ _ (call (Value.ref _) _) _ _ _)); first | (walk1; try dsimp only) | leave1)))
  rotate_left
  · rename Fr _ _ _ _ => F5
    rename News _ _ _ _ => N5
    rename _ ≠ lackZ hd a b => hq
    exact fin _ _ _ F5 (by (((repeat (refine List.forall_mem_cons.mpr ⟨by rfl, ?_⟩)); exact fun _ h => nomatch h))) N5 (fun hc => hq hc.1)
  rename _ = lackZ hd a b => hq1
  refine item_anyK (vs := ivs) (ns := (List.range 4).map (I2 hd)) (hLI _ (by assumption)) hII (by decide) (by rw [lI]; decide) (by decide) ?_ (by with_unfolding_all rfl)
  intro t3
  rw [show ((List.range 4).map (I2 hd)).getD (Int.toNat 2) 0 = I2 hd 2 from rfl]
  try dsimp only
  (repeat' (first | (exfalso; (fail_if_success (fail_if_success omega)); (first | lia | omega)) | ((fail_if_success (first | with_reducible show wpAny _ _ (pyIter _) _ _ _ | with_reducible show wpAny _ _ (subscriptTail _ _ _ _) _ _ _ | with_reducible show wpAny _ _ (setItem _ _ _) _ _ _ | with_reducible show wpAny _ _ (binaryOp Operator.Mult _ _) _ _ _ | with_reducible show wpAny _ _ (call (Value.ref _) _) _ _ _)); first | (walk1; try dsimp only) | leave1)))
  refine P.mul_int ?_ (IntMulOk.of_left (intBits_le_64 (by (first | lia | omega)) (by (first | lia | omega))))
  try dsimp only
  (repeat' (first | (exfalso; (fail_if_success (fail_if_success omega)); (first | lia | omega)) | ((fail_if_success (first | with_reducible show wpAny _ _ (pyIter _) _ _ _ | with_reducible show wpAny _ _ (subscriptTail _ _ _ _) _ _ _ | with_reducible show wpAny _ _ (setItem _ _ _) _ _ _ | with_reducible show wpAny _ _ (binaryOp Operator.Mult _ _) _ _ _ | with_reducible show wpAny _ _ (call (Value.ref _) _) _ _ _)); first | (walk1; try dsimp only) | leave1)))
  refine item_anyK (vs := ivs) (ns := (List.range 4).map (I2 hd)) (hLI _ (by assumption)) hII (by decide) (by rw [lI]; decide) (by decide) ?_ (by with_unfolding_all rfl)
  intro t4
  rw [show ((List.range 4).map (I2 hd)).getD (Int.toNat 3) 0 = I2 hd 3 from rfl]
  try dsimp only
  (repeat' (first | (exfalso; (fail_if_success (fail_if_success omega)); (first | lia | omega)) | ((fail_if_success (first | with_reducible show wpAny _ _ (pyIter _) _ _ _ | with_reducible show wpAny _ _ (subscriptTail _ _ _ _) _ _ _ | with_reducible show wpAny _ _ (setItem _ _ _) _ _ _ | with_reducible show wpAny _ _ (binaryOp Operator.Mult _ _) _ _ _ | with_reducible show wpAny _ _ (call (Value.ref _) _) _ _ _)); first | (walk1; try dsimp only) | leave1)))
  refine P.mul_int ?_ (IntMulOk.of_left (intBits_le_64 (by (first | lia | omega)) (by (first | lia | omega))))
  try dsimp only
  (repeat' (first | (exfalso; (fail_if_success (fail_if_success omega)); (first | lia | omega)) | ((fail_if_success (first | with_reducible show wpAny _ _ (pyIter _) _ _ _ | with_reducible show wpAny _ _ (subscriptTail _ _ _ _) _ _ _ | with_reducible show wpAny _ _ (setItem _ _ _) _ _ _ | with_reducible show wpAny _ _ (binaryOp Operator.Mult _ _) _ _ _ | with_reducible show wpAny _ _ (call (Value.ref _) _) _ _ _)); first | (walk1; try dsimp only) | leave1)))
  refine P.mul_int ?_ (IntMulOk.of_left (intBits_le_64 (by (first | lia | omega)) (by (first | lia | omega))))
  try dsimp only
  (repeat' (first | (exfalso; (fail_if_success (fail_if_success omega)); (first | lia | omega)) | ((fail_if_success (first | with_reducible show wpAny _ _ (pyIter _) _ _ _ | with_reducible show wpAny _ _ (subscriptTail _ _ _ _) _ _ _ | with_reducible show wpAny _ _ (setItem _ _ _) _ _ _ | with_reducible show wpAny _ _ (binaryOp Operator.Mult _ _) _ _ _ | with_reducible show wpAny _ _ (call (Value.ref _) _) _ _ _)); first | (walk1; try dsimp only) | leave1)))
  rotate_left
  · rename Fr _ _ _ _ => F5
    rename News _ _ _ _ => N5
    rename brZ hd a b + _ + _ ≠ _ => hq
    exact fin _ _ _ F5 (by (((repeat (refine List.forall_mem_cons.mpr ⟨by rfl, ?_⟩)); exact fun _ h => nomatch h))) N5 (fun hc => hq hc.2)
  rename brZ hd a b + _ + _ = _ => hq2
  clear fin
  have hc : cond hd a b c e := ⟨hq1, hq2⟩
  obtain ⟨eN, hD0⟩ := told_eq h5 hc
  have e1 : ((toldN a b c e (a * (2 * ni (hd 0)) + b * (2 * ni (hd 1))) / toldD a b c e : Nat) : Int) = (NN hd a b c e : Int) := by rw [eN, Nat.mul_div_cancel_left _ hD0]
  have e2 : ((toldN a b c e (a * (2 * ni (hd 0)) + b * (2 * ni (hd 1))) % toldD a b c e : Nat) : Int) = 0 := by rw [eN, Nat.mul_mod_right]; rfl
  rename Fr _ _ _ _ => F6
  rename News _ _ _ _ => N6
  rename ∀ p ∈ _, _ < _ => l6
  rename Addr => Nt
  rename Heap => h6
  have N6' : News g L h6 (((Nt, { cls := .type "tuple", data := .seq #[.int a ta, .int b tb, .int c tc, .int e te] }) :: (its ++ (Dd, o) :: R)) ++ tl2) := by
    rw [List.cons_append, List.append_assoc, List.cons_append]
    exact N6
  have ap6 : Apart ((Nt, ({ cls := .type "tuple", data := .seq #[.int a ta, .int b tb, .int c tc, .int e te] } : Obj)) :: (its ++ (Dd, o) :: R)) tl2 := by
    intro p hp q hq
    rcases List.mem_cons.mp hp with rfl | hp
    · exact Nat.ne_of_gt (l6 q (List.mem_append_right _ (.tail _ (List.mem_append_right _ hq))))
    rcases List.mem_append.mp hp with hp | hp
    · exact Ne.symm ((hap q (List.mem_append_right _ hq)).2 p hp)
    rcases List.mem_cons.mp hp with rfl | hp
    · exact Ne.symm (hap q (List.mem_append_right _ hq)).1
    · exact hat p hp q hq
  have off : ∀ p ∈ R0, p.1 ∉ tl2.map (·.1) := by
    intro p hp hq
    obtain ⟨q, hq, e⟩ := List.mem_map.mp hq
    exact hat p (hsub p hp) q hq e.symm
  have lI0 : (List.range 4).map (I2 hd) = ((2 * ni (hd 0) : Nat) : Int) :: ((2 * ni (hd 1) : Nat) : Int) :: [I2 hd 2, I2 hd 3] := by
    show [I2 hd 0, I2 hd 1, I2 hd 2, I2 hd 3] = _
    simp [I2]
  have ni0 : ni (hd 0) ≤ 4 := Nat.le_trans List.countP_le_length (hl 0)
  have ni1 : ni (hd 1) ≤ 4 := Nat.le_trans List.countP_le_length (hl 1)
  refine ctrG_use (told (a := a) (b := b) (c := c) (e := e) (i0 := 2 * ni (hd 0)) (i1 := 2 * ni (hd 1)) (r := [I2 hd 2, I2 hd 3]) h5 (cond_pos hc) (by (first | lia | omega)) (by (first | lia | omega))) B F6 X N6' hTL ap6 T rfl (by (first | lia | omega)) (by (first | lia | omega)) ?_ ?_
  · intro g' hg'
    refine ⟨⟨ta, tb, tc, te, hg' _ _ (N6 _ (.head _)).1 ?_⟩, ⟨rs, cr, hg' _ _ (N6 _ (.tail _ (inR _ hP))).1 (off _ hP), hrl, ?_⟩, ⟨ivs, cI, hg' _ _ (N6 _ (.tail _ (inR _ hIl))).1 (off _ hIl), ?_⟩⟩
    · intro hq
      obtain ⟨q, hq, e⟩ := List.mem_map.mp hq
      exact ap6 _ (.head _) q hq e.symm
    · intro n p hp
      obtain ⟨vs, c, h1, h2⟩ := hrow n p hp
      exact ⟨vs, c, hg' _ _ (N6 _ (.tail _ (inR _ h1))).1 (off _ h1), h2⟩
    · rw [← lI0]
      exact hII
  rintro _ h9 tk9 _ tl3 F9 hTL3 ap9 N9 own9 k9 ⟨Tt, t6, t7, rfl, rfl⟩
  rw [e1, e2] at N9
  have hap3 : ∀ p ∈ R ++ tl3, p.1 ≠ Dd ∧ ∀ q ∈ its, p.1 ≠ q.1 := by
    intro p hp
    rcases List.mem_append.mp hp with hp | hp
    · exact hap p (List.mem_append_left _ hp)
    · refine ⟨Ne.symm (ap9 (Dd, o) ?_ p hp), fun q hq => Ne.symm (ap9 q ?_ p hp)⟩
      · exact List.mem_append_right _ (.tail _ (List.mem_append_right _ (.head _)))
      · exact List.mem_append_right _ (.tail _ (List.mem_append_left _ hq))
  have hat3 : Apart R tl3 := fun p hp q hq => ap9 p (List.mem_append_right _ (.tail _ (List.mem_append_right _ (.tail _ hp)))) q hq
  clear F6 N6 N6' ap6 k9
  try dsimp only
  refine unpackN_ F9 N9 ⟨_, (N9 _ (.head _)).1, rfl, 0, rfl⟩ rfl rfl rfl ?_
  intro h10 F10 N10
  clear F9 N9
  try dsimp only
  (repeat' (first | (exfalso; (fail_if_success (fail_if_success omega)); (first | lia | omega)) | ((fail_if_success (first | with_reducible show wpAny _ _ (pyIter _) _ _ _ | with_reducible show wpAny _ _ (subscriptTail _ _ _ _) _ _ _ | with_reducible show wpAny _ _ (setItem _ _ _) _ _ _ | with_reducible show wpAny _ _ (binaryOp Operator.Mult _ _) _ _ _ | with_reducible show wpAny _ _ (call (Value.ref _) _) _ _ _)); first | (walk1; try dsimp only) | leave1)))
  rotate_left
  · rename Fr _ _ _ _ => F11
    rename News _ _ _ _ => N11
    have hz : NN hd a b c e = 0 := by (first | lia | omega)
    have e0 : dueE hd a b c e = [] := by
      unfold dueE
      rw [if_pos hz]
    rw [pre_e, e0, List.append_nil]
    refine ⟨_, _, _, o, kvs, R, tl3, rfl, F11, by (((repeat (refine List.forall_mem_cons.mpr ⟨by rfl, ?_⟩)); exact fun _ h => nomatch h)), news_sub N11 fun p hp => ?_, hTL3, hsub, hat3, hap3, hd1, hp1⟩
    rcases List.mem_append.mp hp with hp | hp
    · exact List.mem_append_left _ (.tail _ (.tail _ (List.mem_append_left _ hp)))
    rcases List.mem_cons.mp hp with rfl | hp
    · exact List.mem_append_left _ (.tail _ (.tail _ (List.mem_append_right _ (.head _))))
    rcases List.mem_append.mp hp with hp | hp
    · exact List.mem_append_left _ (.tail _ (.tail _ (List.mem_append_right _ (.tail _ hp))))
    · exact List.mem_append_right _ hp
  refine P.mul_int ?_ (IntMulOk.of_left (intBits_le_64 (by decide) (by decide)))
  try dsimp only
  (repeat' (first | (exfalso; (fail_if_success (fail_if_success omega)); (first | lia | omega)) | ((fail_if_success (first | with_reducible show wpAny _ _ (pyIter _) _ _ _ | with_reducible show wpAny _ _ (subscriptTail _ _ _ _) _ _ _ | with_reducible show wpAny _ _ (setItem _ _ _) _ _ _ | with_reducible show wpAny _ _ (binaryOp Operator.Mult _ _) _ _ _ | with_reducible show wpAny _ _ (call (Value.ref _) _) _ _ _)); first | (walk1; try dsimp only) | leave1)))
  refine P.mul_int ?_ (IntMulOk.of_left (intBits_le_64 (by decide) (by decide)))
  try dsimp only
  (repeat' (first | (exfalso; (fail_if_success (fail_if_success omega)); (first | lia | omega)) | ((fail_if_success (first | with_reducible show wpAny _ _ (pyIter _) _ _ _ | with_reducible show wpAny _ _ (subscriptTail _ _ _ _) _ _ _ | with_reducible show wpAny _ _ (setItem _ _ _) _ _ _ | with_reducible show wpAny _ _ (binaryOp Operator.Mult _ _) _ _ _ | with_reducible show wpAny _ _ (call (Value.ref _) _) _ _ _)); first | (walk1; try dsimp only) | leave1)))
  refine P.mul_int ?_ (IntMulOk.of_left (intBits_le_64 (by decide) (by decide)))
  try dsimp only
  (repeat' (first | (exfalso; (fail_if_success (fail_if_success omega)); (first | lia | omega)) | ((fail_if_success (first | with_reducible show wpAny _ _ (pyIter _) _ _ _ | with_reducible show wpAny _ _ (subscriptTail _ _ _ _) _ _ _ | with_reducible show wpAny _ _ (setItem _ _ _) _ _ _ | with_reducible show wpAny _ _ (binaryOp Operator.Mult _ _) _ _ _ | with_reducible show wpAny _ _ (call (Value.ref _) _) _ _ _)); first | (walk1; try dsimp only) | leave1)))
  rename Fr _ _ _ _ => F11
  rename News _ _ _ _ => N11
  rename Heap => h11
  have hnz : NN hd a b c e ≠ 0 := by (first | lia | omega)
  have e0 : dueE hd a b c e = [(enc a b c e, (NN hd a b c e : Int))] := by
    unfold dueE
    rw [if_neg hnz]
  have N12 : News g L h11 ((Dd, o) :: (its ++ (R ++ tl3))) := news_sub N11 fun p hp => by
    rcases List.mem_cons.mp hp with rfl | hp
    · exact List.mem_append_left _ (.tail _ (.tail _ (List.mem_append_right _ (.head _))))
    rcases List.mem_append.mp hp with hp | hp
    · exact List.mem_append_left _ (.tail _ (.tail _ (List.mem_append_left _ hp)))
    rcases List.mem_append.mp hp with hp | hp
    · exact List.mem_append_left _ (.tail _ (.tail _ (List.mem_append_right _ (.tail _ hp))))
    · exact List.mem_append_right _ hp
  have U : ∀ p ∈ its ++ (R ++ tl3), p.1 ≠ Dd := by
    intro p hp
    rcases List.mem_append.mp hp with hp | hp
    · exact hID p hp
    · exact (hap3 p hp).1
  refine kda_set (knd := PySem.intKind PW w) (k := enc a b c e) F11 N12 (.head U) hd1 (intKind_is _ _ _ _) (by rw [hp1.1]; exact Nat.le_trans (pre_len hd h5) (by decide)) ?_
  intro h13 o13 F13 N13 hd13
  clear F11 N11 N12
  try dsimp only
  (repeat' (first | (exfalso; (fail_if_success (fail_if_success omega)); (first | lia | omega)) | ((fail_if_success (first | with_reducible show wpAny _ _ (pyIter _) _ _ _ | with_reducible show wpAny _ _ (subscriptTail _ _ _ _) _ _ _ | with_reducible show wpAny _ _ (setItem _ _ _) _ _ _ | with_reducible show wpAny _ _ (binaryOp Operator.Mult _ _) _ _ _ | with_reducible show wpAny _ _ (call (Value.ref _) _) _ _ _)); first | (walk1; try dsimp only) | leave1)))
  have hp13 := hp1.stored (k := enc a b c e) (v := (NN hd a b c e : Int)) (t := t6) (pre_fresh h5)
  rw [pre_e, e0]
  refine ⟨h13, _, _, o13, _, R, tl3, rfl, F13, by (((repeat (refine List.forall_mem_cons.mpr ⟨by rfl, ?_⟩)); exact fun _ h => nomatch h)), news_sub N13 fun p hp => ?_, hTL3, hsub, hat3, hap3, hd13, hp13⟩
  rcases List.mem_append.mp hp with hp | hp
  · exact .tail _ (List.mem_append_left _ hp)
  rcases List.mem_cons.mp hp with rfl | hp
  · exact .head _
  · exact .tail _ (List.mem_append_right _ hp)
end
end Mine
end
-- LW7
section
open PySem PySem.W PyProof.Rows PySem.Calls
set_option Elab.async false
set_option maxRecDepth 100000
set_option linter.all false
set_option maxHeartbeats 0
namespace Mine
section
variable {w : World} {mean : ExcName → Option Value} {mg mb : Str → Option Value} {dp un : Nat} {gd : Option (List Code)} {outer : List Env} {A₀ : Around} {base g : Heap} {L fa : Addr} {cd : Value} {s₀ : Shared}
theorem c_turn {hd : Nat → List Int} {Hl Al Il Pl Dd : Addr} {tm ta tb tl tr tc : Tok} {a b c : Nat} {R0 its : List (Addr × Obj)} {s : Shared}
    (B : Below A₀ base outer g) (X : (K w.params).In g) (T : Top topProg lw mean mg mb g) (hdp : dp + 120 < recursionLimit) (hu : un + 1800 < cLine) (hl : ∀ i, (hd i).length ≤ 4) (h5 : a + b + c ≤ 5) (hfix : DFix hd Hl Al Il Pl R0) (hID : ∀ q ∈ its, q.1 ≠ Dd)
    (hI : DCore w s₀ g L Dd (nmB hd Hl Al Il Pl Dd tm a b ta tb tl tr) R0 its (pre hd a b c 0) s) :
    wpAny (model PW w) (laA dp un gd L fa cd outer) (assign (forTgt cS) (laE L fa cd) (.int c tc)) (fun _ s₂ => wpAny (model PW w) (laA dp un gd L fa cd outer) (execs (forBody cS) (laE L fa cd))
      (fun fl s3 => fl = .next ∧ DCore w s₀ g L Dd (nmB hd Hl Al Il Pl Dd tm a b ta tb tl tr) R0 its (pre hd a b (c + 1) 0) s3) (fun _ _ => False) s₂) (fun _ _ => False) s := by
  obtain ⟨h, tk, m, o, kvs, R, tl2, rfl, F, hm, N, hTL, hsub, hat, hap, hd1, hp1⟩ := hI
  have F1 := fr_ifs _ F hm
  dsimp only [ifs] at F1
  clear F hm
  show wpAny _ _ (assign (PySem.Expr.Name (Str.ofString "c") _) _ _) (fun _ s₂ => wpAny _ _ (execs (_ :: _) _) _ _ s₂) _ _
  (repeat' (first | (exfalso; (fail_if_success (fail_if_success omega)); (first | lia | omega)) | ((fail_if_success (first | with_reducible show wpAny _ _ (pyIter _) _ _ _ | with_reducible show wpAny _ _ (exec (Stmt.For _ _ _ _ _) _) _ _ _ | with_reducible show wpAny _ _ (subscriptTail _ _ _ _) _ _ _ | with_reducible show wpAny _ _ (binaryOp Operator.Mult _ _) _ _ _)); first | (walk1; try dsimp only) | leave1)))
  refine for_loop ?_
  (repeat' (first | (exfalso; (fail_if_success (fail_if_success omega)); (first | lia | omega)) | ((fail_if_success (first | with_reducible show wpAny _ _ (pyIter _) _ _ _ | with_reducible show wpAny _ _ (exec (Stmt.For _ _ _ _ _) _) _ _ _ | with_reducible show wpAny _ _ (subscriptTail _ _ _ _) _ _ _ | with_reducible show wpAny _ _ (binaryOp Operator.Mult _ _) _ _ _)); first | (walk1; try dsimp only) | leave1)))
  rename Fr _ _ _ _ => F2
  rename News _ _ _ _ => N2
  rename IsRange _ _ _ _ _ _ _ _ => hr
  refine due_range (nm := nmC hd Hl Al Il Pl Dd tm a b c ta tb tl tr tc) (R0 := R0) (its := its) (f := fun i => pre hd a b c i) (N := 6 - a - b - c) (s₀ := s₀) hr (by (first | lia | omega)) (by (first | lia | omega)) hID ⟨_, _, _, o, kvs, R, tl2, rfl, F2, by (((repeat (refine List.forall_mem_cons.mpr ⟨by rfl, ?_⟩)); exact fun _ h => nomatch h)), N2, hTL, hsub, hat, hap, hd1, hp1⟩ ?_ (fun _ _ => rfl) ?_
  · intro s' hI
    (repeat' (first | (exfalso; (fail_if_success (fail_if_success omega)); (first | lia | omega)) | ((fail_if_success (first | with_reducible show wpAny _ _ (pyIter _) _ _ _ | with_reducible show wpAny _ _ (exec (Stmt.For _ _ _ _ _) _) _ _ _ | with_reducible show wpAny _ _ (subscriptTail _ _ _ _) _ _ _ | with_reducible show wpAny _ _ (binaryOp Operator.Mult _ _) _ _ _)); first | (walk1; try dsimp only) | leave1)))
    rw [pre_c]
    exact hI.weaken fun p hp => .tail _ hp
  · intro i It io t s' hi hID' hI
    exact e_turn B X T hdp hu hl (by (first | lia | omega)) hfix hID' hI
theorem b_turn {hd : Nat → List Int} {Hl Al Il Pl Dd : Addr} {tm ta tb : Tok} {a b : Nat} {R0 its : List (Addr × Obj)} {s : Shared}
    (B : Below A₀ base outer g) (X : (K w.params).In g) (T : Top topProg lw mean mg mb g) (hdp : dp + 120 < recursionLimit) (hu : un + 1800 < cLine) (hl : ∀ i, (hd i).length ≤ 4) (h5 : a + b ≤ 5) (hfix : DFix hd Hl Al Il Pl R0) (hID : ∀ q ∈ its, q.1 ≠ Dd)
    (hI : DCore w s₀ g L Dd (nmA hd Hl Al Il Pl Dd tm a ta) R0 its (pre hd a b 0 0) s) :
    wpAny (model PW w) (laA dp un gd L fa cd outer) (assign (forTgt bS) (laE L fa cd) (.int b tb)) (fun _ s₂ => wpAny (model PW w) (laA dp un gd L fa cd outer) (execs (forBody bS) (laE L fa cd))
      (fun fl s3 => fl = .next ∧ DCore w s₀ g L Dd (nmA hd Hl Al Il Pl Dd tm a ta) R0 its (pre hd a (b + 1) 0 0) s3) (fun _ _ => False) s₂) (fun _ _ => False) s := by
  obtain ⟨h, tk, m, o, kvs, R, tl2, rfl, F, hm, N, hTL, hsub, hat, hap, hd1, hp1⟩ := hI
  have F1 := fr_ifs _ F hm
  dsimp only [ifs] at F1
  clear F hm
  have hfix' := hfix
  obtain ⟨⟨avs, ca, hA, hIA⟩, ⟨ivs, cI, hIl, hII⟩, _⟩ := hfix'
  have inR : ∀ p ∈ R0, p ∈ its ++ (Dd, o) :: (R ++ tl2) := fun p hp => List.mem_append_right _ (.tail _ (List.mem_append_left _ (hsub p hp)))
  have lA : ((List.range 4).map (A2 hd)).length = 4 := by simp
  have lI : ((List.range 4).map (I2 hd)).length = 4 := by simp
  have hLA : ∀ h', News g L h' (its ++ (Dd, o) :: (R ++ tl2)) → h'.IsList Al avs.toArray := fun h' N => ⟨_, (N _ (inR _ hA)).1, rfl, ca, rfl⟩
  have hLI : ∀ h', News g L h' (its ++ (Dd, o) :: (R ++ tl2)) → h'.IsList Il ivs.toArray := fun h' N => ⟨_, (N _ (inR _ hIl)).1, rfl, cI, rfl⟩
  show wpAny _ _ (assign (PySem.Expr.Name (Str.ofString "b") _) _ _) (fun _ s₂ => wpAny _ _ (execs (_ :: _) _) _ _ s₂) _ _
  (repeat' (first | (exfalso; (fail_if_success (fail_if_success omega)); (first | lia | omega)) | ((fail_if_success (first | with_reducible show wpAny _ _ (pyIter _) _ _ _ | with_reducible show wpAny _ _ (exec (Stmt.For _ _ _ _ _) _) _ _ _ | with_reducible show wpAny _ _ (subscriptTail _ _ _ _) _ _ _ | with_reducible show wpAny _ _ (binaryOp Operator.Mult _ _) _ _ _)); first | (walk1; try dsimp only) | leave1)))
  refine P.mul_int ?_ (IntMulOk.of_left (intBits_le_64 (by (first | lia | omega)) (by (first | lia | omega))))
  try dsimp only
  (repeat' (first | (exfalso; (fail_if_success (fail_if_success omega)); (first | lia | omega)) | ((fail_if_success (first | with_reducible show wpAny _ _ (pyIter _) _ _ _ | with_reducible show wpAny _ _ (exec (Stmt.For _ _ _ _ _) _) _ _ _ | with_reducible show wpAny _ _ (subscriptTail _ _ _ _) _ _ _ | with_reducible show wpAny _ _ (binaryOp Operator.Mult _ _) _ _ _)); first | (walk1; try dsimp only) | leave1)))
  refine item_anyK (vs := avs) (ns := (List.range 4).map (A2 hd)) (hLA _ (by assumption)) hIA (by decide) (by rw [lA]; decide) (by decide) ?_ (by with_unfolding_all rfl)
  intro t1
  rw [show ((List.range 4).map (A2 hd)).getD (Int.toNat 0) 0 = A2 hd 0 from rfl]
  try dsimp only
  (repeat' (first | (exfalso; (fail_if_success (fail_if_success omega)); (first | lia | omega)) | ((fail_if_success (first | with_reducible show wpAny _ _ (pyIter _) _ _ _ | with_reducible show wpAny _ _ (exec (Stmt.For _ _ _ _ _) _) _ _ _ | with_reducible show wpAny _ _ (subscriptTail _ _ _ _) _ _ _ | with_reducible show wpAny _ _ (binaryOp Operator.Mult _ _) _ _ _)); first | (walk1; try dsimp only) | leave1)))
  refine P.mul_int ?_ (IntMulOk.of_left (intBits_le_64 (by (first | lia | omega)) (by (first | lia | omega))))
  try dsimp only
  (repeat' (first | (exfalso; (fail_if_success (fail_if_success omega)); (first | lia | omega)) | ((fail_if_success (first | with_reducible show wpAny _ _ (pyIter _) _ _ _ | with_reducible show wpAny _ _ (exec (Stmt.For _ _ _ _ _) _) _ _ _ | with_reducible show wpAny _ _ (subscriptTail _ _ _ _) _ _ _ | with_reducible show wpAny _ _ (binaryOp Operator.Mult _ _) _ _ _)); first | (walk1; try dsimp only) | leave1)))
  refine item_anyK (vs := avs) (ns := (List.range 4).map (A2 hd)) (hLA _ (by assumption)) hIA (by decide) (by rw [lA]; decide) (by decide) ?_ (by with_unfolding_all rfl)
  intro t2
  rw [show ((List.range 4).map (A2 hd)).getD (Int.toNat 1) 0 = A2 hd 1 from rfl]
  try dsimp only
  (repeat' (first | (exfalso; (fail_if_success (fail_if_success omega)); (first | lia | omega)) | ((fail_if_success (first | with_reducible show wpAny _ _ (pyIter _) _ _ _ | with_reducible show wpAny _ _ (exec (Stmt.For _ _ _ _ _) _) _ _ _ | with_reducible show wpAny _ _ (subscriptTail _ _ _ _) _ _ _ | with_reducible show wpAny _ _ (binaryOp Operator.Mult _ _) _ _ _)); first | (walk1; try dsimp only) | leave1)))
  refine P.mul_int ?_ (IntMulOk.of_left (intBits_le_64 (by (first | lia | omega)) (by (first | lia | omega))))
  try dsimp only
  (repeat' (first | (exfalso; (fail_if_success (fail_if_success omega)); (first | lia | omega)) | ((fail_if_success (first | with_reducible show wpAny _ _ (pyIter _) _ _ _ | with_reducible show wpAny _ _ (exec (Stmt.For _ _ _ _ _) _) _ _ _ | with_reducible show wpAny _ _ (subscriptTail _ _ _ _) _ _ _ | with_reducible show wpAny _ _ (binaryOp Operator.Mult _ _) _ _ _)); first | (walk1; try dsimp only) | leave1)))
  refine item_anyK (vs := ivs) (ns := (List.range 4).map (I2 hd)) (hLI _ (by assumption)) hII (by decide) (by rw [lI]; decide) (by decide) ?_ (by with_unfolding_all rfl)
  intro t3
  rw [show ((List.range 4).map (I2 hd)).getD (Int.toNat 0) 0 = I2 hd 0 from rfl]
  try dsimp only
  (repeat' (first | (exfalso; (fail_if_success (fail_if_success omega)); (first | lia | omega)) | ((fail_if_success (first | with_reducible show wpAny _ _ (pyIter _) _ _ _ | with_reducible show wpAny _ _ (exec (Stmt.For _ _ _ _ _) _) _ _ _ | with_reducible show wpAny _ _ (subscriptTail _ _ _ _) _ _ _ | with_reducible show wpAny _ _ (binaryOp Operator.Mult _ _) _ _ _)); first | (walk1; try dsimp only) | leave1)))
  refine P.mul_int ?_ (IntMulOk.of_left (intBits_le_64 (by (first | lia | omega)) (by (first | lia | omega))))
  try dsimp only
  (repeat' (first | (exfalso; (fail_if_success (fail_if_success omega)); (first | lia | omega)) | ((fail_if_success (first | with_reducible show wpAny _ _ (pyIter _) _ _ _ | with_reducible show wpAny _ _ (exec (Stmt.For _ _ _ _ _) _) _ _ _ | with_reducible show wpAny _ _ (subscriptTail _ _ _ _) _ _ _ | with_reducible show wpAny _ _ (binaryOp Operator.Mult _ _) _ _ _)); first | (walk1; try dsimp only) | leave1)))
  refine item_anyK (vs := ivs) (ns := (List.range 4).map (I2 hd)) (hLI _ (by assumption)) hII (by decide) (by rw [lI]; decide) (by decide) ?_ (by with_unfolding_all rfl)
  intro t4
  rw [show ((List.range 4).map (I2 hd)).getD (Int.toNat 1) 0 = I2 hd 1 from rfl]
  try dsimp only
  (repeat' (first | (exfalso; (fail_if_success (fail_if_success omega)); (first | lia | omega)) | ((fail_if_success (first | with_reducible show wpAny _ _ (pyIter _) _ _ _ | with_reducible show wpAny _ _ (exec (Stmt.For _ _ _ _ _) _) _ _ _ | with_reducible show wpAny _ _ (subscriptTail _ _ _ _) _ _ _ | with_reducible show wpAny _ _ (binaryOp Operator.Mult _ _) _ _ _)); first | (walk1; try dsimp only) | leave1)))
  refine P.mul_int ?_ (IntMulOk.of_left (intBits_le_64 (by (first | lia | omega)) (by (first | lia | omega))))
  try dsimp only
  (repeat' (first | (exfalso; (fail_if_success (fail_if_success omega)); (first | lia | omega)) | ((fail_if_success (first | with_reducible show wpAny _ _ (pyIter _) _ _ _ | with_reducible show wpAny _ _ (exec (Stmt.For _ _ _ _ _) _) _ _ _ | with_reducible show wpAny _ _ (subscriptTail _ _ _ _) _ _ _ | with_reducible show wpAny _ _ (binaryOp Operator.Mult _ _) _ _ _)); first | (walk1; try dsimp only) | leave1)))
  refine for_loop ?_
  (repeat' (first | (exfalso; (fail_if_success (fail_if_success omega)); (first | lia | omega)) | ((fail_if_success (first | with_reducible show wpAny _ _ (pyIter _) _ _ _ | with_reducible show wpAny _ _ (exec (Stmt.For _ _ _ _ _) _) _ _ _ | with_reducible show wpAny _ _ (subscriptTail _ _ _ _) _ _ _ | with_reducible show wpAny _ _ (binaryOp Operator.Mult _ _) _ _ _)); first | (walk1; try dsimp only) | leave1)))
  rename Fr _ _ _ _ => F2
  rename News _ _ _ _ => N2
  rename IsRange _ _ _ _ _ _ _ _ => hr
  refine due_range (nm := nmB hd Hl Al Il Pl Dd tm a b ta tb _ _) (R0 := R0) (its := its) (f := fun i => pre hd a b i 0) (N := 6 - a - b) (s₀ := s₀) hr (by (first | lia | omega)) (by (first | lia | omega)) hID ⟨_, _, _, o, kvs, R, tl2, rfl, F2, by (((repeat (refine List.forall_mem_cons.mpr ⟨by rfl, ?_⟩)); exact fun _ h => nomatch h)), N2, hTL, hsub, hat, hap, hd1, hp1⟩ ?_ (fun _ _ => rfl) ?_
  · intro s' hI
    (repeat' (first | (exfalso; (fail_if_success (fail_if_success omega)); (first | lia | omega)) | ((fail_if_success (first | with_reducible show wpAny _ _ (pyIter _) _ _ _ | with_reducible show wpAny _ _ (exec (Stmt.For _ _ _ _ _) _) _ _ _ | with_reducible show wpAny _ _ (subscriptTail _ _ _ _) _ _ _ | with_reducible show wpAny _ _ (binaryOp Operator.Mult _ _) _ _ _)); first | (walk1; try dsimp only) | leave1)))
    rw [pre_b]
    exact hI.weaken fun p hp => .tail _ (.tail _ (.tail _ hp))
  · intro i It io t s' hi hID' hI
    exact c_turn B X T hdp hu hl (by (first | lia | omega)) hfix hID' hI
theorem a_turn {hd : Nat → List Int} {Hl Al Il Pl Dd : Addr} {tm ta : Tok} {a : Nat} {R0 its : List (Addr × Obj)} {s : Shared}
    (B : Below A₀ base outer g) (X : (K w.params).In g) (T : Top topProg lw mean mg mb g) (hdp : dp + 120 < recursionLimit) (hu : un + 1800 < cLine) (hl : ∀ i, (hd i).length ≤ 4) (h5 : a ≤ 5) (hfix : DFix hd Hl Al Il Pl R0) (hID : ∀ q ∈ its, q.1 ≠ Dd)
    (hI : DCore w s₀ g L Dd (nm0 Hl Al Il Pl Dd tm) R0 its (pre hd a 0 0 0) s) :
    wpAny (model PW w) (laA dp un gd L fa cd outer) (assign (forTgt aS) (laE L fa cd) (.int a ta)) (fun _ s₂ => wpAny (model PW w) (laA dp un gd L fa cd outer) (execs (forBody aS) (laE L fa cd))
      (fun fl s3 => fl = .next ∧ DCore w s₀ g L Dd (nm0 Hl Al Il Pl Dd tm) R0 its (pre hd (a + 1) 0 0 0) s3) (fun _ _ => False) s₂) (fun _ _ => False) s := by
  obtain ⟨h, tk, m, o, kvs, R, tl2, rfl, F, hm, N, hTL, hsub, hat, hap, hd1, hp1⟩ := hI
  have F1 := fr_ifs _ F hm
  dsimp only [ifs] at F1
  clear F hm
  show wpAny _ _ (assign (PySem.Expr.Name (Str.ofString "a") _) _ _) (fun _ s₂ => wpAny _ _ (execs (_ :: _) _) _ _ s₂) _ _
  (repeat' (first | (exfalso; (fail_if_success (fail_if_success omega)); (first | lia | omega)) | ((fail_if_success (first | with_reducible show wpAny _ _ (pyIter _) _ _ _ | with_reducible show wpAny _ _ (exec (Stmt.For _ _ _ _ _) _) _ _ _ | with_reducible show wpAny _ _ (subscriptTail _ _ _ _) _ _ _ | with_reducible show wpAny _ _ (binaryOp Operator.Mult _ _) _ _ _)); first | (walk1; try dsimp only) | leave1)))
  refine for_loop ?_
  (repeat' (first | (exfalso; (fail_if_success (fail_if_success omega)); (first | lia | omega)) | ((fail_if_success (first | with_reducible show wpAny _ _ (pyIter _) _ _ _ | with_reducible show wpAny _ _ (exec (Stmt.For _ _ _ _ _) _) _ _ _ | with_reducible show wpAny _ _ (subscriptTail _ _ _ _) _ _ _ | with_reducible show wpAny _ _ (binaryOp Operator.Mult _ _) _ _ _)); first | (walk1; try dsimp only) | leave1)))
  rename Fr _ _ _ _ => F2
  rename News _ _ _ _ => N2
  rename IsRange _ _ _ _ _ _ _ _ => hr
  refine due_range (nm := nmA hd Hl Al Il Pl Dd tm a ta) (R0 := R0) (its := its) (f := fun i => pre hd a i 0 0) (N := 6 - a) (s₀ := s₀) hr (by (first | lia | omega)) (by (first | lia | omega)) hID ⟨_, _, _, o, kvs, R, tl2, rfl, F2, by (((repeat (refine List.forall_mem_cons.mpr ⟨by rfl, ?_⟩)); exact fun _ h => nomatch h)), N2, hTL, hsub, hat, hap, hd1, hp1⟩ ?_ (fun _ _ => rfl) ?_
  · intro s' hI
    (repeat' (first | (exfalso; (fail_if_success (fail_if_success omega)); (first | lia | omega)) | ((fail_if_success (first | with_reducible show wpAny _ _ (pyIter _) _ _ _ | with_reducible show wpAny _ _ (exec (Stmt.For _ _ _ _ _) _) _ _ _ | with_reducible show wpAny _ _ (subscriptTail _ _ _ _) _ _ _ | with_reducible show wpAny _ _ (binaryOp Operator.Mult _ _) _ _ _)); first | (walk1; try dsimp only) | leave1)))
    rw [pre_a]
    exact hI.weaken fun p hp => .tail _ hp
  · intro i It io t s' hi hID' hI
    exact b_turn B X T hdp hu hl (by (first | lia | omega)) hfix hID' hI
theorem law_due {hd : Nat → List Int} {Hl Al Il Pl Dd : Addr} {tm : Tok} {R0 : List (Addr × Obj)} {s : Shared}
    (B : Below A₀ base outer g) (X : (K w.params).In g) (T : Top topProg lw mean mg mb g) (hdp : dp + 120 < recursionLimit) (hu : un + 1800 < cLine) (hl : ∀ i, (hd i).length ≤ 4) (hfix : DFix hd Hl Al Il Pl R0)
    (hI : DCore w s₀ g L Dd (nm0 Hl Al Il Pl Dd tm) R0 [] [] s) :
    wpAny (model PW w) (laA dp un gd L fa cd outer) (exec (laS 11) (laE L fa cd)) (fun fl s3 => fl = .next ∧ DCore w s₀ g L Dd (nm0 Hl Al Il Pl Dd tm) R0 [] (due hd) s3) (fun _ _ => False) s := by
  obtain ⟨h, tk, m, o, kvs, R, tl2, rfl, F, hm, N, hTL, hsub, hat, hap, hd1, hp1⟩ := hI
  have F1 := fr_ifs _ F hm
  dsimp only [ifs] at F1
  clear F hm
  refine for_loop ?_
  (repeat' (first | (exfalso; (fail_if_success (fail_if_success omega)); (first | lia | omega)) | ((fail_if_success (first | with_reducible show wpAny _ _ (pyIter _) _ _ _ | with_reducible show wpAny _ _ (exec (Stmt.For _ _ _ _ _) _) _ _ _ | with_reducible show wpAny _ _ (subscriptTail _ _ _ _) _ _ _ | with_reducible show wpAny _ _ (binaryOp Operator.Mult _ _) _ _ _)); first | (walk1; try dsimp only) | leave1)))
  rename Fr _ _ _ _ => F2
  rename News _ _ _ _ => N2
  rename IsRange _ _ _ _ _ _ _ _ => hr
  refine due_range (nm := nm0 Hl Al Il Pl Dd tm) (R0 := R0) (its := []) (f := fun i => pre hd i 0 0 0) (N := 6) (s₀ := s₀) hr (by (first | lia | omega)) (by (first | lia | omega)) (fun _ h => nomatch h) ⟨_, _, _, o, kvs, R, tl2, rfl, F2, by (((repeat (refine List.forall_mem_cons.mpr ⟨by rfl, ?_⟩)); exact fun _ h => nomatch h)), N2, hTL, hsub, hat, hap, hd1, hp1⟩ ?_ (fun _ _ => rfl) ?_
  · intro s' hI
    refine ⟨rfl, ?_⟩
    rw [← pre_end]
    exact hI
  · intro i It io t s' hi hID' hI
    exact a_turn B X T hdp hu hl (by (first | lia | omega)) hfix hID' hI
end
end Mine
end
-- LW8
section
open PySem PySem.W PyProof.Rows PySem.Calls
set_option Elab.async false
set_option maxRecDepth 100000
set_option linter.all false
set_option maxHeartbeats 0
namespace Mine
theorem prs_value {kvs : List (Int × Value)} {prs : List (Int × Int)} (h : PrsOk kvs prs) (hn : (kvs.map (·.1)).Nodup) {k v : Int} (hm : (k, v) ∈ prs) : ∃ t, valueAt kvs k = some (.int v t) := by
  obtain ⟨i, hi, e⟩ := List.getElem_of_mem hm
  obtain ⟨t, ht⟩ := h.2 i k v (by rw [List.getElem?_eq_getElem hi, e])
  exact ⟨t, valueAt_of_get hn ht⟩
theorem value_mem {kvs : List (Int × Value)} {k : Int} {v : Value} (h : valueAt kvs k = some v) : k ∈ kvs.map (·.1) := by
  unfold valueAt at h
  obtain ⟨kv, h1, h2⟩ := Option.map_eq_some_iff.mp h
  have := List.find?_some h1
  rw [← of_decide_eq_true this]
  exact List.mem_map_of_mem (List.mem_of_find?_eq_some h1)
theorem hits_all {A : Around} {s : Shared} {kb : List (Int × Value)} : ∀ {ka : List (Int × Value)}, (∀ k v, (k, v) ∈ ka → ∃ n t u, v = .int n t ∧ valueAt kb k = some (.int n u)) → KeqHits A s kb ka true
  | [], _ => .nil
  | (k, v) :: r, h => by
    obtain ⟨n, t, u, rfl, hb⟩ := h k v (.head _)
    have := KeqHits.hit (e := true) hb (by have := SeqAt.EqAt.int_int (A := A) (s := s) n t n u; rwa [beq_self_eq_true] at this) (hits_all fun k v hm => h k v (.tail _ hm))
    exact this
theorem found_due {hd : Nat → List Int} {ka kb : List (Int × Value)} {cnt : Int → Nat} (hna : (ka.map (·.1)).Nodup) (hnb : (kb.map (·.1)).Nodup) (hf : FoundOk ka cnt) (hc : ∀ j, cnt j = (Lv hd).count j) (hp : PrsOk kb (due hd)) :
    ka.length = kb.length ∧ ∀ k v, (k, v) ∈ ka → ∃ n t u, v = .int n t ∧ valueAt kb k = some (.int n u) := by
  have key : ∀ k v, (k, v) ∈ ka → ∃ n t u, v = .int n t ∧ valueAt kb k = some (.int n u) := by
    intro k v hm
    obtain ⟨i, hi, e⟩ := List.getElem_of_mem hm
    have hv := valueAt_of_get hna (i := i) (k := k) (v := v) (by rw [List.getElem?_eq_getElem hi, e])
    by_cases hz : cnt k = 0
    · rw [(hf k).1 hz] at hv
      cases hv
    · obtain ⟨t, ht⟩ := (hf k).2 hz
      rw [hv] at ht
      have hk : k ∈ Lv hd := List.count_pos_iff.mp (by rw [← hc]; (first | lia | omega))
      obtain ⟨u, hu⟩ := prs_value hp hnb ((due_keys hd k _).mpr ⟨hk, rfl⟩)
      refine ⟨_, t, u, Option.some.inj ht, ?_⟩
      rw [hc]
      exact hu
  refine ⟨?_, key⟩
  have perm : (ka.map (·.1)).Perm (kb.map (·.1)) := by
    refine (List.perm_ext_iff_of_nodup hna hnb).mpr fun k => ⟨fun hk => ?_, fun hk => ?_⟩
    · obtain ⟨⟨k', v⟩, hm, rfl⟩ := List.mem_map.mp hk
      obtain ⟨n, t, u, _, h2⟩ := key _ _ hm
      exact value_mem h2
    · rw [hp.keys] at hk
      obtain ⟨⟨k', v⟩, hm, rfl⟩ := List.mem_map.mp hk
      have := ((due_keys hd k' v).mp hm).1
      have h0 : cnt k' ≠ 0 := by
        rw [hc]
        exact Nat.ne_of_gt (List.count_pos_iff.mpr this)
      obtain ⟨t, ht⟩ := (hf k').2 h0
      exact value_mem ht
  have := perm.length_eq
  simpa using this
noncomputable def LawEnd (s : Shared) (g : Heap) (L : Addr) (f : Flow) (s' : Shared) : Prop :=
  f = .ret (.bool true) ∧ ∃ (h : Heap) (tk : Nat) (dr : Drawn) (m : Str → Option Value), s' = { s with heap := h, toks := tk, drawn := dr } ∧ Fr g L h m ∧ (∃ ps, h.get? 38 = some (tabObj ps)) ∧ ∃ qs, h.get? 45 = some (tabObj qs)
section
variable {w : World} {mean : ExcName → Option Value} {mg mb : Str → Option Value} {dp un : Nat} {gd : Option (List Code)} {outer : List Env} {A₀ : Around} {base g : Heap} {L fa : Addr} {cd : Value} {s₀ : Shared}
theorem law_last {hd : Nat → List Int} {Hl Al Il Pl Dd : Addr} {tm : Tok} {R0 : List (Addr × Obj)} {hrs : List Addr} {c1 : Nat} {s : Shared}
    (B : Below A₀ base outer g) (X : (K w.params).In g) (T : Top topProg lw mean mg mb g) (hdp : dp + 120 < recursionLimit) (hu : un + 1800 < cLine) (hh : ∀ i x, x ∈ hd i → x ≠ 0) (hl : ∀ i, (hd i).length ≤ 4)
    (hH : (Hl, PySem.W.listOf (hrs.map Value.ref).toArray c1) ∈ R0) (hrows : HeadsL R0 hrs hd 4) (lo : (Dd == sysModules) = false)
    (hI : DCore w s₀ g L Dd (nm0 Hl Al Il Pl Dd tm) R0 [] (due hd) s) :
    wpAny (model PW w) (laA dp un gd L fa cd outer) (execs [laS 12] (laE L fa cd)) (LawEnd s₀ g L) (fun _ _ => False) s := by
  obtain ⟨h, tk, m, o, kvs, R, tl2, rfl, F, hm, N, hTL, hsub, hat, hap, hd1, hp1⟩ := hI
  have F1 := fr_ifs _ F hm
  dsimp only [ifs] at F1
  clear F hm
  show wpAny _ _ (execs [PySem.Stmt.Return _ _] _) _ _ _
  (repeat' (first | (exfalso; (fail_if_success (fail_if_success omega)); (first | lia | omega)) | ((fail_if_success (first | with_reducible show wpAny _ _ (compareOp CmpOp.Eq _ _) _ _ _ | with_reducible show wpAny _ _ (call (Value.ref _) _) _ _ _)); first | (walk1; try dsimp only) | leave1)))
  have inR : ∀ p ∈ R0, p ∈ [] ++ (Dd, o) :: (R ++ tl2) := fun p hp => .tail _ (List.mem_append_left _ (hsub p hp))
  refine walked hh (fun i => Nat.le_trans (hl i) (by decide)) _ _ _ _ _ _ _ _ _ _ _ _ _ _ _ _ _ _ B F1 X N T rfl (by (first | lia | omega)) (by (first | lia | omega)) ⟨hrs, c1, (N _ (inR _ hH)).1, hrows.1, fun i p hp => ?_⟩ ?_
  · obtain ⟨vs, c, h1, h2⟩ := hrows.2 i p hp
    exact ⟨vs, c, (N _ (inR _ h1)).1, h2⟩
  rintro r h5 tk5 own F5 N5 fr5 k5 ⟨d, od, ka, cnt, rfl, rfl, lod, hdd, hf, hcnt⟩
  try dsimp only
  (repeat' (first | (exfalso; (fail_if_success (fail_if_success omega)); (first | lia | omega)) | ((fail_if_success (first | with_reducible show wpAny _ _ (compareOp CmpOp.Eq _ _) _ _ _ | with_reducible show wpAny _ _ (call (Value.ref _) _) _ _ _)); first | (walk1; try dsimp only) | leave1)))
  have dA : h5.DictOf (intKind PW w) d ka := Heap.dictOf_iff.mpr ⟨od, (N5 (d, od) (.head _)).1, hdd⟩
  have dB : h5.DictOf (intKind PW w) Dd kvs := Heap.dictOf_iff.mpr ⟨o, (N5 (Dd, o) (.tail _ (.head _))).1, hd1⟩
  have dA' := dA
  have dB' := dB
  obtain ⟨_, _, _, _, _, _, _, _, nA⟩ := dA'
  obtain ⟨_, _, _, _, _, _, _, _, nB⟩ := dB'
  obtain ⟨hlen, hits⟩ := found_due nA nB hf hcnt hp1
  refine keq_eq (r := true) lod lo dA dB (by show un < cLine; (first | lia | omega)) (fun _ => hits_all hits) ?_
  rw [hlen, beq_self_eq_true, Bool.true_and]
  try dsimp only
  (repeat' (first | (exfalso; (fail_if_success (fail_if_success omega)); (first | lia | omega)) | ((fail_if_success (first | with_reducible show wpAny _ _ (compareOp CmpOp.Eq _ _) _ _ _ | with_reducible show wpAny _ _ (call (Value.ref _) _) _ _ _)); first | (walk1; try dsimp only) | leave1)))
  obtain ⟨ps, qs, codes, rfl, _⟩ := hTL
  exact ⟨rfl, h5, _, s₀.drawn, _, rfl, F5, ⟨ps, (N5 (38, tabObj ps) (.tail _ (.tail _ (List.mem_append_right _ (.head _))))).1⟩, ⟨qs, (N5 (45, tabObj qs) (.tail _ (.tail _ (List.mem_append_right _ (.tail _ (.head _)))))).1⟩⟩
end
end Mine
end
-- LW9
section
open PySem PySem.W PyProof.Rows PySem.Calls
set_option Elab.async false
set_option maxRecDepth 100000
set_option linter.all false
set_option maxHeartbeats 0
namespace Mine
section
variable {w : World} {mean : ExcName → Option Value} {mg mb : Str → Option Value} {dp un : Nat} {gd : Option (List Code)} {outer : List Env} {A₀ : Around} {base g : Heap} {L fa : Addr} {cd : Value}
theorem law_body {S : Addr} {svs : List Value} {ns : List Int} {s : Shared}
    (B : Below A₀ base outer g) (X : (K w.params).In g) (T : Top topProg lw mean mg mb g) (hdp : dp + 120 < recursionLimit) (hu : un + 1800 < cLine) (hS : g.IsList S svs.toArray) (hI : IntsAre svs ns) (h63 : ns.length ≤ 63)
    (F : Fr g L s.heap (lk [(Str.ofString "script", .ref S)])) (N : News g L s.heap [(38, tabObj #[]), (45, tabObj #[])]) :
    wpAny (model PW w) (laA dp un gd L fa cd outer) (execs (fdBody (stm 31)) (laE L fa cd)) (LawEnd s g L) (fun _ _ => False) s := by
  show wpAny _ _ (execs (_ :: _ :: _ :: _ :: _ :: _ :: _ :: _ :: _ :: _ :: _ :: _ :: _ :: []) _) _ _ _
  refine seqK ?_
  (repeat' (first | (exfalso; (fail_if_success (fail_if_success omega)); (first | lia | omega)) | ((fail_if_success (first | with_reducible show wpAny _ _ (execs (_ :: _) _) _ _ _ | with_reducible show wpAny _ _ (exec (Stmt.For _ _ _ _ _) _) _ _ _ | with_reducible show wpAny _ _ (call (Value.ref _) _) _ _ _)); first | (walk1; try dsimp only) | leave1)))
  rename _ ≤ _ => ht0
  rename Fr _ _ _ _ => F1
  rename News _ _ _ _ => N1
  rename Addr => Cl
  rename 38 < Cl ∧ 45 < Cl => lC
  refine seqK ?_
  refine wpAny_mono (law_cells (tl := [(38, tabObj #[]), (45, tabObj #[])]) B X T hS hI h63 ?_ F1 rfl rfl N1 (.cons _ _ (.cons _ _ (.cons _ _ (.cons _ _ .nil)))) rfl) ?_ (fun _ _ e => e.elim)
  · intro p hp
    rcases List.mem_cons.mp hp with rfl | hp
    · exact Nat.ne_of_lt lC.1
    · rw [List.mem_singleton.mp hp]
      exact Nat.ne_of_lt lC.2
  rintro _ _ ⟨rfl, h2, tk2, m2, vs, is, c, rfl, F2, mc, N2, hIc, h4⟩ ht1
  dsimp only at ht1 ⊢
  clear F1 N1
  have F3 := fr_ifs [(Str.ofString "cells", .ref Cl)] F2 (by
    intro p hp
    rw [List.mem_singleton.mp hp]
    exact mc)
  dsimp only [ifs] at F3
  clear F2 mc
  have hp2 : 0 < tk2 := by (first | lia | omega)
  refine seqK ?_
  (repeat' (first | (exfalso; (fail_if_success (fail_if_success omega)); (first | lia | omega)) | ((fail_if_success (first | with_reducible show wpAny _ _ (execs (_ :: _) _) _ _ _ | with_reducible show wpAny _ _ (exec (Stmt.For _ _ _ _ _) _) _ _ _ | with_reducible show wpAny _ _ (call (Value.ref _) _) _ _ _)); first | (walk1; try dsimp only) | leave1)))
  rename _ ≤ _ => ht2
  refine seqK ?_
  (repeat' (first | (exfalso; (fail_if_success (fail_if_success omega)); (first | lia | omega)) | ((fail_if_success (first | with_reducible show wpAny _ _ (execs (_ :: _) _) _ _ _ | with_reducible show wpAny _ _ (exec (Stmt.For _ _ _ _ _) _) _ _ _ | with_reducible show wpAny _ _ (call (Value.ref _) _) _ _ _)); first | (walk1; try dsimp only) | leave1)))
  rename Fr _ _ _ _ => F4
  rename News _ _ _ _ => N4
  refine pieces _ _ _ _ _ _ _ _ _ _ _ _ _ _ _ _ _ _ B F4 X N4 T rfl (by (first | lia | omega)) (by (first | lia | omega)) trivial ?_
  rintro _ h5 tk5 own F5 N5 fr5 k5 ⟨Pc, rfl, hPc⟩
  have hCo : ∀ p ∈ own, ∀ q ∈ [(Cl, PySem.W.listOf vs.toArray c), (38, tabObj #[]), (45, tabObj #[])], p.1 ≠ q.1 := by
    intro p hp q hq e
    have h1 := fr5 p hp
    dsimp only at h1
    rw [e, (N4 q hq).1] at h1
    cases h1
  clear k5
  try dsimp only
  (repeat' (first | (exfalso; (fail_if_success (fail_if_success omega)); (first | lia | omega)) | ((fail_if_success (first | with_reducible show wpAny _ _ (execs (_ :: _) _) _ _ _ | with_reducible show wpAny _ _ (exec (Stmt.For _ _ _ _ _) _) _ _ _ | with_reducible show wpAny _ _ (call (Value.ref _) _) _ _ _)); first | (walk1; try dsimp only) | leave1)))
  rename _ ≤ tk5 + 1 => ht3
  refine seqK ?_
  (repeat' (first | (exfalso; (fail_if_success (fail_if_success omega)); (first | lia | omega)) | ((fail_if_success (first | with_reducible show wpAny _ _ (execs (_ :: _) _) _ _ _ | with_reducible show wpAny _ _ (exec (Stmt.For _ _ _ _ _) _) _ _ _ | with_reducible show wpAny _ _ (call (Value.ref _) _) _ _ _)); first | (walk1; try dsimp only) | leave1)))
  rename _ ≤ _ => ht4
  rename Addr => Hl
  rename ∀ p : Addr × Obj, _ → p.1 < Hl => lH
  refine seqK ?_
  (repeat' (first | (exfalso; (fail_if_success (fail_if_success omega)); (first | lia | omega)) | ((fail_if_success (first | with_reducible show wpAny _ _ (execs (_ :: _) _) _ _ _ | with_reducible show wpAny _ _ (exec (Stmt.For _ _ _ _ _) _) _ _ _ | with_reducible show wpAny _ _ (call (Value.ref _) _) _ _ _)); first | (walk1; try dsimp only) | leave1)))
  rename _ ≤ _ => ht5
  rename _ ∧ AllLt _ _ => lA
  rename Addr => Al
  refine seqK ?_
  (repeat' (first | (exfalso; (fail_if_success (fail_if_success omega)); (first | lia | omega)) | ((fail_if_success (first | with_reducible show wpAny _ _ (execs (_ :: _) _) _ _ _ | with_reducible show wpAny _ _ (exec (Stmt.For _ _ _ _ _) _) _ _ _ | with_reducible show wpAny _ _ (call (Value.ref _) _) _ _ _)); first | (walk1; try dsimp only) | leave1)))
  rename _ ≤ _ => ht6
  rename _ ∧ _ ∧ AllLt _ _ => lI
  rename Addr => Il
  rename Fr _ _ _ _ => F6
  rename News _ _ _ _ => N6
  have lA' := allLt_mem _ lA.2
  have lI' := allLt_mem _ lI.2.2
  obtain ⟨hd, hhd0, hhd1⟩ : ∃ hd : Nat → List Int, (∀ k x, is[k]? = some x → hd k = hdP (ci x) (cj x)) ∧ (∀ k, ∃ i j, i < 8 ∧ j < 8 ∧ (hd k = hdP i j)) := by
    refine ⟨fun k => hdP (ci (is.getD k 0)) (cj (is.getD k 0)), fun k x hx => ?_, fun k => ⟨_, _, (fmod8 _).2, (fmod8 _).2, rfl⟩⟩
    dsimp only
    rw [List.getD_eq_getElem?_getD, hx]
    rfl
  have hh : ∀ i x, x ∈ hd i → x ≠ 0 := by
    intro k x hx
    obtain ⟨i, j, hi, hj, e⟩ := hhd1 k
    rw [e] at hx
    exact hd_ne ⟨i, hi⟩ ⟨j, hj⟩ x hx
  have hl : ∀ i, (hd i).length ≤ 4 := by
    intro k
    obtain ⟨i, j, hi, hj, e⟩ := hhd1 k
    rw [e]
    exact (len_all ⟨i, hi⟩ ⟨j, hj⟩).2
  have N7 : News g L _ ((Hl, PySem.W.listOf #[] 0) :: (Al, PySem.W.listOf #[] 0) :: (Il, PySem.W.listOf #[] 0) :: ((own ++ [(Cl, PySem.W.listOf vs.toArray c)]) ++ [(38, tabObj #[]), (45, tabObj #[])])) := news_sub N6 fun p hp => by
    rw [List.append_assoc, List.singleton_append] at hp
    rcases List.mem_cons.mp hp with rfl | hp
    · exact .tail _ (.tail _ (.head _))
    rcases List.mem_cons.mp hp with rfl | hp
    · exact .tail _ (.head _)
    rcases List.mem_cons.mp hp with rfl | hp
    · exact .head _
    exact .tail _ (.tail _ (.tail _ hp))
  refine wpAny_execs_cons (wpAny_mono (law_heads (hd := hd) (cs := is) (R := own ++ [(Cl, PySem.W.listOf vs.toArray c)]) (tl := [(38, tabObj #[]), (45, tabObj #[])]) B X T (by (first | lia | omega)) (by (first | lia | omega)) (Nat.ne_of_lt lA.1) (Nat.ne_of_lt lI.2.1) (Nat.ne_of_lt lI.1) h4 hhd0 (Nat.succ_pos _) F6 rfl rfl rfl rfl rfl rfl N7 (List.mem_append_right _ (.head _)) hIc ?_ ?_ ?_) ?_ (fun _ _ e => e.elim))
  · obtain ⟨ps, cp, h1, h2, h3⟩ := hPc
    exact ⟨ps, cp, List.mem_append_left _ h1, h2, fun i p hp => let ⟨t, u, h⟩ := h3 i p hp; ⟨t, u, List.mem_append_left _ h⟩⟩
  · intro p hp
    rw [List.append_assoc, List.singleton_append] at hp
    exact ⟨Nat.ne_of_lt (lH p hp), Nat.ne_of_lt (lA' p hp), Nat.ne_of_lt (lI' p hp)⟩
  · intro p hp q hq
    rcases List.mem_append.mp hp with hp | hp
    · exact hCo p hp q (.tail _ hq)
    · rw [List.mem_singleton.mp hp]
      rcases List.mem_cons.mp hq with rfl | hq
      · exact Nat.ne_of_gt lC.1
      · rw [List.mem_singleton.mp hq]
        exact Nat.ne_of_gt lC.2
  rintro _ _ ⟨rfl, h8, tk8, m8, hrs, avs, ivs, c1, c2, c3, R, rfl, htk8, F8, n1, n2, n3, n4, N8, hHd, hIa, hIi, hap, hat⟩
  dsimp only
  clear F6 N6 N7 hPc hIc hCo lH lA' lI' fr5
  have F9 := fr_ifs [(Str.ofString "most", .int 5 tk2), (Str.ofString "heads", .ref Hl), (Str.ofString "alphas", .ref Al), (Str.ofString "iotas", .ref Il)] F8 (by
    intro p hp
    simp only [List.mem_cons, List.not_mem_nil, or_false] at hp
    rcases hp with rfl | rfl | rfl | rfl <;> assumption)
  dsimp only [ifs] at F9
  clear F8 n1 n2 n3 n4
  refine wpAny_execs_cons ?_
  (repeat' (first | (exfalso; (fail_if_success (fail_if_success omega)); (first | lia | omega)) | ((fail_if_success (first | with_reducible show wpAny _ _ (execs (_ :: _) _) _ _ _ | with_reducible show wpAny _ _ (exec (Stmt.For _ _ _ _ _) _) _ _ _ | with_reducible show wpAny _ _ (call (Value.ref _) _) _ _ _)); first | (walk1; try dsimp only) | leave1)))
  rename_i P0 hz1 lQ Pl hz2 lP hz3 F10 N10
  have lP' := allLt_mem _ lP.2.2.2.2
  have lQ' := allLt_mem _ lQ.2.2.2
  have hTL0 : TL [(38, tabObj #[]), (45, tabObj #[])] := ⟨#[], #[], [], rfl, .inl rfl, .inl rfl, fun _ h => nomatch h⟩
  refine wpAny_execs_cons (wpAny_mono (law_pascal (R := (P0, PySem.W.listOf #[.int 1 tk8] 0) :: (Hl, PySem.W.listOf (hrs.map Value.ref).toArray c1) :: (Al, PySem.W.listOf avs.toArray c2) :: (Il, PySem.W.listOf ivs.toArray c3) :: R) (tl := [(38, tabObj #[]), (45, tabObj #[])]) B X T (by (first | lia | omega)) (by (first | lia | omega)) F10 rfl rfl rfl rfl rfl N10 hTL0 (.head _) ?_ ?_) ?_ (fun _ _ e => e.elim))
  · intro p hp
    simp only [List.cons_append, List.mem_cons] at hp
    rcases hp with rfl | rfl | rfl | rfl | hp
    · exact Nat.ne_of_lt lP.1
    · exact Nat.ne_of_lt lP.2.1
    · exact Nat.ne_of_lt lP.2.2.1
    · exact Nat.ne_of_lt lP.2.2.2.1
    · exact Nat.ne_of_lt (lP' p hp)
  · intro p hp q hq
    simp only [List.mem_cons] at hp
    rcases hp with rfl | rfl | rfl | rfl | hp
    · exact Nat.ne_of_gt (lQ' q (List.mem_append_right _ hq))
    · exact Ne.symm (hap q (List.mem_append_right _ hq)).1
    · exact Ne.symm (hap q (List.mem_append_right _ hq)).2.1
    · exact Ne.symm (hap q (List.mem_append_right _ hq)).2.2
    · exact hat p hp q hq
  rintro _ _ ⟨rfl, h11, tk11, dr, m11, rs, cP, R2, tl2, rfl, F11, n1, n2, n3, n4, n5, N11, hTL2, hsub, hrows, hap2, hat2⟩
  dsimp only
  clear F10 N10 lP' lQ'
  have F12 := fr_ifs [(Str.ofString "most", .int 5 tk2), (Str.ofString "heads", .ref Hl), (Str.ofString "alphas", .ref Al), (Str.ofString "iotas", .ref Il), (Str.ofString "pascal", .ref Pl)] F11 (by
    intro p hp
    simp only [List.mem_cons, List.not_mem_nil, or_false] at hp
    rcases hp with rfl | rfl | rfl | rfl | rfl <;> assumption)
  dsimp only [ifs] at F12
  clear F11 n1 n2 n3 n4 n5
  refine wpAny_execs_cons ?_
  (repeat' (first | (exfalso; (fail_if_success (fail_if_success omega)); (first | lia | omega)) | ((fail_if_success (first | with_reducible show wpAny _ _ (execs (_ :: _) _) _ _ _ | with_reducible show wpAny _ _ (exec (Stmt.For _ _ _ _ _) _) _ _ _ | with_reducible show wpAny _ _ (call (Value.ref _) _) _ _ _)); first | (walk1; try dsimp only) | leave1)))
  rename_i Dd hz4 oD loD hsD fsD hiD fiD lD hz5 F13 N13
  have lD' := allLt_mem _ lD.2
  have hfix : DFix hd Hl Al Il Pl ((Pl, PySem.W.listOf (rs.map Value.ref).toArray cP) :: R2) :=
    ⟨⟨avs, c2, .tail _ (hsub _ (.tail _ (.tail _ (.head _)))), hIa⟩, ⟨ivs, c3, .tail _ (hsub _ (.tail _ (.tail _ (.tail _ (.head _))))), hIi⟩, ⟨rs, cP, .head _, hrows.1, fun n p hp => let ⟨vs, c, h1, h2⟩ := hrows.2 n p hp; ⟨vs, c, .tail _ h1, h2⟩⟩⟩
  have hcore : DCore w { s with drawn := dr } g L Dd (nm0 Hl Al Il Pl Dd tk2) ((Pl, PySem.W.listOf (rs.map Value.ref).toArray cP) :: R2) [] [] { s with heap := hz5, toks := tk11 + 1, drawn := dr } := by
    refine ⟨hz5, tk11 + 1, _, oD, [], (Pl, PySem.W.listOf (rs.map Value.ref).toArray cP) :: R2, tl2, rfl, F13, ?_, N13, hTL2, fun p hp => hp, ?_, ?_, hiD, PrsOk.nil⟩
    · (repeat (refine List.forall_mem_cons.mpr ⟨by rfl, ?_⟩))
      exact fun _ h => nomatch h
    · intro p hp q hq
      rcases List.mem_cons.mp hp with rfl | hp
      · exact Ne.symm (hap2 q (List.mem_append_right _ hq))
      · exact hat2 p hp q hq
    · intro p hp
      refine ⟨?_, fun _ h => nomatch h⟩
      rcases List.mem_cons.mp hp with rfl | hp
      · exact Nat.ne_of_lt lD.1
      · exact Nat.ne_of_lt (lD' p hp)
  refine wpAny_execs_cons (wpAny_mono (law_due B X T hdp hu hl hfix hcore) ?_ (fun _ _ e => e.elim))
  rintro _ s2 ⟨rfl, hI2⟩
  dsimp only
  refine wpAny_mono (law_last B X T hdp hu hh hl (c1 := c1) (hrs := hrs) (.tail _ (hsub _ (.tail _ (.head _)))) ⟨hHd.1, fun i p hp => ?_⟩ loD hI2) ?_ (fun _ _ e => e)
  · obtain ⟨vs, c, h1, h2⟩ := hHd.2 i p hp
    exact ⟨vs, c, .tail _ (hsub _ (.tail _ (.tail _ (.tail _ (.tail _ h1))))), h2⟩
  rintro f s3 ⟨e, h3, tk3, dr3, m3, rfl, F3⟩
  exact ⟨e, h3, tk3, dr3, m3, rfl, F3⟩
end
end Mine
end
-- SAID
section
open PySem PySem.W PyProof.Rows PySem.Calls
set_option Elab.async false
set_option maxRecDepth 100000
set_option linter.all false
set_option maxHeartbeats 0
namespace Mine
/-- the law is well said: by the kernel, over the library's quick twin of the look alone (the program gets no twin of its own: that would be 8 MB) -/
theorem said0 : PySem.Challenge.rw_to0084_01.wellSaid = true := by
  rw [PySem.W.Fast.te9446332074065402090]
  decide +kernel
end Mine
end
-- MAIN2
open PySem PySem.W PyProof.Rows PySem.Calls
set_option Elab.async false
set_option maxRecDepth 100000
set_option linter.all false
set_option maxHeartbeats 0
theorem PySem.Challenge.cw_to0084_01_holds : PySem.Challenge.rw_to0084_01.Holds := by
  w_on
  refine holds_law Mine.said0 fun said => ?_
  refine holds_open (q := Mine.qv) (loose := Mine.loose) (Xt := Mine.Xt) (XP := XL Mine.qv []) (Yf := Mine.hk.obs) (Ya := Mine.hk.val) (YP := Mine.hk.says) (N := 400000) Mine.left Mine.hk.of Mine.hk.keeps (fun s e => xl_of s (Bool.and_eq_true_iff.mp e).1) XL.keeps (by rfl) (by rfl) (by rfl) (fun s e => recFacts_of (Bool.and_eq_true_iff.mp e).2) (by rfl) (by first | assumption | decide +kernel) (by decide +kernel) ⟨rfl, rfl, rfl, rfl, rfl, by decide +kernel⟩ ?hw ?hc
  case hw => w_witness2
  case hc =>
    w_strict (
  k_fill
  intro w s₀ s₁ mg mb G Y fa o pm cd doc dV kV ho hd hcd hD hmg hg args vals as hpre hlay hrd hwl hlo
  have KX := km_in_of Y
  km_tabs Y
  have X := (Ground.X G).1
  have V := (Ground.X G).2
  refine Ground.open G ?_
  intro T B D TE TW
  try (refine guard_noD D (by decide +kernel) ?_; clear D)
  km_lay T hmg ho hd cd
  clear hmg
  wrow_args hpre hlay hrd hwl hlo
  all_goals (
    first | refine callC_kw (enter_call ?_) | refine enter_call ?_
    w_top on
    kn_posts
    w_call any ho hd hcd hD T F
    clear hd
    kn_ghosts F T
    k_drop
    skip))
    rename IntsAre _ _ => hIx
    rename (Mine.K _).In (ghostOf _ _) => XX
    rename Top topProg _ _ _ _ _ => TT
    rename Below _ _ _ _ => KK
    rename Fr _ _ _ _ => FF
    rename News _ _ _ _ => NN
    rename ¬ _ < _ => hc63
    refine wpAny_mono (Mine.law_body KK XX TT (by decide) (by decide) lifted hIx (by omega) FF (Mine.news_sub NN fun p hp => ?_)) ?_ ?_
    · rcases List.mem_cons.mp hp with rfl | hp
      · exact .tail _ (.head _)
      · rw [List.mem_singleton.mp hp]
        exact .head _
    · rintro _ _ ⟨rfl, h, tk, dr, m, rfl, F2, ⟨ps, e38⟩, ⟨qs, e45⟩⟩
      refine ⟨⟨.inl ⟨_, _, [], rfl, fun _ => rfl, ReadsW.bool true, ?_, fun _ => ⟨List.nodup_nil, fun _ hm => nomatch hm⟩⟩, F2.keep, rfl, hg⟩, ⟨qs, e45⟩, ⟨ps, e38⟩, True.intro⟩
      refine postW_of (by wrow_shape) (w_eq_bool (w_res rfl) w_lit) ?_
      rfl
    · intro _ _ h
      exact h.elim

import PyProof.Rows.All
import Wide.All
import OpenK.AllK
import Wide.FinOn
import PySem.Challenge.RW_mj0230_01
open PySem PySem.W PyProof.Rows
set_option Elab.async false
set_option maxRecDepth 100000
set_option maxHeartbeats 8000000

namespace Mine
/-- the i-th statement of the text, and the j-th of a class of it -/
noncomputable def stm (i : Nat) : Stmt := match PySem.Challenge.pw_mj0230_01.main.body.drop i with
  | s :: _ => s
  | [] => .Pass ⟨0, 0, 0, 0⟩
noncomputable def met (i j : Nat) : Stmt := match stm i with
  | .ClassDef _ _ _ body _ _ _ _ _ _ _ => (match body.drop j with | s :: _ => s | [] => .Pass ⟨0, 0, 0, 0⟩)
  | s => s
noncomputable def fA : Stmt → Arguments
  | .FunctionDef _ a _ _ _ _ _ _ _ _ => a
  | _ => ⟨[], [], none, [], [], none, []⟩
noncomputable def fB : Stmt → List Stmt
  | .FunctionDef _ _ b _ _ _ _ _ _ _ => b
  | _ => []
noncomputable def fS : Stmt → Scope
  | .FunctionDef _ _ _ _ _ _ s _ _ _ => s
  | _ => ⟨.function, [], false, false, []⟩
/-- what the walk knows of the heap behind the text's top -/
noncomputable def heapK (P : Params) : Frag :=
  (nat_lit 2, (PySem.Obj.mk PySem.Value.none (Option.none) (PySem.Data.dict (List.toArray []) 0) (List.toArray []))) ::
  (nat_lit 3, (PySem.Obj.mk (PySem.Value.type "dict") (Option.none) (PySem.Data.dict (List.toArray [(PySem.DictEntry.mk (PySem.PyData.keyHash P (PySem.Str.ofString "__name__")) (PySem.Value.str (PySem.Str.ofString "__name__") 165) (PySem.Value.str (PySem.Str.ofString "law_mj0230_01") 429)), (PySem.DictEntry.mk (PySem.PyData.keyHash P (PySem.Str.ofString "__doc__")) (PySem.Value.str (PySem.Str.ofString "__doc__") 166) PySem.Value.none), (PySem.DictEntry.mk (PySem.PyData.keyHash P (PySem.Str.ofString "__package__")) (PySem.Value.str (PySem.Str.ofString "__package__") 167) PySem.Value.none), (PySem.DictEntry.mk (PySem.PyData.keyHash P (PySem.Str.ofString "__loader__")) (PySem.Value.str (PySem.Str.ofString "__loader__") 168) (PySem.Value.builtin "__main__.__loader__#opaque")), (PySem.DictEntry.mk (PySem.PyData.keyHash P (PySem.Str.ofString "__spec__")) (PySem.Value.str (PySem.Str.ofString "__spec__") 169) PySem.Value.none), (PySem.DictEntry.mk (PySem.PyData.keyHash P (PySem.Str.ofString "__annotations__")) (PySem.Value.str (PySem.Str.ofString "__annotations__") 170) (PySem.Value.ref 6)), (PySem.DictEntry.mk (PySem.PyData.keyHash P (PySem.Str.ofString "__builtins__")) (PySem.Value.str (PySem.Str.ofString "__builtins__") 171) (PySem.Value.ref 4)), (PySem.DictEntry.mk (PySem.PyData.keyHash P (PySem.Str.ofString "__file__")) (PySem.Value.str (PySem.Str.ofString "__file__") 173) (PySem.Value.str (PySem.Str.ofString "/claim/cut.py") 172)), (PySem.DictEntry.mk (PySem.PyData.keyHash P (PySem.Str.ofString "__cached__")) (PySem.Value.str (PySem.Str.ofString "__cached__") 174) PySem.Value.none), (PySem.DictEntry.mk (PySem.PyData.keyHash P (PySem.Str.ofString "_wall")) (PySem.Value.str (PySem.Str.ofString "_wall") 193) (PySem.Value.ref 21)), (PySem.DictEntry.mk (PySem.PyData.keyHash P (PySem.Str.ofString "ONE_THIRD")) (PySem.Value.str (PySem.Str.ofString "ONE_THIRD") 199) (PySem.Value.float (4599676419421066581 : UInt64) 198)), (PySem.DictEntry.mk (PySem.PyData.keyHash P (PySem.Str.ofString "ONE_SIXTH")) (PySem.Value.str (PySem.Str.ofString "ONE_SIXTH") 203) (PySem.Value.float (4595172819793696085 : UInt64) 202)), (PySem.DictEntry.mk (PySem.PyData.keyHash P (PySem.Str.ofString "TWO_THIRD")) (PySem.Value.str (PySem.Str.ofString "TWO_THIRD") 207) (PySem.Value.float (4604180019048437077 : UInt64) 206)), (PySem.DictEntry.mk (PySem.PyData.keyHash P (PySem.Str.ofString "rgb_to_hls")) (PySem.Value.str (PySem.Str.ofString "rgb_to_hls") 226) (PySem.Value.ref 28)), (PySem.DictEntry.mk (PySem.PyData.keyHash P (PySem.Str.ofString "hls_to_rgb")) (PySem.Value.str (PySem.Str.ofString "hls_to_rgb") 237) (PySem.Value.ref 35)), (PySem.DictEntry.mk (PySem.PyData.keyHash P (PySem.Str.ofString "_v")) (PySem.Value.str (PySem.Str.ofString "_v") 246) (PySem.Value.ref 42)), (PySem.DictEntry.mk (PySem.PyData.keyHash P (PySem.Str.ofString "_NODE_OUT")) (PySem.Value.str (PySem.Str.ofString "_NODE_OUT") 251) (PySem.Value.int (Neg.neg (1 : Int)) 250)), (PySem.DictEntry.mk (PySem.PyData.keyHash P (PySem.Str.ofString "_NODE_DONE")) (PySem.Value.str (PySem.Str.ofString "_NODE_DONE") 254) (PySem.Value.int (Neg.neg (2 : Int)) 253)), (PySem.DictEntry.mk (PySem.PyData.keyHash P (PySem.Str.ofString "_NodeInfo")) (PySem.Value.str (PySem.Str.ofString "_NodeInfo") 291) (PySem.Value.ref 61)), (PySem.DictEntry.mk (PySem.PyData.keyHash P (PySem.Str.ofString "CycleError")) (PySem.Value.str (PySem.Str.ofString "CycleError") 309) (PySem.Value.ref 76)), (PySem.DictEntry.mk (PySem.PyData.keyHash P (PySem.Str.ofString "TopologicalSorter")) (PySem.Value.str (PySem.Str.ofString "TopologicalSorter") 428) (PySem.Value.ref 158)), (PySem.DictEntry.mk (PySem.PyData.keyHash P (PySem.Str.ofString "_law_colour")) (PySem.Value.str (PySem.Str.ofString "_law_colour") 436) (PySem.Value.ref 167)), (PySem.DictEntry.mk (PySem.PyData.keyHash P (PySem.Str.ofString "_law_due")) (PySem.Value.str (PySem.Str.ofString "_law_due") 442) (PySem.Value.ref 172)), (PySem.DictEntry.mk (PySem.PyData.keyHash P (PySem.Str.ofString "_law_told")) (PySem.Value.str (PySem.Str.ofString "_law_told") 448) (PySem.Value.ref 177)), (PySem.DictEntry.mk (PySem.PyData.keyHash P (PySem.Str.ofString "law")) (PySem.Value.str (PySem.Str.ofString "law") 454) (PySem.Value.ref 182))]) 25) (List.toArray []))) ::
  (nat_lit 15, (PySem.Obj.mk (PySem.Value.type "tuple") (Option.none) (PySem.Data.seq (List.toArray []) 0) (List.toArray []))) ::
  (nat_lit 17, (PySem.Obj.mk (PySem.Value.type "tuple") (Option.none) (PySem.Data.seq (List.toArray [(PySem.Value.str (PySem.Str.ofString "k") 190)]) 0) (List.toArray []))) ::
  (nat_lit 18, (PySem.Obj.mk (PySem.Value.type "tuple") (Option.none) (PySem.Data.seq (List.toArray []) 0) (List.toArray []))) ::
  (nat_lit 20, (PySem.Obj.mk (PySem.Value.type "code") (Option.none) (PySem.Data.fields (List.toArray [(PySem.Value.str (PySem.Str.ofString "_wall") 187), (PySem.Value.str (PySem.Str.ofString "_wall") 188), (PySem.Value.str (PySem.Str.ofString "/claim/cut.py") 189), (PySem.Value.int (1 : Int) 0), (PySem.Value.int (1 : Int) 0), (PySem.Value.int (0 : Int) 0), (PySem.Value.int (0 : Int) 0), (PySem.Value.int (3 : Int) 0), (PySem.Value.ref 15), (PySem.Value.bool Bool.true), (PySem.Value.int (181 : Int) 0), (PySem.Value.ref 16), PySem.Value.none, (PySem.Value.ref 17), (PySem.Value.ref 18), (PySem.Value.ref 19), (PySem.Value.int (191 : Int) 0), (PySem.Value.int (1 : Int) 0), (PySem.Value.str (PySem.Str.ofString "/claim/cut.py") 192)])) (List.toArray []))) ::
  (nat_lit 21, (PySem.Obj.mk (PySem.Value.type "function") (Option.none) (PySem.Data.func (PySem.FuncData.mk (PySem.Str.ofString "_wall") (PySem.Str.ofString "_wall") (fA (stm 0)) (.stmts (fB (stm 0))) (fS (stm 0)) 3 [] PySem.Value.none PySem.Value.none PySem.Value.none (PySem.Value.str (PySem.Str.ofString "__main__") 164) (Option.none) (PySem.Value.ref 20) PySem.Value.none 0)) (List.toArray []))) ::
  (nat_lit 22, (PySem.Obj.mk (PySem.Value.type "tuple") (Option.none) (PySem.Data.seq (List.toArray []) 0) (List.toArray []))) ::
  (nat_lit 24, (PySem.Obj.mk (PySem.Value.type "tuple") (Option.none) (PySem.Data.seq (List.toArray [(PySem.Value.str (PySem.Str.ofString "r") 211), (PySem.Value.str (PySem.Str.ofString "g") 212), (PySem.Value.str (PySem.Str.ofString "b") 213), (PySem.Value.str (PySem.Str.ofString "maxc") 214), (PySem.Value.str (PySem.Str.ofString "minc") 215), (PySem.Value.str (PySem.Str.ofString "sumc") 216), (PySem.Value.str (PySem.Str.ofString "rangec") 217), (PySem.Value.str (PySem.Str.ofString "l") 218), (PySem.Value.str (PySem.Str.ofString "s") 219), (PySem.Value.str (PySem.Str.ofString "rc") 220), (PySem.Value.str (PySem.Str.ofString "gc") 221), (PySem.Value.str (PySem.Str.ofString "bc") 222), (PySem.Value.str (PySem.Str.ofString "h") 223)]) 0) (List.toArray []))) ::
  (nat_lit 25, (PySem.Obj.mk (PySem.Value.type "tuple") (Option.none) (PySem.Data.seq (List.toArray []) 0) (List.toArray []))) ::
  (nat_lit 27, (PySem.Obj.mk (PySem.Value.type "code") (Option.none) (PySem.Data.fields (List.toArray [(PySem.Value.str (PySem.Str.ofString "rgb_to_hls") 208), (PySem.Value.str (PySem.Str.ofString "rgb_to_hls") 209), (PySem.Value.str (PySem.Str.ofString "/claim/cut.py") 210), (PySem.Value.int (8 : Int) 0), (PySem.Value.int (3 : Int) 0), (PySem.Value.int (0 : Int) 0), (PySem.Value.int (0 : Int) 0), (PySem.Value.int (3 : Int) 0), (PySem.Value.ref 22), (PySem.Value.bool Bool.true), (PySem.Value.int (181 : Int) 0), (PySem.Value.ref 23), PySem.Value.none, (PySem.Value.ref 24), (PySem.Value.ref 25), (PySem.Value.ref 26), (PySem.Value.int (224 : Int) 0), (PySem.Value.int (8 : Int) 0), (PySem.Value.str (PySem.Str.ofString "/claim/cut.py") 225)])) (List.toArray []))) ::
  (nat_lit 28, (PySem.Obj.mk (PySem.Value.type "function") (Option.none) (PySem.Data.func (PySem.FuncData.mk (PySem.Str.ofString "rgb_to_hls") (PySem.Str.ofString "rgb_to_hls") (fA (stm 5)) (.stmts (fB (stm 5))) (fS (stm 5)) 3 [] PySem.Value.none PySem.Value.none PySem.Value.none (PySem.Value.str (PySem.Str.ofString "cpy313.colorsys") 194) (Option.none) (PySem.Value.ref 27) PySem.Value.none 0)) (List.toArray []))) ::
  (nat_lit 29, (PySem.Obj.mk (PySem.Value.type "tuple") (Option.none) (PySem.Data.seq (List.toArray []) 0) (List.toArray []))) ::
  (nat_lit 31, (PySem.Obj.mk (PySem.Value.type "tuple") (Option.none) (PySem.Data.seq (List.toArray [(PySem.Value.str (PySem.Str.ofString "h") 230), (PySem.Value.str (PySem.Str.ofString "l") 231), (PySem.Value.str (PySem.Str.ofString "s") 232), (PySem.Value.str (PySem.Str.ofString "m2") 233), (PySem.Value.str (PySem.Str.ofString "m1") 234)]) 0) (List.toArray []))) ::
  (nat_lit 32, (PySem.Obj.mk (PySem.Value.type "tuple") (Option.none) (PySem.Data.seq (List.toArray []) 0) (List.toArray []))) ::
  (nat_lit 34, (PySem.Obj.mk (PySem.Value.type "code") (Option.none) (PySem.Data.fields (List.toArray [(PySem.Value.str (PySem.Str.ofString "hls_to_rgb") 227), (PySem.Value.str (PySem.Str.ofString "hls_to_rgb") 228), (PySem.Value.str (PySem.Str.ofString "/claim/cut.py") 229), (PySem.Value.int (31 : Int) 0), (PySem.Value.int (3 : Int) 0), (PySem.Value.int (0 : Int) 0), (PySem.Value.int (0 : Int) 0), (PySem.Value.int (3 : Int) 0), (PySem.Value.ref 29), (PySem.Value.bool Bool.true), (PySem.Value.int (181 : Int) 0), (PySem.Value.ref 30), PySem.Value.none, (PySem.Value.ref 31), (PySem.Value.ref 32), (PySem.Value.ref 33), (PySem.Value.int (235 : Int) 0), (PySem.Value.int (31 : Int) 0), (PySem.Value.str (PySem.Str.ofString "/claim/cut.py") 236)])) (List.toArray []))) ::
  (nat_lit 35, (PySem.Obj.mk (PySem.Value.type "function") (Option.none) (PySem.Data.func (PySem.FuncData.mk (PySem.Str.ofString "hls_to_rgb") (PySem.Str.ofString "hls_to_rgb") (fA (stm 6)) (.stmts (fB (stm 6))) (fS (stm 6)) 3 [] PySem.Value.none PySem.Value.none PySem.Value.none (PySem.Value.str (PySem.Str.ofString "cpy313.colorsys") 194) (Option.none) (PySem.Value.ref 34) PySem.Value.none 0)) (List.toArray []))) ::
  (nat_lit 36, (PySem.Obj.mk (PySem.Value.type "tuple") (Option.none) (PySem.Data.seq (List.toArray []) 0) (List.toArray []))) ::
  (nat_lit 38, (PySem.Obj.mk (PySem.Value.type "tuple") (Option.none) (PySem.Data.seq (List.toArray [(PySem.Value.str (PySem.Str.ofString "m1") 241), (PySem.Value.str (PySem.Str.ofString "m2") 242), (PySem.Value.str (PySem.Str.ofString "hue") 243)]) 0) (List.toArray []))) ::
  (nat_lit 39, (PySem.Obj.mk (PySem.Value.type "tuple") (Option.none) (PySem.Data.seq (List.toArray []) 0) (List.toArray []))) ::
  (nat_lit 41, (PySem.Obj.mk (PySem.Value.type "code") (Option.none) (PySem.Data.fields (List.toArray [(PySem.Value.str (PySem.Str.ofString "_v") 238), (PySem.Value.str (PySem.Str.ofString "_v") 239), (PySem.Value.str (PySem.Str.ofString "/claim/cut.py") 240), (PySem.Value.int (40 : Int) 0), (PySem.Value.int (3 : Int) 0), (PySem.Value.int (0 : Int) 0), (PySem.Value.int (0 : Int) 0), (PySem.Value.int (3 : Int) 0), (PySem.Value.ref 36), (PySem.Value.bool Bool.true), (PySem.Value.int (181 : Int) 0), (PySem.Value.ref 37), PySem.Value.none, (PySem.Value.ref 38), (PySem.Value.ref 39), (PySem.Value.ref 40), (PySem.Value.int (244 : Int) 0), (PySem.Value.int (40 : Int) 0), (PySem.Value.str (PySem.Str.ofString "/claim/cut.py") 245)])) (List.toArray []))) ::
  (nat_lit 42, (PySem.Obj.mk (PySem.Value.type "function") (Option.none) (PySem.Data.func (PySem.FuncData.mk (PySem.Str.ofString "_v") (PySem.Str.ofString "_v") (fA (stm 7)) (.stmts (fB (stm 7))) (fS (stm 7)) 3 [] PySem.Value.none PySem.Value.none PySem.Value.none (PySem.Value.str (PySem.Str.ofString "cpy313.colorsys") 194) (Option.none) (PySem.Value.ref 41) PySem.Value.none 0)) (List.toArray []))) ::
  (nat_lit 50, (PySem.Obj.mk (PySem.Value.type "tuple") (Option.none) (PySem.Data.seq (List.toArray [(PySem.Value.str (PySem.Str.ofString "node") 267), (PySem.Value.str (PySem.Str.ofString "npredecessors") 268), (PySem.Value.str (PySem.Str.ofString "successors") 269)]) 0) (List.toArray []))) ::
  (nat_lit 51, (PySem.Obj.mk (PySem.Value.type "tuple") (Option.none) (PySem.Data.seq (List.toArray []) 0) (List.toArray []))) ::
  (nat_lit 53, (PySem.Obj.mk (PySem.Value.type "tuple") (Option.none) (PySem.Data.seq (List.toArray [(PySem.Value.str (PySem.Str.ofString "self") 274), (PySem.Value.str (PySem.Str.ofString "node") 275)]) 0) (List.toArray []))) ::
  (nat_lit 54, (PySem.Obj.mk (PySem.Value.type "tuple") (Option.none) (PySem.Data.seq (List.toArray []) 0) (List.toArray []))) ::
  (nat_lit 56, (PySem.Obj.mk (PySem.Value.type "code") (Option.none) (PySem.Data.fields (List.toArray [(PySem.Value.str (PySem.Str.ofString "__init__") 271), (PySem.Value.str (PySem.Str.ofString "_NodeInfo.__init__") 272), (PySem.Value.str (PySem.Str.ofString "/claim/cut.py") 273), (PySem.Value.int (55 : Int) 0), (PySem.Value.int (2 : Int) 0), (PySem.Value.int (0 : Int) 0), (PySem.Value.int (0 : Int) 0), (PySem.Value.int (3 : Int) 0), (PySem.Value.ref 51), (PySem.Value.bool Bool.true), (PySem.Value.int (181 : Int) 0), (PySem.Value.ref 52), PySem.Value.none, (PySem.Value.ref 53), (PySem.Value.ref 54), (PySem.Value.ref 55), (PySem.Value.int (276 : Int) 0), (PySem.Value.int (55 : Int) 0), (PySem.Value.str (PySem.Str.ofString "/claim/cut.py") 277)])) (List.toArray []))) ::
  (nat_lit 57, (PySem.Obj.mk (PySem.Value.type "function") (Option.none) (PySem.Data.func (PySem.FuncData.mk (PySem.Str.ofString "__init__") (PySem.Str.ofString "_NodeInfo.__init__") (fA (met 11 1)) (.stmts (fB (met 11 1))) (fS (met 11 1)) 3 [] PySem.Value.none PySem.Value.none PySem.Value.none (PySem.Value.str (PySem.Str.ofString "cpy313.graphlib") 247) (Option.none) (PySem.Value.ref 56) PySem.Value.none 0)) (List.toArray []))) ::
  (nat_lit 58, (PySem.Obj.mk (PySem.Value.type "tuple") (Option.none) (PySem.Data.seq (List.toArray [(PySem.Value.str (PySem.Str.ofString "node") 279), (PySem.Value.str (PySem.Str.ofString "npredecessors") 280), (PySem.Value.str (PySem.Str.ofString "successors") 281)]) 0) (List.toArray []))) ::
  (nat_lit 60, (PySem.Obj.mk (PySem.Value.type "dict") (Option.none) (PySem.Data.dict (List.toArray [(PySem.DictEntry.mk (PySem.PyData.keyHash P (PySem.Str.ofString "__module__")) (PySem.Value.str (PySem.Str.ofString "__module__") 262) (PySem.Value.str (PySem.Str.ofString "cpy313.graphlib") 247)), (PySem.DictEntry.mk (PySem.PyData.keyHash P (PySem.Str.ofString "__firstlineno__")) (PySem.Value.str (PySem.Str.ofString "__firstlineno__") 266) (PySem.Value.int (52 : Int) 265)), (PySem.DictEntry.mk (PySem.PyData.keyHash P (PySem.Str.ofString "__slots__")) (PySem.Value.str (PySem.Str.ofString "__slots__") 270) (PySem.Value.ref 50)), (PySem.DictEntry.mk (PySem.PyData.keyHash P (PySem.Str.ofString "__init__")) (PySem.Value.str (PySem.Str.ofString "__init__") 278) (PySem.Value.ref 57)), (PySem.DictEntry.mk (PySem.PyData.keyHash P (PySem.Str.ofString "__static_attributes__")) (PySem.Value.str (PySem.Str.ofString "__static_attributes__") 282) (PySem.Value.ref 58)), (PySem.DictEntry.mk (PySem.PyData.keyHash P (PySem.Str.ofString "node")) (PySem.Value.str (PySem.Str.ofString "node") 284) (PySem.Value.ref 62)), (PySem.DictEntry.mk (PySem.PyData.keyHash P (PySem.Str.ofString "npredecessors")) (PySem.Value.str (PySem.Str.ofString "npredecessors") 286) (PySem.Value.ref 63)), (PySem.DictEntry.mk (PySem.PyData.keyHash P (PySem.Str.ofString "successors")) (PySem.Value.str (PySem.Str.ofString "successors") 288) (PySem.Value.ref 64)), (PySem.DictEntry.mk (PySem.PyData.keyHash P (PySem.Str.ofString "__doc__")) (PySem.Value.str (PySem.Str.ofString "__doc__") 289) PySem.Value.none)]) 5) (List.toArray []))) ::
  (nat_lit 61, (PySem.Obj.mk (PySem.Value.type "type") (Option.none) (PySem.Data.cls (PySem.ClassData.mk (PySem.Str.ofString "_NodeInfo") [(PySem.Value.type "object")] [(PySem.Value.ref 61), (PySem.Value.type "object")] 60 (PySem.Str.ofString "_NodeInfo") Bool.false [(PySem.Str.ofString "node"), (PySem.Str.ofString "npredecessors"), (PySem.Str.ofString "successors")] [] Bool.false (Option.none) Bool.false)) (List.toArray [(Option.none), (Option.none), (Option.some (PySem.Value.str (PySem.Str.ofString "_NodeInfo") 255)), (Option.some (PySem.Value.str (PySem.Str.ofString "_NodeInfo") 263)), (Option.some (PySem.Value.builtin "object.__new__")), (Option.some (PySem.Value.bool Bool.false))]))) ::
  (nat_lit 62, (PySem.Obj.mk (PySem.Value.type "member_descriptor") (Option.none) (PySem.Data.fields (List.toArray [(PySem.Value.str (PySem.Str.ofString "node") 283), (PySem.Value.ref 61), (PySem.Value.builtin "proto.slot"), (PySem.Value.builtin "proto.slot#set"), (PySem.Value.int (2 : Int) 0)])) (List.toArray []))) ::
  (nat_lit 63, (PySem.Obj.mk (PySem.Value.type "member_descriptor") (Option.none) (PySem.Data.fields (List.toArray [(PySem.Value.str (PySem.Str.ofString "npredecessors") 285), (PySem.Value.ref 61), (PySem.Value.builtin "proto.slot"), (PySem.Value.builtin "proto.slot#set"), (PySem.Value.int (1 : Int) 0)])) (List.toArray []))) ::
  (nat_lit 64, (PySem.Obj.mk (PySem.Value.type "member_descriptor") (Option.none) (PySem.Data.fields (List.toArray [(PySem.Value.str (PySem.Str.ofString "successors") 287), (PySem.Value.ref 61), (PySem.Value.builtin "proto.slot"), (PySem.Value.builtin "proto.slot#set"), (PySem.Value.int (0 : Int) 0)])) (List.toArray []))) ::
  (nat_lit 67, (PySem.Obj.mk (PySem.Value.type "tuple") (Option.none) (PySem.Data.seq (List.toArray [(PySem.Value.type "ValueError")]) 0) (List.toArray []))) ::
  (nat_lit 74, (PySem.Obj.mk (PySem.Value.type "tuple") (Option.none) (PySem.Data.seq (List.toArray []) 0) (List.toArray []))) ::
  (nat_lit 75, (PySem.Obj.mk (PySem.Value.type "dict") (Option.none) (PySem.Data.dict (List.toArray [(PySem.DictEntry.mk (PySem.PyData.keyHash P (PySem.Str.ofString "__module__")) (PySem.Value.str (PySem.Str.ofString "__module__") 299) (PySem.Value.str (PySem.Str.ofString "cpy313.graphlib") 247)), (PySem.DictEntry.mk (PySem.PyData.keyHash P (PySem.Str.ofString "__firstlineno__")) (PySem.Value.str (PySem.Str.ofString "__firstlineno__") 303) (PySem.Value.int (59 : Int) 302)), (PySem.DictEntry.mk (PySem.PyData.keyHash P (PySem.Str.ofString "__static_attributes__")) (PySem.Value.str (PySem.Str.ofString "__static_attributes__") 304) (PySem.Value.ref 74)), (PySem.DictEntry.mk (PySem.PyData.keyHash P (PySem.Str.ofString "__weakref__")) (PySem.Value.str (PySem.Str.ofString "__weakref__") 306) (PySem.Value.ref 77)), (PySem.DictEntry.mk (PySem.PyData.keyHash P (PySem.Str.ofString "__doc__")) (PySem.Value.str (PySem.Str.ofString "__doc__") 307) PySem.Value.none)]) 3) (List.toArray []))) ::
  (nat_lit 76, (PySem.Obj.mk (PySem.Value.type "type") (Option.none) (PySem.Data.cls (PySem.ClassData.mk (PySem.Str.ofString "CycleError") [(PySem.Value.type "ValueError")] [(PySem.Value.ref 76), (PySem.Value.type "ValueError"), (PySem.Value.type "Exception"), (PySem.Value.type "BaseException"), (PySem.Value.type "object")] 75 (PySem.Str.ofString "CycleError") Bool.true [] [] Bool.false (Option.none) Bool.false)) (List.toArray [(Option.some (PySem.Value.ref 67)), (Option.none), (Option.some (PySem.Value.str (PySem.Str.ofString "CycleError") 292)), (Option.some (PySem.Value.str (PySem.Str.ofString "CycleError") 300)), (Option.some (PySem.Value.builtin "ValueError.__new__")), (Option.some (PySem.Value.bool Bool.true))]))) ::
  (nat_lit 77, (PySem.Obj.mk (PySem.Value.type "getset_descriptor") (Option.none) (PySem.Data.fields (List.toArray [(PySem.Value.str (PySem.Str.ofString "__weakref__") 305), (PySem.Value.ref 76), (PySem.Value.builtin "ExceptionGroup.__weakref__"), PySem.Value.none])) (List.toArray []))) ::
  (nat_lit 87, (PySem.Obj.mk (PySem.Value.type "tuple") (Option.none) (PySem.Data.seq (List.toArray [PySem.Value.none]) 0) (List.toArray []))) ::
  (nat_lit 88, (PySem.Obj.mk (PySem.Value.type "tuple") (Option.none) (PySem.Data.seq (List.toArray []) 0) (List.toArray []))) ::
  (nat_lit 90, (PySem.Obj.mk (PySem.Value.type "tuple") (Option.none) (PySem.Data.seq (List.toArray [(PySem.Value.str (PySem.Str.ofString "self") 325), (PySem.Value.str (PySem.Str.ofString "graph") 326), (PySem.Value.str (PySem.Str.ofString "node") 327), (PySem.Value.str (PySem.Str.ofString "predecessors") 328)]) 0) (List.toArray []))) ::
  (nat_lit 91, (PySem.Obj.mk (PySem.Value.type "tuple") (Option.none) (PySem.Data.seq (List.toArray []) 0) (List.toArray []))) ::
  (nat_lit 93, (PySem.Obj.mk (PySem.Value.type "code") (Option.none) (PySem.Data.fields (List.toArray [(PySem.Value.str (PySem.Str.ofString "__init__") 322), (PySem.Value.str (PySem.Str.ofString "TopologicalSorter.__init__") 323), (PySem.Value.str (PySem.Str.ofString "/claim/cut.py") 324), (PySem.Value.int (63 : Int) 0), (PySem.Value.int (2 : Int) 0), (PySem.Value.int (0 : Int) 0), (PySem.Value.int (0 : Int) 0), (PySem.Value.int (3 : Int) 0), (PySem.Value.ref 88), (PySem.Value.bool Bool.true), (PySem.Value.int (181 : Int) 0), (PySem.Value.ref 89), PySem.Value.none, (PySem.Value.ref 90), (PySem.Value.ref 91), (PySem.Value.ref 92), (PySem.Value.int (329 : Int) 0), (PySem.Value.int (63 : Int) 0), (PySem.Value.str (PySem.Str.ofString "/claim/cut.py") 330)])) (List.toArray []))) ::
  (nat_lit 94, (PySem.Obj.mk (PySem.Value.type "function") (Option.none) (PySem.Data.func (PySem.FuncData.mk (PySem.Str.ofString "__init__") (PySem.Str.ofString "TopologicalSorter.__init__") (fA (met 13 0)) (.stmts (fB (met 13 0))) (fS (met 13 0)) 3 [] (PySem.Value.ref 87) PySem.Value.none PySem.Value.none (PySem.Value.str (PySem.Str.ofString "cpy313.graphlib") 247) (Option.none) (PySem.Value.ref 93) PySem.Value.none 0)) (List.toArray []))) ::
  (nat_lit 95, (PySem.Obj.mk (PySem.Value.type "tuple") (Option.none) (PySem.Data.seq (List.toArray []) 0) (List.toArray []))) ::
  (nat_lit 97, (PySem.Obj.mk (PySem.Value.type "tuple") (Option.none) (PySem.Data.seq (List.toArray [(PySem.Value.str (PySem.Str.ofString "self") 335), (PySem.Value.str (PySem.Str.ofString "node") 336), (PySem.Value.str (PySem.Str.ofString "result") 337)]) 0) (List.toArray []))) ::
  (nat_lit 98, (PySem.Obj.mk (PySem.Value.type "tuple") (Option.none) (PySem.Data.seq (List.toArray []) 0) (List.toArray []))) ::
  (nat_lit 100, (PySem.Obj.mk (PySem.Value.type "code") (Option.none) (PySem.Data.fields (List.toArray [(PySem.Value.str (PySem.Str.ofString "_get_nodeinfo") 332), (PySem.Value.str (PySem.Str.ofString "TopologicalSorter._get_nodeinfo") 333), (PySem.Value.str (PySem.Str.ofString "/claim/cut.py") 334), (PySem.Value.int (72 : Int) 0), (PySem.Value.int (2 : Int) 0), (PySem.Value.int (0 : Int) 0), (PySem.Value.int (0 : Int) 0), (PySem.Value.int (3 : Int) 0), (PySem.Value.ref 95), (PySem.Value.bool Bool.true), (PySem.Value.int (181 : Int) 0), (PySem.Value.ref 96), PySem.Value.none, (PySem.Value.ref 97), (PySem.Value.ref 98), (PySem.Value.ref 99), (PySem.Value.int (338 : Int) 0), (PySem.Value.int (72 : Int) 0), (PySem.Value.str (PySem.Str.ofString "/claim/cut.py") 339)])) (List.toArray []))) ::
  (nat_lit 101, (PySem.Obj.mk (PySem.Value.type "function") (Option.none) (PySem.Data.func (PySem.FuncData.mk (PySem.Str.ofString "_get_nodeinfo") (PySem.Str.ofString "TopologicalSorter._get_nodeinfo") (fA (met 13 1)) (.stmts (fB (met 13 1))) (fS (met 13 1)) 3 [] PySem.Value.none PySem.Value.none PySem.Value.none (PySem.Value.str (PySem.Str.ofString "cpy313.graphlib") 247) (Option.none) (PySem.Value.ref 100) PySem.Value.none 0)) (List.toArray []))) ::
  (nat_lit 102, (PySem.Obj.mk (PySem.Value.type "tuple") (Option.none) (PySem.Data.seq (List.toArray []) 0) (List.toArray []))) ::
  (nat_lit 104, (PySem.Obj.mk (PySem.Value.type "tuple") (Option.none) (PySem.Data.seq (List.toArray [(PySem.Value.str (PySem.Str.ofString "self") 344), (PySem.Value.str (PySem.Str.ofString "node") 345), (PySem.Value.str (PySem.Str.ofString "predecessors") 346), (PySem.Value.str (PySem.Str.ofString "nodeinfo") 347), (PySem.Value.str (PySem.Str.ofString "pred") 348), (PySem.Value.str (PySem.Str.ofString "pred_info") 349)]) 0) (List.toArray []))) ::
  (nat_lit 105, (PySem.Obj.mk (PySem.Value.type "tuple") (Option.none) (PySem.Data.seq (List.toArray []) 0) (List.toArray []))) ::
  (nat_lit 107, (PySem.Obj.mk (PySem.Value.type "code") (Option.none) (PySem.Data.fields (List.toArray [(PySem.Value.str (PySem.Str.ofString "add") 341), (PySem.Value.str (PySem.Str.ofString "TopologicalSorter.add") 342), (PySem.Value.str (PySem.Str.ofString "/claim/cut.py") 343), (PySem.Value.int (77 : Int) 0), (PySem.Value.int (2 : Int) 0), (PySem.Value.int (0 : Int) 0), (PySem.Value.int (0 : Int) 0), (PySem.Value.int (7 : Int) 0), (PySem.Value.ref 102), (PySem.Value.bool Bool.true), (PySem.Value.int (181 : Int) 0), (PySem.Value.ref 103), PySem.Value.none, (PySem.Value.ref 104), (PySem.Value.ref 105), (PySem.Value.ref 106), (PySem.Value.int (350 : Int) 0), (PySem.Value.int (77 : Int) 0), (PySem.Value.str (PySem.Str.ofString "/claim/cut.py") 351)])) (List.toArray []))) ::
  (nat_lit 108, (PySem.Obj.mk (PySem.Value.type "function") (Option.none) (PySem.Data.func (PySem.FuncData.mk (PySem.Str.ofString "add") (PySem.Str.ofString "TopologicalSorter.add") (fA (met 13 2)) (.stmts (fB (met 13 2))) (fS (met 13 2)) 3 [] PySem.Value.none PySem.Value.none PySem.Value.none (PySem.Value.str (PySem.Str.ofString "cpy313.graphlib") 247) (Option.none) (PySem.Value.ref 107) PySem.Value.none 0)) (List.toArray []))) ::
  (nat_lit 109, (PySem.Obj.mk (PySem.Value.type "tuple") (Option.none) (PySem.Data.seq (List.toArray []) 0) (List.toArray []))) ::
  (nat_lit 112, (PySem.Obj.mk (PySem.Value.type "code") (Option.none) (PySem.Data.fields (List.toArray [(PySem.Value.str (PySem.Str.ofString "prepare") 353), (PySem.Value.str (PySem.Str.ofString "TopologicalSorter.prepare") 354), (PySem.Value.str (PySem.Str.ofString "/claim/cut.py") 355), (PySem.Value.int (86 : Int) 0), (PySem.Value.int (1 : Int) 0), (PySem.Value.int (0 : Int) 0), (PySem.Value.int (0 : Int) 0), (PySem.Value.int (3 : Int) 0), (PySem.Value.ref 109), (PySem.Value.bool Bool.true), (PySem.Value.int (181 : Int) 0), (PySem.Value.ref 110), PySem.Value.none, PySem.Value.none, PySem.Value.none, (PySem.Value.ref 111), (PySem.Value.int (356 : Int) 0), (PySem.Value.int (86 : Int) 0), (PySem.Value.str (PySem.Str.ofString "/claim/cut.py") 357)])) (List.toArray []))) ::
  (nat_lit 113, (PySem.Obj.mk (PySem.Value.type "function") (Option.none) (PySem.Data.func (PySem.FuncData.mk (PySem.Str.ofString "prepare") (PySem.Str.ofString "TopologicalSorter.prepare") (fA (met 13 3)) (.stmts (fB (met 13 3))) (fS (met 13 3)) 3 [] PySem.Value.none PySem.Value.none PySem.Value.none (PySem.Value.str (PySem.Str.ofString "cpy313.graphlib") 247) (Option.none) (PySem.Value.ref 112) PySem.Value.none 0)) (List.toArray []))) ::
  (nat_lit 114, (PySem.Obj.mk (PySem.Value.type "tuple") (Option.none) (PySem.Data.seq (List.toArray []) 0) (List.toArray []))) ::
  (nat_lit 116, (PySem.Obj.mk (PySem.Value.type "tuple") (Option.none) (PySem.Data.seq (List.toArray [(PySem.Value.str (PySem.Str.ofString "self") 362), (PySem.Value.str (PySem.Str.ofString "result") 363), (PySem.Value.str (PySem.Str.ofString "n2i") 364), (PySem.Value.str (PySem.Str.ofString "node") 365)]) 0) (List.toArray []))) ::
  (nat_lit 117, (PySem.Obj.mk (PySem.Value.type "tuple") (Option.none) (PySem.Data.seq (List.toArray []) 0) (List.toArray []))) ::
  (nat_lit 119, (PySem.Obj.mk (PySem.Value.type "code") (Option.none) (PySem.Data.fields (List.toArray [(PySem.Value.str (PySem.Str.ofString "get_ready") 359), (PySem.Value.str (PySem.Str.ofString "TopologicalSorter.get_ready") 360), (PySem.Value.str (PySem.Str.ofString "/claim/cut.py") 361), (PySem.Value.int (94 : Int) 0), (PySem.Value.int (1 : Int) 0), (PySem.Value.int (0 : Int) 0), (PySem.Value.int (0 : Int) 0), (PySem.Value.int (3 : Int) 0), (PySem.Value.ref 114), (PySem.Value.bool Bool.true), (PySem.Value.int (181 : Int) 0), (PySem.Value.ref 115), PySem.Value.none, (PySem.Value.ref 116), (PySem.Value.ref 117), (PySem.Value.ref 118), (PySem.Value.int (366 : Int) 0), (PySem.Value.int (94 : Int) 0), (PySem.Value.str (PySem.Str.ofString "/claim/cut.py") 367)])) (List.toArray []))) ::
  (nat_lit 120, (PySem.Obj.mk (PySem.Value.type "function") (Option.none) (PySem.Data.func (PySem.FuncData.mk (PySem.Str.ofString "get_ready") (PySem.Str.ofString "TopologicalSorter.get_ready") (fA (met 13 4)) (.stmts (fB (met 13 4))) (fS (met 13 4)) 3 [] PySem.Value.none PySem.Value.none PySem.Value.none (PySem.Value.str (PySem.Str.ofString "cpy313.graphlib") 247) (Option.none) (PySem.Value.ref 119) PySem.Value.none 0)) (List.toArray []))) ::
  (nat_lit 121, (PySem.Obj.mk (PySem.Value.type "tuple") (Option.none) (PySem.Data.seq (List.toArray []) 0) (List.toArray []))) ::
  (nat_lit 123, (PySem.Obj.mk (PySem.Value.type "tuple") (Option.none) (PySem.Data.seq (List.toArray [(PySem.Value.str (PySem.Str.ofString "self") 372)]) 0) (List.toArray []))) ::
  (nat_lit 124, (PySem.Obj.mk (PySem.Value.type "tuple") (Option.none) (PySem.Data.seq (List.toArray []) 0) (List.toArray []))) ::
  (nat_lit 126, (PySem.Obj.mk (PySem.Value.type "code") (Option.none) (PySem.Data.fields (List.toArray [(PySem.Value.str (PySem.Str.ofString "is_active") 369), (PySem.Value.str (PySem.Str.ofString "TopologicalSorter.is_active") 370), (PySem.Value.str (PySem.Str.ofString "/claim/cut.py") 371), (PySem.Value.int (105 : Int) 0), (PySem.Value.int (1 : Int) 0), (PySem.Value.int (0 : Int) 0), (PySem.Value.int (0 : Int) 0), (PySem.Value.int (3 : Int) 0), (PySem.Value.ref 121), (PySem.Value.bool Bool.true), (PySem.Value.int (181 : Int) 0), (PySem.Value.ref 122), PySem.Value.none, (PySem.Value.ref 123), (PySem.Value.ref 124), (PySem.Value.ref 125), (PySem.Value.int (373 : Int) 0), (PySem.Value.int (105 : Int) 0), (PySem.Value.str (PySem.Str.ofString "/claim/cut.py") 374)])) (List.toArray []))) ::
  (nat_lit 127, (PySem.Obj.mk (PySem.Value.type "function") (Option.none) (PySem.Data.func (PySem.FuncData.mk (PySem.Str.ofString "is_active") (PySem.Str.ofString "TopologicalSorter.is_active") (fA (met 13 5)) (.stmts (fB (met 13 5))) (fS (met 13 5)) 3 [] PySem.Value.none PySem.Value.none PySem.Value.none (PySem.Value.str (PySem.Str.ofString "cpy313.graphlib") 247) (Option.none) (PySem.Value.ref 126) PySem.Value.none 0)) (List.toArray []))) ::
  (nat_lit 128, (PySem.Obj.mk (PySem.Value.type "tuple") (Option.none) (PySem.Data.seq (List.toArray []) 0) (List.toArray []))) ::
  (nat_lit 130, (PySem.Obj.mk (PySem.Value.type "tuple") (Option.none) (PySem.Data.seq (List.toArray [(PySem.Value.str (PySem.Str.ofString "self") 379)]) 0) (List.toArray []))) ::
  (nat_lit 131, (PySem.Obj.mk (PySem.Value.type "tuple") (Option.none) (PySem.Data.seq (List.toArray []) 0) (List.toArray []))) ::
  (nat_lit 133, (PySem.Obj.mk (PySem.Value.type "code") (Option.none) (PySem.Data.fields (List.toArray [(PySem.Value.str (PySem.Str.ofString "__bool__") 376), (PySem.Value.str (PySem.Str.ofString "TopologicalSorter.__bool__") 377), (PySem.Value.str (PySem.Str.ofString "/claim/cut.py") 378), (PySem.Value.int (110 : Int) 0), (PySem.Value.int (1 : Int) 0), (PySem.Value.int (0 : Int) 0), (PySem.Value.int (0 : Int) 0), (PySem.Value.int (3 : Int) 0), (PySem.Value.ref 128), (PySem.Value.bool Bool.true), (PySem.Value.int (181 : Int) 0), (PySem.Value.ref 129), PySem.Value.none, (PySem.Value.ref 130), (PySem.Value.ref 131), (PySem.Value.ref 132), (PySem.Value.int (380 : Int) 0), (PySem.Value.int (110 : Int) 0), (PySem.Value.str (PySem.Str.ofString "/claim/cut.py") 381)])) (List.toArray []))) ::
  (nat_lit 134, (PySem.Obj.mk (PySem.Value.type "function") (Option.none) (PySem.Data.func (PySem.FuncData.mk (PySem.Str.ofString "__bool__") (PySem.Str.ofString "TopologicalSorter.__bool__") (fA (met 13 6)) (.stmts (fB (met 13 6))) (fS (met 13 6)) 3 [] PySem.Value.none PySem.Value.none PySem.Value.none (PySem.Value.str (PySem.Str.ofString "cpy313.graphlib") 247) (Option.none) (PySem.Value.ref 133) PySem.Value.none 0)) (List.toArray []))) ::
  (nat_lit 135, (PySem.Obj.mk (PySem.Value.type "tuple") (Option.none) (PySem.Data.seq (List.toArray []) 0) (List.toArray []))) ::
  (nat_lit 137, (PySem.Obj.mk (PySem.Value.type "tuple") (Option.none) (PySem.Data.seq (List.toArray [(PySem.Value.str (PySem.Str.ofString "self") 386), (PySem.Value.str (PySem.Str.ofString "nodes") 387), (PySem.Value.str (PySem.Str.ofString "n2i") 388), (PySem.Value.str (PySem.Str.ofString "node") 389), (PySem.Value.str (PySem.Str.ofString "nodeinfo") 390), (PySem.Value.str (PySem.Str.ofString "stat") 391), (PySem.Value.str (PySem.Str.ofString "successor") 392), (PySem.Value.str (PySem.Str.ofString "successor_info") 393)]) 0) (List.toArray []))) ::
  (nat_lit 138, (PySem.Obj.mk (PySem.Value.type "tuple") (Option.none) (PySem.Data.seq (List.toArray []) 0) (List.toArray []))) ::
  (nat_lit 140, (PySem.Obj.mk (PySem.Value.type "code") (Option.none) (PySem.Data.fields (List.toArray [(PySem.Value.str (PySem.Str.ofString "done") 383), (PySem.Value.str (PySem.Str.ofString "TopologicalSorter.done") 384), (PySem.Value.str (PySem.Str.ofString "/claim/cut.py") 385), (PySem.Value.int (113 : Int) 0), (PySem.Value.int (1 : Int) 0), (PySem.Value.int (0 : Int) 0), (PySem.Value.int (0 : Int) 0), (PySem.Value.int (7 : Int) 0), (PySem.Value.ref 135), (PySem.Value.bool Bool.true), (PySem.Value.int (181 : Int) 0), (PySem.Value.ref 136), PySem.Value.none, (PySem.Value.ref 137), (PySem.Value.ref 138), (PySem.Value.ref 139), (PySem.Value.int (394 : Int) 0), (PySem.Value.int (113 : Int) 0), (PySem.Value.str (PySem.Str.ofString "/claim/cut.py") 395)])) (List.toArray []))) ::
  (nat_lit 141, (PySem.Obj.mk (PySem.Value.type "function") (Option.none) (PySem.Data.func (PySem.FuncData.mk (PySem.Str.ofString "done") (PySem.Str.ofString "TopologicalSorter.done") (fA (met 13 7)) (.stmts (fB (met 13 7))) (fS (met 13 7)) 3 [] PySem.Value.none PySem.Value.none PySem.Value.none (PySem.Value.str (PySem.Str.ofString "cpy313.graphlib") 247) (Option.none) (PySem.Value.ref 140) PySem.Value.none 0)) (List.toArray []))) ::
  (nat_lit 142, (PySem.Obj.mk (PySem.Value.type "tuple") (Option.none) (PySem.Data.seq (List.toArray []) 0) (List.toArray []))) ::
  (nat_lit 144, (PySem.Obj.mk (PySem.Value.type "tuple") (Option.none) (PySem.Data.seq (List.toArray [(PySem.Value.str (PySem.Str.ofString "self") 400), (PySem.Value.str (PySem.Str.ofString "n2i") 401), (PySem.Value.str (PySem.Str.ofString "stack") 402), (PySem.Value.str (PySem.Str.ofString "itstack") 403), (PySem.Value.str (PySem.Str.ofString "seen") 404), (PySem.Value.str (PySem.Str.ofString "node2stacki") 405), (PySem.Value.str (PySem.Str.ofString "node") 406)]) 0) (List.toArray []))) ::
  (nat_lit 145, (PySem.Obj.mk (PySem.Value.type "tuple") (Option.none) (PySem.Data.seq (List.toArray []) 0) (List.toArray []))) ::
  (nat_lit 147, (PySem.Obj.mk (PySem.Value.type "code") (Option.none) (PySem.Data.fields (List.toArray [(PySem.Value.str (PySem.Str.ofString "_find_cycle") 397), (PySem.Value.str (PySem.Str.ofString "TopologicalSorter._find_cycle") 398), (PySem.Value.str (PySem.Str.ofString "/claim/cut.py") 399), (PySem.Value.int (136 : Int) 0), (PySem.Value.int (1 : Int) 0), (PySem.Value.int (0 : Int) 0), (PySem.Value.int (0 : Int) 0), (PySem.Value.int (3 : Int) 0), (PySem.Value.ref 142), (PySem.Value.bool Bool.true), (PySem.Value.int (181 : Int) 0), (PySem.Value.ref 143), PySem.Value.none, (PySem.Value.ref 144), (PySem.Value.ref 145), (PySem.Value.ref 146), (PySem.Value.int (407 : Int) 0), (PySem.Value.int (136 : Int) 0), (PySem.Value.str (PySem.Str.ofString "/claim/cut.py") 408)])) (List.toArray []))) ::
  (nat_lit 148, (PySem.Obj.mk (PySem.Value.type "function") (Option.none) (PySem.Data.func (PySem.FuncData.mk (PySem.Str.ofString "_find_cycle") (PySem.Str.ofString "TopologicalSorter._find_cycle") (fA (met 13 8)) (.stmts (fB (met 13 8))) (fS (met 13 8)) 3 [] PySem.Value.none PySem.Value.none PySem.Value.none (PySem.Value.str (PySem.Str.ofString "cpy313.graphlib") 247) (Option.none) (PySem.Value.ref 147) PySem.Value.none 0)) (List.toArray []))) ::
  (nat_lit 149, (PySem.Obj.mk (PySem.Value.type "tuple") (Option.none) (PySem.Data.seq (List.toArray []) 0) (List.toArray []))) ::
  (nat_lit 151, (PySem.Obj.mk (PySem.Value.type "tuple") (Option.none) (PySem.Data.seq (List.toArray [(PySem.Value.str (PySem.Str.ofString "self") 413)]) 0) (List.toArray []))) ::
  (nat_lit 152, (PySem.Obj.mk (PySem.Value.type "tuple") (Option.none) (PySem.Data.seq (List.toArray []) 0) (List.toArray []))) ::
  (nat_lit 154, (PySem.Obj.mk (PySem.Value.type "code") (Option.none) (PySem.Data.fields (List.toArray [(PySem.Value.str (PySem.Str.ofString "static_order") 410), (PySem.Value.str (PySem.Str.ofString "TopologicalSorter.static_order") 411), (PySem.Value.str (PySem.Str.ofString "/claim/cut.py") 412), (PySem.Value.int (165 : Int) 0), (PySem.Value.int (1 : Int) 0), (PySem.Value.int (0 : Int) 0), (PySem.Value.int (0 : Int) 0), (PySem.Value.int (3 : Int) 0), (PySem.Value.ref 149), (PySem.Value.bool Bool.true), (PySem.Value.int (181 : Int) 0), (PySem.Value.ref 150), PySem.Value.none, (PySem.Value.ref 151), (PySem.Value.ref 152), (PySem.Value.ref 153), (PySem.Value.int (414 : Int) 0), (PySem.Value.int (165 : Int) 0), (PySem.Value.str (PySem.Str.ofString "/claim/cut.py") 415)])) (List.toArray []))) ::
  (nat_lit 155, (PySem.Obj.mk (PySem.Value.type "function") (Option.none) (PySem.Data.func (PySem.FuncData.mk (PySem.Str.ofString "static_order") (PySem.Str.ofString "TopologicalSorter.static_order") (fA (met 13 9)) (.stmts (fB (met 13 9))) (fS (met 13 9)) 3 [] PySem.Value.none PySem.Value.none PySem.Value.none (PySem.Value.str (PySem.Str.ofString "cpy313.graphlib") 247) (Option.none) (PySem.Value.ref 154) PySem.Value.none 0)) (List.toArray []))) ::
  (nat_lit 156, (PySem.Obj.mk (PySem.Value.type "tuple") (Option.none) (PySem.Data.seq (List.toArray [(PySem.Value.str (PySem.Str.ofString "_nfinished") 417), (PySem.Value.str (PySem.Str.ofString "_node2info") 418), (PySem.Value.str (PySem.Str.ofString "_npassedout") 419), (PySem.Value.str (PySem.Str.ofString "_ready_nodes") 420)]) 0) (List.toArray []))) ::
  (nat_lit 157, (PySem.Obj.mk (PySem.Value.type "dict") (Option.none) (PySem.Data.dict (List.toArray [(PySem.DictEntry.mk (PySem.PyData.keyHash P (PySem.Str.ofString "__module__")) (PySem.Value.str (PySem.Str.ofString "__module__") 317) (PySem.Value.str (PySem.Str.ofString "cpy313.graphlib") 247)), (PySem.DictEntry.mk (PySem.PyData.keyHash P (PySem.Str.ofString "__firstlineno__")) (PySem.Value.str (PySem.Str.ofString "__firstlineno__") 321) (PySem.Value.int (61 : Int) 320)), (PySem.DictEntry.mk (PySem.PyData.keyHash P (PySem.Str.ofString "__init__")) (PySem.Value.str (PySem.Str.ofString "__init__") 331) (PySem.Value.ref 94)), (PySem.DictEntry.mk (PySem.PyData.keyHash P (PySem.Str.ofString "_get_nodeinfo")) (PySem.Value.str (PySem.Str.ofString "_get_nodeinfo") 340) (PySem.Value.ref 101)), (PySem.DictEntry.mk (PySem.PyData.keyHash P (PySem.Str.ofString "add")) (PySem.Value.str (PySem.Str.ofString "add") 352) (PySem.Value.ref 108)), (PySem.DictEntry.mk (PySem.PyData.keyHash P (PySem.Str.ofString "prepare")) (PySem.Value.str (PySem.Str.ofString "prepare") 358) (PySem.Value.ref 113)), (PySem.DictEntry.mk (PySem.PyData.keyHash P (PySem.Str.ofString "get_ready")) (PySem.Value.str (PySem.Str.ofString "get_ready") 368) (PySem.Value.ref 120)), (PySem.DictEntry.mk (PySem.PyData.keyHash P (PySem.Str.ofString "is_active")) (PySem.Value.str (PySem.Str.ofString "is_active") 375) (PySem.Value.ref 127)), (PySem.DictEntry.mk (PySem.PyData.keyHash P (PySem.Str.ofString "__bool__")) (PySem.Value.str (PySem.Str.ofString "__bool__") 382) (PySem.Value.ref 134)), (PySem.DictEntry.mk (PySem.PyData.keyHash P (PySem.Str.ofString "done")) (PySem.Value.str (PySem.Str.ofString "done") 396) (PySem.Value.ref 141)), (PySem.DictEntry.mk (PySem.PyData.keyHash P (PySem.Str.ofString "_find_cycle")) (PySem.Value.str (PySem.Str.ofString "_find_cycle") 409) (PySem.Value.ref 148)), (PySem.DictEntry.mk (PySem.PyData.keyHash P (PySem.Str.ofString "static_order")) (PySem.Value.str (PySem.Str.ofString "static_order") 416) (PySem.Value.ref 155)), (PySem.DictEntry.mk (PySem.PyData.keyHash P (PySem.Str.ofString "__static_attributes__")) (PySem.Value.str (PySem.Str.ofString "__static_attributes__") 421) (PySem.Value.ref 156)), (PySem.DictEntry.mk (PySem.PyData.keyHash P (PySem.Str.ofString "__dict__")) (PySem.Value.str (PySem.Str.ofString "__dict__") 423) (PySem.Value.ref 159)), (PySem.DictEntry.mk (PySem.PyData.keyHash P (PySem.Str.ofString "__weakref__")) (PySem.Value.str (PySem.Str.ofString "__weakref__") 425) (PySem.Value.ref 160)), (PySem.DictEntry.mk (PySem.PyData.keyHash P (PySem.Str.ofString "__doc__")) (PySem.Value.str (PySem.Str.ofString "__doc__") 426) PySem.Value.none)]) 4) (List.toArray []))) ::
  (nat_lit 158, (PySem.Obj.mk (PySem.Value.type "type") (Option.none) (PySem.Data.cls (PySem.ClassData.mk (PySem.Str.ofString "TopologicalSorter") [(PySem.Value.type "object")] [(PySem.Value.ref 158), (PySem.Value.type "object")] 157 (PySem.Str.ofString "TopologicalSorter") Bool.true [] [] Bool.false (Option.none) Bool.false)) (List.toArray [(Option.none), (Option.none), (Option.some (PySem.Value.str (PySem.Str.ofString "TopologicalSorter") 310)), (Option.some (PySem.Value.str (PySem.Str.ofString "TopologicalSorter") 318)), (Option.some (PySem.Value.builtin "object.__new__")), (Option.some (PySem.Value.bool Bool.true))]))) ::
  (nat_lit 159, (PySem.Obj.mk (PySem.Value.type "getset_descriptor") (Option.none) (PySem.Data.fields (List.toArray [(PySem.Value.str (PySem.Str.ofString "__dict__") 422), (PySem.Value.ref 158), (PySem.Value.builtin "function.__dict__"), (PySem.Value.builtin "function.__dict__#set")])) (List.toArray []))) ::
  (nat_lit 160, (PySem.Obj.mk (PySem.Value.type "getset_descriptor") (Option.none) (PySem.Data.fields (List.toArray [(PySem.Value.str (PySem.Str.ofString "__weakref__") 424), (PySem.Value.ref 158), (PySem.Value.builtin "ExceptionGroup.__weakref__"), PySem.Value.none])) (List.toArray []))) ::
  (nat_lit 163, (PySem.Obj.mk (PySem.Value.type "tuple") (Option.none) (PySem.Data.seq (List.toArray []) 0) (List.toArray []))) ::
  (nat_lit 166, (PySem.Obj.mk (PySem.Value.type "code") (Option.none) (PySem.Data.fields (List.toArray [(PySem.Value.str (PySem.Str.ofString "_law_colour") 431), (PySem.Value.str (PySem.Str.ofString "_law_colour") 432), (PySem.Value.str (PySem.Str.ofString "/claim/cut.py") 433), (PySem.Value.int (168 : Int) 0), (PySem.Value.int (1 : Int) 0), (PySem.Value.int (0 : Int) 0), (PySem.Value.int (0 : Int) 0), (PySem.Value.int (3 : Int) 0), (PySem.Value.ref 163), (PySem.Value.bool Bool.true), (PySem.Value.int (181 : Int) 0), (PySem.Value.ref 164), PySem.Value.none, PySem.Value.none, PySem.Value.none, (PySem.Value.ref 165), (PySem.Value.int (434 : Int) 0), (PySem.Value.int (168 : Int) 0), (PySem.Value.str (PySem.Str.ofString "/claim/cut.py") 435)])) (List.toArray []))) ::
  (nat_lit 167, (PySem.Obj.mk (PySem.Value.type "function") (Option.none) (PySem.Data.func (PySem.FuncData.mk (PySem.Str.ofString "_law_colour") (PySem.Str.ofString "_law_colour") (fA (stm 15)) (.stmts (fB (stm 15))) (fS (stm 15)) 3 [] PySem.Value.none PySem.Value.none PySem.Value.none (PySem.Value.str (PySem.Str.ofString "law_mj0230_01") 429) (Option.none) (PySem.Value.ref 166) PySem.Value.none 0)) (List.toArray []))) ::
  (nat_lit 168, (PySem.Obj.mk (PySem.Value.type "tuple") (Option.none) (PySem.Data.seq (List.toArray []) 0) (List.toArray []))) ::
  (nat_lit 171, (PySem.Obj.mk (PySem.Value.type "code") (Option.none) (PySem.Data.fields (List.toArray [(PySem.Value.str (PySem.Str.ofString "_law_due") 437), (PySem.Value.str (PySem.Str.ofString "_law_due") 438), (PySem.Value.str (PySem.Str.ofString "/claim/cut.py") 439), (PySem.Value.int (174 : Int) 0), (PySem.Value.int (1 : Int) 0), (PySem.Value.int (0 : Int) 0), (PySem.Value.int (0 : Int) 0), (PySem.Value.int (3 : Int) 0), (PySem.Value.ref 168), (PySem.Value.bool Bool.true), (PySem.Value.int (181 : Int) 0), (PySem.Value.ref 169), PySem.Value.none, PySem.Value.none, PySem.Value.none, (PySem.Value.ref 170), (PySem.Value.int (440 : Int) 0), (PySem.Value.int (174 : Int) 0), (PySem.Value.str (PySem.Str.ofString "/claim/cut.py") 441)])) (List.toArray []))) ::
  (nat_lit 172, (PySem.Obj.mk (PySem.Value.type "function") (Option.none) (PySem.Data.func (PySem.FuncData.mk (PySem.Str.ofString "_law_due") (PySem.Str.ofString "_law_due") (fA (stm 16)) (.stmts (fB (stm 16))) (fS (stm 16)) 3 [] PySem.Value.none PySem.Value.none PySem.Value.none (PySem.Value.str (PySem.Str.ofString "law_mj0230_01") 429) (Option.none) (PySem.Value.ref 171) PySem.Value.none 0)) (List.toArray []))) ::
  (nat_lit 173, (PySem.Obj.mk (PySem.Value.type "tuple") (Option.none) (PySem.Data.seq (List.toArray []) 0) (List.toArray []))) ::
  (nat_lit 176, (PySem.Obj.mk (PySem.Value.type "code") (Option.none) (PySem.Data.fields (List.toArray [(PySem.Value.str (PySem.Str.ofString "_law_told") 443), (PySem.Value.str (PySem.Str.ofString "_law_told") 444), (PySem.Value.str (PySem.Str.ofString "/claim/cut.py") 445), (PySem.Value.int (190 : Int) 0), (PySem.Value.int (1 : Int) 0), (PySem.Value.int (0 : Int) 0), (PySem.Value.int (0 : Int) 0), (PySem.Value.int (3 : Int) 0), (PySem.Value.ref 173), (PySem.Value.bool Bool.true), (PySem.Value.int (181 : Int) 0), (PySem.Value.ref 174), PySem.Value.none, PySem.Value.none, PySem.Value.none, (PySem.Value.ref 175), (PySem.Value.int (446 : Int) 0), (PySem.Value.int (190 : Int) 0), (PySem.Value.str (PySem.Str.ofString "/claim/cut.py") 447)])) (List.toArray []))) ::
  (nat_lit 177, (PySem.Obj.mk (PySem.Value.type "function") (Option.none) (PySem.Data.func (PySem.FuncData.mk (PySem.Str.ofString "_law_told") (PySem.Str.ofString "_law_told") (fA (stm 17)) (.stmts (fB (stm 17))) (fS (stm 17)) 3 [] PySem.Value.none PySem.Value.none PySem.Value.none (PySem.Value.str (PySem.Str.ofString "law_mj0230_01") 429) (Option.none) (PySem.Value.ref 176) PySem.Value.none 0)) (List.toArray []))) ::
  (nat_lit 178, (PySem.Obj.mk (PySem.Value.type "tuple") (Option.none) (PySem.Data.seq (List.toArray []) 0) (List.toArray []))) ::
  (nat_lit 181, (PySem.Obj.mk (PySem.Value.type "code") (Option.none) (PySem.Data.fields (List.toArray [(PySem.Value.str (PySem.Str.ofString "law") 449), (PySem.Value.str (PySem.Str.ofString "law") 450), (PySem.Value.str (PySem.Str.ofString "/claim/cut.py") 451), (PySem.Value.int (200 : Int) 0), (PySem.Value.int (1 : Int) 0), (PySem.Value.int (0 : Int) 0), (PySem.Value.int (0 : Int) 0), (PySem.Value.int (3 : Int) 0), (PySem.Value.ref 178), (PySem.Value.bool Bool.true), (PySem.Value.int (181 : Int) 0), (PySem.Value.ref 179), PySem.Value.none, PySem.Value.none, PySem.Value.none, (PySem.Value.ref 180), (PySem.Value.int (452 : Int) 0), (PySem.Value.int (200 : Int) 0), (PySem.Value.str (PySem.Str.ofString "/claim/cut.py") 453)])) (List.toArray []))) ::
  (nat_lit 182, (PySem.Obj.mk (PySem.Value.type "function") (Option.none) (PySem.Data.func (PySem.FuncData.mk (PySem.Str.ofString "law") (PySem.Str.ofString "law") (fA (stm 18)) (.stmts (fB (stm 18))) (fS (stm 18)) 3 [] PySem.Value.none PySem.Value.none PySem.Value.none (PySem.Value.str (PySem.Str.ofString "law_mj0230_01") 429) (Option.none) (PySem.Value.ref 181) PySem.Value.none 0)) (List.toArray []))) :: []
noncomputable def viewK : Program := { PySem.Challenge.pw_mj0230_01 with main := { PySem.Challenge.pw_mj0230_01.main with body := [stm 0, stm 2, stm 3, stm 4, stm 5, stm 6, stm 7, stm 9, stm 10, stm 11, stm 12, stm 13, stm 15, stm 16, stm 17, stm 18] } }
end Mine

namespace Mine
noncomputable abbrev lvK : List (Str × WData) := [(Str.ofString "ONE_THIRD", WData.float 4599676419421066581), (Str.ofString "ONE_SIXTH", WData.float 4595172819793696085), (Str.ofString "TWO_THIRD", WData.float 4604180019048437077)]
abbrev looK : List Str := [Str.ofString "ONE_THIRD", Str.ofString "ONE_SIXTH", Str.ofString "TWO_THIRD", Str.ofString "_NodeInfo"]
noncomputable abbrev hookK : Hook := kHook heapK [2, 3, 15, 17, 18, 20, 21, 22, 24, 25, 27, 28, 29, 31, 32, 34, 35, 36, 38, 39, 41, 42, 50, 51, 53, 54, 56, 57, 58, 60, 61, 62, 63, 64, 67, 74, 75, 76, 77, 87, 88, 90, 91, 93, 94, 95, 97, 98, 100, 101, 102, 104, 105, 107, 108, 109, 112, 113, 114, 116, 117, 119, 120, 121, 123, 124, 126, 127, 128, 130, 131, 133, 134, 135, 137, 138, 140, 141, 142, 144, 145, 147, 148, 149, 151, 152, 154, 155, 156, 157, 158, 159, 160, 163, 166, 167, 168, 171, 172, 173, 176, 177, 178, 181, 182] (fun _ => by kernel_rfl)
abbrev pgK : Program := PySem.Challenge.rw_mj0230_01.row.prog
/-- the frame of the text's top, and the objects that its heap holds between the groups of its statements -/
noncomputable def envK : Env := { scope := pgK.main.scope, locals := mainNs, globals := mainNs, cells := [], code := Value.ref 13, frame := some 14 }
noncomputable abbrev codK : Code := Code.body (behindTheImports pgK) envK
abbrev frsK : List Frame := [topFrame ⟨0, 0, 0, 0⟩]
noncomputable def stsA : List Stmt := [stm 0, stm 1, stm 2, stm 3, stm 4, stm 5, stm 6, stm 7, stm 8, stm 9, stm 10]
noncomputable def stsB : List Stmt := [stm 11]
noncomputable def stsC : List Stmt := [stm 12]
noncomputable def stsD : List Stmt := [stm 13]
noncomputable def stsE : List Stmt := [stm 14, stm 15, stm 16, stm 17, stm 18]
noncomputable def zo43 (_ : Params) : Obj := (PySem.Obj.mk (PySem.Value.type "tuple") (Option.none) (PySem.Data.seq (List.toArray []) 0) (List.toArray []))
noncomputable def zo44 (_ : Params) : Obj := (PySem.Obj.mk PySem.Value.none (Option.none) (PySem.Data.fields (List.toArray [])) (List.toArray []))
noncomputable def zo45 (_ : Params) : Obj := (PySem.Obj.mk (PySem.Value.type "code") (Option.none) (PySem.Data.fields (List.toArray [(PySem.Value.str (PySem.Str.ofString "<module>") 182), (PySem.Value.str (PySem.Str.ofString "<module>") 183), (PySem.Value.str (PySem.Str.ofString "/claim/cut.py") 184), (PySem.Value.int (1 : Int) 0), (PySem.Value.int (0 : Int) 0), (PySem.Value.int (0 : Int) 0), (PySem.Value.int (0 : Int) 0), (PySem.Value.int (0 : Int) 0), (PySem.Value.ref 11), (PySem.Value.bool Bool.false), (PySem.Value.int (181 : Int) 0), (PySem.Value.ref 12), PySem.Value.none, PySem.Value.none, PySem.Value.none, PySem.Value.none, (PySem.Value.int (185 : Int) 0), (PySem.Value.int (1 : Int) 0), (PySem.Value.str (PySem.Str.ofString "/claim/cut.py") 186)])) (List.toArray []))
noncomputable def zo46 (_ : Params) : Obj := (PySem.Obj.mk (PySem.Value.type "frame") (Option.none) PySem.Data.plain (List.toArray [(Option.some (PySem.Value.ref 13)), (Option.some (PySem.Value.ref 3)), (Option.some (PySem.Value.ref 3)), (Option.none), (Option.some (PySem.Value.str (PySem.Str.ofString "__main__") 164)), (Option.none), (Option.some (PySem.Value.ref 0))]))
noncomputable def zo49 (P : Params) : Obj := (PySem.Obj.mk (PySem.Value.type "dict") (Option.none) (PySem.Data.dict (List.toArray [(PySem.DictEntry.mk (PySem.PyData.keyHash P (PySem.Str.ofString "__name__")) (PySem.Value.str (PySem.Str.ofString "__name__") 165) (PySem.Value.str (PySem.Str.ofString "cpy313.graphlib") 247)), (PySem.DictEntry.mk (PySem.PyData.keyHash P (PySem.Str.ofString "__doc__")) (PySem.Value.str (PySem.Str.ofString "__doc__") 166) PySem.Value.none), (PySem.DictEntry.mk (PySem.PyData.keyHash P (PySem.Str.ofString "__package__")) (PySem.Value.str (PySem.Str.ofString "__package__") 167) PySem.Value.none), (PySem.DictEntry.mk (PySem.PyData.keyHash P (PySem.Str.ofString "__loader__")) (PySem.Value.str (PySem.Str.ofString "__loader__") 168) (PySem.Value.builtin "__main__.__loader__#opaque")), (PySem.DictEntry.mk (PySem.PyData.keyHash P (PySem.Str.ofString "__spec__")) (PySem.Value.str (PySem.Str.ofString "__spec__") 169) PySem.Value.none), (PySem.DictEntry.mk (PySem.PyData.keyHash P (PySem.Str.ofString "__annotations__")) (PySem.Value.str (PySem.Str.ofString "__annotations__") 170) (PySem.Value.ref 6)), (PySem.DictEntry.mk (PySem.PyData.keyHash P (PySem.Str.ofString "__builtins__")) (PySem.Value.str (PySem.Str.ofString "__builtins__") 171) (PySem.Value.ref 4)), (PySem.DictEntry.mk (PySem.PyData.keyHash P (PySem.Str.ofString "__file__")) (PySem.Value.str (PySem.Str.ofString "__file__") 173) (PySem.Value.str (PySem.Str.ofString "/claim/cut.py") 172)), (PySem.DictEntry.mk (PySem.PyData.keyHash P (PySem.Str.ofString "__cached__")) (PySem.Value.str (PySem.Str.ofString "__cached__") 174) PySem.Value.none), (PySem.DictEntry.mk (PySem.PyData.keyHash P (PySem.Str.ofString "_wall")) (PySem.Value.str (PySem.Str.ofString "_wall") 193) (PySem.Value.ref 21)), (PySem.DictEntry.mk (PySem.PyData.keyHash P (PySem.Str.ofString "ONE_THIRD")) (PySem.Value.str (PySem.Str.ofString "ONE_THIRD") 199) (PySem.Value.float (4599676419421066581 : UInt64) 198)), (PySem.DictEntry.mk (PySem.PyData.keyHash P (PySem.Str.ofString "ONE_SIXTH")) (PySem.Value.str (PySem.Str.ofString "ONE_SIXTH") 203) (PySem.Value.float (4595172819793696085 : UInt64) 202)), (PySem.DictEntry.mk (PySem.PyData.keyHash P (PySem.Str.ofString "TWO_THIRD")) (PySem.Value.str (PySem.Str.ofString "TWO_THIRD") 207) (PySem.Value.float (4604180019048437077 : UInt64) 206)), (PySem.DictEntry.mk (PySem.PyData.keyHash P (PySem.Str.ofString "rgb_to_hls")) (PySem.Value.str (PySem.Str.ofString "rgb_to_hls") 226) (PySem.Value.ref 28)), (PySem.DictEntry.mk (PySem.PyData.keyHash P (PySem.Str.ofString "hls_to_rgb")) (PySem.Value.str (PySem.Str.ofString "hls_to_rgb") 237) (PySem.Value.ref 35)), (PySem.DictEntry.mk (PySem.PyData.keyHash P (PySem.Str.ofString "_v")) (PySem.Value.str (PySem.Str.ofString "_v") 246) (PySem.Value.ref 42)), (PySem.DictEntry.mk (PySem.PyData.keyHash P (PySem.Str.ofString "_NODE_OUT")) (PySem.Value.str (PySem.Str.ofString "_NODE_OUT") 251) (PySem.Value.int (Neg.neg (1 : Int)) 250)), (PySem.DictEntry.mk (PySem.PyData.keyHash P (PySem.Str.ofString "_NODE_DONE")) (PySem.Value.str (PySem.Str.ofString "_NODE_DONE") 254) (PySem.Value.int (Neg.neg (2 : Int)) 253))]) 18) (List.toArray []))
noncomputable def zo50 (_ : Params) : Obj := (PySem.Obj.mk PySem.Value.none (Option.none) (PySem.Data.fields (List.toArray [(PySem.Value.int (1 : Int) 0), (PySem.Value.int (0 : Int) 0), (PySem.Value.ref 20), (PySem.Value.int (8 : Int) 0), (PySem.Value.int (0 : Int) 0), (PySem.Value.ref 27), (PySem.Value.int (31 : Int) 0), (PySem.Value.int (0 : Int) 0), (PySem.Value.ref 34), (PySem.Value.int (40 : Int) 0), (PySem.Value.int (0 : Int) 0), (PySem.Value.ref 41)])) (List.toArray []))
noncomputable def zo51 (_ : Params) : Obj := (PySem.Obj.mk (PySem.Value.type "tuple") (Option.none) (PySem.Data.seq (List.toArray []) 0) (List.toArray []))
noncomputable def zo52 (_ : Params) : Obj := (PySem.Obj.mk PySem.Value.none (Option.none) (PySem.Data.fields (List.toArray [])) (List.toArray []))
noncomputable def zo53 (_ : Params) : Obj := (PySem.Obj.mk (PySem.Value.type "tuple") (Option.none) (PySem.Data.seq (List.toArray [(PySem.Value.str (PySem.Str.ofString "k") 190)]) 0) (List.toArray []))
noncomputable def zo54 (_ : Params) : Obj := (PySem.Obj.mk (PySem.Value.type "tuple") (Option.none) (PySem.Data.seq (List.toArray []) 0) (List.toArray []))
noncomputable def zo55 (_ : Params) : Obj := (PySem.Obj.mk PySem.Value.none (Option.none) (PySem.Data.func (PySem.FuncData.mk (PySem.Str.ofString "_wall") (PySem.Str.ofString "_wall") (fA (stm 0)) (.stmts (fB (stm 0))) (fS (stm 0)) 0 [] PySem.Value.none PySem.Value.none PySem.Value.none PySem.Value.none (Option.none) PySem.Value.none PySem.Value.none 0)) (List.toArray []))
noncomputable def zo56 (_ : Params) : Obj := (PySem.Obj.mk (PySem.Value.type "code") (Option.none) (PySem.Data.fields (List.toArray [(PySem.Value.str (PySem.Str.ofString "_wall") 187), (PySem.Value.str (PySem.Str.ofString "_wall") 188), (PySem.Value.str (PySem.Str.ofString "/claim/cut.py") 189), (PySem.Value.int (1 : Int) 0), (PySem.Value.int (1 : Int) 0), (PySem.Value.int (0 : Int) 0), (PySem.Value.int (0 : Int) 0), (PySem.Value.int (3 : Int) 0), (PySem.Value.ref 15), (PySem.Value.bool Bool.true), (PySem.Value.int (181 : Int) 0), (PySem.Value.ref 16), PySem.Value.none, (PySem.Value.ref 17), (PySem.Value.ref 18), (PySem.Value.ref 19), (PySem.Value.int (191 : Int) 0), (PySem.Value.int (1 : Int) 0), (PySem.Value.str (PySem.Str.ofString "/claim/cut.py") 192)])) (List.toArray []))
noncomputable def zo57 (_ : Params) : Obj := (PySem.Obj.mk (PySem.Value.type "function") (Option.none) (PySem.Data.func (PySem.FuncData.mk (PySem.Str.ofString "_wall") (PySem.Str.ofString "_wall") (fA (stm 0)) (.stmts (fB (stm 0))) (fS (stm 0)) 3 [] PySem.Value.none PySem.Value.none PySem.Value.none (PySem.Value.str (PySem.Str.ofString "__main__") 164) (Option.none) (PySem.Value.ref 20) PySem.Value.none 0)) (List.toArray []))
noncomputable def zo58 (_ : Params) : Obj := (PySem.Obj.mk (PySem.Value.type "tuple") (Option.none) (PySem.Data.seq (List.toArray []) 0) (List.toArray []))
noncomputable def zo59 (_ : Params) : Obj := (PySem.Obj.mk PySem.Value.none (Option.none) (PySem.Data.fields (List.toArray [])) (List.toArray []))
noncomputable def zo60 (_ : Params) : Obj := (PySem.Obj.mk (PySem.Value.type "tuple") (Option.none) (PySem.Data.seq (List.toArray [(PySem.Value.str (PySem.Str.ofString "r") 211), (PySem.Value.str (PySem.Str.ofString "g") 212), (PySem.Value.str (PySem.Str.ofString "b") 213), (PySem.Value.str (PySem.Str.ofString "maxc") 214), (PySem.Value.str (PySem.Str.ofString "minc") 215), (PySem.Value.str (PySem.Str.ofString "sumc") 216), (PySem.Value.str (PySem.Str.ofString "rangec") 217), (PySem.Value.str (PySem.Str.ofString "l") 218), (PySem.Value.str (PySem.Str.ofString "s") 219), (PySem.Value.str (PySem.Str.ofString "rc") 220), (PySem.Value.str (PySem.Str.ofString "gc") 221), (PySem.Value.str (PySem.Str.ofString "bc") 222), (PySem.Value.str (PySem.Str.ofString "h") 223)]) 0) (List.toArray []))
noncomputable def zo61 (_ : Params) : Obj := (PySem.Obj.mk (PySem.Value.type "tuple") (Option.none) (PySem.Data.seq (List.toArray []) 0) (List.toArray []))
noncomputable def zo62 (_ : Params) : Obj := (PySem.Obj.mk PySem.Value.none (Option.none) (PySem.Data.func (PySem.FuncData.mk (PySem.Str.ofString "rgb_to_hls") (PySem.Str.ofString "rgb_to_hls") (fA (stm 5)) (.stmts (fB (stm 5))) (fS (stm 5)) 0 [] PySem.Value.none PySem.Value.none PySem.Value.none PySem.Value.none (Option.none) PySem.Value.none PySem.Value.none 0)) (List.toArray []))
noncomputable def zo63 (_ : Params) : Obj := (PySem.Obj.mk (PySem.Value.type "code") (Option.none) (PySem.Data.fields (List.toArray [(PySem.Value.str (PySem.Str.ofString "rgb_to_hls") 208), (PySem.Value.str (PySem.Str.ofString "rgb_to_hls") 209), (PySem.Value.str (PySem.Str.ofString "/claim/cut.py") 210), (PySem.Value.int (8 : Int) 0), (PySem.Value.int (3 : Int) 0), (PySem.Value.int (0 : Int) 0), (PySem.Value.int (0 : Int) 0), (PySem.Value.int (3 : Int) 0), (PySem.Value.ref 22), (PySem.Value.bool Bool.true), (PySem.Value.int (181 : Int) 0), (PySem.Value.ref 23), PySem.Value.none, (PySem.Value.ref 24), (PySem.Value.ref 25), (PySem.Value.ref 26), (PySem.Value.int (224 : Int) 0), (PySem.Value.int (8 : Int) 0), (PySem.Value.str (PySem.Str.ofString "/claim/cut.py") 225)])) (List.toArray []))
noncomputable def zo64 (_ : Params) : Obj := (PySem.Obj.mk (PySem.Value.type "function") (Option.none) (PySem.Data.func (PySem.FuncData.mk (PySem.Str.ofString "rgb_to_hls") (PySem.Str.ofString "rgb_to_hls") (fA (stm 5)) (.stmts (fB (stm 5))) (fS (stm 5)) 3 [] PySem.Value.none PySem.Value.none PySem.Value.none (PySem.Value.str (PySem.Str.ofString "cpy313.colorsys") 194) (Option.none) (PySem.Value.ref 27) PySem.Value.none 0)) (List.toArray []))
noncomputable def zo65 (_ : Params) : Obj := (PySem.Obj.mk (PySem.Value.type "tuple") (Option.none) (PySem.Data.seq (List.toArray []) 0) (List.toArray []))
noncomputable def zo66 (_ : Params) : Obj := (PySem.Obj.mk PySem.Value.none (Option.none) (PySem.Data.fields (List.toArray [])) (List.toArray []))
noncomputable def zo67 (_ : Params) : Obj := (PySem.Obj.mk (PySem.Value.type "tuple") (Option.none) (PySem.Data.seq (List.toArray [(PySem.Value.str (PySem.Str.ofString "h") 230), (PySem.Value.str (PySem.Str.ofString "l") 231), (PySem.Value.str (PySem.Str.ofString "s") 232), (PySem.Value.str (PySem.Str.ofString "m2") 233), (PySem.Value.str (PySem.Str.ofString "m1") 234)]) 0) (List.toArray []))
noncomputable def zo68 (_ : Params) : Obj := (PySem.Obj.mk (PySem.Value.type "tuple") (Option.none) (PySem.Data.seq (List.toArray []) 0) (List.toArray []))
noncomputable def zo69 (_ : Params) : Obj := (PySem.Obj.mk PySem.Value.none (Option.none) (PySem.Data.func (PySem.FuncData.mk (PySem.Str.ofString "hls_to_rgb") (PySem.Str.ofString "hls_to_rgb") (fA (stm 6)) (.stmts (fB (stm 6))) (fS (stm 6)) 0 [] PySem.Value.none PySem.Value.none PySem.Value.none PySem.Value.none (Option.none) PySem.Value.none PySem.Value.none 0)) (List.toArray []))
noncomputable def zo70 (_ : Params) : Obj := (PySem.Obj.mk (PySem.Value.type "code") (Option.none) (PySem.Data.fields (List.toArray [(PySem.Value.str (PySem.Str.ofString "hls_to_rgb") 227), (PySem.Value.str (PySem.Str.ofString "hls_to_rgb") 228), (PySem.Value.str (PySem.Str.ofString "/claim/cut.py") 229), (PySem.Value.int (31 : Int) 0), (PySem.Value.int (3 : Int) 0), (PySem.Value.int (0 : Int) 0), (PySem.Value.int (0 : Int) 0), (PySem.Value.int (3 : Int) 0), (PySem.Value.ref 29), (PySem.Value.bool Bool.true), (PySem.Value.int (181 : Int) 0), (PySem.Value.ref 30), PySem.Value.none, (PySem.Value.ref 31), (PySem.Value.ref 32), (PySem.Value.ref 33), (PySem.Value.int (235 : Int) 0), (PySem.Value.int (31 : Int) 0), (PySem.Value.str (PySem.Str.ofString "/claim/cut.py") 236)])) (List.toArray []))
noncomputable def zo71 (_ : Params) : Obj := (PySem.Obj.mk (PySem.Value.type "function") (Option.none) (PySem.Data.func (PySem.FuncData.mk (PySem.Str.ofString "hls_to_rgb") (PySem.Str.ofString "hls_to_rgb") (fA (stm 6)) (.stmts (fB (stm 6))) (fS (stm 6)) 3 [] PySem.Value.none PySem.Value.none PySem.Value.none (PySem.Value.str (PySem.Str.ofString "cpy313.colorsys") 194) (Option.none) (PySem.Value.ref 34) PySem.Value.none 0)) (List.toArray []))
noncomputable def zo72 (_ : Params) : Obj := (PySem.Obj.mk (PySem.Value.type "tuple") (Option.none) (PySem.Data.seq (List.toArray []) 0) (List.toArray []))
noncomputable def zo73 (_ : Params) : Obj := (PySem.Obj.mk PySem.Value.none (Option.none) (PySem.Data.fields (List.toArray [])) (List.toArray []))
noncomputable def zo74 (_ : Params) : Obj := (PySem.Obj.mk (PySem.Value.type "tuple") (Option.none) (PySem.Data.seq (List.toArray [(PySem.Value.str (PySem.Str.ofString "m1") 241), (PySem.Value.str (PySem.Str.ofString "m2") 242), (PySem.Value.str (PySem.Str.ofString "hue") 243)]) 0) (List.toArray []))
noncomputable def zo75 (_ : Params) : Obj := (PySem.Obj.mk (PySem.Value.type "tuple") (Option.none) (PySem.Data.seq (List.toArray []) 0) (List.toArray []))
noncomputable def zo76 (_ : Params) : Obj := (PySem.Obj.mk PySem.Value.none (Option.none) (PySem.Data.func (PySem.FuncData.mk (PySem.Str.ofString "_v") (PySem.Str.ofString "_v") (fA (stm 7)) (.stmts (fB (stm 7))) (fS (stm 7)) 0 [] PySem.Value.none PySem.Value.none PySem.Value.none PySem.Value.none (Option.none) PySem.Value.none PySem.Value.none 0)) (List.toArray []))
noncomputable def zo77 (_ : Params) : Obj := (PySem.Obj.mk (PySem.Value.type "code") (Option.none) (PySem.Data.fields (List.toArray [(PySem.Value.str (PySem.Str.ofString "_v") 238), (PySem.Value.str (PySem.Str.ofString "_v") 239), (PySem.Value.str (PySem.Str.ofString "/claim/cut.py") 240), (PySem.Value.int (40 : Int) 0), (PySem.Value.int (3 : Int) 0), (PySem.Value.int (0 : Int) 0), (PySem.Value.int (0 : Int) 0), (PySem.Value.int (3 : Int) 0), (PySem.Value.ref 36), (PySem.Value.bool Bool.true), (PySem.Value.int (181 : Int) 0), (PySem.Value.ref 37), PySem.Value.none, (PySem.Value.ref 38), (PySem.Value.ref 39), (PySem.Value.ref 40), (PySem.Value.int (244 : Int) 0), (PySem.Value.int (40 : Int) 0), (PySem.Value.str (PySem.Str.ofString "/claim/cut.py") 245)])) (List.toArray []))
noncomputable def zo78 (_ : Params) : Obj := (PySem.Obj.mk (PySem.Value.type "function") (Option.none) (PySem.Data.func (PySem.FuncData.mk (PySem.Str.ofString "_v") (PySem.Str.ofString "_v") (fA (stm 7)) (.stmts (fB (stm 7))) (fS (stm 7)) 3 [] PySem.Value.none PySem.Value.none PySem.Value.none (PySem.Value.str (PySem.Str.ofString "cpy313.colorsys") 194) (Option.none) (PySem.Value.ref 41) PySem.Value.none 0)) (List.toArray []))
noncomputable def zo79 (P : Params) : Obj := (PySem.Obj.mk (PySem.Value.type "dict") (Option.none) (PySem.Data.dict (List.toArray [(PySem.DictEntry.mk (PySem.PyData.keyHash P (PySem.Str.ofString "__name__")) (PySem.Value.str (PySem.Str.ofString "__name__") 165) (PySem.Value.str (PySem.Str.ofString "cpy313.graphlib") 247)), (PySem.DictEntry.mk (PySem.PyData.keyHash P (PySem.Str.ofString "__doc__")) (PySem.Value.str (PySem.Str.ofString "__doc__") 166) PySem.Value.none), (PySem.DictEntry.mk (PySem.PyData.keyHash P (PySem.Str.ofString "__package__")) (PySem.Value.str (PySem.Str.ofString "__package__") 167) PySem.Value.none), (PySem.DictEntry.mk (PySem.PyData.keyHash P (PySem.Str.ofString "__loader__")) (PySem.Value.str (PySem.Str.ofString "__loader__") 168) (PySem.Value.builtin "__main__.__loader__#opaque")), (PySem.DictEntry.mk (PySem.PyData.keyHash P (PySem.Str.ofString "__spec__")) (PySem.Value.str (PySem.Str.ofString "__spec__") 169) PySem.Value.none), (PySem.DictEntry.mk (PySem.PyData.keyHash P (PySem.Str.ofString "__annotations__")) (PySem.Value.str (PySem.Str.ofString "__annotations__") 170) (PySem.Value.ref 6)), (PySem.DictEntry.mk (PySem.PyData.keyHash P (PySem.Str.ofString "__builtins__")) (PySem.Value.str (PySem.Str.ofString "__builtins__") 171) (PySem.Value.ref 4)), (PySem.DictEntry.mk (PySem.PyData.keyHash P (PySem.Str.ofString "__file__")) (PySem.Value.str (PySem.Str.ofString "__file__") 173) (PySem.Value.str (PySem.Str.ofString "/claim/cut.py") 172)), (PySem.DictEntry.mk (PySem.PyData.keyHash P (PySem.Str.ofString "__cached__")) (PySem.Value.str (PySem.Str.ofString "__cached__") 174) PySem.Value.none), (PySem.DictEntry.mk (PySem.PyData.keyHash P (PySem.Str.ofString "_wall")) (PySem.Value.str (PySem.Str.ofString "_wall") 193) (PySem.Value.ref 21)), (PySem.DictEntry.mk (PySem.PyData.keyHash P (PySem.Str.ofString "ONE_THIRD")) (PySem.Value.str (PySem.Str.ofString "ONE_THIRD") 199) (PySem.Value.float (4599676419421066581 : UInt64) 198)), (PySem.DictEntry.mk (PySem.PyData.keyHash P (PySem.Str.ofString "ONE_SIXTH")) (PySem.Value.str (PySem.Str.ofString "ONE_SIXTH") 203) (PySem.Value.float (4595172819793696085 : UInt64) 202)), (PySem.DictEntry.mk (PySem.PyData.keyHash P (PySem.Str.ofString "TWO_THIRD")) (PySem.Value.str (PySem.Str.ofString "TWO_THIRD") 207) (PySem.Value.float (4604180019048437077 : UInt64) 206)), (PySem.DictEntry.mk (PySem.PyData.keyHash P (PySem.Str.ofString "rgb_to_hls")) (PySem.Value.str (PySem.Str.ofString "rgb_to_hls") 226) (PySem.Value.ref 28)), (PySem.DictEntry.mk (PySem.PyData.keyHash P (PySem.Str.ofString "hls_to_rgb")) (PySem.Value.str (PySem.Str.ofString "hls_to_rgb") 237) (PySem.Value.ref 35)), (PySem.DictEntry.mk (PySem.PyData.keyHash P (PySem.Str.ofString "_v")) (PySem.Value.str (PySem.Str.ofString "_v") 246) (PySem.Value.ref 42)), (PySem.DictEntry.mk (PySem.PyData.keyHash P (PySem.Str.ofString "_NODE_OUT")) (PySem.Value.str (PySem.Str.ofString "_NODE_OUT") 251) (PySem.Value.int (Neg.neg (1 : Int)) 250)), (PySem.DictEntry.mk (PySem.PyData.keyHash P (PySem.Str.ofString "_NODE_DONE")) (PySem.Value.str (PySem.Str.ofString "_NODE_DONE") 254) (PySem.Value.int (Neg.neg (2 : Int)) 253)), (PySem.DictEntry.mk (PySem.PyData.keyHash P (PySem.Str.ofString "_NodeInfo")) (PySem.Value.str (PySem.Str.ofString "_NodeInfo") 291) (PySem.Value.ref 61))]) 19) (List.toArray []))
noncomputable def zo80 (_ : Params) : Obj := (PySem.Obj.mk PySem.Value.none (Option.none) (PySem.Data.fields (List.toArray [(PySem.Value.int (1 : Int) 0), (PySem.Value.int (0 : Int) 0), (PySem.Value.ref 20), (PySem.Value.int (8 : Int) 0), (PySem.Value.int (0 : Int) 0), (PySem.Value.ref 27), (PySem.Value.int (31 : Int) 0), (PySem.Value.int (0 : Int) 0), (PySem.Value.ref 34), (PySem.Value.int (40 : Int) 0), (PySem.Value.int (0 : Int) 0), (PySem.Value.ref 41), (PySem.Value.int (52 : Int) 0), (PySem.Value.int (0 : Int) 0), (PySem.Value.ref 48)])) (List.toArray []))
noncomputable def zo81 (_ : Params) : Obj := (PySem.Obj.mk (PySem.Value.type "tuple") (Option.none) (PySem.Data.seq (List.toArray []) 0) (List.toArray []))
noncomputable def zo82 (_ : Params) : Obj := (PySem.Obj.mk (PySem.Value.type "builtin_function_or_method") (Option.none) (PySem.Data.fields (List.toArray [(PySem.Value.builtin "type.__prepare__"), (PySem.Value.type "type")])) (List.toArray []))
noncomputable def zo83 (P : Params) : Obj := (PySem.Obj.mk (PySem.Value.type "dict") (Option.none) (PySem.Data.dict (List.toArray [(PySem.DictEntry.mk (PySem.PyData.keyHash P (PySem.Str.ofString "__module__")) (PySem.Value.str (PySem.Str.ofString "__module__") 262) (PySem.Value.str (PySem.Str.ofString "cpy313.graphlib") 247)), (PySem.DictEntry.mk (PySem.PyData.keyHash P (PySem.Str.ofString "__qualname__")) (PySem.Value.str (PySem.Str.ofString "__qualname__") 264) (PySem.Value.str (PySem.Str.ofString "_NodeInfo") 263)), (PySem.DictEntry.mk (PySem.PyData.keyHash P (PySem.Str.ofString "__firstlineno__")) (PySem.Value.str (PySem.Str.ofString "__firstlineno__") 266) (PySem.Value.int (52 : Int) 265)), (PySem.DictEntry.mk (PySem.PyData.keyHash P (PySem.Str.ofString "__slots__")) (PySem.Value.str (PySem.Str.ofString "__slots__") 270) (PySem.Value.ref 50)), (PySem.DictEntry.mk (PySem.PyData.keyHash P (PySem.Str.ofString "__init__")) (PySem.Value.str (PySem.Str.ofString "__init__") 278) (PySem.Value.ref 57)), (PySem.DictEntry.mk (PySem.PyData.keyHash P (PySem.Str.ofString "__static_attributes__")) (PySem.Value.str (PySem.Str.ofString "__static_attributes__") 282) (PySem.Value.ref 58))]) 6) (List.toArray []))
noncomputable def zo84 (_ : Params) : Obj := (PySem.Obj.mk (PySem.Value.type "tuple") (Option.none) (PySem.Data.seq (List.toArray []) 0) (List.toArray []))
noncomputable def zo85 (_ : Params) : Obj := (PySem.Obj.mk PySem.Value.none (Option.none) (PySem.Data.fields (List.toArray [(PySem.Value.int (55 : Int) 0), (PySem.Value.int (4 : Int) 0), (PySem.Value.ref 56)])) (List.toArray []))
noncomputable def zo86 (_ : Params) : Obj := (PySem.Obj.mk (PySem.Value.type "code") (Option.none) (PySem.Data.fields (List.toArray [(PySem.Value.str (PySem.Str.ofString "_NodeInfo") 257), (PySem.Value.str (PySem.Str.ofString "_NodeInfo") 258), (PySem.Value.str (PySem.Str.ofString "/claim/cut.py") 259), (PySem.Value.int (52 : Int) 0), (PySem.Value.int (0 : Int) 0), (PySem.Value.int (0 : Int) 0), (PySem.Value.int (0 : Int) 0), (PySem.Value.int (0 : Int) 0), (PySem.Value.ref 46), (PySem.Value.bool Bool.false), (PySem.Value.int (181 : Int) 0), (PySem.Value.ref 47), PySem.Value.none, PySem.Value.none, PySem.Value.none, PySem.Value.none, (PySem.Value.int (260 : Int) 0), (PySem.Value.int (52 : Int) 0), (PySem.Value.str (PySem.Str.ofString "/claim/cut.py") 261)])) (List.toArray []))
noncomputable def zo87 (_ : Params) : Obj := (PySem.Obj.mk (PySem.Value.type "frame") (Option.none) PySem.Data.plain (List.toArray [(Option.some (PySem.Value.ref 48)), (Option.some (PySem.Value.ref 3)), (Option.some (PySem.Value.ref 45)), (Option.none), (Option.some (PySem.Value.str (PySem.Str.ofString "cpy313.graphlib") 247)), (Option.none), (Option.some (PySem.Value.ref 0))]))
noncomputable def zo88 (_ : Params) : Obj := (PySem.Obj.mk (PySem.Value.type "tuple") (Option.none) (PySem.Data.seq (List.toArray [(PySem.Value.str (PySem.Str.ofString "node") 267), (PySem.Value.str (PySem.Str.ofString "npredecessors") 268), (PySem.Value.str (PySem.Str.ofString "successors") 269)]) 0) (List.toArray []))
noncomputable def zo89 (_ : Params) : Obj := (PySem.Obj.mk (PySem.Value.type "tuple") (Option.none) (PySem.Data.seq (List.toArray []) 0) (List.toArray []))
noncomputable def zo90 (_ : Params) : Obj := (PySem.Obj.mk PySem.Value.none (Option.none) (PySem.Data.fields (List.toArray [])) (List.toArray []))
noncomputable def zo91 (_ : Params) : Obj := (PySem.Obj.mk (PySem.Value.type "tuple") (Option.none) (PySem.Data.seq (List.toArray [(PySem.Value.str (PySem.Str.ofString "self") 274), (PySem.Value.str (PySem.Str.ofString "node") 275)]) 0) (List.toArray []))
noncomputable def zo92 (_ : Params) : Obj := (PySem.Obj.mk (PySem.Value.type "tuple") (Option.none) (PySem.Data.seq (List.toArray []) 0) (List.toArray []))
noncomputable def zo93 (_ : Params) : Obj := (PySem.Obj.mk PySem.Value.none (Option.none) (PySem.Data.func (PySem.FuncData.mk (PySem.Str.ofString "__init__") (PySem.Str.ofString "_NodeInfo.__init__") (fA (met 11 1)) (.stmts (fB (met 11 1))) (fS (met 11 1)) 0 [] PySem.Value.none PySem.Value.none PySem.Value.none PySem.Value.none (Option.none) PySem.Value.none PySem.Value.none 0)) (List.toArray []))
noncomputable def zo94 (_ : Params) : Obj := (PySem.Obj.mk (PySem.Value.type "code") (Option.none) (PySem.Data.fields (List.toArray [(PySem.Value.str (PySem.Str.ofString "__init__") 271), (PySem.Value.str (PySem.Str.ofString "_NodeInfo.__init__") 272), (PySem.Value.str (PySem.Str.ofString "/claim/cut.py") 273), (PySem.Value.int (55 : Int) 0), (PySem.Value.int (2 : Int) 0), (PySem.Value.int (0 : Int) 0), (PySem.Value.int (0 : Int) 0), (PySem.Value.int (3 : Int) 0), (PySem.Value.ref 51), (PySem.Value.bool Bool.true), (PySem.Value.int (181 : Int) 0), (PySem.Value.ref 52), PySem.Value.none, (PySem.Value.ref 53), (PySem.Value.ref 54), (PySem.Value.ref 55), (PySem.Value.int (276 : Int) 0), (PySem.Value.int (55 : Int) 0), (PySem.Value.str (PySem.Str.ofString "/claim/cut.py") 277)])) (List.toArray []))
noncomputable def zo95 (_ : Params) : Obj := (PySem.Obj.mk (PySem.Value.type "function") (Option.none) (PySem.Data.func (PySem.FuncData.mk (PySem.Str.ofString "__init__") (PySem.Str.ofString "_NodeInfo.__init__") (fA (met 11 1)) (.stmts (fB (met 11 1))) (fS (met 11 1)) 3 [] PySem.Value.none PySem.Value.none PySem.Value.none (PySem.Value.str (PySem.Str.ofString "cpy313.graphlib") 247) (Option.none) (PySem.Value.ref 56) PySem.Value.none 0)) (List.toArray []))
noncomputable def zo96 (_ : Params) : Obj := (PySem.Obj.mk (PySem.Value.type "tuple") (Option.none) (PySem.Data.seq (List.toArray [(PySem.Value.str (PySem.Str.ofString "node") 279), (PySem.Value.str (PySem.Str.ofString "npredecessors") 280), (PySem.Value.str (PySem.Str.ofString "successors") 281)]) 0) (List.toArray []))
noncomputable def zo97 (_ : Params) : Obj := (PySem.Obj.mk (PySem.Value.type "list") (Option.none) (PySem.Data.seq (List.toArray [(PySem.Value.str (PySem.Str.ofString "node") 267), (PySem.Value.str (PySem.Str.ofString "npredecessors") 268), (PySem.Value.str (PySem.Str.ofString "successors") 269)]) 1) (List.toArray []))
noncomputable def zo98 (P : Params) : Obj := (PySem.Obj.mk (PySem.Value.type "dict") (Option.none) (PySem.Data.dict (List.toArray [(PySem.DictEntry.mk (PySem.PyData.keyHash P (PySem.Str.ofString "__module__")) (PySem.Value.str (PySem.Str.ofString "__module__") 262) (PySem.Value.str (PySem.Str.ofString "cpy313.graphlib") 247)), (PySem.DictEntry.mk (PySem.PyData.keyHash P (PySem.Str.ofString "__firstlineno__")) (PySem.Value.str (PySem.Str.ofString "__firstlineno__") 266) (PySem.Value.int (52 : Int) 265)), (PySem.DictEntry.mk (PySem.PyData.keyHash P (PySem.Str.ofString "__slots__")) (PySem.Value.str (PySem.Str.ofString "__slots__") 270) (PySem.Value.ref 50)), (PySem.DictEntry.mk (PySem.PyData.keyHash P (PySem.Str.ofString "__init__")) (PySem.Value.str (PySem.Str.ofString "__init__") 278) (PySem.Value.ref 57)), (PySem.DictEntry.mk (PySem.PyData.keyHash P (PySem.Str.ofString "__static_attributes__")) (PySem.Value.str (PySem.Str.ofString "__static_attributes__") 282) (PySem.Value.ref 58)), (PySem.DictEntry.mk (PySem.PyData.keyHash P (PySem.Str.ofString "node")) (PySem.Value.str (PySem.Str.ofString "node") 284) (PySem.Value.ref 62)), (PySem.DictEntry.mk (PySem.PyData.keyHash P (PySem.Str.ofString "npredecessors")) (PySem.Value.str (PySem.Str.ofString "npredecessors") 286) (PySem.Value.ref 63)), (PySem.DictEntry.mk (PySem.PyData.keyHash P (PySem.Str.ofString "successors")) (PySem.Value.str (PySem.Str.ofString "successors") 288) (PySem.Value.ref 64)), (PySem.DictEntry.mk (PySem.PyData.keyHash P (PySem.Str.ofString "__doc__")) (PySem.Value.str (PySem.Str.ofString "__doc__") 289) PySem.Value.none)]) 5) (List.toArray []))
noncomputable def zo99 (_ : Params) : Obj := (PySem.Obj.mk (PySem.Value.type "type") (Option.none) (PySem.Data.cls (PySem.ClassData.mk (PySem.Str.ofString "_NodeInfo") [(PySem.Value.type "object")] [(PySem.Value.ref 61), (PySem.Value.type "object")] 60 (PySem.Str.ofString "_NodeInfo") Bool.false [(PySem.Str.ofString "node"), (PySem.Str.ofString "npredecessors"), (PySem.Str.ofString "successors")] [] Bool.false (Option.none) Bool.false)) (List.toArray [(Option.none), (Option.none), (Option.some (PySem.Value.str (PySem.Str.ofString "_NodeInfo") 255)), (Option.some (PySem.Value.str (PySem.Str.ofString "_NodeInfo") 263)), (Option.some (PySem.Value.builtin "object.__new__")), (Option.some (PySem.Value.bool Bool.false))]))
noncomputable def zo100 (_ : Params) : Obj := (PySem.Obj.mk (PySem.Value.type "member_descriptor") (Option.none) (PySem.Data.fields (List.toArray [(PySem.Value.str (PySem.Str.ofString "node") 283), (PySem.Value.ref 61), (PySem.Value.builtin "proto.slot"), (PySem.Value.builtin "proto.slot#set"), (PySem.Value.int (2 : Int) 0)])) (List.toArray []))
noncomputable def zo101 (_ : Params) : Obj := (PySem.Obj.mk (PySem.Value.type "member_descriptor") (Option.none) (PySem.Data.fields (List.toArray [(PySem.Value.str (PySem.Str.ofString "npredecessors") 285), (PySem.Value.ref 61), (PySem.Value.builtin "proto.slot"), (PySem.Value.builtin "proto.slot#set"), (PySem.Value.int (1 : Int) 0)])) (List.toArray []))
noncomputable def zo102 (_ : Params) : Obj := (PySem.Obj.mk (PySem.Value.type "member_descriptor") (Option.none) (PySem.Data.fields (List.toArray [(PySem.Value.str (PySem.Str.ofString "successors") 287), (PySem.Value.ref 61), (PySem.Value.builtin "proto.slot"), (PySem.Value.builtin "proto.slot#set"), (PySem.Value.int (0 : Int) 0)])) (List.toArray []))
noncomputable def zo103 (_ : Params) : Obj := (PySem.Obj.mk (PySem.Value.type "super") (Option.none) (PySem.Data.fields (List.toArray [(PySem.Value.ref 61), (PySem.Value.ref 61), (PySem.Value.ref 61)])) (List.toArray []))
noncomputable def zo104 (_ : Params) : Obj := (PySem.Obj.mk (PySem.Value.type "builtin_function_or_method") (Option.none) (PySem.Data.fields (List.toArray [(PySem.Value.builtin "object.__init_subclass__"), (PySem.Value.ref 61)])) (List.toArray []))
noncomputable def zo105 (P : Params) : Obj := (PySem.Obj.mk (PySem.Value.type "dict") (Option.none) (PySem.Data.dict (List.toArray [(PySem.DictEntry.mk (PySem.PyData.keyHash P (PySem.Str.ofString "__name__")) (PySem.Value.str (PySem.Str.ofString "__name__") 165) (PySem.Value.str (PySem.Str.ofString "cpy313.graphlib") 247)), (PySem.DictEntry.mk (PySem.PyData.keyHash P (PySem.Str.ofString "__doc__")) (PySem.Value.str (PySem.Str.ofString "__doc__") 166) PySem.Value.none), (PySem.DictEntry.mk (PySem.PyData.keyHash P (PySem.Str.ofString "__package__")) (PySem.Value.str (PySem.Str.ofString "__package__") 167) PySem.Value.none), (PySem.DictEntry.mk (PySem.PyData.keyHash P (PySem.Str.ofString "__loader__")) (PySem.Value.str (PySem.Str.ofString "__loader__") 168) (PySem.Value.builtin "__main__.__loader__#opaque")), (PySem.DictEntry.mk (PySem.PyData.keyHash P (PySem.Str.ofString "__spec__")) (PySem.Value.str (PySem.Str.ofString "__spec__") 169) PySem.Value.none), (PySem.DictEntry.mk (PySem.PyData.keyHash P (PySem.Str.ofString "__annotations__")) (PySem.Value.str (PySem.Str.ofString "__annotations__") 170) (PySem.Value.ref 6)), (PySem.DictEntry.mk (PySem.PyData.keyHash P (PySem.Str.ofString "__builtins__")) (PySem.Value.str (PySem.Str.ofString "__builtins__") 171) (PySem.Value.ref 4)), (PySem.DictEntry.mk (PySem.PyData.keyHash P (PySem.Str.ofString "__file__")) (PySem.Value.str (PySem.Str.ofString "__file__") 173) (PySem.Value.str (PySem.Str.ofString "/claim/cut.py") 172)), (PySem.DictEntry.mk (PySem.PyData.keyHash P (PySem.Str.ofString "__cached__")) (PySem.Value.str (PySem.Str.ofString "__cached__") 174) PySem.Value.none), (PySem.DictEntry.mk (PySem.PyData.keyHash P (PySem.Str.ofString "_wall")) (PySem.Value.str (PySem.Str.ofString "_wall") 193) (PySem.Value.ref 21)), (PySem.DictEntry.mk (PySem.PyData.keyHash P (PySem.Str.ofString "ONE_THIRD")) (PySem.Value.str (PySem.Str.ofString "ONE_THIRD") 199) (PySem.Value.float (4599676419421066581 : UInt64) 198)), (PySem.DictEntry.mk (PySem.PyData.keyHash P (PySem.Str.ofString "ONE_SIXTH")) (PySem.Value.str (PySem.Str.ofString "ONE_SIXTH") 203) (PySem.Value.float (4595172819793696085 : UInt64) 202)), (PySem.DictEntry.mk (PySem.PyData.keyHash P (PySem.Str.ofString "TWO_THIRD")) (PySem.Value.str (PySem.Str.ofString "TWO_THIRD") 207) (PySem.Value.float (4604180019048437077 : UInt64) 206)), (PySem.DictEntry.mk (PySem.PyData.keyHash P (PySem.Str.ofString "rgb_to_hls")) (PySem.Value.str (PySem.Str.ofString "rgb_to_hls") 226) (PySem.Value.ref 28)), (PySem.DictEntry.mk (PySem.PyData.keyHash P (PySem.Str.ofString "hls_to_rgb")) (PySem.Value.str (PySem.Str.ofString "hls_to_rgb") 237) (PySem.Value.ref 35)), (PySem.DictEntry.mk (PySem.PyData.keyHash P (PySem.Str.ofString "_v")) (PySem.Value.str (PySem.Str.ofString "_v") 246) (PySem.Value.ref 42)), (PySem.DictEntry.mk (PySem.PyData.keyHash P (PySem.Str.ofString "_NODE_OUT")) (PySem.Value.str (PySem.Str.ofString "_NODE_OUT") 251) (PySem.Value.int (Neg.neg (1 : Int)) 250)), (PySem.DictEntry.mk (PySem.PyData.keyHash P (PySem.Str.ofString "_NODE_DONE")) (PySem.Value.str (PySem.Str.ofString "_NODE_DONE") 254) (PySem.Value.int (Neg.neg (2 : Int)) 253)), (PySem.DictEntry.mk (PySem.PyData.keyHash P (PySem.Str.ofString "_NodeInfo")) (PySem.Value.str (PySem.Str.ofString "_NodeInfo") 291) (PySem.Value.ref 61)), (PySem.DictEntry.mk (PySem.PyData.keyHash P (PySem.Str.ofString "CycleError")) (PySem.Value.str (PySem.Str.ofString "CycleError") 309) (PySem.Value.ref 76))]) 20) (List.toArray []))
noncomputable def zo106 (_ : Params) : Obj := (PySem.Obj.mk PySem.Value.none (Option.none) (PySem.Data.fields (List.toArray [(PySem.Value.int (1 : Int) 0), (PySem.Value.int (0 : Int) 0), (PySem.Value.ref 20), (PySem.Value.int (8 : Int) 0), (PySem.Value.int (0 : Int) 0), (PySem.Value.ref 27), (PySem.Value.int (31 : Int) 0), (PySem.Value.int (0 : Int) 0), (PySem.Value.ref 34), (PySem.Value.int (40 : Int) 0), (PySem.Value.int (0 : Int) 0), (PySem.Value.ref 41), (PySem.Value.int (52 : Int) 0), (PySem.Value.int (0 : Int) 0), (PySem.Value.ref 48), (PySem.Value.int (59 : Int) 0), (PySem.Value.int (0 : Int) 0), (PySem.Value.ref 72)])) (List.toArray []))
noncomputable def zo107 (_ : Params) : Obj := (PySem.Obj.mk (PySem.Value.type "tuple") (Option.none) (PySem.Data.seq (List.toArray [(PySem.Value.type "ValueError")]) 0) (List.toArray []))
noncomputable def zo108 (_ : Params) : Obj := (PySem.Obj.mk (PySem.Value.type "builtin_function_or_method") (Option.none) (PySem.Data.fields (List.toArray [(PySem.Value.builtin "type.__prepare__"), (PySem.Value.type "type")])) (List.toArray []))
noncomputable def zo109 (P : Params) : Obj := (PySem.Obj.mk (PySem.Value.type "dict") (Option.none) (PySem.Data.dict (List.toArray [(PySem.DictEntry.mk (PySem.PyData.keyHash P (PySem.Str.ofString "__module__")) (PySem.Value.str (PySem.Str.ofString "__module__") 299) (PySem.Value.str (PySem.Str.ofString "cpy313.graphlib") 247)), (PySem.DictEntry.mk (PySem.PyData.keyHash P (PySem.Str.ofString "__qualname__")) (PySem.Value.str (PySem.Str.ofString "__qualname__") 301) (PySem.Value.str (PySem.Str.ofString "CycleError") 300)), (PySem.DictEntry.mk (PySem.PyData.keyHash P (PySem.Str.ofString "__firstlineno__")) (PySem.Value.str (PySem.Str.ofString "__firstlineno__") 303) (PySem.Value.int (59 : Int) 302)), (PySem.DictEntry.mk (PySem.PyData.keyHash P (PySem.Str.ofString "__static_attributes__")) (PySem.Value.str (PySem.Str.ofString "__static_attributes__") 304) (PySem.Value.ref 74))]) 4) (List.toArray []))
noncomputable def zo110 (_ : Params) : Obj := (PySem.Obj.mk (PySem.Value.type "tuple") (Option.none) (PySem.Data.seq (List.toArray []) 0) (List.toArray []))
noncomputable def zo111 (_ : Params) : Obj := (PySem.Obj.mk PySem.Value.none (Option.none) (PySem.Data.fields (List.toArray [])) (List.toArray []))
noncomputable def zo112 (_ : Params) : Obj := (PySem.Obj.mk (PySem.Value.type "code") (Option.none) (PySem.Data.fields (List.toArray [(PySem.Value.str (PySem.Str.ofString "CycleError") 294), (PySem.Value.str (PySem.Str.ofString "CycleError") 295), (PySem.Value.str (PySem.Str.ofString "/claim/cut.py") 296), (PySem.Value.int (59 : Int) 0), (PySem.Value.int (0 : Int) 0), (PySem.Value.int (0 : Int) 0), (PySem.Value.int (0 : Int) 0), (PySem.Value.int (0 : Int) 0), (PySem.Value.ref 70), (PySem.Value.bool Bool.false), (PySem.Value.int (181 : Int) 0), (PySem.Value.ref 71), PySem.Value.none, PySem.Value.none, PySem.Value.none, PySem.Value.none, (PySem.Value.int (297 : Int) 0), (PySem.Value.int (59 : Int) 0), (PySem.Value.str (PySem.Str.ofString "/claim/cut.py") 298)])) (List.toArray []))
noncomputable def zo113 (_ : Params) : Obj := (PySem.Obj.mk (PySem.Value.type "frame") (Option.none) PySem.Data.plain (List.toArray [(Option.some (PySem.Value.ref 72)), (Option.some (PySem.Value.ref 3)), (Option.some (PySem.Value.ref 69)), (Option.none), (Option.some (PySem.Value.str (PySem.Str.ofString "cpy313.graphlib") 247)), (Option.none), (Option.some (PySem.Value.ref 0))]))
noncomputable def zo114 (_ : Params) : Obj := (PySem.Obj.mk (PySem.Value.type "tuple") (Option.none) (PySem.Data.seq (List.toArray []) 0) (List.toArray []))
noncomputable def zo115 (P : Params) : Obj := (PySem.Obj.mk (PySem.Value.type "dict") (Option.none) (PySem.Data.dict (List.toArray [(PySem.DictEntry.mk (PySem.PyData.keyHash P (PySem.Str.ofString "__module__")) (PySem.Value.str (PySem.Str.ofString "__module__") 299) (PySem.Value.str (PySem.Str.ofString "cpy313.graphlib") 247)), (PySem.DictEntry.mk (PySem.PyData.keyHash P (PySem.Str.ofString "__firstlineno__")) (PySem.Value.str (PySem.Str.ofString "__firstlineno__") 303) (PySem.Value.int (59 : Int) 302)), (PySem.DictEntry.mk (PySem.PyData.keyHash P (PySem.Str.ofString "__static_attributes__")) (PySem.Value.str (PySem.Str.ofString "__static_attributes__") 304) (PySem.Value.ref 74)), (PySem.DictEntry.mk (PySem.PyData.keyHash P (PySem.Str.ofString "__weakref__")) (PySem.Value.str (PySem.Str.ofString "__weakref__") 306) (PySem.Value.ref 77)), (PySem.DictEntry.mk (PySem.PyData.keyHash P (PySem.Str.ofString "__doc__")) (PySem.Value.str (PySem.Str.ofString "__doc__") 307) PySem.Value.none)]) 3) (List.toArray []))
noncomputable def zo116 (_ : Params) : Obj := (PySem.Obj.mk (PySem.Value.type "type") (Option.none) (PySem.Data.cls (PySem.ClassData.mk (PySem.Str.ofString "CycleError") [(PySem.Value.type "ValueError")] [(PySem.Value.ref 76), (PySem.Value.type "ValueError"), (PySem.Value.type "Exception"), (PySem.Value.type "BaseException"), (PySem.Value.type "object")] 75 (PySem.Str.ofString "CycleError") Bool.true [] [] Bool.false (Option.none) Bool.false)) (List.toArray [(Option.some (PySem.Value.ref 67)), (Option.none), (Option.some (PySem.Value.str (PySem.Str.ofString "CycleError") 292)), (Option.some (PySem.Value.str (PySem.Str.ofString "CycleError") 300)), (Option.some (PySem.Value.builtin "ValueError.__new__")), (Option.some (PySem.Value.bool Bool.true))]))
noncomputable def zo117 (_ : Params) : Obj := (PySem.Obj.mk (PySem.Value.type "getset_descriptor") (Option.none) (PySem.Data.fields (List.toArray [(PySem.Value.str (PySem.Str.ofString "__weakref__") 305), (PySem.Value.ref 76), (PySem.Value.builtin "ExceptionGroup.__weakref__"), PySem.Value.none])) (List.toArray []))
noncomputable def zo118 (_ : Params) : Obj := (PySem.Obj.mk (PySem.Value.type "super") (Option.none) (PySem.Data.fields (List.toArray [(PySem.Value.ref 76), (PySem.Value.ref 76), (PySem.Value.ref 76)])) (List.toArray []))
noncomputable def zo119 (_ : Params) : Obj := (PySem.Obj.mk (PySem.Value.type "builtin_function_or_method") (Option.none) (PySem.Data.fields (List.toArray [(PySem.Value.builtin "object.__init_subclass__"), (PySem.Value.ref 76)])) (List.toArray []))
noncomputable def zo120 (P : Params) : Obj := (PySem.Obj.mk (PySem.Value.type "dict") (Option.none) (PySem.Data.dict (List.toArray [(PySem.DictEntry.mk (PySem.PyData.keyHash P (PySem.Str.ofString "__name__")) (PySem.Value.str (PySem.Str.ofString "__name__") 165) (PySem.Value.str (PySem.Str.ofString "cpy313.graphlib") 247)), (PySem.DictEntry.mk (PySem.PyData.keyHash P (PySem.Str.ofString "__doc__")) (PySem.Value.str (PySem.Str.ofString "__doc__") 166) PySem.Value.none), (PySem.DictEntry.mk (PySem.PyData.keyHash P (PySem.Str.ofString "__package__")) (PySem.Value.str (PySem.Str.ofString "__package__") 167) PySem.Value.none), (PySem.DictEntry.mk (PySem.PyData.keyHash P (PySem.Str.ofString "__loader__")) (PySem.Value.str (PySem.Str.ofString "__loader__") 168) (PySem.Value.builtin "__main__.__loader__#opaque")), (PySem.DictEntry.mk (PySem.PyData.keyHash P (PySem.Str.ofString "__spec__")) (PySem.Value.str (PySem.Str.ofString "__spec__") 169) PySem.Value.none), (PySem.DictEntry.mk (PySem.PyData.keyHash P (PySem.Str.ofString "__annotations__")) (PySem.Value.str (PySem.Str.ofString "__annotations__") 170) (PySem.Value.ref 6)), (PySem.DictEntry.mk (PySem.PyData.keyHash P (PySem.Str.ofString "__builtins__")) (PySem.Value.str (PySem.Str.ofString "__builtins__") 171) (PySem.Value.ref 4)), (PySem.DictEntry.mk (PySem.PyData.keyHash P (PySem.Str.ofString "__file__")) (PySem.Value.str (PySem.Str.ofString "__file__") 173) (PySem.Value.str (PySem.Str.ofString "/claim/cut.py") 172)), (PySem.DictEntry.mk (PySem.PyData.keyHash P (PySem.Str.ofString "__cached__")) (PySem.Value.str (PySem.Str.ofString "__cached__") 174) PySem.Value.none), (PySem.DictEntry.mk (PySem.PyData.keyHash P (PySem.Str.ofString "_wall")) (PySem.Value.str (PySem.Str.ofString "_wall") 193) (PySem.Value.ref 21)), (PySem.DictEntry.mk (PySem.PyData.keyHash P (PySem.Str.ofString "ONE_THIRD")) (PySem.Value.str (PySem.Str.ofString "ONE_THIRD") 199) (PySem.Value.float (4599676419421066581 : UInt64) 198)), (PySem.DictEntry.mk (PySem.PyData.keyHash P (PySem.Str.ofString "ONE_SIXTH")) (PySem.Value.str (PySem.Str.ofString "ONE_SIXTH") 203) (PySem.Value.float (4595172819793696085 : UInt64) 202)), (PySem.DictEntry.mk (PySem.PyData.keyHash P (PySem.Str.ofString "TWO_THIRD")) (PySem.Value.str (PySem.Str.ofString "TWO_THIRD") 207) (PySem.Value.float (4604180019048437077 : UInt64) 206)), (PySem.DictEntry.mk (PySem.PyData.keyHash P (PySem.Str.ofString "rgb_to_hls")) (PySem.Value.str (PySem.Str.ofString "rgb_to_hls") 226) (PySem.Value.ref 28)), (PySem.DictEntry.mk (PySem.PyData.keyHash P (PySem.Str.ofString "hls_to_rgb")) (PySem.Value.str (PySem.Str.ofString "hls_to_rgb") 237) (PySem.Value.ref 35)), (PySem.DictEntry.mk (PySem.PyData.keyHash P (PySem.Str.ofString "_v")) (PySem.Value.str (PySem.Str.ofString "_v") 246) (PySem.Value.ref 42)), (PySem.DictEntry.mk (PySem.PyData.keyHash P (PySem.Str.ofString "_NODE_OUT")) (PySem.Value.str (PySem.Str.ofString "_NODE_OUT") 251) (PySem.Value.int (Neg.neg (1 : Int)) 250)), (PySem.DictEntry.mk (PySem.PyData.keyHash P (PySem.Str.ofString "_NODE_DONE")) (PySem.Value.str (PySem.Str.ofString "_NODE_DONE") 254) (PySem.Value.int (Neg.neg (2 : Int)) 253)), (PySem.DictEntry.mk (PySem.PyData.keyHash P (PySem.Str.ofString "_NodeInfo")) (PySem.Value.str (PySem.Str.ofString "_NodeInfo") 291) (PySem.Value.ref 61)), (PySem.DictEntry.mk (PySem.PyData.keyHash P (PySem.Str.ofString "CycleError")) (PySem.Value.str (PySem.Str.ofString "CycleError") 309) (PySem.Value.ref 76)), (PySem.DictEntry.mk (PySem.PyData.keyHash P (PySem.Str.ofString "TopologicalSorter")) (PySem.Value.str (PySem.Str.ofString "TopologicalSorter") 428) (PySem.Value.ref 158))]) 21) (List.toArray []))
noncomputable def zo121 (_ : Params) : Obj := (PySem.Obj.mk PySem.Value.none (Option.none) (PySem.Data.fields (List.toArray [(PySem.Value.int (1 : Int) 0), (PySem.Value.int (0 : Int) 0), (PySem.Value.ref 20), (PySem.Value.int (8 : Int) 0), (PySem.Value.int (0 : Int) 0), (PySem.Value.ref 27), (PySem.Value.int (31 : Int) 0), (PySem.Value.int (0 : Int) 0), (PySem.Value.ref 34), (PySem.Value.int (40 : Int) 0), (PySem.Value.int (0 : Int) 0), (PySem.Value.ref 41), (PySem.Value.int (52 : Int) 0), (PySem.Value.int (0 : Int) 0), (PySem.Value.ref 48), (PySem.Value.int (59 : Int) 0), (PySem.Value.int (0 : Int) 0), (PySem.Value.ref 72), (PySem.Value.int (61 : Int) 0), (PySem.Value.int (0 : Int) 0), (PySem.Value.ref 85)])) (List.toArray []))
noncomputable def zo122 (_ : Params) : Obj := (PySem.Obj.mk (PySem.Value.type "tuple") (Option.none) (PySem.Data.seq (List.toArray []) 0) (List.toArray []))
noncomputable def zo123 (_ : Params) : Obj := (PySem.Obj.mk (PySem.Value.type "builtin_function_or_method") (Option.none) (PySem.Data.fields (List.toArray [(PySem.Value.builtin "type.__prepare__"), (PySem.Value.type "type")])) (List.toArray []))
noncomputable def zo124 (P : Params) : Obj := (PySem.Obj.mk (PySem.Value.type "dict") (Option.none) (PySem.Data.dict (List.toArray [(PySem.DictEntry.mk (PySem.PyData.keyHash P (PySem.Str.ofString "__module__")) (PySem.Value.str (PySem.Str.ofString "__module__") 317) (PySem.Value.str (PySem.Str.ofString "cpy313.graphlib") 247)), (PySem.DictEntry.mk (PySem.PyData.keyHash P (PySem.Str.ofString "__qualname__")) (PySem.Value.str (PySem.Str.ofString "__qualname__") 319) (PySem.Value.str (PySem.Str.ofString "TopologicalSorter") 318)), (PySem.DictEntry.mk (PySem.PyData.keyHash P (PySem.Str.ofString "__firstlineno__")) (PySem.Value.str (PySem.Str.ofString "__firstlineno__") 321) (PySem.Value.int (61 : Int) 320)), (PySem.DictEntry.mk (PySem.PyData.keyHash P (PySem.Str.ofString "__init__")) (PySem.Value.str (PySem.Str.ofString "__init__") 331) (PySem.Value.ref 94)), (PySem.DictEntry.mk (PySem.PyData.keyHash P (PySem.Str.ofString "_get_nodeinfo")) (PySem.Value.str (PySem.Str.ofString "_get_nodeinfo") 340) (PySem.Value.ref 101)), (PySem.DictEntry.mk (PySem.PyData.keyHash P (PySem.Str.ofString "add")) (PySem.Value.str (PySem.Str.ofString "add") 352) (PySem.Value.ref 108)), (PySem.DictEntry.mk (PySem.PyData.keyHash P (PySem.Str.ofString "prepare")) (PySem.Value.str (PySem.Str.ofString "prepare") 358) (PySem.Value.ref 113)), (PySem.DictEntry.mk (PySem.PyData.keyHash P (PySem.Str.ofString "get_ready")) (PySem.Value.str (PySem.Str.ofString "get_ready") 368) (PySem.Value.ref 120)), (PySem.DictEntry.mk (PySem.PyData.keyHash P (PySem.Str.ofString "is_active")) (PySem.Value.str (PySem.Str.ofString "is_active") 375) (PySem.Value.ref 127)), (PySem.DictEntry.mk (PySem.PyData.keyHash P (PySem.Str.ofString "__bool__")) (PySem.Value.str (PySem.Str.ofString "__bool__") 382) (PySem.Value.ref 134)), (PySem.DictEntry.mk (PySem.PyData.keyHash P (PySem.Str.ofString "done")) (PySem.Value.str (PySem.Str.ofString "done") 396) (PySem.Value.ref 141)), (PySem.DictEntry.mk (PySem.PyData.keyHash P (PySem.Str.ofString "_find_cycle")) (PySem.Value.str (PySem.Str.ofString "_find_cycle") 409) (PySem.Value.ref 148)), (PySem.DictEntry.mk (PySem.PyData.keyHash P (PySem.Str.ofString "static_order")) (PySem.Value.str (PySem.Str.ofString "static_order") 416) (PySem.Value.ref 155)), (PySem.DictEntry.mk (PySem.PyData.keyHash P (PySem.Str.ofString "__static_attributes__")) (PySem.Value.str (PySem.Str.ofString "__static_attributes__") 421) (PySem.Value.ref 156))]) 14) (List.toArray []))
noncomputable def zo125 (_ : Params) : Obj := (PySem.Obj.mk (PySem.Value.type "tuple") (Option.none) (PySem.Data.seq (List.toArray []) 0) (List.toArray []))
noncomputable def zo126 (_ : Params) : Obj := (PySem.Obj.mk PySem.Value.none (Option.none) (PySem.Data.fields (List.toArray [(PySem.Value.int (63 : Int) 0), (PySem.Value.int (4 : Int) 0), (PySem.Value.ref 93), (PySem.Value.int (72 : Int) 0), (PySem.Value.int (4 : Int) 0), (PySem.Value.ref 100), (PySem.Value.int (77 : Int) 0), (PySem.Value.int (4 : Int) 0), (PySem.Value.ref 107), (PySem.Value.int (86 : Int) 0), (PySem.Value.int (4 : Int) 0), (PySem.Value.ref 112), (PySem.Value.int (94 : Int) 0), (PySem.Value.int (4 : Int) 0), (PySem.Value.ref 119), (PySem.Value.int (105 : Int) 0), (PySem.Value.int (4 : Int) 0), (PySem.Value.ref 126), (PySem.Value.int (110 : Int) 0), (PySem.Value.int (4 : Int) 0), (PySem.Value.ref 133), (PySem.Value.int (113 : Int) 0), (PySem.Value.int (4 : Int) 0), (PySem.Value.ref 140), (PySem.Value.int (136 : Int) 0), (PySem.Value.int (4 : Int) 0), (PySem.Value.ref 147), (PySem.Value.int (165 : Int) 0), (PySem.Value.int (4 : Int) 0), (PySem.Value.ref 154)])) (List.toArray []))
noncomputable def zo127 (_ : Params) : Obj := (PySem.Obj.mk (PySem.Value.type "code") (Option.none) (PySem.Data.fields (List.toArray [(PySem.Value.str (PySem.Str.ofString "TopologicalSorter") 312), (PySem.Value.str (PySem.Str.ofString "TopologicalSorter") 313), (PySem.Value.str (PySem.Str.ofString "/claim/cut.py") 314), (PySem.Value.int (61 : Int) 0), (PySem.Value.int (0 : Int) 0), (PySem.Value.int (0 : Int) 0), (PySem.Value.int (0 : Int) 0), (PySem.Value.int (0 : Int) 0), (PySem.Value.ref 83), (PySem.Value.bool Bool.false), (PySem.Value.int (181 : Int) 0), (PySem.Value.ref 84), PySem.Value.none, PySem.Value.none, PySem.Value.none, PySem.Value.none, (PySem.Value.int (315 : Int) 0), (PySem.Value.int (61 : Int) 0), (PySem.Value.str (PySem.Str.ofString "/claim/cut.py") 316)])) (List.toArray []))
noncomputable def zo128 (_ : Params) : Obj := (PySem.Obj.mk (PySem.Value.type "frame") (Option.none) PySem.Data.plain (List.toArray [(Option.some (PySem.Value.ref 85)), (Option.some (PySem.Value.ref 3)), (Option.some (PySem.Value.ref 82)), (Option.none), (Option.some (PySem.Value.str (PySem.Str.ofString "cpy313.graphlib") 247)), (Option.none), (Option.some (PySem.Value.ref 0))]))
noncomputable def zo129 (_ : Params) : Obj := (PySem.Obj.mk (PySem.Value.type "tuple") (Option.none) (PySem.Data.seq (List.toArray [PySem.Value.none]) 0) (List.toArray []))
noncomputable def zo130 (_ : Params) : Obj := (PySem.Obj.mk (PySem.Value.type "tuple") (Option.none) (PySem.Data.seq (List.toArray []) 0) (List.toArray []))
noncomputable def zo131 (_ : Params) : Obj := (PySem.Obj.mk PySem.Value.none (Option.none) (PySem.Data.fields (List.toArray [])) (List.toArray []))
noncomputable def zo132 (_ : Params) : Obj := (PySem.Obj.mk (PySem.Value.type "tuple") (Option.none) (PySem.Data.seq (List.toArray [(PySem.Value.str (PySem.Str.ofString "self") 325), (PySem.Value.str (PySem.Str.ofString "graph") 326), (PySem.Value.str (PySem.Str.ofString "node") 327), (PySem.Value.str (PySem.Str.ofString "predecessors") 328)]) 0) (List.toArray []))
noncomputable def zo133 (_ : Params) : Obj := (PySem.Obj.mk (PySem.Value.type "tuple") (Option.none) (PySem.Data.seq (List.toArray []) 0) (List.toArray []))
noncomputable def zo134 (_ : Params) : Obj := (PySem.Obj.mk PySem.Value.none (Option.none) (PySem.Data.func (PySem.FuncData.mk (PySem.Str.ofString "__init__") (PySem.Str.ofString "TopologicalSorter.__init__") (fA (met 13 0)) (.stmts (fB (met 13 0))) (fS (met 13 0)) 0 [] PySem.Value.none PySem.Value.none PySem.Value.none PySem.Value.none (Option.none) PySem.Value.none PySem.Value.none 0)) (List.toArray []))
noncomputable def zo135 (_ : Params) : Obj := (PySem.Obj.mk (PySem.Value.type "code") (Option.none) (PySem.Data.fields (List.toArray [(PySem.Value.str (PySem.Str.ofString "__init__") 322), (PySem.Value.str (PySem.Str.ofString "TopologicalSorter.__init__") 323), (PySem.Value.str (PySem.Str.ofString "/claim/cut.py") 324), (PySem.Value.int (63 : Int) 0), (PySem.Value.int (2 : Int) 0), (PySem.Value.int (0 : Int) 0), (PySem.Value.int (0 : Int) 0), (PySem.Value.int (3 : Int) 0), (PySem.Value.ref 88), (PySem.Value.bool Bool.true), (PySem.Value.int (181 : Int) 0), (PySem.Value.ref 89), PySem.Value.none, (PySem.Value.ref 90), (PySem.Value.ref 91), (PySem.Value.ref 92), (PySem.Value.int (329 : Int) 0), (PySem.Value.int (63 : Int) 0), (PySem.Value.str (PySem.Str.ofString "/claim/cut.py") 330)])) (List.toArray []))
noncomputable def zo136 (_ : Params) : Obj := (PySem.Obj.mk (PySem.Value.type "function") (Option.none) (PySem.Data.func (PySem.FuncData.mk (PySem.Str.ofString "__init__") (PySem.Str.ofString "TopologicalSorter.__init__") (fA (met 13 0)) (.stmts (fB (met 13 0))) (fS (met 13 0)) 3 [] (PySem.Value.ref 87) PySem.Value.none PySem.Value.none (PySem.Value.str (PySem.Str.ofString "cpy313.graphlib") 247) (Option.none) (PySem.Value.ref 93) PySem.Value.none 0)) (List.toArray []))
noncomputable def zo137 (_ : Params) : Obj := (PySem.Obj.mk (PySem.Value.type "tuple") (Option.none) (PySem.Data.seq (List.toArray []) 0) (List.toArray []))
noncomputable def zo138 (_ : Params) : Obj := (PySem.Obj.mk PySem.Value.none (Option.none) (PySem.Data.fields (List.toArray [])) (List.toArray []))
noncomputable def zo139 (_ : Params) : Obj := (PySem.Obj.mk (PySem.Value.type "tuple") (Option.none) (PySem.Data.seq (List.toArray [(PySem.Value.str (PySem.Str.ofString "self") 335), (PySem.Value.str (PySem.Str.ofString "node") 336), (PySem.Value.str (PySem.Str.ofString "result") 337)]) 0) (List.toArray []))
noncomputable def zo140 (_ : Params) : Obj := (PySem.Obj.mk (PySem.Value.type "tuple") (Option.none) (PySem.Data.seq (List.toArray []) 0) (List.toArray []))
noncomputable def zo141 (_ : Params) : Obj := (PySem.Obj.mk PySem.Value.none (Option.none) (PySem.Data.func (PySem.FuncData.mk (PySem.Str.ofString "_get_nodeinfo") (PySem.Str.ofString "TopologicalSorter._get_nodeinfo") (fA (met 13 1)) (.stmts (fB (met 13 1))) (fS (met 13 1)) 0 [] PySem.Value.none PySem.Value.none PySem.Value.none PySem.Value.none (Option.none) PySem.Value.none PySem.Value.none 0)) (List.toArray []))
noncomputable def zo142 (_ : Params) : Obj := (PySem.Obj.mk (PySem.Value.type "code") (Option.none) (PySem.Data.fields (List.toArray [(PySem.Value.str (PySem.Str.ofString "_get_nodeinfo") 332), (PySem.Value.str (PySem.Str.ofString "TopologicalSorter._get_nodeinfo") 333), (PySem.Value.str (PySem.Str.ofString "/claim/cut.py") 334), (PySem.Value.int (72 : Int) 0), (PySem.Value.int (2 : Int) 0), (PySem.Value.int (0 : Int) 0), (PySem.Value.int (0 : Int) 0), (PySem.Value.int (3 : Int) 0), (PySem.Value.ref 95), (PySem.Value.bool Bool.true), (PySem.Value.int (181 : Int) 0), (PySem.Value.ref 96), PySem.Value.none, (PySem.Value.ref 97), (PySem.Value.ref 98), (PySem.Value.ref 99), (PySem.Value.int (338 : Int) 0), (PySem.Value.int (72 : Int) 0), (PySem.Value.str (PySem.Str.ofString "/claim/cut.py") 339)])) (List.toArray []))
noncomputable def zo143 (_ : Params) : Obj := (PySem.Obj.mk (PySem.Value.type "function") (Option.none) (PySem.Data.func (PySem.FuncData.mk (PySem.Str.ofString "_get_nodeinfo") (PySem.Str.ofString "TopologicalSorter._get_nodeinfo") (fA (met 13 1)) (.stmts (fB (met 13 1))) (fS (met 13 1)) 3 [] PySem.Value.none PySem.Value.none PySem.Value.none (PySem.Value.str (PySem.Str.ofString "cpy313.graphlib") 247) (Option.none) (PySem.Value.ref 100) PySem.Value.none 0)) (List.toArray []))
noncomputable def zo144 (_ : Params) : Obj := (PySem.Obj.mk (PySem.Value.type "tuple") (Option.none) (PySem.Data.seq (List.toArray []) 0) (List.toArray []))
noncomputable def zo145 (_ : Params) : Obj := (PySem.Obj.mk PySem.Value.none (Option.none) (PySem.Data.fields (List.toArray [])) (List.toArray []))
noncomputable def zo146 (_ : Params) : Obj := (PySem.Obj.mk (PySem.Value.type "tuple") (Option.none) (PySem.Data.seq (List.toArray [(PySem.Value.str (PySem.Str.ofString "self") 344), (PySem.Value.str (PySem.Str.ofString "node") 345), (PySem.Value.str (PySem.Str.ofString "predecessors") 346), (PySem.Value.str (PySem.Str.ofString "nodeinfo") 347), (PySem.Value.str (PySem.Str.ofString "pred") 348), (PySem.Value.str (PySem.Str.ofString "pred_info") 349)]) 0) (List.toArray []))
noncomputable def zo147 (_ : Params) : Obj := (PySem.Obj.mk (PySem.Value.type "tuple") (Option.none) (PySem.Data.seq (List.toArray []) 0) (List.toArray []))
noncomputable def zo148 (_ : Params) : Obj := (PySem.Obj.mk PySem.Value.none (Option.none) (PySem.Data.func (PySem.FuncData.mk (PySem.Str.ofString "add") (PySem.Str.ofString "TopologicalSorter.add") (fA (met 13 2)) (.stmts (fB (met 13 2))) (fS (met 13 2)) 0 [] PySem.Value.none PySem.Value.none PySem.Value.none PySem.Value.none (Option.none) PySem.Value.none PySem.Value.none 0)) (List.toArray []))
noncomputable def zo149 (_ : Params) : Obj := (PySem.Obj.mk (PySem.Value.type "code") (Option.none) (PySem.Data.fields (List.toArray [(PySem.Value.str (PySem.Str.ofString "add") 341), (PySem.Value.str (PySem.Str.ofString "TopologicalSorter.add") 342), (PySem.Value.str (PySem.Str.ofString "/claim/cut.py") 343), (PySem.Value.int (77 : Int) 0), (PySem.Value.int (2 : Int) 0), (PySem.Value.int (0 : Int) 0), (PySem.Value.int (0 : Int) 0), (PySem.Value.int (7 : Int) 0), (PySem.Value.ref 102), (PySem.Value.bool Bool.true), (PySem.Value.int (181 : Int) 0), (PySem.Value.ref 103), PySem.Value.none, (PySem.Value.ref 104), (PySem.Value.ref 105), (PySem.Value.ref 106), (PySem.Value.int (350 : Int) 0), (PySem.Value.int (77 : Int) 0), (PySem.Value.str (PySem.Str.ofString "/claim/cut.py") 351)])) (List.toArray []))
noncomputable def zo150 (_ : Params) : Obj := (PySem.Obj.mk (PySem.Value.type "function") (Option.none) (PySem.Data.func (PySem.FuncData.mk (PySem.Str.ofString "add") (PySem.Str.ofString "TopologicalSorter.add") (fA (met 13 2)) (.stmts (fB (met 13 2))) (fS (met 13 2)) 3 [] PySem.Value.none PySem.Value.none PySem.Value.none (PySem.Value.str (PySem.Str.ofString "cpy313.graphlib") 247) (Option.none) (PySem.Value.ref 107) PySem.Value.none 0)) (List.toArray []))
noncomputable def zo151 (_ : Params) : Obj := (PySem.Obj.mk (PySem.Value.type "tuple") (Option.none) (PySem.Data.seq (List.toArray []) 0) (List.toArray []))
noncomputable def zo152 (_ : Params) : Obj := (PySem.Obj.mk PySem.Value.none (Option.none) (PySem.Data.fields (List.toArray [])) (List.toArray []))
noncomputable def zo153 (_ : Params) : Obj := (PySem.Obj.mk PySem.Value.none (Option.none) (PySem.Data.func (PySem.FuncData.mk (PySem.Str.ofString "prepare") (PySem.Str.ofString "TopologicalSorter.prepare") (fA (met 13 3)) (.stmts (fB (met 13 3))) (fS (met 13 3)) 0 [] PySem.Value.none PySem.Value.none PySem.Value.none PySem.Value.none (Option.none) PySem.Value.none PySem.Value.none 0)) (List.toArray []))
noncomputable def zo154 (_ : Params) : Obj := (PySem.Obj.mk (PySem.Value.type "code") (Option.none) (PySem.Data.fields (List.toArray [(PySem.Value.str (PySem.Str.ofString "prepare") 353), (PySem.Value.str (PySem.Str.ofString "TopologicalSorter.prepare") 354), (PySem.Value.str (PySem.Str.ofString "/claim/cut.py") 355), (PySem.Value.int (86 : Int) 0), (PySem.Value.int (1 : Int) 0), (PySem.Value.int (0 : Int) 0), (PySem.Value.int (0 : Int) 0), (PySem.Value.int (3 : Int) 0), (PySem.Value.ref 109), (PySem.Value.bool Bool.true), (PySem.Value.int (181 : Int) 0), (PySem.Value.ref 110), PySem.Value.none, PySem.Value.none, PySem.Value.none, (PySem.Value.ref 111), (PySem.Value.int (356 : Int) 0), (PySem.Value.int (86 : Int) 0), (PySem.Value.str (PySem.Str.ofString "/claim/cut.py") 357)])) (List.toArray []))
noncomputable def zo155 (_ : Params) : Obj := (PySem.Obj.mk (PySem.Value.type "function") (Option.none) (PySem.Data.func (PySem.FuncData.mk (PySem.Str.ofString "prepare") (PySem.Str.ofString "TopologicalSorter.prepare") (fA (met 13 3)) (.stmts (fB (met 13 3))) (fS (met 13 3)) 3 [] PySem.Value.none PySem.Value.none PySem.Value.none (PySem.Value.str (PySem.Str.ofString "cpy313.graphlib") 247) (Option.none) (PySem.Value.ref 112) PySem.Value.none 0)) (List.toArray []))
noncomputable def zo156 (_ : Params) : Obj := (PySem.Obj.mk (PySem.Value.type "tuple") (Option.none) (PySem.Data.seq (List.toArray []) 0) (List.toArray []))
noncomputable def zo157 (_ : Params) : Obj := (PySem.Obj.mk PySem.Value.none (Option.none) (PySem.Data.fields (List.toArray [])) (List.toArray []))
noncomputable def zo158 (_ : Params) : Obj := (PySem.Obj.mk (PySem.Value.type "tuple") (Option.none) (PySem.Data.seq (List.toArray [(PySem.Value.str (PySem.Str.ofString "self") 362), (PySem.Value.str (PySem.Str.ofString "result") 363), (PySem.Value.str (PySem.Str.ofString "n2i") 364), (PySem.Value.str (PySem.Str.ofString "node") 365)]) 0) (List.toArray []))
noncomputable def zo159 (_ : Params) : Obj := (PySem.Obj.mk (PySem.Value.type "tuple") (Option.none) (PySem.Data.seq (List.toArray []) 0) (List.toArray []))
noncomputable def zo160 (_ : Params) : Obj := (PySem.Obj.mk PySem.Value.none (Option.none) (PySem.Data.func (PySem.FuncData.mk (PySem.Str.ofString "get_ready") (PySem.Str.ofString "TopologicalSorter.get_ready") (fA (met 13 4)) (.stmts (fB (met 13 4))) (fS (met 13 4)) 0 [] PySem.Value.none PySem.Value.none PySem.Value.none PySem.Value.none (Option.none) PySem.Value.none PySem.Value.none 0)) (List.toArray []))
noncomputable def zo161 (_ : Params) : Obj := (PySem.Obj.mk (PySem.Value.type "code") (Option.none) (PySem.Data.fields (List.toArray [(PySem.Value.str (PySem.Str.ofString "get_ready") 359), (PySem.Value.str (PySem.Str.ofString "TopologicalSorter.get_ready") 360), (PySem.Value.str (PySem.Str.ofString "/claim/cut.py") 361), (PySem.Value.int (94 : Int) 0), (PySem.Value.int (1 : Int) 0), (PySem.Value.int (0 : Int) 0), (PySem.Value.int (0 : Int) 0), (PySem.Value.int (3 : Int) 0), (PySem.Value.ref 114), (PySem.Value.bool Bool.true), (PySem.Value.int (181 : Int) 0), (PySem.Value.ref 115), PySem.Value.none, (PySem.Value.ref 116), (PySem.Value.ref 117), (PySem.Value.ref 118), (PySem.Value.int (366 : Int) 0), (PySem.Value.int (94 : Int) 0), (PySem.Value.str (PySem.Str.ofString "/claim/cut.py") 367)])) (List.toArray []))
noncomputable def zo162 (_ : Params) : Obj := (PySem.Obj.mk (PySem.Value.type "function") (Option.none) (PySem.Data.func (PySem.FuncData.mk (PySem.Str.ofString "get_ready") (PySem.Str.ofString "TopologicalSorter.get_ready") (fA (met 13 4)) (.stmts (fB (met 13 4))) (fS (met 13 4)) 3 [] PySem.Value.none PySem.Value.none PySem.Value.none (PySem.Value.str (PySem.Str.ofString "cpy313.graphlib") 247) (Option.none) (PySem.Value.ref 119) PySem.Value.none 0)) (List.toArray []))
noncomputable def zo163 (_ : Params) : Obj := (PySem.Obj.mk (PySem.Value.type "tuple") (Option.none) (PySem.Data.seq (List.toArray []) 0) (List.toArray []))
noncomputable def zo164 (_ : Params) : Obj := (PySem.Obj.mk PySem.Value.none (Option.none) (PySem.Data.fields (List.toArray [])) (List.toArray []))
noncomputable def zo165 (_ : Params) : Obj := (PySem.Obj.mk (PySem.Value.type "tuple") (Option.none) (PySem.Data.seq (List.toArray [(PySem.Value.str (PySem.Str.ofString "self") 372)]) 0) (List.toArray []))
noncomputable def zo166 (_ : Params) : Obj := (PySem.Obj.mk (PySem.Value.type "tuple") (Option.none) (PySem.Data.seq (List.toArray []) 0) (List.toArray []))
noncomputable def zo167 (_ : Params) : Obj := (PySem.Obj.mk PySem.Value.none (Option.none) (PySem.Data.func (PySem.FuncData.mk (PySem.Str.ofString "is_active") (PySem.Str.ofString "TopologicalSorter.is_active") (fA (met 13 5)) (.stmts (fB (met 13 5))) (fS (met 13 5)) 0 [] PySem.Value.none PySem.Value.none PySem.Value.none PySem.Value.none (Option.none) PySem.Value.none PySem.Value.none 0)) (List.toArray []))
noncomputable def zo168 (_ : Params) : Obj := (PySem.Obj.mk (PySem.Value.type "code") (Option.none) (PySem.Data.fields (List.toArray [(PySem.Value.str (PySem.Str.ofString "is_active") 369), (PySem.Value.str (PySem.Str.ofString "TopologicalSorter.is_active") 370), (PySem.Value.str (PySem.Str.ofString "/claim/cut.py") 371), (PySem.Value.int (105 : Int) 0), (PySem.Value.int (1 : Int) 0), (PySem.Value.int (0 : Int) 0), (PySem.Value.int (0 : Int) 0), (PySem.Value.int (3 : Int) 0), (PySem.Value.ref 121), (PySem.Value.bool Bool.true), (PySem.Value.int (181 : Int) 0), (PySem.Value.ref 122), PySem.Value.none, (PySem.Value.ref 123), (PySem.Value.ref 124), (PySem.Value.ref 125), (PySem.Value.int (373 : Int) 0), (PySem.Value.int (105 : Int) 0), (PySem.Value.str (PySem.Str.ofString "/claim/cut.py") 374)])) (List.toArray []))
noncomputable def zo169 (_ : Params) : Obj := (PySem.Obj.mk (PySem.Value.type "function") (Option.none) (PySem.Data.func (PySem.FuncData.mk (PySem.Str.ofString "is_active") (PySem.Str.ofString "TopologicalSorter.is_active") (fA (met 13 5)) (.stmts (fB (met 13 5))) (fS (met 13 5)) 3 [] PySem.Value.none PySem.Value.none PySem.Value.none (PySem.Value.str (PySem.Str.ofString "cpy313.graphlib") 247) (Option.none) (PySem.Value.ref 126) PySem.Value.none 0)) (List.toArray []))
noncomputable def zo170 (_ : Params) : Obj := (PySem.Obj.mk (PySem.Value.type "tuple") (Option.none) (PySem.Data.seq (List.toArray []) 0) (List.toArray []))
noncomputable def zo171 (_ : Params) : Obj := (PySem.Obj.mk PySem.Value.none (Option.none) (PySem.Data.fields (List.toArray [])) (List.toArray []))
noncomputable def zo172 (_ : Params) : Obj := (PySem.Obj.mk (PySem.Value.type "tuple") (Option.none) (PySem.Data.seq (List.toArray [(PySem.Value.str (PySem.Str.ofString "self") 379)]) 0) (List.toArray []))
noncomputable def zo173 (_ : Params) : Obj := (PySem.Obj.mk (PySem.Value.type "tuple") (Option.none) (PySem.Data.seq (List.toArray []) 0) (List.toArray []))
noncomputable def zo174 (_ : Params) : Obj := (PySem.Obj.mk PySem.Value.none (Option.none) (PySem.Data.func (PySem.FuncData.mk (PySem.Str.ofString "__bool__") (PySem.Str.ofString "TopologicalSorter.__bool__") (fA (met 13 6)) (.stmts (fB (met 13 6))) (fS (met 13 6)) 0 [] PySem.Value.none PySem.Value.none PySem.Value.none PySem.Value.none (Option.none) PySem.Value.none PySem.Value.none 0)) (List.toArray []))
noncomputable def zo175 (_ : Params) : Obj := (PySem.Obj.mk (PySem.Value.type "code") (Option.none) (PySem.Data.fields (List.toArray [(PySem.Value.str (PySem.Str.ofString "__bool__") 376), (PySem.Value.str (PySem.Str.ofString "TopologicalSorter.__bool__") 377), (PySem.Value.str (PySem.Str.ofString "/claim/cut.py") 378), (PySem.Value.int (110 : Int) 0), (PySem.Value.int (1 : Int) 0), (PySem.Value.int (0 : Int) 0), (PySem.Value.int (0 : Int) 0), (PySem.Value.int (3 : Int) 0), (PySem.Value.ref 128), (PySem.Value.bool Bool.true), (PySem.Value.int (181 : Int) 0), (PySem.Value.ref 129), PySem.Value.none, (PySem.Value.ref 130), (PySem.Value.ref 131), (PySem.Value.ref 132), (PySem.Value.int (380 : Int) 0), (PySem.Value.int (110 : Int) 0), (PySem.Value.str (PySem.Str.ofString "/claim/cut.py") 381)])) (List.toArray []))
noncomputable def zo176 (_ : Params) : Obj := (PySem.Obj.mk (PySem.Value.type "function") (Option.none) (PySem.Data.func (PySem.FuncData.mk (PySem.Str.ofString "__bool__") (PySem.Str.ofString "TopologicalSorter.__bool__") (fA (met 13 6)) (.stmts (fB (met 13 6))) (fS (met 13 6)) 3 [] PySem.Value.none PySem.Value.none PySem.Value.none (PySem.Value.str (PySem.Str.ofString "cpy313.graphlib") 247) (Option.none) (PySem.Value.ref 133) PySem.Value.none 0)) (List.toArray []))
noncomputable def zo177 (_ : Params) : Obj := (PySem.Obj.mk (PySem.Value.type "tuple") (Option.none) (PySem.Data.seq (List.toArray []) 0) (List.toArray []))
noncomputable def zo178 (_ : Params) : Obj := (PySem.Obj.mk PySem.Value.none (Option.none) (PySem.Data.fields (List.toArray [])) (List.toArray []))
noncomputable def zo179 (_ : Params) : Obj := (PySem.Obj.mk (PySem.Value.type "tuple") (Option.none) (PySem.Data.seq (List.toArray [(PySem.Value.str (PySem.Str.ofString "self") 386), (PySem.Value.str (PySem.Str.ofString "nodes") 387), (PySem.Value.str (PySem.Str.ofString "n2i") 388), (PySem.Value.str (PySem.Str.ofString "node") 389), (PySem.Value.str (PySem.Str.ofString "nodeinfo") 390), (PySem.Value.str (PySem.Str.ofString "stat") 391), (PySem.Value.str (PySem.Str.ofString "successor") 392), (PySem.Value.str (PySem.Str.ofString "successor_info") 393)]) 0) (List.toArray []))
noncomputable def zo180 (_ : Params) : Obj := (PySem.Obj.mk (PySem.Value.type "tuple") (Option.none) (PySem.Data.seq (List.toArray []) 0) (List.toArray []))
noncomputable def zo181 (_ : Params) : Obj := (PySem.Obj.mk PySem.Value.none (Option.none) (PySem.Data.func (PySem.FuncData.mk (PySem.Str.ofString "done") (PySem.Str.ofString "TopologicalSorter.done") (fA (met 13 7)) (.stmts (fB (met 13 7))) (fS (met 13 7)) 0 [] PySem.Value.none PySem.Value.none PySem.Value.none PySem.Value.none (Option.none) PySem.Value.none PySem.Value.none 0)) (List.toArray []))
noncomputable def zo182 (_ : Params) : Obj := (PySem.Obj.mk (PySem.Value.type "code") (Option.none) (PySem.Data.fields (List.toArray [(PySem.Value.str (PySem.Str.ofString "done") 383), (PySem.Value.str (PySem.Str.ofString "TopologicalSorter.done") 384), (PySem.Value.str (PySem.Str.ofString "/claim/cut.py") 385), (PySem.Value.int (113 : Int) 0), (PySem.Value.int (1 : Int) 0), (PySem.Value.int (0 : Int) 0), (PySem.Value.int (0 : Int) 0), (PySem.Value.int (7 : Int) 0), (PySem.Value.ref 135), (PySem.Value.bool Bool.true), (PySem.Value.int (181 : Int) 0), (PySem.Value.ref 136), PySem.Value.none, (PySem.Value.ref 137), (PySem.Value.ref 138), (PySem.Value.ref 139), (PySem.Value.int (394 : Int) 0), (PySem.Value.int (113 : Int) 0), (PySem.Value.str (PySem.Str.ofString "/claim/cut.py") 395)])) (List.toArray []))
noncomputable def zo183 (_ : Params) : Obj := (PySem.Obj.mk (PySem.Value.type "function") (Option.none) (PySem.Data.func (PySem.FuncData.mk (PySem.Str.ofString "done") (PySem.Str.ofString "TopologicalSorter.done") (fA (met 13 7)) (.stmts (fB (met 13 7))) (fS (met 13 7)) 3 [] PySem.Value.none PySem.Value.none PySem.Value.none (PySem.Value.str (PySem.Str.ofString "cpy313.graphlib") 247) (Option.none) (PySem.Value.ref 140) PySem.Value.none 0)) (List.toArray []))
noncomputable def zo184 (_ : Params) : Obj := (PySem.Obj.mk (PySem.Value.type "tuple") (Option.none) (PySem.Data.seq (List.toArray []) 0) (List.toArray []))
noncomputable def zo185 (_ : Params) : Obj := (PySem.Obj.mk PySem.Value.none (Option.none) (PySem.Data.fields (List.toArray [])) (List.toArray []))
noncomputable def zo186 (_ : Params) : Obj := (PySem.Obj.mk (PySem.Value.type "tuple") (Option.none) (PySem.Data.seq (List.toArray [(PySem.Value.str (PySem.Str.ofString "self") 400), (PySem.Value.str (PySem.Str.ofString "n2i") 401), (PySem.Value.str (PySem.Str.ofString "stack") 402), (PySem.Value.str (PySem.Str.ofString "itstack") 403), (PySem.Value.str (PySem.Str.ofString "seen") 404), (PySem.Value.str (PySem.Str.ofString "node2stacki") 405), (PySem.Value.str (PySem.Str.ofString "node") 406)]) 0) (List.toArray []))
noncomputable def zo187 (_ : Params) : Obj := (PySem.Obj.mk (PySem.Value.type "tuple") (Option.none) (PySem.Data.seq (List.toArray []) 0) (List.toArray []))
noncomputable def zo188 (_ : Params) : Obj := (PySem.Obj.mk PySem.Value.none (Option.none) (PySem.Data.func (PySem.FuncData.mk (PySem.Str.ofString "_find_cycle") (PySem.Str.ofString "TopologicalSorter._find_cycle") (fA (met 13 8)) (.stmts (fB (met 13 8))) (fS (met 13 8)) 0 [] PySem.Value.none PySem.Value.none PySem.Value.none PySem.Value.none (Option.none) PySem.Value.none PySem.Value.none 0)) (List.toArray []))
noncomputable def zo189 (_ : Params) : Obj := (PySem.Obj.mk (PySem.Value.type "code") (Option.none) (PySem.Data.fields (List.toArray [(PySem.Value.str (PySem.Str.ofString "_find_cycle") 397), (PySem.Value.str (PySem.Str.ofString "TopologicalSorter._find_cycle") 398), (PySem.Value.str (PySem.Str.ofString "/claim/cut.py") 399), (PySem.Value.int (136 : Int) 0), (PySem.Value.int (1 : Int) 0), (PySem.Value.int (0 : Int) 0), (PySem.Value.int (0 : Int) 0), (PySem.Value.int (3 : Int) 0), (PySem.Value.ref 142), (PySem.Value.bool Bool.true), (PySem.Value.int (181 : Int) 0), (PySem.Value.ref 143), PySem.Value.none, (PySem.Value.ref 144), (PySem.Value.ref 145), (PySem.Value.ref 146), (PySem.Value.int (407 : Int) 0), (PySem.Value.int (136 : Int) 0), (PySem.Value.str (PySem.Str.ofString "/claim/cut.py") 408)])) (List.toArray []))
noncomputable def zo190 (_ : Params) : Obj := (PySem.Obj.mk (PySem.Value.type "function") (Option.none) (PySem.Data.func (PySem.FuncData.mk (PySem.Str.ofString "_find_cycle") (PySem.Str.ofString "TopologicalSorter._find_cycle") (fA (met 13 8)) (.stmts (fB (met 13 8))) (fS (met 13 8)) 3 [] PySem.Value.none PySem.Value.none PySem.Value.none (PySem.Value.str (PySem.Str.ofString "cpy313.graphlib") 247) (Option.none) (PySem.Value.ref 147) PySem.Value.none 0)) (List.toArray []))
noncomputable def zo191 (_ : Params) : Obj := (PySem.Obj.mk (PySem.Value.type "tuple") (Option.none) (PySem.Data.seq (List.toArray []) 0) (List.toArray []))
noncomputable def zo192 (_ : Params) : Obj := (PySem.Obj.mk PySem.Value.none (Option.none) (PySem.Data.fields (List.toArray [])) (List.toArray []))
noncomputable def zo193 (_ : Params) : Obj := (PySem.Obj.mk (PySem.Value.type "tuple") (Option.none) (PySem.Data.seq (List.toArray [(PySem.Value.str (PySem.Str.ofString "self") 413)]) 0) (List.toArray []))
noncomputable def zo194 (_ : Params) : Obj := (PySem.Obj.mk (PySem.Value.type "tuple") (Option.none) (PySem.Data.seq (List.toArray []) 0) (List.toArray []))
noncomputable def zo195 (_ : Params) : Obj := (PySem.Obj.mk PySem.Value.none (Option.none) (PySem.Data.func (PySem.FuncData.mk (PySem.Str.ofString "static_order") (PySem.Str.ofString "TopologicalSorter.static_order") (fA (met 13 9)) (.stmts (fB (met 13 9))) (fS (met 13 9)) 0 [] PySem.Value.none PySem.Value.none PySem.Value.none PySem.Value.none (Option.none) PySem.Value.none PySem.Value.none 0)) (List.toArray []))
noncomputable def zo196 (_ : Params) : Obj := (PySem.Obj.mk (PySem.Value.type "code") (Option.none) (PySem.Data.fields (List.toArray [(PySem.Value.str (PySem.Str.ofString "static_order") 410), (PySem.Value.str (PySem.Str.ofString "TopologicalSorter.static_order") 411), (PySem.Value.str (PySem.Str.ofString "/claim/cut.py") 412), (PySem.Value.int (165 : Int) 0), (PySem.Value.int (1 : Int) 0), (PySem.Value.int (0 : Int) 0), (PySem.Value.int (0 : Int) 0), (PySem.Value.int (3 : Int) 0), (PySem.Value.ref 149), (PySem.Value.bool Bool.true), (PySem.Value.int (181 : Int) 0), (PySem.Value.ref 150), PySem.Value.none, (PySem.Value.ref 151), (PySem.Value.ref 152), (PySem.Value.ref 153), (PySem.Value.int (414 : Int) 0), (PySem.Value.int (165 : Int) 0), (PySem.Value.str (PySem.Str.ofString "/claim/cut.py") 415)])) (List.toArray []))
noncomputable def zo197 (_ : Params) : Obj := (PySem.Obj.mk (PySem.Value.type "function") (Option.none) (PySem.Data.func (PySem.FuncData.mk (PySem.Str.ofString "static_order") (PySem.Str.ofString "TopologicalSorter.static_order") (fA (met 13 9)) (.stmts (fB (met 13 9))) (fS (met 13 9)) 3 [] PySem.Value.none PySem.Value.none PySem.Value.none (PySem.Value.str (PySem.Str.ofString "cpy313.graphlib") 247) (Option.none) (PySem.Value.ref 154) PySem.Value.none 0)) (List.toArray []))
noncomputable def zo198 (_ : Params) : Obj := (PySem.Obj.mk (PySem.Value.type "tuple") (Option.none) (PySem.Data.seq (List.toArray [(PySem.Value.str (PySem.Str.ofString "_nfinished") 417), (PySem.Value.str (PySem.Str.ofString "_node2info") 418), (PySem.Value.str (PySem.Str.ofString "_npassedout") 419), (PySem.Value.str (PySem.Str.ofString "_ready_nodes") 420)]) 0) (List.toArray []))
noncomputable def zo199 (P : Params) : Obj := (PySem.Obj.mk (PySem.Value.type "dict") (Option.none) (PySem.Data.dict (List.toArray [(PySem.DictEntry.mk (PySem.PyData.keyHash P (PySem.Str.ofString "__module__")) (PySem.Value.str (PySem.Str.ofString "__module__") 317) (PySem.Value.str (PySem.Str.ofString "cpy313.graphlib") 247)), (PySem.DictEntry.mk (PySem.PyData.keyHash P (PySem.Str.ofString "__firstlineno__")) (PySem.Value.str (PySem.Str.ofString "__firstlineno__") 321) (PySem.Value.int (61 : Int) 320)), (PySem.DictEntry.mk (PySem.PyData.keyHash P (PySem.Str.ofString "__init__")) (PySem.Value.str (PySem.Str.ofString "__init__") 331) (PySem.Value.ref 94)), (PySem.DictEntry.mk (PySem.PyData.keyHash P (PySem.Str.ofString "_get_nodeinfo")) (PySem.Value.str (PySem.Str.ofString "_get_nodeinfo") 340) (PySem.Value.ref 101)), (PySem.DictEntry.mk (PySem.PyData.keyHash P (PySem.Str.ofString "add")) (PySem.Value.str (PySem.Str.ofString "add") 352) (PySem.Value.ref 108)), (PySem.DictEntry.mk (PySem.PyData.keyHash P (PySem.Str.ofString "prepare")) (PySem.Value.str (PySem.Str.ofString "prepare") 358) (PySem.Value.ref 113)), (PySem.DictEntry.mk (PySem.PyData.keyHash P (PySem.Str.ofString "get_ready")) (PySem.Value.str (PySem.Str.ofString "get_ready") 368) (PySem.Value.ref 120)), (PySem.DictEntry.mk (PySem.PyData.keyHash P (PySem.Str.ofString "is_active")) (PySem.Value.str (PySem.Str.ofString "is_active") 375) (PySem.Value.ref 127)), (PySem.DictEntry.mk (PySem.PyData.keyHash P (PySem.Str.ofString "__bool__")) (PySem.Value.str (PySem.Str.ofString "__bool__") 382) (PySem.Value.ref 134)), (PySem.DictEntry.mk (PySem.PyData.keyHash P (PySem.Str.ofString "done")) (PySem.Value.str (PySem.Str.ofString "done") 396) (PySem.Value.ref 141)), (PySem.DictEntry.mk (PySem.PyData.keyHash P (PySem.Str.ofString "_find_cycle")) (PySem.Value.str (PySem.Str.ofString "_find_cycle") 409) (PySem.Value.ref 148)), (PySem.DictEntry.mk (PySem.PyData.keyHash P (PySem.Str.ofString "static_order")) (PySem.Value.str (PySem.Str.ofString "static_order") 416) (PySem.Value.ref 155)), (PySem.DictEntry.mk (PySem.PyData.keyHash P (PySem.Str.ofString "__static_attributes__")) (PySem.Value.str (PySem.Str.ofString "__static_attributes__") 421) (PySem.Value.ref 156)), (PySem.DictEntry.mk (PySem.PyData.keyHash P (PySem.Str.ofString "__dict__")) (PySem.Value.str (PySem.Str.ofString "__dict__") 423) (PySem.Value.ref 159)), (PySem.DictEntry.mk (PySem.PyData.keyHash P (PySem.Str.ofString "__weakref__")) (PySem.Value.str (PySem.Str.ofString "__weakref__") 425) (PySem.Value.ref 160)), (PySem.DictEntry.mk (PySem.PyData.keyHash P (PySem.Str.ofString "__doc__")) (PySem.Value.str (PySem.Str.ofString "__doc__") 426) PySem.Value.none)]) 4) (List.toArray []))
noncomputable def zo200 (_ : Params) : Obj := (PySem.Obj.mk (PySem.Value.type "type") (Option.none) (PySem.Data.cls (PySem.ClassData.mk (PySem.Str.ofString "TopologicalSorter") [(PySem.Value.type "object")] [(PySem.Value.ref 158), (PySem.Value.type "object")] 157 (PySem.Str.ofString "TopologicalSorter") Bool.true [] [] Bool.false (Option.none) Bool.false)) (List.toArray [(Option.none), (Option.none), (Option.some (PySem.Value.str (PySem.Str.ofString "TopologicalSorter") 310)), (Option.some (PySem.Value.str (PySem.Str.ofString "TopologicalSorter") 318)), (Option.some (PySem.Value.builtin "object.__new__")), (Option.some (PySem.Value.bool Bool.true))]))
noncomputable def zo201 (_ : Params) : Obj := (PySem.Obj.mk (PySem.Value.type "getset_descriptor") (Option.none) (PySem.Data.fields (List.toArray [(PySem.Value.str (PySem.Str.ofString "__dict__") 422), (PySem.Value.ref 158), (PySem.Value.builtin "function.__dict__"), (PySem.Value.builtin "function.__dict__#set")])) (List.toArray []))
noncomputable def zo202 (_ : Params) : Obj := (PySem.Obj.mk (PySem.Value.type "getset_descriptor") (Option.none) (PySem.Data.fields (List.toArray [(PySem.Value.str (PySem.Str.ofString "__weakref__") 424), (PySem.Value.ref 158), (PySem.Value.builtin "ExceptionGroup.__weakref__"), PySem.Value.none])) (List.toArray []))
noncomputable def zo203 (_ : Params) : Obj := (PySem.Obj.mk (PySem.Value.type "super") (Option.none) (PySem.Data.fields (List.toArray [(PySem.Value.ref 158), (PySem.Value.ref 158), (PySem.Value.ref 158)])) (List.toArray []))
noncomputable def zo204 (_ : Params) : Obj := (PySem.Obj.mk (PySem.Value.type "builtin_function_or_method") (Option.none) (PySem.Data.fields (List.toArray [(PySem.Value.builtin "object.__init_subclass__"), (PySem.Value.ref 158)])) (List.toArray []))
noncomputable def zo205 (P : Params) : Obj := (PySem.Obj.mk (PySem.Value.type "dict") (Option.none) (PySem.Data.dict (List.toArray [(PySem.DictEntry.mk (PySem.PyData.keyHash P (PySem.Str.ofString "__name__")) (PySem.Value.str (PySem.Str.ofString "__name__") 165) (PySem.Value.str (PySem.Str.ofString "law_mj0230_01") 429)), (PySem.DictEntry.mk (PySem.PyData.keyHash P (PySem.Str.ofString "__doc__")) (PySem.Value.str (PySem.Str.ofString "__doc__") 166) PySem.Value.none), (PySem.DictEntry.mk (PySem.PyData.keyHash P (PySem.Str.ofString "__package__")) (PySem.Value.str (PySem.Str.ofString "__package__") 167) PySem.Value.none), (PySem.DictEntry.mk (PySem.PyData.keyHash P (PySem.Str.ofString "__loader__")) (PySem.Value.str (PySem.Str.ofString "__loader__") 168) (PySem.Value.builtin "__main__.__loader__#opaque")), (PySem.DictEntry.mk (PySem.PyData.keyHash P (PySem.Str.ofString "__spec__")) (PySem.Value.str (PySem.Str.ofString "__spec__") 169) PySem.Value.none), (PySem.DictEntry.mk (PySem.PyData.keyHash P (PySem.Str.ofString "__annotations__")) (PySem.Value.str (PySem.Str.ofString "__annotations__") 170) (PySem.Value.ref 6)), (PySem.DictEntry.mk (PySem.PyData.keyHash P (PySem.Str.ofString "__builtins__")) (PySem.Value.str (PySem.Str.ofString "__builtins__") 171) (PySem.Value.ref 4)), (PySem.DictEntry.mk (PySem.PyData.keyHash P (PySem.Str.ofString "__file__")) (PySem.Value.str (PySem.Str.ofString "__file__") 173) (PySem.Value.str (PySem.Str.ofString "/claim/cut.py") 172)), (PySem.DictEntry.mk (PySem.PyData.keyHash P (PySem.Str.ofString "__cached__")) (PySem.Value.str (PySem.Str.ofString "__cached__") 174) PySem.Value.none), (PySem.DictEntry.mk (PySem.PyData.keyHash P (PySem.Str.ofString "_wall")) (PySem.Value.str (PySem.Str.ofString "_wall") 193) (PySem.Value.ref 21)), (PySem.DictEntry.mk (PySem.PyData.keyHash P (PySem.Str.ofString "ONE_THIRD")) (PySem.Value.str (PySem.Str.ofString "ONE_THIRD") 199) (PySem.Value.float (4599676419421066581 : UInt64) 198)), (PySem.DictEntry.mk (PySem.PyData.keyHash P (PySem.Str.ofString "ONE_SIXTH")) (PySem.Value.str (PySem.Str.ofString "ONE_SIXTH") 203) (PySem.Value.float (4595172819793696085 : UInt64) 202)), (PySem.DictEntry.mk (PySem.PyData.keyHash P (PySem.Str.ofString "TWO_THIRD")) (PySem.Value.str (PySem.Str.ofString "TWO_THIRD") 207) (PySem.Value.float (4604180019048437077 : UInt64) 206)), (PySem.DictEntry.mk (PySem.PyData.keyHash P (PySem.Str.ofString "rgb_to_hls")) (PySem.Value.str (PySem.Str.ofString "rgb_to_hls") 226) (PySem.Value.ref 28)), (PySem.DictEntry.mk (PySem.PyData.keyHash P (PySem.Str.ofString "hls_to_rgb")) (PySem.Value.str (PySem.Str.ofString "hls_to_rgb") 237) (PySem.Value.ref 35)), (PySem.DictEntry.mk (PySem.PyData.keyHash P (PySem.Str.ofString "_v")) (PySem.Value.str (PySem.Str.ofString "_v") 246) (PySem.Value.ref 42)), (PySem.DictEntry.mk (PySem.PyData.keyHash P (PySem.Str.ofString "_NODE_OUT")) (PySem.Value.str (PySem.Str.ofString "_NODE_OUT") 251) (PySem.Value.int (Neg.neg (1 : Int)) 250)), (PySem.DictEntry.mk (PySem.PyData.keyHash P (PySem.Str.ofString "_NODE_DONE")) (PySem.Value.str (PySem.Str.ofString "_NODE_DONE") 254) (PySem.Value.int (Neg.neg (2 : Int)) 253)), (PySem.DictEntry.mk (PySem.PyData.keyHash P (PySem.Str.ofString "_NodeInfo")) (PySem.Value.str (PySem.Str.ofString "_NodeInfo") 291) (PySem.Value.ref 61)), (PySem.DictEntry.mk (PySem.PyData.keyHash P (PySem.Str.ofString "CycleError")) (PySem.Value.str (PySem.Str.ofString "CycleError") 309) (PySem.Value.ref 76)), (PySem.DictEntry.mk (PySem.PyData.keyHash P (PySem.Str.ofString "TopologicalSorter")) (PySem.Value.str (PySem.Str.ofString "TopologicalSorter") 428) (PySem.Value.ref 158)), (PySem.DictEntry.mk (PySem.PyData.keyHash P (PySem.Str.ofString "_law_colour")) (PySem.Value.str (PySem.Str.ofString "_law_colour") 436) (PySem.Value.ref 167)), (PySem.DictEntry.mk (PySem.PyData.keyHash P (PySem.Str.ofString "_law_due")) (PySem.Value.str (PySem.Str.ofString "_law_due") 442) (PySem.Value.ref 172)), (PySem.DictEntry.mk (PySem.PyData.keyHash P (PySem.Str.ofString "_law_told")) (PySem.Value.str (PySem.Str.ofString "_law_told") 448) (PySem.Value.ref 177)), (PySem.DictEntry.mk (PySem.PyData.keyHash P (PySem.Str.ofString "law")) (PySem.Value.str (PySem.Str.ofString "law") 454) (PySem.Value.ref 182))]) 25) (List.toArray []))
noncomputable def zo206 (_ : Params) : Obj := (PySem.Obj.mk PySem.Value.none (Option.none) (PySem.Data.fields (List.toArray [(PySem.Value.int (1 : Int) 0), (PySem.Value.int (0 : Int) 0), (PySem.Value.ref 20), (PySem.Value.int (8 : Int) 0), (PySem.Value.int (0 : Int) 0), (PySem.Value.ref 27), (PySem.Value.int (31 : Int) 0), (PySem.Value.int (0 : Int) 0), (PySem.Value.ref 34), (PySem.Value.int (40 : Int) 0), (PySem.Value.int (0 : Int) 0), (PySem.Value.ref 41), (PySem.Value.int (52 : Int) 0), (PySem.Value.int (0 : Int) 0), (PySem.Value.ref 48), (PySem.Value.int (59 : Int) 0), (PySem.Value.int (0 : Int) 0), (PySem.Value.ref 72), (PySem.Value.int (61 : Int) 0), (PySem.Value.int (0 : Int) 0), (PySem.Value.ref 85), (PySem.Value.int (168 : Int) 0), (PySem.Value.int (0 : Int) 0), (PySem.Value.ref 166), (PySem.Value.int (174 : Int) 0), (PySem.Value.int (0 : Int) 0), (PySem.Value.ref 171), (PySem.Value.int (190 : Int) 0), (PySem.Value.int (0 : Int) 0), (PySem.Value.ref 176), (PySem.Value.int (200 : Int) 0), (PySem.Value.int (0 : Int) 0), (PySem.Value.ref 181)])) (List.toArray []))
noncomputable def zo207 (_ : Params) : Obj := (PySem.Obj.mk (PySem.Value.type "tuple") (Option.none) (PySem.Data.seq (List.toArray []) 0) (List.toArray []))
noncomputable def zo208 (_ : Params) : Obj := (PySem.Obj.mk PySem.Value.none (Option.none) (PySem.Data.fields (List.toArray [])) (List.toArray []))
noncomputable def zo209 (_ : Params) : Obj := (PySem.Obj.mk PySem.Value.none (Option.none) (PySem.Data.func (PySem.FuncData.mk (PySem.Str.ofString "_law_colour") (PySem.Str.ofString "_law_colour") (fA (stm 15)) (.stmts (fB (stm 15))) (fS (stm 15)) 0 [] PySem.Value.none PySem.Value.none PySem.Value.none PySem.Value.none (Option.none) PySem.Value.none PySem.Value.none 0)) (List.toArray []))
noncomputable def zo210 (_ : Params) : Obj := (PySem.Obj.mk (PySem.Value.type "code") (Option.none) (PySem.Data.fields (List.toArray [(PySem.Value.str (PySem.Str.ofString "_law_colour") 431), (PySem.Value.str (PySem.Str.ofString "_law_colour") 432), (PySem.Value.str (PySem.Str.ofString "/claim/cut.py") 433), (PySem.Value.int (168 : Int) 0), (PySem.Value.int (1 : Int) 0), (PySem.Value.int (0 : Int) 0), (PySem.Value.int (0 : Int) 0), (PySem.Value.int (3 : Int) 0), (PySem.Value.ref 163), (PySem.Value.bool Bool.true), (PySem.Value.int (181 : Int) 0), (PySem.Value.ref 164), PySem.Value.none, PySem.Value.none, PySem.Value.none, (PySem.Value.ref 165), (PySem.Value.int (434 : Int) 0), (PySem.Value.int (168 : Int) 0), (PySem.Value.str (PySem.Str.ofString "/claim/cut.py") 435)])) (List.toArray []))
noncomputable def zo211 (_ : Params) : Obj := (PySem.Obj.mk (PySem.Value.type "function") (Option.none) (PySem.Data.func (PySem.FuncData.mk (PySem.Str.ofString "_law_colour") (PySem.Str.ofString "_law_colour") (fA (stm 15)) (.stmts (fB (stm 15))) (fS (stm 15)) 3 [] PySem.Value.none PySem.Value.none PySem.Value.none (PySem.Value.str (PySem.Str.ofString "law_mj0230_01") 429) (Option.none) (PySem.Value.ref 166) PySem.Value.none 0)) (List.toArray []))
noncomputable def zo212 (_ : Params) : Obj := (PySem.Obj.mk (PySem.Value.type "tuple") (Option.none) (PySem.Data.seq (List.toArray []) 0) (List.toArray []))
noncomputable def zo213 (_ : Params) : Obj := (PySem.Obj.mk PySem.Value.none (Option.none) (PySem.Data.fields (List.toArray [])) (List.toArray []))
noncomputable def zo214 (_ : Params) : Obj := (PySem.Obj.mk PySem.Value.none (Option.none) (PySem.Data.func (PySem.FuncData.mk (PySem.Str.ofString "_law_due") (PySem.Str.ofString "_law_due") (fA (stm 16)) (.stmts (fB (stm 16))) (fS (stm 16)) 0 [] PySem.Value.none PySem.Value.none PySem.Value.none PySem.Value.none (Option.none) PySem.Value.none PySem.Value.none 0)) (List.toArray []))
noncomputable def zo215 (_ : Params) : Obj := (PySem.Obj.mk (PySem.Value.type "code") (Option.none) (PySem.Data.fields (List.toArray [(PySem.Value.str (PySem.Str.ofString "_law_due") 437), (PySem.Value.str (PySem.Str.ofString "_law_due") 438), (PySem.Value.str (PySem.Str.ofString "/claim/cut.py") 439), (PySem.Value.int (174 : Int) 0), (PySem.Value.int (1 : Int) 0), (PySem.Value.int (0 : Int) 0), (PySem.Value.int (0 : Int) 0), (PySem.Value.int (3 : Int) 0), (PySem.Value.ref 168), (PySem.Value.bool Bool.true), (PySem.Value.int (181 : Int) 0), (PySem.Value.ref 169), PySem.Value.none, PySem.Value.none, PySem.Value.none, (PySem.Value.ref 170), (PySem.Value.int (440 : Int) 0), (PySem.Value.int (174 : Int) 0), (PySem.Value.str (PySem.Str.ofString "/claim/cut.py") 441)])) (List.toArray []))
noncomputable def zo216 (_ : Params) : Obj := (PySem.Obj.mk (PySem.Value.type "function") (Option.none) (PySem.Data.func (PySem.FuncData.mk (PySem.Str.ofString "_law_due") (PySem.Str.ofString "_law_due") (fA (stm 16)) (.stmts (fB (stm 16))) (fS (stm 16)) 3 [] PySem.Value.none PySem.Value.none PySem.Value.none (PySem.Value.str (PySem.Str.ofString "law_mj0230_01") 429) (Option.none) (PySem.Value.ref 171) PySem.Value.none 0)) (List.toArray []))
noncomputable def zo217 (_ : Params) : Obj := (PySem.Obj.mk (PySem.Value.type "tuple") (Option.none) (PySem.Data.seq (List.toArray []) 0) (List.toArray []))
noncomputable def zo218 (_ : Params) : Obj := (PySem.Obj.mk PySem.Value.none (Option.none) (PySem.Data.fields (List.toArray [])) (List.toArray []))
noncomputable def zo219 (_ : Params) : Obj := (PySem.Obj.mk PySem.Value.none (Option.none) (PySem.Data.func (PySem.FuncData.mk (PySem.Str.ofString "_law_told") (PySem.Str.ofString "_law_told") (fA (stm 17)) (.stmts (fB (stm 17))) (fS (stm 17)) 0 [] PySem.Value.none PySem.Value.none PySem.Value.none PySem.Value.none (Option.none) PySem.Value.none PySem.Value.none 0)) (List.toArray []))
noncomputable def zo220 (_ : Params) : Obj := (PySem.Obj.mk (PySem.Value.type "code") (Option.none) (PySem.Data.fields (List.toArray [(PySem.Value.str (PySem.Str.ofString "_law_told") 443), (PySem.Value.str (PySem.Str.ofString "_law_told") 444), (PySem.Value.str (PySem.Str.ofString "/claim/cut.py") 445), (PySem.Value.int (190 : Int) 0), (PySem.Value.int (1 : Int) 0), (PySem.Value.int (0 : Int) 0), (PySem.Value.int (0 : Int) 0), (PySem.Value.int (3 : Int) 0), (PySem.Value.ref 173), (PySem.Value.bool Bool.true), (PySem.Value.int (181 : Int) 0), (PySem.Value.ref 174), PySem.Value.none, PySem.Value.none, PySem.Value.none, (PySem.Value.ref 175), (PySem.Value.int (446 : Int) 0), (PySem.Value.int (190 : Int) 0), (PySem.Value.str (PySem.Str.ofString "/claim/cut.py") 447)])) (List.toArray []))
noncomputable def zo221 (_ : Params) : Obj := (PySem.Obj.mk (PySem.Value.type "function") (Option.none) (PySem.Data.func (PySem.FuncData.mk (PySem.Str.ofString "_law_told") (PySem.Str.ofString "_law_told") (fA (stm 17)) (.stmts (fB (stm 17))) (fS (stm 17)) 3 [] PySem.Value.none PySem.Value.none PySem.Value.none (PySem.Value.str (PySem.Str.ofString "law_mj0230_01") 429) (Option.none) (PySem.Value.ref 176) PySem.Value.none 0)) (List.toArray []))
noncomputable def zo222 (_ : Params) : Obj := (PySem.Obj.mk (PySem.Value.type "tuple") (Option.none) (PySem.Data.seq (List.toArray []) 0) (List.toArray []))
noncomputable def zo223 (_ : Params) : Obj := (PySem.Obj.mk PySem.Value.none (Option.none) (PySem.Data.fields (List.toArray [])) (List.toArray []))
noncomputable def zo224 (_ : Params) : Obj := (PySem.Obj.mk PySem.Value.none (Option.none) (PySem.Data.func (PySem.FuncData.mk (PySem.Str.ofString "law") (PySem.Str.ofString "law") (fA (stm 18)) (.stmts (fB (stm 18))) (fS (stm 18)) 0 [] PySem.Value.none PySem.Value.none PySem.Value.none PySem.Value.none (Option.none) PySem.Value.none PySem.Value.none 0)) (List.toArray []))
noncomputable def zo225 (_ : Params) : Obj := (PySem.Obj.mk (PySem.Value.type "code") (Option.none) (PySem.Data.fields (List.toArray [(PySem.Value.str (PySem.Str.ofString "law") 449), (PySem.Value.str (PySem.Str.ofString "law") 450), (PySem.Value.str (PySem.Str.ofString "/claim/cut.py") 451), (PySem.Value.int (200 : Int) 0), (PySem.Value.int (1 : Int) 0), (PySem.Value.int (0 : Int) 0), (PySem.Value.int (0 : Int) 0), (PySem.Value.int (3 : Int) 0), (PySem.Value.ref 178), (PySem.Value.bool Bool.true), (PySem.Value.int (181 : Int) 0), (PySem.Value.ref 179), PySem.Value.none, PySem.Value.none, PySem.Value.none, (PySem.Value.ref 180), (PySem.Value.int (452 : Int) 0), (PySem.Value.int (200 : Int) 0), (PySem.Value.str (PySem.Str.ofString "/claim/cut.py") 453)])) (List.toArray []))
noncomputable def zo226 (_ : Params) : Obj := (PySem.Obj.mk (PySem.Value.type "function") (Option.none) (PySem.Data.func (PySem.FuncData.mk (PySem.Str.ofString "law") (PySem.Str.ofString "law") (fA (stm 18)) (.stmts (fB (stm 18))) (fS (stm 18)) 3 [] PySem.Value.none PySem.Value.none PySem.Value.none (PySem.Value.str (PySem.Str.ofString "law_mj0230_01") 429) (Option.none) (PySem.Value.ref 181) PySem.Value.none 0)) (List.toArray []))
noncomputable def zh104 (P : Params) : Heap := Heap.mk (Array.mk (PySem.W.boot_o_0 P :: PySem.W.boot_o_1 P :: PySem.W.boot_o_2 P :: zo79 P :: PySem.W.boot_o_4 P :: PySem.W.boot_o_5 P :: PySem.W.boot_o_6 P :: PySem.W.boot_o_7 P :: PySem.W.boot_o_8 P :: PySem.W.boot_o_9 P :: PySem.W.boot_o_10 P :: zo43 P :: zo80 P :: zo45 P :: zo46 P :: zo51 P :: zo52 P :: zo53 P :: zo54 P :: zo55 P :: zo56 P :: zo57 P :: zo58 P :: zo59 P :: zo60 P :: zo61 P :: zo62 P :: zo63 P :: zo64 P :: zo65 P :: zo66 P :: zo67 P :: zo68 P :: zo69 P :: zo70 P :: zo71 P :: zo72 P :: zo73 P :: zo74 P :: zo75 P :: zo76 P :: zo77 P :: zo78 P :: zo81 P :: zo82 P :: zo83 P :: zo84 P :: zo85 P :: zo86 P :: zo87 P :: zo88 P :: zo89 P :: zo90 P :: zo91 P :: zo92 P :: zo93 P :: zo94 P :: zo95 P :: zo96 P :: zo97 P :: zo98 P :: zo99 P :: zo100 P :: zo101 P :: zo102 P :: zo103 P :: zo104 P :: [])) (PySem.Life.mk [] [] [] 0 [] [] Bool.false (List.toArray []) [] 0 Bool.false Bool.false Bool.false (0 : Int) [(2000 : Int), (10 : Int), (10 : Int)] Bool.false 0 Bool.true [] [] 0 Bool.false)
noncomputable def zh47 (P : Params) : Heap := Heap.mk (Array.mk (PySem.W.boot_o_0 P :: PySem.W.boot_o_1 P :: PySem.W.boot_o_2 P :: PySem.W.boot_o_3 P :: PySem.W.boot_o_4 P :: PySem.W.boot_o_5 P :: PySem.W.boot_o_6 P :: PySem.W.boot_o_7 P :: PySem.W.boot_o_8 P :: PySem.W.boot_o_9 P :: PySem.W.boot_o_10 P :: zo43 P :: zo44 P :: zo45 P :: zo46 P :: [])) (PySem.Life.mk [] [] [] 0 [] [] Bool.false (List.toArray []) [] 0 Bool.false Bool.false Bool.false (0 : Int) [(2000 : Int), (10 : Int), (10 : Int)] Bool.false 0 Bool.true [] [] 0 Bool.false)
noncomputable def zh78 (P : Params) : Heap := Heap.mk (Array.mk (PySem.W.boot_o_0 P :: PySem.W.boot_o_1 P :: PySem.W.boot_o_2 P :: zo49 P :: PySem.W.boot_o_4 P :: PySem.W.boot_o_5 P :: PySem.W.boot_o_6 P :: PySem.W.boot_o_7 P :: PySem.W.boot_o_8 P :: PySem.W.boot_o_9 P :: PySem.W.boot_o_10 P :: zo43 P :: zo50 P :: zo45 P :: zo46 P :: zo51 P :: zo52 P :: zo53 P :: zo54 P :: zo55 P :: zo56 P :: zo57 P :: zo58 P :: zo59 P :: zo60 P :: zo61 P :: zo62 P :: zo63 P :: zo64 P :: zo65 P :: zo66 P :: zo67 P :: zo68 P :: zo69 P :: zo70 P :: zo71 P :: zo72 P :: zo73 P :: zo74 P :: zo75 P :: zo76 P :: zo77 P :: zo78 P :: [])) (PySem.Life.mk [] [] [] 0 [] [] Bool.false (List.toArray []) [] 0 Bool.false Bool.false Bool.false (0 : Int) [(2000 : Int), (10 : Int), (10 : Int)] Bool.false 0 Bool.true [] [] 0 Bool.false)
noncomputable def zh46 (P : Params) : Heap := Heap.mk (Array.mk (PySem.W.boot_o_0 P :: PySem.W.boot_o_1 P :: PySem.W.boot_o_2 P :: PySem.W.boot_o_3 P :: PySem.W.boot_o_4 P :: PySem.W.boot_o_5 P :: PySem.W.boot_o_6 P :: PySem.W.boot_o_7 P :: PySem.W.boot_o_8 P :: PySem.W.boot_o_9 P :: PySem.W.boot_o_10 P :: zo43 P :: zo44 P :: zo45 P :: zo46 P :: [])) (PySem.Life.mk [] [] [] 0 [] [] Bool.false (List.toArray []) [] 0 Bool.false Bool.false Bool.false (0 : Int) [(2000 : Int), (10 : Int), (10 : Int)] Bool.false 0 Bool.true [] [] 0 Bool.false)
noncomputable def zh227 (P : Params) : Heap := Heap.mk (Array.mk (PySem.W.boot_o_0 P :: PySem.W.boot_o_1 P :: PySem.W.boot_o_2 P :: zo205 P :: PySem.W.boot_o_4 P :: PySem.W.boot_o_5 P :: PySem.W.boot_o_6 P :: PySem.W.boot_o_7 P :: PySem.W.boot_o_8 P :: PySem.W.boot_o_9 P :: PySem.W.boot_o_10 P :: zo43 P :: zo206 P :: zo45 P :: zo46 P :: zo51 P :: zo52 P :: zo53 P :: zo54 P :: zo55 P :: zo56 P :: zo57 P :: zo58 P :: zo59 P :: zo60 P :: zo61 P :: zo62 P :: zo63 P :: zo64 P :: zo65 P :: zo66 P :: zo67 P :: zo68 P :: zo69 P :: zo70 P :: zo71 P :: zo72 P :: zo73 P :: zo74 P :: zo75 P :: zo76 P :: zo77 P :: zo78 P :: zo81 P :: zo82 P :: zo83 P :: zo84 P :: zo85 P :: zo86 P :: zo87 P :: zo88 P :: zo89 P :: zo90 P :: zo91 P :: zo92 P :: zo93 P :: zo94 P :: zo95 P :: zo96 P :: zo97 P :: zo98 P :: zo99 P :: zo100 P :: zo101 P :: zo102 P :: zo103 P :: zo104 P :: zo107 P :: zo108 P :: zo109 P :: zo110 P :: zo111 P :: zo112 P :: zo113 P :: zo114 P :: zo115 P :: zo116 P :: zo117 P :: zo118 P :: zo119 P :: zo122 P :: zo123 P :: zo124 P :: zo125 P :: zo126 P :: zo127 P :: zo128 P :: zo129 P :: zo130 P :: zo131 P :: zo132 P :: zo133 P :: zo134 P :: zo135 P :: zo136 P :: zo137 P :: zo138 P :: zo139 P :: zo140 P :: zo141 P :: zo142 P :: zo143 P :: zo144 P :: zo145 P :: zo146 P :: zo147 P :: zo148 P :: zo149 P :: zo150 P :: zo151 P :: zo152 P :: zo153 P :: zo154 P :: zo155 P :: zo156 P :: zo157 P :: zo158 P :: zo159 P :: zo160 P :: zo161 P :: zo162 P :: zo163 P :: zo164 P :: zo165 P :: zo166 P :: zo167 P :: zo168 P :: zo169 P :: zo170 P :: zo171 P :: zo172 P :: zo173 P :: zo174 P :: zo175 P :: zo176 P :: zo177 P :: zo178 P :: zo179 P :: zo180 P :: zo181 P :: zo182 P :: zo183 P :: zo184 P :: zo185 P :: zo186 P :: zo187 P :: zo188 P :: zo189 P :: zo190 P :: zo191 P :: zo192 P :: zo193 P :: zo194 P :: zo195 P :: zo196 P :: zo197 P :: zo198 P :: zo199 P :: zo200 P :: zo201 P :: zo202 P :: zo203 P :: zo204 P :: zo207 P :: zo208 P :: zo209 P :: zo210 P :: zo211 P :: zo212 P :: zo213 P :: zo214 P :: zo215 P :: zo216 P :: zo217 P :: zo218 P :: zo219 P :: zo220 P :: zo221 P :: zo222 P :: zo223 P :: zo224 P :: zo225 P :: zo226 P :: [])) (PySem.Life.mk [] [] [] 0 [] [] Bool.false (List.toArray []) [] 0 Bool.false Bool.false Bool.false (0 : Int) [(2000 : Int), (10 : Int), (10 : Int)] Bool.false 0 Bool.true [] [] 0 Bool.false)
noncomputable def zh119 (P : Params) : Heap := Heap.mk (Array.mk (PySem.W.boot_o_0 P :: PySem.W.boot_o_1 P :: PySem.W.boot_o_2 P :: zo105 P :: PySem.W.boot_o_4 P :: PySem.W.boot_o_5 P :: PySem.W.boot_o_6 P :: PySem.W.boot_o_7 P :: PySem.W.boot_o_8 P :: PySem.W.boot_o_9 P :: PySem.W.boot_o_10 P :: zo43 P :: zo106 P :: zo45 P :: zo46 P :: zo51 P :: zo52 P :: zo53 P :: zo54 P :: zo55 P :: zo56 P :: zo57 P :: zo58 P :: zo59 P :: zo60 P :: zo61 P :: zo62 P :: zo63 P :: zo64 P :: zo65 P :: zo66 P :: zo67 P :: zo68 P :: zo69 P :: zo70 P :: zo71 P :: zo72 P :: zo73 P :: zo74 P :: zo75 P :: zo76 P :: zo77 P :: zo78 P :: zo81 P :: zo82 P :: zo83 P :: zo84 P :: zo85 P :: zo86 P :: zo87 P :: zo88 P :: zo89 P :: zo90 P :: zo91 P :: zo92 P :: zo93 P :: zo94 P :: zo95 P :: zo96 P :: zo97 P :: zo98 P :: zo99 P :: zo100 P :: zo101 P :: zo102 P :: zo103 P :: zo104 P :: zo107 P :: zo108 P :: zo109 P :: zo110 P :: zo111 P :: zo112 P :: zo113 P :: zo114 P :: zo115 P :: zo116 P :: zo117 P :: zo118 P :: zo119 P :: [])) (PySem.Life.mk [] [] [] 0 [] [] Bool.false (List.toArray []) [] 0 Bool.false Bool.false Bool.false (0 : Int) [(2000 : Int), (10 : Int), (10 : Int)] Bool.false 0 Bool.true [] [] 0 Bool.false)
noncomputable def zh204 (P : Params) : Heap := Heap.mk (Array.mk (PySem.W.boot_o_0 P :: PySem.W.boot_o_1 P :: PySem.W.boot_o_2 P :: zo120 P :: PySem.W.boot_o_4 P :: PySem.W.boot_o_5 P :: PySem.W.boot_o_6 P :: PySem.W.boot_o_7 P :: PySem.W.boot_o_8 P :: PySem.W.boot_o_9 P :: PySem.W.boot_o_10 P :: zo43 P :: zo121 P :: zo45 P :: zo46 P :: zo51 P :: zo52 P :: zo53 P :: zo54 P :: zo55 P :: zo56 P :: zo57 P :: zo58 P :: zo59 P :: zo60 P :: zo61 P :: zo62 P :: zo63 P :: zo64 P :: zo65 P :: zo66 P :: zo67 P :: zo68 P :: zo69 P :: zo70 P :: zo71 P :: zo72 P :: zo73 P :: zo74 P :: zo75 P :: zo76 P :: zo77 P :: zo78 P :: zo81 P :: zo82 P :: zo83 P :: zo84 P :: zo85 P :: zo86 P :: zo87 P :: zo88 P :: zo89 P :: zo90 P :: zo91 P :: zo92 P :: zo93 P :: zo94 P :: zo95 P :: zo96 P :: zo97 P :: zo98 P :: zo99 P :: zo100 P :: zo101 P :: zo102 P :: zo103 P :: zo104 P :: zo107 P :: zo108 P :: zo109 P :: zo110 P :: zo111 P :: zo112 P :: zo113 P :: zo114 P :: zo115 P :: zo116 P :: zo117 P :: zo118 P :: zo119 P :: zo122 P :: zo123 P :: zo124 P :: zo125 P :: zo126 P :: zo127 P :: zo128 P :: zo129 P :: zo130 P :: zo131 P :: zo132 P :: zo133 P :: zo134 P :: zo135 P :: zo136 P :: zo137 P :: zo138 P :: zo139 P :: zo140 P :: zo141 P :: zo142 P :: zo143 P :: zo144 P :: zo145 P :: zo146 P :: zo147 P :: zo148 P :: zo149 P :: zo150 P :: zo151 P :: zo152 P :: zo153 P :: zo154 P :: zo155 P :: zo156 P :: zo157 P :: zo158 P :: zo159 P :: zo160 P :: zo161 P :: zo162 P :: zo163 P :: zo164 P :: zo165 P :: zo166 P :: zo167 P :: zo168 P :: zo169 P :: zo170 P :: zo171 P :: zo172 P :: zo173 P :: zo174 P :: zo175 P :: zo176 P :: zo177 P :: zo178 P :: zo179 P :: zo180 P :: zo181 P :: zo182 P :: zo183 P :: zo184 P :: zo185 P :: zo186 P :: zo187 P :: zo188 P :: zo189 P :: zo190 P :: zo191 P :: zo192 P :: zo193 P :: zo194 P :: zo195 P :: zo196 P :: zo197 P :: zo198 P :: zo199 P :: zo200 P :: zo201 P :: zo202 P :: zo203 P :: zo204 P :: [])) (PySem.Life.mk [] [] [] 0 [] [] Bool.false (List.toArray []) [] 0 Bool.false Bool.false Bool.false (0 : Int) [(2000 : Int), (10 : Int), (10 : Int)] Bool.false 0 Bool.true [] [] 0 Bool.false)
noncomputable def zh226 (P : Params) : Heap := Heap.mk (Array.mk (PySem.W.boot_o_0 P :: PySem.W.boot_o_1 P :: PySem.W.boot_o_2 P :: zo205 P :: PySem.W.boot_o_4 P :: PySem.W.boot_o_5 P :: PySem.W.boot_o_6 P :: PySem.W.boot_o_7 P :: PySem.W.boot_o_8 P :: PySem.W.boot_o_9 P :: PySem.W.boot_o_10 P :: zo43 P :: zo206 P :: zo45 P :: zo46 P :: zo51 P :: zo52 P :: zo53 P :: zo54 P :: zo55 P :: zo56 P :: zo57 P :: zo58 P :: zo59 P :: zo60 P :: zo61 P :: zo62 P :: zo63 P :: zo64 P :: zo65 P :: zo66 P :: zo67 P :: zo68 P :: zo69 P :: zo70 P :: zo71 P :: zo72 P :: zo73 P :: zo74 P :: zo75 P :: zo76 P :: zo77 P :: zo78 P :: zo81 P :: zo82 P :: zo83 P :: zo84 P :: zo85 P :: zo86 P :: zo87 P :: zo88 P :: zo89 P :: zo90 P :: zo91 P :: zo92 P :: zo93 P :: zo94 P :: zo95 P :: zo96 P :: zo97 P :: zo98 P :: zo99 P :: zo100 P :: zo101 P :: zo102 P :: zo103 P :: zo104 P :: zo107 P :: zo108 P :: zo109 P :: zo110 P :: zo111 P :: zo112 P :: zo113 P :: zo114 P :: zo115 P :: zo116 P :: zo117 P :: zo118 P :: zo119 P :: zo122 P :: zo123 P :: zo124 P :: zo125 P :: zo126 P :: zo127 P :: zo128 P :: zo129 P :: zo130 P :: zo131 P :: zo132 P :: zo133 P :: zo134 P :: zo135 P :: zo136 P :: zo137 P :: zo138 P :: zo139 P :: zo140 P :: zo141 P :: zo142 P :: zo143 P :: zo144 P :: zo145 P :: zo146 P :: zo147 P :: zo148 P :: zo149 P :: zo150 P :: zo151 P :: zo152 P :: zo153 P :: zo154 P :: zo155 P :: zo156 P :: zo157 P :: zo158 P :: zo159 P :: zo160 P :: zo161 P :: zo162 P :: zo163 P :: zo164 P :: zo165 P :: zo166 P :: zo167 P :: zo168 P :: zo169 P :: zo170 P :: zo171 P :: zo172 P :: zo173 P :: zo174 P :: zo175 P :: zo176 P :: zo177 P :: zo178 P :: zo179 P :: zo180 P :: zo181 P :: zo182 P :: zo183 P :: zo184 P :: zo185 P :: zo186 P :: zo187 P :: zo188 P :: zo189 P :: zo190 P :: zo191 P :: zo192 P :: zo193 P :: zo194 P :: zo195 P :: zo196 P :: zo197 P :: zo198 P :: zo199 P :: zo200 P :: zo201 P :: zo202 P :: zo203 P :: zo204 P :: zo207 P :: zo208 P :: zo209 P :: zo210 P :: zo211 P :: zo212 P :: zo213 P :: zo214 P :: zo215 P :: zo216 P :: zo217 P :: zo218 P :: zo219 P :: zo220 P :: zo221 P :: zo222 P :: zo223 P :: zo224 P :: zo225 P :: zo226 P :: [])) (PySem.Life.mk [] [] [] 0 [] [] Bool.false (List.toArray []) [] 0 Bool.false Bool.false Bool.false (0 : Int) [(2000 : Int), (10 : Int), (10 : Int)] Bool.false 0 Bool.true [] [] 0 Bool.false)
theorem topA (w : World) : (fun os => topGo treeTable pgK w 11 (some (.ref 6)) 12 ⟨boot_heap w.params, #[], boot_drawn, boot_toks, os⟩ (topStub pgK)) = fun os => some (⟨zh46 w.params, #[], ⟨0, 0, 0, 0⟩, 187, os⟩, ⟨denote treeTable codK, codK, ⟨0, 0, 0, 0⟩, frsK⟩) := by kernel_rfl
theorem topB (w : World) : (fun os => segRun treeTable pgK w 11 (some (.ref 6)) 1 1 ⟨zh46 w.params, #[], ⟨0, 0, 0, 0⟩, 187, os⟩ (blockOf (behindTheImports pgK) envK codK ⟨0, 0, 0, 0⟩ frsK)) = fun os => some (Flow.next, ⟨zh47 w.params, #[], ⟨0, 0, 0, 0⟩, 187, os⟩, codK, ⟨0, 0, 0, 0⟩) := by kernel_rfl
theorem segA (w : World) : (fun os => segRun treeTable pgK w 11 (some (.ref 6)) 1 226 ⟨zh47 w.params, #[], ⟨0, 0, 0, 0⟩, 187, os⟩ (piecesOf stsA envK codK ⟨0, 0, 0, 0⟩ frsK)) = fun os => some (Flow.next, ⟨zh78 w.params, #[], ⟨0, 0, 0, 0⟩, 255, os⟩, codK, ⟨51, 0, 51, 10⟩) := by kernel_rfl
theorem segB (w : World) : (fun os => segRun treeTable pgK w 11 (some (.ref 6)) 1 264 ⟨zh78 w.params, #[], ⟨0, 0, 0, 0⟩, 255, os⟩ (piecesOf stsB envK codK ⟨51, 0, 51, 10⟩ frsK)) = fun os => some (Flow.next, ⟨zh104 w.params, #[], ⟨0, 0, 0, 0⟩, 292, os⟩, codK, ⟨52, 0, 58, 28⟩) := by kernel_rfl
theorem segC (w : World) : (fun os => segRun treeTable pgK w 11 (some (.ref 6)) 1 187 ⟨zh104 w.params, #[], ⟨0, 0, 0, 0⟩, 292, os⟩ (piecesOf stsC envK codK ⟨52, 0, 58, 28⟩ frsK)) = fun os => some (Flow.next, ⟨zh119 w.params, #[], ⟨0, 0, 0, 0⟩, 310, os⟩, codK, ⟨59, 0, 60, 8⟩) := by kernel_rfl
theorem segD (w : World) : (fun os => segRun treeTable pgK w 11 (some (.ref 6)) 1 528 ⟨zh119 w.params, #[], ⟨0, 0, 0, 0⟩, 310, os⟩ (piecesOf stsD envK codK ⟨59, 0, 60, 8⟩ frsK)) = fun os => some (Flow.next, ⟨zh204 w.params, #[], ⟨0, 0, 0, 0⟩, 429, os⟩, codK, ⟨61, 0, 166, 16⟩) := by kernel_rfl
theorem segE (w : World) : (fun os => segRun treeTable pgK w 11 (some (.ref 6)) 1 114 ⟨zh204 w.params, #[], ⟨0, 0, 0, 0⟩, 429, os⟩ (piecesOf stsE envK codK ⟨61, 0, 166, 16⟩ frsK)) = fun os => some (Flow.next, ⟨zh226 w.params, #[], ⟨0, 0, 0, 0⟩, 455, os⟩, codK, ⟨200, 0, 215, 94⟩) := by kernel_rfl
theorem topZ (w : World) : (fun os => topRun treeTable pgK w 11 (some (.ref 6)) 2 ⟨zh226 w.params, #[], ⟨0, 0, 0, 0⟩, 455, os⟩ ⟨doneF .next, codK, ⟨200, 0, 215, 94⟩, frsK⟩) = fun os => some ⟨zh227 w.params, #[], ⟨0, 0, 0, 0⟩, 455, os⟩ := by kernel_rfl
theorem body_is : behindTheImports pgK = stsA ++ (stsB ++ (stsC ++ (stsD ++ (stsE ++ [])))) := by kernel_rfl
theorem run_ok (w : World) (os : OsState) : topRun treeTable pgK w 11 (some (.ref 6)) (12 + (1 + (226 + (264 + (187 + (528 + (114 + 2))))))) ⟨boot_heap w.params, #[], boot_drawn, boot_toks, os⟩ (topStub pgK) = some ⟨zh227 w.params, #[], ⟨0, 0, 0, 0⟩, 455, os⟩ := by
  refine go_top (congrFun (topA w) os) (piece_block (congrFun (topB w) os) ?_)
  refine (congrArg (fun b => topRun treeTable pgK w 11 (some (.ref 6)) (226 + (264 + (187 + (528 + (114 + 2))))) ⟨zh47 w.params, #[], ⟨0, 0, 0, 0⟩, 187, os⟩ (restOf b envK codK ⟨0, 0, 0, 0⟩ frsK)) body_is).trans ?_
  exact piece_app (congrFun (segA w) os) (piece_app (congrFun (segB w) os) (piece_app (congrFun (segC w) os) (piece_app (congrFun (segD w) os) (piece_app (congrFun (segE w) os) (piece_nil (congrFun (topZ w) os))))))
theorem open_ok : ∀ w : World, (fencedOpening treeTable pgK w 2754).map (fun s => (s.heap, s.gens, s.drawn, s.toks)) = some (boot_heap w.params, Array.mk [], boot_drawn, boot_toks) := boot_open (by kernel_rfl) (by decide) (fun _ => rfl)
theorem size_ok : ∀ w : World, ((boot_heap w.params).isNs mainGlobals && (#[] : Array GenState).size == 0, (boot_heap w.params).objs.size, (boot_heap w.params).nsMap mainGlobals "__annotations__") = (true, 11, (some (.ref 6))) := fun w => by kernel_rfl
theorem looks_ok : ∀ w : World, (fun os => ((staticsOk (importedModules pgK.main.body) (boot_heap w.params) (zh227 w.params) && namesBound pgK (zh227 w.params) && gensDone ⟨zh227 w.params, #[], ⟨0, 0, 0, 0⟩, 455, os⟩ && laidKept (boot_heap w.params) (zh227 w.params)),
        openSeen viewK looK (importedModules pgK.main.body) (fun s => xlAt viewK lvK s && recOk (RowW.records PySem.Challenge.rw_mj0230_01.row.toRowW) s) true ⟨zh227 w.params, #[], ⟨0, 0, 0, 0⟩, 455, os⟩, (Hook.obs hookK) ⟨zh227 w.params, #[], ⟨0, 0, 0, 0⟩, 455, os⟩)) = fun _ => (true, openGood viewK looK, (Hook.val hookK) w) := fun w => by kernel_rfl
theorem left_ok : LeftO PySem.Challenge.rw_mj0230_01.row.prog viewK looK (fun s => xlAt viewK lvK s && recOk (RowW.records PySem.Challenge.rw_mj0230_01.row.toRowW) s) (Hook.obs hookK) (Hook.val hookK) 2754 :=
  LeftO.of_pieces open_ok size_ok run_ok (by decide) looks_ok
/-- the looks at the law itself, one check each -/
theorem said_ok : OpenLaw.wellSaid PySem.Challenge.rw_mj0230_01 = true := by
  unfold OpenLaw.wellSaid OpenRow.wellSaid
  repeat' with_reducible refine look_both ?_ ?_
  all_goals first | (unfold OpenRow.partSaid; repeat' with_reducible refine look_both ?_ ?_) | skip
  all_goals first | (unfold looksOpen; repeat' with_reducible refine look_both ?_ ?_) | skip
  all_goals decide +kernel
end Mine

namespace Mine
noncomputable abbrev prg : Program := PySem.Challenge.rw_mj0230_01.row.prog
noncomputable abbrev loo : List Str := looseW viewK [Str.ofString "ONE_THIRD", Str.ofString "ONE_SIXTH", Str.ofString "TWO_THIRD", Str.ofString "_NodeInfo"]
theorem fill : (Challenge.rw_mj0230_01 = Challenge.rw_mj0230_01 ∧ heapK = heapK) := by k_fill; exact ⟨rfl, rfl⟩

/-- a room with at most d frames and u units below -/
abbrev lv (d u : Nat) : Around := { handled := none, depth := d, frames := none, guards := some [], units := u }

theorem Below.lv {Γ : Ctx} {A : Around} {d u : Nat} (x : Γ.Below A) (hh : A.handled = none) (hg : A.guards = some []) (hd : A.depth ≤ d) (hu : A.units ≤ u) : Γ.Below (lv d u) := by
  obtain ⟨a, b, c, e, f⟩ := x
  refine ⟨a.trans hh, Nat.le_trans b hd, fun l hl => (by cases hl), fun g hg' => ?_, Nat.le_trans f hu⟩
  exact e g (hg.trans hg')
theorem In.lv {Γ : Ctx} {A : Around} {d u : Nat} (x : Γ.In A) (hh : A.handled = none) (hg : A.guards = some []) (hd : A.depth ≤ d) (hu : A.units ≤ u) : Γ.In (lv d u) := by
  obtain ⟨a, b, c, e, f⟩ := x
  refine ⟨a.trans hh, Nat.le_trans b hd, fun l hl => (by cases hl), fun g hg' => ?_, Nat.le_trans f hu⟩
  exact e g (hg.trans hg')
theorem codeAny_lv {M : Model} {A : Around} {d u : Nat} {c : Code} {R : Result → Shared → Prop} {s : Shared} (h : codeAny M (lv d u) c R s)
    (hh : A.handled = none) (hg : A.guards = some []) (hd : A.depth ≤ d) (hu : A.units ≤ u) : codeAny M A c R s :=
  fun Γ p hc hΓ => h Γ p hc (Below.lv hΓ hh hg hd hu)
theorem wpAny_lv {α : Type} {M : Model} {A : Around} {d u : Nat} {t : Sem α} {Q : α → Shared → Prop} {E : Value → Shared → Prop} {s : Shared} (h : wpAny M (lv d u) t Q E s)
    (hh : A.handled = none) (hg : A.guards = some []) (hd : A.depth ≤ d) (hu : A.units ≤ u) : wpAny M A t Q E s :=
  fun Γ p hΓ => h Γ p (In.lv hΓ hh hg hd hu)

/-- enter a def of the text; its frame's base is the whole heap -/
theorem enter0 {w : World} {A : Around} {s : Shared} {K : Frag} {R : Result → Shared → Prop} {name qual : Str} {params : Arguments} {body : List Stmt} {scope : Scope} {dV kV doc pm cdv ct oc : Value} {an od : Option Addr} {osl : Array (Option Value)} {f : Addr} {args : Args} {binds : List (Str × Value)}
    (X : K.In s.heap) (ho : K.lookup f = some ⟨oc, od, .func (fnOf name qual params body scope dV kV doc pm an cdv ct), osl⟩) (hcd : codeIn K cdv qual = true) (hlim : s.heap.NoLimit) (hroom : A.depth < recursionLimit)
    (hbind : BindsTo s (fnOf name qual params body scope dV kV doc pm an cdv ct) args binds) (hloc : ∀ y ∈ binds, scope.names.lookup y.1 = some .local)
    (h : ∀ L h₁ tk, Fr s.heap L h₁ (fun y => binds.reverse.lookup y) →
      wpAny (model prg w) (A.deeper (envOf qual scope L f cdv)) (execs body (envOf qual scope L f cdv))
        (fun fl s' => R (.ok (.ret (match fl with | .ret v => v | _ => .none))) s') (fun _ _ => False) { s with heap := h₁, toks := tk })
    (hco : scope.isCoroutine = false) (hgen : scope.isGenerator = false) (hk : scope.kind = .function)
    (hcell : ∀ x ∈ scope.names, x.2 ≠ .cell) : codeAny (model prg w) A (.call (.ref f) args) R s := by
  refine codeAny_call_def (fd := fnOf name qual params body scope dV kV doc pm an cdv ct) (body := body) (binds := binds) hroom (X _ _ ho) rfl hlim (codeRec_of X hcd) rfl hbind hcell hloc (fun h₁ hns hk₁ => ?_) hco hgen hk
  exact wpAny_mono (h s.heap.objs.size h₁ _ ⟨hns, hk₁, Nat.le_refl _⟩) (fun _ _ x => x) (fun _ _ x => x.elim)

theorem enterC0 {w : World} {A : Around} {s : Shared} {K : Frag} {R : Result → Shared → Prop} {name qual : Str} {params : Arguments} {body : List Stmt} {scope : Scope} {dV kV doc pm cdv ct oc : Value} {an od : Option Addr} {osl : Array (Option Value)} {f : Addr} {args : Args} {binds : List (Str × Value)}
    (X : K.In s.heap) (ho : K.lookup f = some ⟨oc, od, .func (fnOf name qual params body scope dV kV doc pm an cdv ct), osl⟩) (hcd : codeIn K cdv qual = true) (hlim : s.heap.NoLimit) (hroom : A.depth < recursionLimit)
    (hbind : BindsTo s (fnOf name qual params body scope dV kV doc pm an cdv ct) args binds) (hkind : (binds.all fun y => scope.names.lookup y.1 == some .local || scope.names.lookup y.1 == some .cell) = true)
    (hnd : ((cellsFrom 0 scope.names []).map (·.1)).Nodup)
    (h : ∀ L h₁ tk cells, Fr s.heap L h₁ (bindL (envOfC qual scope L f cdv).kindOf binds fun _ => none) → News s.heap L h₁ cells → CellsAre (bindC (envOfC qual scope L f cdv).kindOf binds fun _ => none) (cellsFrom (L + 1) scope.names []) cells →
      wpAny (model prg w) (A.deeper (envOfC qual scope L f cdv)) (execs body (envOfC qual scope L f cdv))
        (fun fl s' => R (.ok (.ret (match fl with | .ret v => v | _ => .none))) s') (fun _ _ => False) { s with heap := h₁, toks := tk })
    (hco : scope.isCoroutine = false) (hgen : scope.isGenerator = false) (hk : scope.kind = .function) : codeAny (model prg w) A (.call (.ref f) args) R s := by
  refine codeAny_call_function hroom (X _ _ ho) rfl hco hgen rfl (codeRec_of X hcd) (hbind _ _ _ _ ?_)
  refine wpAny_newFunctionEnv_cells hk (kindsX hkind _) fun env' he s' x => ?_
  subst he
  refine ⟨hlim.keeps x.toInCall.keep, codeAny_func ?_⟩
  obtain ⟨h₁, tk, rfl, _⟩ := x.done
  have hk₁ := x.toInCall.keep
  obtain ⟨cells, NC, Y⟩ := Cl.news (h₀ := s.heap) (Nat.le_refl _) fun n c hm => ⟨x.cell n c (lookup_of_mem_nodup (cellsFrom_names scope.names 0 (s.heap.objs.size + 1) [] [] rfl ▸ hnd) hm), x.above n c hm⟩
  exact wpAny_mono (h s.heap.objs.size h₁ tk cells ⟨x.toInCall.ns, hk₁, Nat.le_refl _⟩ NC Y) (fun _ _ x => x) (fun _ _ x => x.elim)

section
variable {M : Model} {A : Around} {E : Value → Shared → Prop} {s : Shared}
/-- the goal's end behind a name: the walk's terms stay small -/
theorem hide_comp {t : Sem Value} {h₀ : Heap} {L : Addr} {m : Str → Option Value} {s₁ : Shared} {I : Addr} {oI : Obj} {C : Addr} {oC : Obj} {D : Addr} {oD : Obj} {S : List (Addr × Obj) → Prop} {rest : Value → List (Addr × Obj) → Prop}
    (h : ∀ Q' : Value → Shared → Prop, (∀ v s, LCg.CompEnd h₀ L m s₁ I oI C oC D oD S rest v s → Q' v s) → wpAny M A t Q' E s) : wpAny M A t (LCg.CompEnd h₀ L m s₁ I oI C oC D oD S rest) E s := h _ fun _ _ x => x
theorem hide_tok {α : Type} {t : Sem α} {Q : α → Shared → Prop} {hp : Heap} {g : Array GenState} {d : Drawn} {tk : Nat} {os : OsState} (h : ∀ n, wpAny M A t Q E ⟨hp, g, d, n, os⟩) : wpAny M A t Q E ⟨hp, g, d, tk + 1 + 1 + 1 + 1, os⟩ := h _
theorem hide_execT {st : Stmt} {env : Env} {Q : Flow → Shared → Prop} {hp : Heap} {g : Array GenState} {d : Drawn} {tk : Nat} {os : OsState} (h : ∀ (Q' : Flow → Shared → Prop) (n : Nat), (∀ v s, Q v s → Q' v s) → wpAny M A (exec st env) Q' E ⟨hp, g, d, n, os⟩) : wpAny M A (exec st env) Q E ⟨hp, g, d, tk + 1, os⟩ := h Q _ fun _ _ x => x
theorem hide_exec {st : Stmt} {env : Env} {Q : Flow → Shared → Prop} (h : ∀ Q' : Flow → Shared → Prop, (∀ v s, Q v s → Q' v s) → wpAny M A (exec st env) Q' E s) : wpAny M A (exec st env) Q E s := h Q fun _ _ x => x
end
section
variable {w : World} {A : Around} {E : Value → Shared → Prop} {s : Shared} {h₀ : Heap} {L : Addr} {m : Str → Option Value} {env : Env}
/-- an item of a list -/
theorem sub_list {value slice : PySem.Expr} {l : Addr} {vs : List Value} {k : Int} {u : Tok} {v : Value} {Q : Value → Shared → Prop}
    (hl : s.heap.IsList l vs.toArray) (h0 : 0 ≤ k) (hhi : k < 2 ^ 63) (hx : vs[k.toNat]? = some v) (h : Q v s)
    (hs : subscripted slice false (.ref l) (.int k u) = operate [.ref l, .int k u] (getItem (.ref l) (.int k u)) := by with_unfolding_all rfl) :
    wpAny (model prg w) A (subscriptTail value slice (.ref l) (.int k u)) Q E s :=
  tail_any hl.typeIs slot_list_getitem.lookup (wpAny_getItem_list hl h0 hhi (by simpa using hx) h) hs

theorem comp_inv {elt : Expr} {x : Str} {scope : Scope} {cl : List (Str × Addr)} {S : List (Addr × Obj) → Prop} {P : Nat → Value → Prop} {Fin : List Value → List (Addr × Obj) → Prop} {n : Nat}
    (J : Nat → List Value → List (Addr × Obj) → Prop)
    (turn : ∀ i ys news v I oI C oC D m₂ h tk (E' : Value → Shared → Prop), i < n → J i ys news → P i v → LCg.NsObj oC m₂ → m₂ x = some v → Fr h₀ L h m → News h₀ L h ((I, oI) :: (C, oC) :: (D, LCg.lst ys) :: news) → LCg.Off3 I C D news → ((@Ne Nat I C) ∧ (@Ne Nat I D) ∧ (@Ne Nat C D)) →
      wpAny (model prg w) A (eval elt (compEnvC scope cl C env)) (LCg.CompEnd h₀ L m { s with heap := h, toks := tk } I oI C oC D (LCg.lst ys) S (fun y news' => J (i + 1) (ys ++ [y]) news')) E' { s with heap := h, toks := tk })
    (fin : ∀ ys news, J n ys news → Fin ys news) :
    ∀ k i ys news, i + k = n → J i ys news → LCg.CompRest prg w A h₀ L m env elt x scope cl s S P Fin k i ys news := by
  intro k
  induction k with
  | zero => intro i ys news hi hJ; obtain rfl : i = n := by lia
            exact LCg.CompRest.zero (fin _ _ hJ)
  | succ k ih =>
    intro i ys news hi hJ
    refine LCg.CompRest.succ fun v I oI C oC D m₂ h tk E' hP hC hx F N off ne => ?_
    refine wpAny_mono (turn i ys news v I oI C oC D m₂ h tk E' (by lia) hJ hP hC hx F N off ne) (fun y s₂ q => ?_) fun _ _ e => e
    obtain ⟨h', tk', news', e, F', N', o', hS, r⟩ := q
    exact ⟨h', tk', news', e, F', N', o', hS, ih (i + 1) _ _ (by lia) r⟩
end

/-- enter a def that may change the caller's own objects: these (news) are hidden from the new base -/
theorem enterN {w : World} {A : Around} {s : Shared} {K : Frag} {R : Result → Shared → Prop} {name qual : Str} {params : Arguments} {body : List Stmt} {scope : Scope} {dV kV doc pm cdv ct oc : Value} {an od : Option Addr} {osl : Array (Option Value)} {f : Addr} {args : Args} {binds : List (Str × Value)}
    {h₀ : Heap} {L : Addr} {m mg mb : Str → Option Value} {news : List (Addr × Obj)} {mean : ExcName → Option Value} {p : Program} {loose : List Str}
    (F : Fr h₀ L s.heap m) (N : News h₀ L s.heap news) (X₀ : K.In h₀) (T : Top p loose mean mg mb h₀)
    (ho : K.lookup f = some ⟨oc, od, .func (fnOf name qual params body scope dV kV doc pm an cdv ct), osl⟩) (hcd : codeIn K cdv qual = true) (hroom : A.depth < recursionLimit)
    (hbind : BindsTo s (fnOf name qual params body scope dV kV doc pm an cdv ct) args binds) (hloc : ∀ y ∈ binds, scope.names.lookup y.1 = some .local)
    (h : ∀ g L' h₁ tk, Fr h₀ L g m → Fr g L' h₁ (fun y => binds.reverse.lookup y) → News g L' h₁ news → K.In g → Top p loose mean mg mb g → (∀ b o, s.heap.get? b = some o → b ∉ news.map (·.1) → g.get? b = some o) → (∀ p ∈ news, p.1 < L') →
      wpAny (model prg w) (A.deeper (envOf qual scope L' f cdv)) (execs body (envOf qual scope L' f cdv))
        (fun fl s' => LeaveK h₀ L m g R (match fl with | .ret v => v | _ => .none) s') (fun _ _ => False) { s with heap := h₁, toks := tk })
    (hco : scope.isCoroutine = false) (hgen : scope.isGenerator = false) (hk : scope.kind = .function)
    (hcell : ∀ x ∈ scope.names, x.2 ≠ .cell) : codeAny (model prg w) A (.call (.ref f) args) R s := by
  have X := X₀.keeps F.keep
  refine codeAny_call_def (fd := fnOf name qual params body scope dV kV doc pm an cdv ct) (body := body) (binds := binds) hroom (X _ _ ho) rfl (T.nolimit.keeps F.keep) (codeRec_of X hcd) rfl hbind hcell hloc (fun h₁ hns hk₁ => ?_) hco hgen hk
  have nm : ∀ b o, h₀.get? b = some o → b ∉ news.map (·.1) := fun b o e q => by
    obtain ⟨p, hp, rfl⟩ := List.mem_map.mp q
    rw [(N p hp).2.2] at e; cases e
  have st : h₀.StaysIn (hideAll s.heap (news.map (·.1))) := fun b o e => hideAll_get _ (F.keep b o e) (nm b o e)
  obtain ⟨oL, es, ep, hL, hLd, hLk, hLf⟩ := F.ns
  have nL : L ∉ news.map (·.1) := fun q => by
    obtain ⟨p, hp, e⟩ := List.mem_map.mp q
    exact (N p hp).2.1 e
  have hLg := hideAll_get (news.map (·.1)) hL nL
  refine wpAny_mono (h _ s.heap.objs.size h₁ _ ⟨⟨oL, es, ep, hLg, hLd, hLk, hLf⟩, st, F.above⟩ ⟨hns, fun b o e => hk₁ b o (of_hideAll _ e), Nat.le_of_eq (hideAll_size _ _)⟩
    (fun p hp => ⟨hk₁ _ _ (N p hp).1, Nat.ne_of_lt (Heap.lt_size (N p hp).1), hideAll_none _ (List.mem_map_of_mem hp)⟩) (X₀.keeps st) (T.keeps st) (fun b o e hb => hideAll_get _ e hb) (fun p hp => Heap.lt_size (N p hp).1)) (fun fl s' hl => ?_) fun _ _ y => y.elim
  obtain ⟨L', m', news', F', N', k⟩ := hl
  refine k ⟨⟨oL, es, ep, F'.keep L oL hLg, hLd, hLk, hLf⟩, fun b o e => F'.keep b o (st b o e), F.above⟩ fun p hp => ⟨(N' p hp).1, fun q => ?_, ?_⟩
  · have := (N' p hp).2.2; rw [q, hLg] at this; cases this
  · cases q : h₀.get? p.1 with
    | none => rfl
    | some o => have := (N' p hp).2.2; rw [st _ _ q] at this; cases this

theorem allLt_lt {d : Nat} {l : List (Addr × Obj)} (h : AllLt d l) : ∀ p ∈ l, p.1 < d := by
  induction l with
  | nil => intro p hp; cases hp
  | cons q r ih =>
    intro p hp
    rcases List.mem_cons.mp hp with e | hp
    · rw [e]; exact h.1
    · exact ih h.2 p hp
theorem allLt_ne {d : Nat} {l : List (Addr × Obj)} (h : AllLt d l) : ∀ p ∈ l, p.1 ≠ d := fun p hp => Nat.ne_of_lt (allLt_lt h p hp)
end Mine

namespace Mine

/-- a new frame whose caller's objects (news) are hidden from the new base -/
theorem frameN {w : World} {A : Around} {s : Shared} {K : Frag} {R : Result → Shared → Prop} {E : Value → Shared → Prop} {qual : Str} {body : List Stmt} {scope : Scope} {cdv : Value} {f : Addr} {binds : List (Str × Value)}
    {h₀ : Heap} {L : Addr} {m mg mb : Str → Option Value} {news : List (Addr × Obj)} {mean : ExcName → Option Value} {p : Program} {loose : List Str}
    (F : Fr h₀ L s.heap m) (N : News h₀ L s.heap news) (X₀ : K.In h₀) (T : Top p loose mean mg mb h₀)
    (hloc : ∀ y ∈ binds, scope.names.lookup y.1 = some .local)
    (h : ∀ g L' h₁ tk, Fr h₀ L g m → Fr g L' h₁ (fun y => binds.reverse.lookup y) → News g L' h₁ news → K.In g → Top p loose mean mg mb g → (∀ b o, s.heap.get? b = some o → b ∉ news.map (·.1) → g.get? b = some o) → (∀ p ∈ news, p.1 < L') →
      wpAny (model prg w) (A.deeper (envOf qual scope L' f cdv)) (execs body (envOf qual scope L' f cdv))
        (fun fl s' => LeaveK h₀ L m g R (match fl with | .ret v => v | _ => .none) s') (fun _ _ => False) { s with heap := h₁, toks := tk })
    (hk : scope.kind = .function)
    (hcell : ∀ x ∈ scope.names, x.2 ≠ .cell) :
    wpAny (model prg w) A.in1 (newFunctionEnv scope mainGlobals [] binds (qual ++ ".<locals>.") (some f) cdv none builtinsNs) (fun env' s₂ => s₂.heap.NoLimit ∧ codeAny (model prg w) A (.func body env') R s₂) E s := by
  refine wpAny_newFunctionEnv hcell hloc (fun h₁ hns hsb => ⟨(T.nolimit.keeps F.keep).fresh _ hsb, codeAny_func ?_⟩) hk
  have hk₁ : ∀ b o, s.heap.get? b = some o → h₁.get? b = some o := fun b o e => hsb.extBut b o (Nat.ne_of_lt (Heap.lt_size e)) (Heap.get?_push_of_some _ e)
  have nm : ∀ b o, h₀.get? b = some o → b ∉ news.map (·.1) := fun b o e q => by
    obtain ⟨p, hp, rfl⟩ := List.mem_map.mp q
    rw [(N p hp).2.2] at e; cases e
  have st : h₀.StaysIn (hideAll s.heap (news.map (·.1))) := fun b o e => hideAll_get _ (F.keep b o e) (nm b o e)
  obtain ⟨oL, es, ep, hL, hLd, hLk, hLf⟩ := F.ns
  have nL : L ∉ news.map (·.1) := fun q => by
    obtain ⟨p, hp, e⟩ := List.mem_map.mp q
    exact (N p hp).2.1 e
  have hLg := hideAll_get (news.map (·.1)) hL nL
  refine wpAny_mono (h _ s.heap.objs.size h₁ _ ⟨⟨oL, es, ep, hLg, hLd, hLk, hLf⟩, st, F.above⟩ ⟨hns, fun b o e => hk₁ b o (of_hideAll _ e), Nat.le_of_eq (hideAll_size _ _)⟩
    (fun p hp => ⟨hk₁ _ _ (N p hp).1, Nat.ne_of_lt (Heap.lt_size (N p hp).1), hideAll_none _ (List.mem_map_of_mem hp)⟩) (X₀.keeps st) (T.keeps st) (fun b o e hb => hideAll_get _ e hb) (fun p hp => Heap.lt_size (N p hp).1)) (fun fl s' hl => ?_) fun _ _ y => y.elim
  obtain ⟨L', m', news', F', N', k⟩ := hl
  refine k ⟨⟨oL, es, ep, F'.keep L oL hLg, hLd, hLk, hLf⟩, fun b o e => F'.keep b o (st b o e), F.above⟩ fun p hp => ⟨(N' p hp).1, fun q => ?_, ?_⟩
  · have := (N' p hp).2.2; rw [q, hLg] at this; cases this
  · cases q : h₀.get? p.1 with
    | none => rfl
    | some o => have := (N' p hp).2.2; rw [st _ _ q] at this; cases this

/-- enter a def with a star parameter -/
theorem enterR {w : World} {A : Around} {s : Shared} {K : Frag} {R : Result → Shared → Prop} {name qual : Str} {params : Arguments} {body : List Stmt} {scope : Scope} {dV kV doc pm cdv ct oc : Value} {an od : Option Addr} {osl : Array (Option Value)} {f : Addr} {args : Args}
    {h₀ : Heap} {L : Addr} {m mg mb : Str → Option Value} {news : List (Addr × Obj)} {mean : ExcName → Option Value} {p : Program} {loose : List Str} {vs : List Value} {g₁ : Addr → Option (List (Str × Value))} {binds : Addr → List (Str × Value)}
    (F : Fr h₀ L s.heap m) (N : News h₀ L s.heap news) (X₀ : K.In h₀) (T : Top p loose mean mg mb h₀)
    (ho : K.lookup f = some ⟨oc, od, .func (fnOf name qual params body scope dV kV doc pm an cdv ct), osl⟩) (hcd : codeIn K cdv qual = true) (hroom : A.depth < recursionLimit)
    (hp : peek1 K ⟨prg, w.params⟩ (bindArgs (fnOf name qual params body scope dV kV doc pm an cdv ct) args) = some (({ cls := .type "tuple", data := .seq vs.toArray } : Obj), g₁))
    (hg : ∀ D, g₁ D = some (binds D)) (hloc : ∀ D, ∀ y ∈ binds D, scope.names.lookup y.1 = some .local)
    (h : ∀ D g L' h₁ tk, (∀ p ∈ news, p.1 < D) → Fr h₀ L g m → Fr g L' h₁ (fun y => (binds D).reverse.lookup y) → News g L' h₁ ((D, ({ cls := .type "tuple", data := .seq vs.toArray } : Obj)) :: news) → K.In g → Top p loose mean mg mb g → (∀ p ∈ news, p.1 < L') → D < L' →
      wpAny (model prg w) (A.deeper (envOf qual scope L' f cdv)) (execs body (envOf qual scope L' f cdv))
        (fun fl s' => LeaveK h₀ L m g R (match fl with | .ret v => v | _ => .none) s') (fun _ _ => False) { s with heap := h₁, toks := tk })
    (hco : scope.isCoroutine = false) (hgen : scope.isGenerator = false) (hk : scope.kind = .function)
    (hcell : ∀ x ∈ scope.names, x.2 ≠ .cell) : codeAny (model prg w) A (.call (.ref f) args) R s := by
  refine codeAny_call_function (fd := fnOf name qual params body scope dV kV doc pm an cdv ct) (body := body) hroom ((X₀.keeps F.keep) _ _ ho) rfl hco hgen rfl (codeRec_of (X₀.keeps F.keep) hcd) ?_
  refine wp_of_peek1 (o := ({ cls := .type "tuple", data := .seq vs.toArray } : Obj)) F N (X₀.keeps F.keep) rfl (r := binds) (fun D h' F' N' l => ?_) _ g₁ hp hg
  exact frameN (s := { s with heap := h' }) F' N' X₀ T (hloc D) (fun g L' h₁ tk FG F₁ N₁ X' T' _ hlt => h D g L' h₁ tk l FG F₁ N₁ X' T' (fun p hp => hlt p (.tail _ hp)) (hlt _ (.head _))) hk hcell

/-- the maps agree off the loop's own names -/
noncomputable def MapOff (vars : List Str) (m₀ m : Str → Option Value) : Prop := ∀ z, vars.contains z = false → m z = m₀ z
theorem MapOff.fr {vars : List Str} {m₀ m : Str → Option Value} {h₀ h : Heap} {L : Addr} (o : MapOff vars m₀ m) (F : Fr h₀ L h m) : Fr h₀ L h (fun z => if vars.contains z then m z else m₀ z) := by
  have e : m = fun z => if vars.contains z then m z else m₀ z := by
    funext z
    cases hz : vars.contains z with
    | true => simp
    | false => simp [o z hz]
  rw [e] at F; exact F
theorem MapOff.frx {vars : List Str} {m₀ m : Str → Option Value} {h₀ h : Heap} {L : Addr} {x : Str} {v : Value} (o : MapOff vars m₀ m) (F : Fr h₀ L h (fun y => if y = x then some v else m y)) :
    Fr h₀ L h (fun z => if z = x then some v else if vars.contains z then m z else m₀ z) := by
  have e : (fun y => if y = x then some v else m y) = fun z => if z = x then some v else if vars.contains z then m z else m₀ z := by
    funext z
    cases hz : vars.contains z with
    | true => simp
    | false => simp [o z hz]
  rw [e] at F; exact F
theorem MapOff.base {vars : List Str} {m₀ u : Str → Option Value} : MapOff vars m₀ (fun z => if vars.contains z then u z else m₀ z) := fun z hz => by simp only [hz, Bool.false_eq_true, if_false]
theorem MapOff.refl {vars : List Str} {m₀ : Str → Option Value} : MapOff vars m₀ m₀ := fun _ _ => rfl
theorem MapOff.put {vars : List Str} {m₀ m : Str → Option Value} {a : Str} {x : Option Value} (ha : vars.contains a = true) (h : MapOff vars m₀ m) : MapOff vars m₀ (fun z => if z = a then x else m z) := fun z hz => by
  have : z ≠ a := by rintro rfl; rw [ha] at hz; cases hz
  simp only [this, if_false]
  exact h z hz
theorem MapOff.inner {vars vs : List Str} {m₀ m u : Str → Option Value} (ha : vs.all vars.contains = true) (h : MapOff vars m₀ m) : MapOff vars m₀ (fun z => if vs.contains z then u z else m z) := fun z hz => by
  have : vs.contains z = false := by
    cases e : vs.contains z with
    | false => rfl
    | true =>
      have := List.all_eq_true.mp ha z (by simpa using e)
      rw [this] at hz; cases hz
  simp only [this, Bool.false_eq_true, if_false]
  exact h z hz
/-- what a turn of a loop leaves -/
noncomputable def LEnd (h₀ : Heap) (L : Addr) (vars : List Str) (m₀ : Str → Option Value) (J : (Str → Option Value) → List (Addr × Obj) → Prop) (I : Addr) (oI : Obj) (s₁ s₂ : Shared) : Prop :=
  ∃ h' tk m' news' nx, s₂ = { s₁ with heap := h', toks := tk } ∧ Fr h₀ L h' m' ∧ News h₀ L h' news' ∧ MapOff vars m₀ m' ∧ (∀ p ∈ nx, p ∈ news') ∧ (I, oI) ∈ news' ∧ (∀ p ∈ nx, p.1 ≠ I) ∧ J m' nx
noncomputable def LPost (h₀ : Heap) (L : Addr) (vars : List Str) (m₀ : Str → Option Value) (J : (Str → Option Value) → List (Addr × Obj) → Prop) (I : Addr) (oI : Obj) (s₁ : Shared) (Q : Flow → Shared → Prop) (f : Flow) (s₂ : Shared) : Prop :=
  match f with
  | .ret v => Q (.ret v) s₂
  | .brk => Q .next s₂
  | _ => LEnd h₀ L vars m₀ J I oI s₁ s₂
theorem LEnd.intro {h₀ : Heap} {L : Addr} {vars : List Str} {m₀ : Str → Option Value} {J : (Str → Option Value) → List (Addr × Obj) → Prop} {I : Addr} {oI : Obj} {s₁ : Shared} {h' : Heap} {tk : Nat} {m' : Str → Option Value} {news' : List (Addr × Obj)} (nx : List (Addr × Obj))
    (F : Fr h₀ L h' m') (N : News h₀ L h' news') (hv : MapOff vars m₀ m') (hm : ∀ p ∈ nx, p ∈ news') (hI : (I, oI) ∈ news') (off : ∀ p ∈ nx, p.1 ≠ I) (hJ : J m' nx) : LEnd h₀ L vars m₀ J I oI s₁ { s₁ with heap := h', toks := tk } :=
  ⟨h', tk, m', news', nx, rfl, F, N, hv, hm, hI, off, hJ⟩

theorem hide_loop {M : Model} {A : Around} {E : Value → Shared → Prop} {s : Shared} {t : Sem Flow} {h₀ : Heap} {L : Addr} {vars : List Str} {m₀ : Str → Option Value} {J : (Str → Option Value) → List (Addr × Obj) → Prop} {I : Addr} {oI : Obj} {s₁ : Shared} {Q : Flow → Shared → Prop}
    (h : ∀ Q' : Flow → Shared → Prop, (∀ v s, LPost h₀ L vars m₀ J I oI s₁ Q v s → Q' v s) → wpAny M A t Q' E s) : wpAny M A t (LPost h₀ L vars m₀ J I oI s₁ Q) E s := h _ fun _ _ x => x
section
variable {prog : Program} {w : World} {A : Around} {E : Value → Shared → Prop} {s : Shared} {env : Env} {h₀ : Heap} {x : Str} {body : List Stmt} {Q : Flow → Shared → Prop}
theorem loop_core {I : Addr} {fp : List Addr} {n : Nat} {P : Nat → Value → Prop} {St : Nat → Heap → Prop} {m₀ : Str → Option Value} {news : List (Addr × Obj)} (vars : List Str) (J : Nat → (Str → Option Value) → List (Addr × Obj) → Prop) (K : List (Addr × Obj))
    (W : Walks prog w A I fp [I] n P St) (hK : ∀ b ∈ fp, b = I ∨ ∃ o, (b, o) ∈ K) (hJK : ∀ i m nx, J i m nx → ∀ p ∈ K, p ∈ nx ∨ h₀.get? p.1 = some p.2) (hob : ∀ i h, St i h → ∃ o, h.get? I = some o) (hLf : env.locals ∉ fp) (hI₀ : h₀.get? I = none)
    (hnw : ∀ p ∈ news, p.1 ≠ I) (hst : St 0 s.heap) (F : Fr h₀ env.locals s.heap m₀) (N : News h₀ env.locals s.heap news) (hj : J 0 m₀ news)
    (turn : ∀ i v m₁ nx h tk oI, i < n → P i v → (∀ p ∈ nx, p.1 ≠ I) → J i m₁ nx → Fr h₀ env.locals h (fun z => if z = x then some v else if vars.contains z then m₁ z else m₀ z) → News h₀ env.locals h ((I, oI) :: nx) →
      wpAny (model prog w) A (execs body env) (LPost h₀ env.locals vars m₀ (J (i + 1)) I oI { s with heap := h, toks := tk } Q) E { s with heap := h, toks := tk })
    (done : ∀ m₁ nx h tk, J n m₁ nx → Fr h₀ env.locals h (fun z => if vars.contains z then m₁ z else m₀ z) → News h₀ env.locals h nx → Q .next { s with heap := h, toks := tk }) :
    LoopAtV prog w A h₀ env x body Q E (.ref I) s := by
  have hIfp : I ∈ fp := W.sub I (by simp)
  refine ⟨I, fp, [I], n, P, St, m₀, news, fun i m nx => MapOff vars m₀ m ∧ J i m nx, rfl, W, hLf, fun b hb => (List.mem_singleton.mp hb) ▸ hI₀, fun p hp h => hnw p hp (List.mem_singleton.mp h), hst, F, N, ⟨fun _ _ => rfl, hj⟩, ?_, ?_⟩
  · rintro i v m₁ news₁ s₁ own ⟨hh', tk', rfl⟩ hin hP ⟨hmo, hJ⟩ hoff hown hownH hmem hst' F₁ N₁
    obtain ⟨oI, heI⟩ := hob _ _ hst'
    have hIo : (I, oI) ∈ own := hmem I hIfp hI₀ oI heI
    have N₂ : News h₀ env.locals hh' ((I, oI) :: news₁) := fun p hp => by
      rcases List.mem_cons.mp hp with rfl | hp
      · exact N₁ _ (List.mem_append_left _ hIo)
      · exact N₁ _ (List.mem_append_right _ hp)
    refine wpAny_mono (turn i v m₁ news₁ hh' tk' oI hin hP (fun p hp e => hoff p hp (by simp [e])) hJ (hmo.frx F₁) N₂) (fun f s₂ p => ?_) fun _ _ e => e
    have fin : LEnd h₀ env.locals vars m₀ (J (i + 1)) I oI { s with heap := hh', toks := tk' } s₂ → LoopStepU h₀ env.locals [I] own (fun m nx => MapOff vars m₀ m ∧ J (i + 1) m nx) { s with heap := hh', toks := tk' } .next s₂ := by
      rintro ⟨h', tk, m', news', nx, e, F', N', hv', hn, ho, ha, hm⟩
      refine ⟨rfl, h', tk, m', nx, e, F', fun p hp => ?_, fun p hp hq => ha p hp (List.mem_singleton.mp hq), hv', hm⟩
      rcases List.mem_append.mp hp with hp | hp
      · obtain ⟨b, o⟩ := p
        have e1 : hh'.get? b = some o := hownH _ hp
        rcases hK b (hown _ hp) with rfl | ⟨o', ho'⟩
        · have : oI = o := Option.some.inj (heI.symm.trans e1)
          subst this
          exact N' _ ho
        · rcases hJK _ _ _ hJ _ ho' with q | q
          · have : o' = o := Option.some.inj ((N₁ _ (List.mem_append_right _ q)).1.symm.trans e1)
            subst this
            rcases hJK _ _ _ hm _ ho' with q' | q'
            · exact N' _ (hn _ q')
            · rw [(N₁ _ (List.mem_append_left _ hp)).2.2] at q'; cases q'
          · rw [(N₁ _ (List.mem_append_left _ hp)).2.2] at q; cases q
      · exact N' _ (hn _ hp)
    cases f with
    | ret v => exact .ret p
    | brk => exact .brk p
    | next => exact .next (fin p)
    | cont => exact .cont (fin p)
  · rintro h' tk m' news' F' N' _ hJ
    exact done m' news' h' tk hJ.2 (hJ.1.fr F') N'

theorem append_F {D L : Addr} {vs : List Value} {n : Nat} {y : Value} {Q : Value → Shared → Prop} {m : Str → Option Value} {news : List (Addr × Obj)} {g : Obj → List (Addr × Obj)} (F : Fr h₀ L s.heap m) (N : News h₀ L s.heap news) (U : UpdF D (W.listOf vs.toArray n) news g) (hsz : vs.length ≤ 1000)
    (h : ∀ h', Fr h₀ L h' m → News h₀ L h' (g (W.listOf (vs ++ [y]).toArray (n + 1))) → Q .none { s with heap := h' }) :
    wpAny (model prog w) A (call (.builtin "list.append") [.ref D, y]) Q E s := by
  obtain ⟨pre, post, rfl, hg, a, b⟩ := U.split
  have hm := N _ (List.mem_append_right _ (.head _))
  refine append_at (hsz := by rw [List.size_toArray, sizeLine_eq]; lia) hm.1 fun h' hs ho' => ?_
  refine h h' (F.change hs hm.2.1 hm.2.2) (hg _ ▸ N.setIn a b hs ?_)
  rw [ho']
  simp [W.listOf]

/-- a loop over a list -/
theorem loopL {l : Addr} {ol : Obj} {vs : List Value} {e : Nat} {m₀ : Str → Option Value} {news : List (Addr × Obj)} (vars : List Str) (J : Nat → (Str → Option Value) → List (Addr × Obj) → Prop)
    (hh : A.handled = none) (F : Fr h₀ env.locals s.heap m₀) (N : News h₀ env.locals s.heap news) (hc : ol.cls = .type "list") (hd : ol.data = .seq vs.toArray e)
    (hL : l ≠ env.locals) (hJK : ∀ i m nx, J i m nx → (l, ol) ∈ nx ∨ h₀.get? l = some ol) (hj : J 0 m₀ news)
    (turn : ∀ (i : Nat) v m₁ nx h tk I oI, vs[i]? = some v → s.heap.objs.size = I → (∀ p ∈ nx, p.1 ≠ I) → J i m₁ nx → Fr h₀ env.locals h (fun z => if z = x then some v else if vars.contains z then m₁ z else m₀ z) → News h₀ env.locals h ((I, oI) :: nx) →
      wpAny (model prog w) A (execs body env) (LPost h₀ env.locals vars m₀ (J (i + 1)) I oI { s with heap := h, toks := tk } Q) E { s with heap := h, toks := tk })
    (done : ∀ m₁ nx h tk, J vs.length m₁ nx → Fr h₀ env.locals h (fun z => if vars.contains z then m₁ z else m₀ z) → News h₀ env.locals h nx → Q .next { s with heap := h, toks := tk }) :
    wpAny (model prog w) A (pyIter (.ref l)) (fun it s₂ => LoopAtV prog w A h₀ env x body Q E it s₂) E s := by
  have hls : s.heap.IsList l vs.toArray := ⟨ol, (hJK _ _ _ hj).elim (fun h => (N _ h).1) (fun h => F.keep _ _ h), hc, e, hd⟩
  have hlt : l < s.heap.objs.size := by obtain ⟨o, ho, _⟩ := hls; exact Heap.lt_size ho
  have hne : l ≠ s.heap.objs.size := Nat.ne_of_lt hlt
  refine wpAny_pyIter_list hls ?_
  have W := Walks.list (prog := prog) (w := w) hh s.heap.objs.size l hne vs.toArray
  have hlen : vs.toArray.size = vs.length := by simp
  rw [hlen] at W
  refine loop_core vars J [(l, ol)] W (fun b hb => ?_) (fun i m nx hJ p hp => by rw [List.mem_singleton.mp hp]; exact hJK i m nx hJ) (fun i h st => ?_) ?_ (next_is_new F) (fun p hp => Nat.ne_of_lt (Heap.lt_size (N p hp).1))
    ⟨⟨_, Heap.get?_push_size _ rfl, rfl, rfl⟩, hls.at fun o e => Heap.get?_push_of_some _ e⟩ (F.push _) (fun p hp => ⟨Heap.get?_push_of_some _ (N p hp).1, (N p hp).2⟩) hj ?_ done
  · have : b = s.heap.objs.size ∨ b = l := by simpa using hb
    exact this.imp id fun h => ⟨ol, by simp [h]⟩
  · obtain ⟨⟨o, ho, _⟩, _⟩ := st
    exact ⟨o, ho⟩
  · intro hm
    have : env.locals = s.heap.objs.size ∨ env.locals = l := by simpa using hm
    rcases this with e | e
    · exact absurd F.ns.lt (e ▸ Nat.lt_irrefl _)
    · exact hL e.symm
  · intro i v m₁ nx h tk oI hi hP off hJ F₁ N₁
    exact turn i v m₁ nx h tk _ oI (by simpa using hP) rfl off hJ F₁ N₁

/-- a loop over a tuple -/
theorem loopT {l : Addr} {ol : Obj} {vs : List Value} {e : Nat} {m₀ : Str → Option Value} {news : List (Addr × Obj)} (vars : List Str) (J : Nat → (Str → Option Value) → List (Addr × Obj) → Prop)
    (hh : A.handled = none) (F : Fr h₀ env.locals s.heap m₀) (N : News h₀ env.locals s.heap news) (hc : ol.cls = .type "tuple") (hd : ol.data = .seq vs.toArray e)
    (hL : l ≠ env.locals) (hJK : ∀ i m nx, J i m nx → (l, ol) ∈ nx ∨ h₀.get? l = some ol) (hj : J 0 m₀ news)
    (turn : ∀ (i : Nat) v m₁ nx h tk I oI, vs[i]? = some v → s.heap.objs.size = I → (∀ p ∈ nx, p.1 ≠ I) → J i m₁ nx → Fr h₀ env.locals h (fun z => if z = x then some v else if vars.contains z then m₁ z else m₀ z) → News h₀ env.locals h ((I, oI) :: nx) →
      wpAny (model prog w) A (execs body env) (LPost h₀ env.locals vars m₀ (J (i + 1)) I oI { s with heap := h, toks := tk } Q) E { s with heap := h, toks := tk })
    (done : ∀ m₁ nx h tk, J vs.length m₁ nx → Fr h₀ env.locals h (fun z => if vars.contains z then m₁ z else m₀ z) → News h₀ env.locals h nx → Q .next { s with heap := h, toks := tk }) :
    wpAny (model prog w) A (pyIter (.ref l)) (fun it s₂ => LoopAtV prog w A h₀ env x body Q E it s₂) E s := by
  have hls : s.heap.IsTuple l vs.toArray := ⟨ol, (hJK _ _ _ hj).elim (fun h => (N _ h).1) (fun h => F.keep _ _ h), hc, e, hd⟩
  have hlt : l < s.heap.objs.size := by obtain ⟨o, ho, _⟩ := hls; exact Heap.lt_size ho
  have hne : l ≠ s.heap.objs.size := Nat.ne_of_lt hlt
  refine wpAny_pyIter_tuple hls ?_
  have W := Walks.tuple (prog := prog) (w := w) hh s.heap.objs.size l hne vs.toArray
  have hlen : vs.toArray.size = vs.length := by simp
  rw [hlen] at W
  refine loop_core vars J [(l, ol)] W (fun b hb => ?_) (fun i m nx hJ p hp => by rw [List.mem_singleton.mp hp]; exact hJK i m nx hJ) (fun i h st => ?_) ?_ (next_is_new F) (fun p hp => Nat.ne_of_lt (Heap.lt_size (N p hp).1))
    ⟨⟨_, Heap.get?_push_size _ rfl, rfl, rfl⟩, hls.at fun o e => Heap.get?_push_of_some _ e⟩ (F.push _) (fun p hp => ⟨Heap.get?_push_of_some _ (N p hp).1, (N p hp).2⟩) hj ?_ done
  · have : b = s.heap.objs.size ∨ b = l := by simpa using hb
    exact this.imp id fun h => ⟨ol, by simp [h]⟩
  · obtain ⟨⟨o, ho, _⟩, _⟩ := st
    exact ⟨o, ho⟩
  · intro hm
    have : env.locals = s.heap.objs.size ∨ env.locals = l := by simpa using hm
    rcases this with e | e
    · exact absurd F.ns.lt (e ▸ Nat.lt_irrefl _)
    · exact hL e.symm
  · intro i v m₁ nx h tk oI hi hP off hJ F₁ N₁
    exact turn i v m₁ nx h tk _ oI (by simpa using hP) rfl off hJ F₁ N₁

/-- a loop over range(n) -/
theorem loopR {r : Addr} {a₀ b₀ : Int} {t₀ u₀ v₀ : Tok} {n : Nat} {m₀ : Str → Option Value} {news : List (Addr × Obj)} (vars : List Str) (J : Nat → (Str → Option Value) → List (Addr × Obj) → Prop)
    (hh : A.handled = none) (hr : IsRange s.heap r a₀ b₀ 1 t₀ u₀ v₀) (hsmall : Builtin.Range.small a₀ b₀ 1 = true) (hn : Builtin.Range.rangeSize a₀ b₀ 1 = (n : Int)) (F : Fr h₀ env.locals s.heap m₀) (N : News h₀ env.locals s.heap news) (hj : J 0 m₀ news)
    (turn : ∀ (i : Nat) t m₁ nx h tk I oI, i < n → s.heap.objs.size = I → (∀ p ∈ nx, p.1 ≠ I) → J i m₁ nx → Fr h₀ env.locals h (fun z => if z = x then some (.int (a₀ + (i : Int)) t) else if vars.contains z then m₁ z else m₀ z) → News h₀ env.locals h ((I, oI) :: nx) →
      wpAny (model prog w) A (execs body env) (LPost h₀ env.locals vars m₀ (J (i + 1)) I oI { s with heap := h, toks := tk } Q) E { s with heap := h, toks := tk })
    (done : ∀ m₁ nx h tk, J n m₁ nx → Fr h₀ env.locals h (fun z => if vars.contains z then m₁ z else m₀ z) → News h₀ env.locals h nx → Q .next { s with heap := h, toks := tk }) :
    wpAny (model prog w) A (pyIter (.ref r)) (fun it s₂ => LoopAtV prog w A h₀ env x body Q E it s₂) E s := by
  refine wpAny_pyIter_range hr hsmall ?_
  have W : Walks prog w A s.heap.objs.size [s.heap.objs.size] [s.heap.objs.size] n (fun i v => i < n ∧ ∃ t, v = .int (a₀ + i * 1) t)
      (fun i h => IsRangeIter h s.heap.objs.size (a₀ + (i : Nat) * 1) ((n : Int) - (i : Nat)) 1) := (Walks.range hh _ a₀ 1 n).bound
  refine loop_core vars J [] W (fun b hb => .inl (by simpa using hb)) (fun i m nx hJ p hp => by cases hp) (fun i h st => ⟨_, st⟩) ?_ (next_is_new F) (fun p hp => Nat.ne_of_lt (Heap.lt_size (N p hp).1))
    (by show IsRangeIter _ _ _ _ _; rw [hn]; simpa using Heap.get?_push_size _ rfl) (F.push _) (fun p hp => ⟨Heap.get?_push_of_some _ (N p hp).1, (N p hp).2⟩) hj ?_ done
  · intro hm
    exact absurd F.ns.lt ((List.mem_singleton.mp hm) ▸ Nat.lt_irrefl _)
  · rintro i v m₁ nx h tk oI hi ⟨_, t, rfl⟩ off hJ F₁ N₁
    have e1 : a₀ + (i : Int) * 1 = a₀ + (i : Int) := by lia
    rw [e1] at F₁
    exact turn i t m₁ nx h tk _ oI hi rfl off hJ F₁ N₁
end
end Mine

local macro_rules | `(tactic| k_ne) => `(tactic| (refine neN ?_; (try dsimp only); first | (with_reducible refine Nat.ne_of_gt ?_; with_reducible assumption) | (with_reducible refine Nat.ne_of_lt ?_; with_reducible assumption) | lia))
local macro_rules | `(tactic| k_all) => `(tactic| assumption)
local macro_rules | `(tactic| k_all) => `(tactic| exact Mine.allLt_ne (by assumption))

namespace Mine
abbrev nodeObj (d : Addr) (i : Int) (ti : Tok) (np : Int) (tn : Tok) (l : Addr) : Obj := { cls := .ref 61, dict := some d, slots := #[some (.int i ti), some (.int np tn), some (.ref l)] }
section
variable {w : World} {h₀ : Heap} {L : Addr} {m mg mb : Str → Option Value} {news : List (Addr × Obj)} {s : Shared} {mean : ExcName → Option Value} {Q : Value → Shared → Prop} {E : Value → Shared → Prop}
theorem node_make (KX : (heapK w.params).In h₀) (T : Top viewK loo mean mg mb h₀) (F : Fr h₀ L s.heap m) (N : News h₀ L s.heap news) {i : Int} {t : Tok}
  (hQ : ∀ x d l tn h' tk, Fr h₀ L h' m → News h₀ L h' ((l, W.listOf #[] 0) :: (x, nodeObj d i t 0 tn l) :: (d, dictOf [] 0) :: news) → (∀ p ∈ news, p.1 < d) → d < x → x < l → Q (.ref x) { s with heap := h', toks := tk }) :
  wpAny (model prg w) (lv 600 4000) (call (.ref 61) [.int i t] []) Q E s := by
  refine' call_cls F KX N ?k4 ?k5 ?k6 ?_
  case k4 => k_is
  case k5 => k_is
  case k6 => k_is
  intro x d h' F N l1 l2
  refine' enterN (binds := [(Str.ofString "self", .ref x), (Str.ofString "node", .int i t)]) F N KX T ?k6 ?k7 ?k8 ?k9 ?kB ?_ ?c2 ?c3 ?c4 ?c5
  case k6 => k_is
  case k7 => k_is
  case k8 => k_room
  case k9 => exact BindsTo.of_eq rfl
  case kB => exact locs rfl
  case c2 => exact rfl
  case c3 => exact rfl
  case c4 => exact rfl
  case c5 => decide
  dsimp only [fB, fS, fA, met, stm, PySem.Challenge.pw_mj0230_01, List.drop]
  intro g L' h₁ tk FG F N X' T' hst hlt
  clear KX T
  have hx : ∀ p ∈ news, p.1 ≠ x := fun p hp => by have := l1 p hp; exact Nat.ne_of_lt (Nat.lt_trans this l2)
  have hdn : ∀ p ∈ news, p.1 ≠ d := fun p hp => Nat.ne_of_lt (l1 p hp)
  (try dsimp only); (try k_fold)
  replace l2 := ltN l2
  iterate 4 ((try (first | with_reducible refine Mine.hide_execT fun Qh tkh hQh => ?_ | with_reducible refine Mine.hide_exec fun Qh hQh => ?_ | with_reducible refine Mine.hide_comp fun Qh hQh => ?_ | with_reducible refine Mine.hide_tok fun tkh => ?_)); (first | walk1 | (dsimp only; walk1) | (refine hQh _ _ ?_; clear hQh; try clear Qh)); try dsimp only)
  iterate 20 ((try (first | with_reducible refine Mine.hide_execT fun Qh tkh hQh => ?_ | with_reducible refine Mine.hide_exec fun Qh hQh => ?_ | with_reducible refine Mine.hide_comp fun Qh hQh => ?_ | with_reducible refine Mine.hide_tok fun tkh => ?_)); (first | walk1 | (dsimp only; walk1) | (refine hQh _ _ ?_; clear hQh; try clear Qh)); try dsimp only)
  rename (@LT.lt Nat _ x _ ∧ _) => l3
  exact leaveK_ (by k_asm) (by k_asm) (fun kF kN => ⟨rfl, hQ _ _ _ _ _ _ kF kN l1 l2 l3.1⟩)
end
end Mine

namespace Mine
abbrev e4 (h1 h2 h3 h4 : Int) (t1 t2 t3 t4 : Tok) (a b c d : Value) : List DictEntry := [⟨h1, .str (Str.ofString "_node2info") t1, a⟩, ⟨h2, .str (Str.ofString "_ready_nodes") t2, b⟩, ⟨h3, .str (Str.ofString "_npassedout") t3, c⟩, ⟨h4, .str (Str.ofString "_nfinished") t4, d⟩]
section
variable {w : World} {h₀ : Heap} {L : Addr} {m mg mb : Str → Option Value} {news : List (Addr × Obj)} {s : Shared} {mean : ExcName → Option Value} {Q : Value → Shared → Prop} {E : Value → Shared → Prop}
theorem getinfo_there (KX : (heapK w.params).In h₀) (T : Top viewK loo mean mg mb h₀) (F : Fr h₀ L s.heap m) 
  {x dx D : Addr} {h1 h2 h3 h4 : Int} {t1 t2 t3 t4 : Tok} {b c d : Value} {k : Nat} {oD : Obj} {kvs : List (Int × Value)} {i : Int} {t : Tok} {xi : Addr}
  (N : News h₀ L s.heap ((x, instObj 158 dx) :: (dx, dictOf (e4 h1 h2 h3 h4 t1 t2 t3 t4 (.ref D) b c d) k) :: (D, oD) :: news)) (lo : (D == sysModules) = false) (hD : oD.IsDictOf (PySem.intKind prg w) kvs) (hi : valueAt kvs i = some (.ref xi))
  (hQ : ∀ h' tk, Fr h₀ L h' m → News h₀ L h' ((x, instObj 158 dx) :: (dx, dictOf (e4 h1 h2 h3 h4 t1 t2 t3 t4 (.ref D) b c d) k) :: (D, oD) :: news) → Q (.ref xi) { s with heap := h', toks := tk }) :
  wpAny (model prg w) (lv 500 3000) (call (.ref 101) [.ref x, .int i t] []) Q E s := by
  refine wpAny_call ?_
  refine' enterN (binds := [(Str.ofString "self", .ref x), (Str.ofString "node", .int i t)]) F N KX T ?k6 ?k7 ?k8 ?k9 ?kB ?_ ?c2 ?c3 ?c4 ?c5
  case k6 => k_is
  case k7 => k_is
  case k8 => decide
  case k9 => exact BindsTo.of_eq rfl
  case kB => exact locs rfl
  case c2 => exact rfl
  case c3 => exact rfl
  case c4 => exact rfl
  case c5 => decide
  dsimp only [fB, fS, fA, met, stm, PySem.Challenge.pw_mj0230_01, List.drop]
  intro g L' h₁ tk FG F N X' T' hst hlt
  clear KX T
  (try dsimp only); (try k_fold)
  iterate 13 ((try (first | with_reducible refine Mine.hide_execT fun Qh tkh hQh => ?_ | with_reducible refine Mine.hide_exec fun Qh hQh => ?_ | with_reducible refine Mine.hide_comp fun Qh hQh => ?_ | with_reducible refine Mine.hide_tok fun tkh => ?_)); (first | walk1 | (dsimp only; walk1) | (refine hQh _ _ ?_; clear hQh; try clear Qh)); try dsimp only)
  refine kdg_get1 (N := by k_asm) (by k_mem) hD lo (k := i) (by simp [intKind, Value.isInt]) _ hi ?_
  dsimp only [Option.getD]
  iterate 13 ((try (first | with_reducible refine Mine.hide_execT fun Qh tkh hQh => ?_ | with_reducible refine Mine.hide_exec fun Qh hQh => ?_ | with_reducible refine Mine.hide_comp fun Qh hQh => ?_ | with_reducible refine Mine.hide_tok fun tkh => ?_)); (first | walk1 | (dsimp only; walk1) | (refine hQh _ _ ?_; clear hQh; try clear Qh)); try dsimp only)
  exact leaveK_ (by k_asm) (by k_asm) (fun kF kN => hQ _ _ kF kN)

theorem getinfo_new (KX : (heapK w.params).In h₀) (T : Top viewK loo mean mg mb h₀) (F : Fr h₀ L s.heap m) 
  {x dx D : Addr} {h1 h2 h3 h4 : Int} {t1 t2 t3 t4 : Tok} {b c d : Value} {k : Nat} {oD : Obj} {kvs : List (Int × Value)} {i : Int} {t : Tok}
  (N : News h₀ L s.heap ((x, instObj 158 dx) :: (dx, dictOf (e4 h1 h2 h3 h4 t1 t2 t3 t4 (.ref D) b c d) k) :: (D, oD) :: news)) (lo : (D == sysModules) = false) (hD : oD.IsDictOf (PySem.intKind prg w) kvs) (hi : valueAt kvs i = none)
  (n2 : x ≠ D) (n3 : dx ≠ D) (n4 : ∀ p ∈ news, p.1 ≠ D) (hsz : kvs.length ≤ 100)
  (hQ : ∀ xi di li tn oD' h' tk, Fr h₀ L h' m → News h₀ L h' ((li, W.listOf #[] 0) :: (xi, nodeObj di i t 0 tn li) :: (di, dictOf [] 0) :: (x, instObj 158 dx) :: (dx, dictOf (e4 h1 h2 h3 h4 t1 t2 t3 t4 (.ref D) b c d) k) :: (D, oD') :: news) →
    (∀ p ∈ (x, instObj 158 dx) :: (dx, dictOf (e4 h1 h2 h3 h4 t1 t2 t3 t4 (.ref D) b c d) k) :: (D, oD) :: news, p.1 < di) → di < xi → xi < li → oD'.IsDictOf (PySem.intKind prg w) (stored kvs i (.ref xi)) → Q (.ref xi) { s with heap := h', toks := tk }) :
  wpAny (model prg w) (lv 500 3000) (call (.ref 101) [.ref x, .int i t] []) Q E s := by
  refine wpAny_call ?_
  refine' enterN (binds := [(Str.ofString "self", .ref x), (Str.ofString "node", .int i t)]) F N KX T ?k6 ?k7 ?k8 ?k9 ?kB ?_ ?c2 ?c3 ?c4 ?c5
  case k6 => k_is
  case k7 => k_is
  case k8 => decide
  case k9 => exact BindsTo.of_eq rfl
  case kB => exact locs rfl
  case c2 => exact rfl
  case c3 => exact rfl
  case c4 => exact rfl
  case c5 => decide
  dsimp only [fB, fS, fA, met, stm, PySem.Challenge.pw_mj0230_01, List.drop]
  intro g L' h₁ tk FG F N X' T' hst hlt
  clear KX T
  (try dsimp only); (try k_fold)
  iterate 13 ((try (first | with_reducible refine Mine.hide_execT fun Qh tkh hQh => ?_ | with_reducible refine Mine.hide_exec fun Qh hQh => ?_ | with_reducible refine Mine.hide_comp fun Qh hQh => ?_ | with_reducible refine Mine.hide_tok fun tkh => ?_)); (first | walk1 | (dsimp only; walk1) | (refine hQh _ _ ?_; clear hQh; try clear Qh)); try dsimp only)
  refine kdg_get1 (N := by k_asm) (by k_mem) hD lo (k := i) (by simp [intKind, Value.isInt]) _ hi ?_
  dsimp only [Option.getD]
  iterate 16 ((try (first | with_reducible refine Mine.hide_execT fun Qh tkh hQh => ?_ | with_reducible refine Mine.hide_exec fun Qh hQh => ?_ | with_reducible refine Mine.hide_comp fun Qh hQh => ?_ | with_reducible refine Mine.hide_tok fun tkh => ?_)); (first | walk1 | (dsimp only; walk1) | (refine hQh _ _ ?_; clear hQh; try clear Qh)); try dsimp only)
  refine wpAny_lv (d := 600) (u := 4000) (node_make X' T' (by k_asm) (by k_asm) ?_) rfl rfl (Nat.le_of_ble_eq_true rfl) (Nat.le_of_ble_eq_true rfl)
  intro xi di li tn h' tk' F' N' l1 l2 l3
  replace l2 := ltN l2
  replace l3 := ltN l3
  (try dsimp only)
  iterate 5 ((try (first | with_reducible refine Mine.hide_execT fun Qh tkh hQh => ?_ | with_reducible refine Mine.hide_exec fun Qh hQh => ?_ | with_reducible refine Mine.hide_comp fun Qh hQh => ?_ | with_reducible refine Mine.hide_tok fun tkh => ?_)); (first | walk1 | (dsimp only; walk1) | (refine hQh _ _ ?_; clear hQh; try clear Qh)); try dsimp only)
  have q1 : D < di := l1 (D, oD) (by k_mem)
  have q1 := ltN q1
  have q2 := neN n2
  have q3 := neN n3
  refine kda_set (by k_asm) (by k_asm) (by k_updF) hD (k := i) (by simp [intKind, Value.isInt]) (by rw [sizeLine_eq]; lia) ?_
  intro h' oD' F' N' hD'
  (try dsimp only at N')
  (try dsimp only)
  iterate 10 ((try (first | with_reducible refine Mine.hide_execT fun Qh tkh hQh => ?_ | with_reducible refine Mine.hide_exec fun Qh hQh => ?_ | with_reducible refine Mine.hide_comp fun Qh hQh => ?_ | with_reducible refine Mine.hide_tok fun tkh => ?_)); (first | walk1 | (dsimp only; walk1) | (refine hQh _ _ ?_; clear hQh; try clear Qh)); try dsimp only)
  exact leaveK_ (by k_asm) (by k_asm) (fun kF kN => hQ _ _ _ _ _ _ _ kF kN l1 l2 l3 hD')
end
end Mine

namespace Mine

noncomputable def perm6 (k : Int) : Int × Int × Int := if k = 0 then (0, 1, 2) else if k = 1 then (0, 2, 1) else if k = 2 then (1, 0, 2) else if k = 3 then (1, 2, 0) else if k = 4 then (2, 0, 1) else (2, 1, 0)
theorem pick6 {h₀ h : Heap} {L l a0 a1 a2 a3 a4 a5 : Addr} {rest : List (Addr × Obj)} {u00 u01 u02 u10 u11 u12 u20 u21 u22 u30 u31 u32 u40 u41 u42 u50 u51 u52 : Tok}
    (N : News h₀ L h ((l, W.listOf #[.ref a0, .ref a1, .ref a2, .ref a3, .ref a4, .ref a5] 0) :: (a5, W.listOf #[.int 2 u50, .int 1 u51, .int 0 u52] 0) :: (a4, W.listOf #[.int 2 u40, .int 0 u41, .int 1 u42] 0) ::
      (a3, W.listOf #[.int 1 u30, .int 2 u31, .int 0 u32] 0) :: (a2, W.listOf #[.int 1 u20, .int 0 u21, .int 2 u22] 0) :: (a1, W.listOf #[.int 0 u10, .int 2 u11, .int 1 u12] 0) :: (a0, W.listOf #[.int 0 u00, .int 1 u01, .int 2 u02] 0) :: rest))
    (k : Int) (h0 : 0 ≤ k) (h6 : k < 6) :
    ∃ lo p0 p1 p2 t0 t1 t2, [Value.ref a0, .ref a1, .ref a2, .ref a3, .ref a4, .ref a5][k.toNat]? = some (.ref lo) ∧
      News h₀ L h ((lo, W.listOf #[.int p0 t0, .int p1 t1, .int p2 t2] 0) :: (l, W.listOf #[.ref a0, .ref a1, .ref a2, .ref a3, .ref a4, .ref a5] 0) :: rest) ∧ perm6 k = (p0, p1, p2) := by
  have hm : ∀ x, x ∈ rest → x ∈ ((l, W.listOf #[.ref a0, .ref a1, .ref a2, .ref a3, .ref a4, .ref a5] 0) :: (a5, W.listOf #[.int 2 u50, .int 1 u51, .int 0 u52] 0) :: (a4, W.listOf #[.int 2 u40, .int 0 u41, .int 1 u42] 0) ::
      (a3, W.listOf #[.int 1 u30, .int 2 u31, .int 0 u32] 0) :: (a2, W.listOf #[.int 1 u20, .int 0 u21, .int 2 u22] 0) :: (a1, W.listOf #[.int 0 u10, .int 2 u11, .int 1 u12] 0) :: (a0, W.listOf #[.int 0 u00, .int 1 u01, .int 2 u02] 0) :: rest) := by
    intro x hx; simp [hx]
  have go : ∀ lo o, (lo, o) ∈ ((l, W.listOf #[.ref a0, .ref a1, .ref a2, .ref a3, .ref a4, .ref a5] 0) :: (a5, W.listOf #[.int 2 u50, .int 1 u51, .int 0 u52] 0) :: (a4, W.listOf #[.int 2 u40, .int 0 u41, .int 1 u42] 0) ::
      (a3, W.listOf #[.int 1 u30, .int 2 u31, .int 0 u32] 0) :: (a2, W.listOf #[.int 1 u20, .int 0 u21, .int 2 u22] 0) :: (a1, W.listOf #[.int 0 u10, .int 2 u11, .int 1 u12] 0) :: (a0, W.listOf #[.int 0 u00, .int 1 u01, .int 2 u02] 0) :: rest) →
      News h₀ L h ((lo, o) :: (l, W.listOf #[.ref a0, .ref a1, .ref a2, .ref a3, .ref a4, .ref a5] 0) :: rest) := fun lo o hlo p hp => by
    rcases List.mem_cons.mp hp with rfl | hp
    · exact N _ hlo
    · rcases List.mem_cons.mp hp with rfl | hp
      · exact N _ (.head _)
      · exact N _ (hm _ hp)
  have hk : k = 0 ∨ k = 1 ∨ k = 2 ∨ k = 3 ∨ k = 4 ∨ k = 5 := by lia
  rcases hk with rfl | rfl | rfl | rfl | rfl | rfl
  · exact ⟨a0, 0, 1, 2, _, _, _, rfl, go _ _ (by k_mem), rfl⟩
  · exact ⟨a1, 0, 2, 1, _, _, _, rfl, go _ _ (by k_mem), rfl⟩
  · exact ⟨a2, 1, 0, 2, _, _, _, rfl, go _ _ (by k_mem), rfl⟩
  · exact ⟨a3, 1, 2, 0, _, _, _, rfl, go _ _ (by k_mem), rfl⟩
  · exact ⟨a4, 2, 0, 1, _, _, _, rfl, go _ _ (by k_mem), rfl⟩
  · exact ⟨a5, 2, 1, 0, _, _, _, rfl, go _ _ (by k_mem), rfl⟩

noncomputable def at3 (a b c p : Int) : Int := if p = 0 then a else if p = 1 then b else c
theorem at3_get {a b c p : Int} {ta tb tc : Tok} (hp : p = 0 ∨ p = 1 ∨ p = 2) : 0 ≤ p ∧ p < 2 ^ 63 ∧ ∃ t, [Value.int a ta, .int b tb, .int c tc][p.toNat]? = some (.int (at3 a b c p) t) := by
  rcases hp with rfl | rfl | rfl
  · exact ⟨by decide, by decide, ta, rfl⟩
  · exact ⟨by decide, by decide, tb, rfl⟩
  · exact ⟨by decide, by decide, tc, rfl⟩
noncomputable def cHigh (n : Int) : Int := if n.fmod 17 + (n.fdiv 17).fmod 6 < 16 then n.fmod 17 + (n.fdiv 17).fmod 6 else 16
noncomputable def cMid (n : Int) : Int := n.fmod 17 + (n.fdiv 102).fmod (cHigh n - n.fmod 17 + 1)
noncomputable def colour (n : Int) : Int × Int × Int :=
  (at3 (n.fmod 17) (cMid n) (cHigh n) (perm6 ((n.fdiv 612).fmod 6)).1, at3 (n.fmod 17) (cMid n) (cHigh n) (perm6 ((n.fdiv 612).fmod 6)).2.1, at3 (n.fmod 17) (cMid n) (cHigh n) (perm6 ((n.fdiv 612).fmod 6)).2.2)
theorem colour_call {w : World} {s : Shared} {mg mb : Str → Option Value} {mean : ExcName → Option Value} (KX : (heapK w.params).In s.heap) (T : Top viewK loo mean mg mb s.heap)
   (n : Int) (t : Tok) : codeAny (model prg w) (lv 500 3000) (.call (.ref 167) ⟨[.int n t], []⟩) (fun r s' => ∃ l ta tb tc, r = .ok (.ret (.ref l)) ∧ Keeps s s' ∧ s.heap.get? l = none ∧ s'.heap.get? l = some (LCg.lst [.int (colour n).1 ta, .int (colour n).2.1 tb, .int (colour n).2.2 tc])) s := by
  refine' enterC0 (binds := [(Str.ofString "figure", .int n t)]) KX ?k6 ?k7 T.nolimit ?k8 ?k9 ?kB ?kD ?_ ?c2 ?c3 ?c4
  case k6 => k_is
  case k7 => k_is
  case k8 => decide
  case k9 => exact BindsTo.of_eq rfl
  case kB => exact rfl
  case kD => decide +kernel
  case c2 => exact rfl
  case c3 => exact rfl
  case c4 => exact rfl
  dsimp only [fB, fS, fA, met, stm, PySem.Challenge.pw_mj0230_01, List.drop]
  intro L h₁ tk cells F N Y
  k_cells Y
  have hlow0 : 0 ≤ Int.fmod n 17 ∧ Int.fmod n 17 < 17 := ⟨Int.fmod_nonneg_of_pos _ (by decide), Int.fmod_lt_of_pos _ (by decide)⟩
  have hsp0 : 0 ≤ Int.fmod (Int.fdiv n 17) 6 ∧ Int.fmod (Int.fdiv n 17) 6 < 6 := ⟨Int.fmod_nonneg_of_pos _ (by decide), Int.fmod_lt_of_pos _ (by decide)⟩
  have hor : 0 ≤ Int.fmod (Int.fdiv n 612) 6 ∧ Int.fmod (Int.fdiv n 612) 6 < 6 := ⟨Int.fmod_nonneg_of_pos _ (by decide), Int.fmod_lt_of_pos _ (by decide)⟩
  (try dsimp only); (try k_fold)
  iterate 134 ((try (first | with_reducible refine Mine.hide_execT fun Qh tkh hQh => ?_ | with_reducible refine Mine.hide_exec fun Qh hQh => ?_ | with_reducible refine Mine.hide_comp fun Qh hQh => ?_ | with_reducible refine Mine.hide_tok fun tkh => ?_)); (first | walk1 | (dsimp only; walk1) | (refine hQh _ _ ?_; clear hQh; try clear Qh)); try dsimp only)
  rename News _ _ _ _ => N
  obtain ⟨lo, p0, p1, p2, t0, t1, t2, hv, N, hp⟩ := pick6 N _ hor.1 hor.2
  refine sub_list (News.isList (N := N) (by k_mem)) hor.1 (by lia) hv ?_
  have hp0 : (p0 = 0 ∨ p0 = 1 ∨ p0 = 2) ∧ (p1 = 0 ∨ p1 = 1 ∨ p1 = 2) ∧ (p2 = 0 ∨ p2 = 1 ∨ p2 = 2) := by
    unfold perm6 at hp
    (repeat' split at hp) <;> (simp only [Prod.mk.injEq] at hp; lia)
  iterate 5 ((try (first | with_reducible refine Mine.hide_execT fun Qh tkh hQh => ?_ | with_reducible refine Mine.hide_exec fun Qh hQh => ?_ | with_reducible refine Mine.hide_comp fun Qh hQh => ?_ | with_reducible refine Mine.hide_tok fun tkh => ?_)); (first | walk1 | (dsimp only; walk1) | (refine hQh _ _ ?_; clear hQh; try clear Qh)); try dsimp only)
  refine LCg.ListComp_U (F₀ := by k_asm) (by with_unfolding_all rfl) (by decide) (by rfl) (by decide) (by rfl) ?_
  walk1
  refine LCg.CompSrc.ledger rfl (by k_asm) (by k_asm) (by k_mem) (by show 3 ≤ sizeLine; decide) (fun g => ?_)
  show LCg.CompRest _ _ _ _ _ _ _ _ _ _ _ _ _ _ _ 3 0 [] _
  refine LCg.CompRest.succ fun v I oI C oC D m₂ h tk E' hP hC hx F N off ne => ?_
  obtain rfl : v = Value.int p0 t0 := (Option.some.inj hP).symm
  iterate 3 ((try (first | with_reducible refine Mine.hide_execT fun Qh tkh hQh => ?_ | with_reducible refine Mine.hide_exec fun Qh hQh => ?_ | with_reducible refine Mine.hide_comp fun Qh hQh => ?_ | with_reducible refine Mine.hide_tok fun tkh => ?_)); (first | walk1 | (dsimp only; walk1) | (refine hQh _ _ ?_; clear hQh; try clear Qh)); try dsimp only)
  obtain ⟨a1, a2, u0, a3⟩ := at3_get hp0.1
  refine sub_list (News.isList (N := N) (by k_mem)) a1 a2 a3 ?_
  iterate 1 ((try (first | with_reducible refine Mine.hide_execT fun Qh tkh hQh => ?_ | with_reducible refine Mine.hide_exec fun Qh hQh => ?_ | with_reducible refine Mine.hide_comp fun Qh hQh => ?_ | with_reducible refine Mine.hide_tok fun tkh => ?_)); (first | walk1 | (dsimp only; walk1) | (refine hQh _ _ ?_; clear hQh; try clear Qh)); try dsimp only)
  refine LCg.CompEnd.intro F N _ (fun p hp => hp) off (.inr ⟨_, by k_mem, rfl, _, rfl⟩) ?_
  clear a1 a2 a3 N F off ne hP hC hx
  refine LCg.CompRest.succ fun v I oI C oC D m₂ h tk E' hP hC hx F N off ne => ?_
  obtain rfl : v = Value.int p1 t1 := (Option.some.inj hP).symm
  iterate 3 ((try (first | with_reducible refine Mine.hide_execT fun Qh tkh hQh => ?_ | with_reducible refine Mine.hide_exec fun Qh hQh => ?_ | with_reducible refine Mine.hide_comp fun Qh hQh => ?_ | with_reducible refine Mine.hide_tok fun tkh => ?_)); (first | walk1 | (dsimp only; walk1) | (refine hQh _ _ ?_; clear hQh; try clear Qh)); try dsimp only)
  obtain ⟨a1, a2, u1, a3⟩ := at3_get hp0.2.1
  refine sub_list (News.isList (N := N) (by k_mem)) a1 a2 a3 ?_
  iterate 1 ((try (first | with_reducible refine Mine.hide_execT fun Qh tkh hQh => ?_ | with_reducible refine Mine.hide_exec fun Qh hQh => ?_ | with_reducible refine Mine.hide_comp fun Qh hQh => ?_ | with_reducible refine Mine.hide_tok fun tkh => ?_)); (first | walk1 | (dsimp only; walk1) | (refine hQh _ _ ?_; clear hQh; try clear Qh)); try dsimp only)
  refine LCg.CompEnd.intro F N _ (fun p hp => hp) off (.inr ⟨_, by k_mem, rfl, _, rfl⟩) ?_
  clear a1 a2 a3 N F off ne hP hC hx
  refine LCg.CompRest.succ fun v I oI C oC D m₂ h tk E' hP hC hx F N off ne => ?_
  obtain rfl : v = Value.int p2 t2 := (Option.some.inj hP).symm
  iterate 3 ((try (first | with_reducible refine Mine.hide_execT fun Qh tkh hQh => ?_ | with_reducible refine Mine.hide_exec fun Qh hQh => ?_ | with_reducible refine Mine.hide_comp fun Qh hQh => ?_ | with_reducible refine Mine.hide_tok fun tkh => ?_)); (first | walk1 | (dsimp only; walk1) | (refine hQh _ _ ?_; clear hQh; try clear Qh)); try dsimp only)
  obtain ⟨a1, a2, u2, a3⟩ := at3_get hp0.2.2
  refine sub_list (News.isList (N := N) (by k_mem)) a1 a2 a3 ?_
  iterate 1 ((try (first | with_reducible refine Mine.hide_execT fun Qh tkh hQh => ?_ | with_reducible refine Mine.hide_exec fun Qh hQh => ?_ | with_reducible refine Mine.hide_comp fun Qh hQh => ?_ | with_reducible refine Mine.hide_tok fun tkh => ?_)); (first | walk1 | (dsimp only; walk1) | (refine hQh _ _ ?_; clear hQh; try clear Qh)); try dsimp only)
  refine LCg.CompEnd.intro F N _ (fun p hp => hp) off (.inr ⟨_, by k_mem, rfl, _, rfl⟩) ?_
  clear a1 a2 a3 N F off ne hP hC hx
  refine LCg.CompRest.zero ?_
  intro D h tk F N o1
  have e : colour n = (at3 (n.fmod 17) (cMid n) (cHigh n) p0, at3 (n.fmod 17) (cMid n) (cHigh n) p1, at3 (n.fmod 17) (cMid n) (cHigh n) p2) := by unfold colour; rw [hp]
  iterate 1 ((try (first | with_reducible refine Mine.hide_execT fun Qh tkh hQh => ?_ | with_reducible refine Mine.hide_exec fun Qh hQh => ?_ | with_reducible refine Mine.hide_comp fun Qh hQh => ?_ | with_reducible refine Mine.hide_tok fun tkh => ?_)); (first | walk1 | (dsimp only; walk1) | (refine hQh _ _ ?_; clear hQh; try clear Qh)); try dsimp only)
  refine ⟨D, u0, u1, u2, rfl, ⟨_, _, rfl, F.keep⟩, (N _ (.head _)).2.2, ?_⟩
  rw [e]
  exact (N _ (.head _)).1
section
variable {w : World} {A : Around} {h₀ : Heap} {L : Addr} {m mg mb : Str → Option Value} {s : Shared} {mean : ExcName → Option Value} {Q : Value → Shared → Prop} {E : Value → Shared → Prop} {news : List (Addr × Obj)}
/-- a callee's new object joins the ledger -/
theorem news_put {h h' : Heap} {l : Addr} {o : Obj} (F : Fr h₀ L h m) (N : News h₀ L h news) (kp : ∀ b o, h.get? b = some o → h'.get? b = some o) (h0 : h.get? l = none) (h1 : h'.get? l = some o) : News h₀ L h' ((l, o) :: news) ∧ (∀ p ∈ news, p.1 ≠ l) ∧ l ≠ L := by
  have hL : l ≠ L := by
    rintro rfl
    obtain ⟨oL, es, ep, hL, _⟩ := F.ns
    rw [h0] at hL; cases hL
  refine ⟨fun p hp => ?_, fun p hp e => ?_, hL⟩
  · rcases List.mem_cons.mp hp with rfl | hp
    · refine ⟨h1, hL, ?_⟩
      cases q : h₀.get? l with
      | none => rfl
      | some o => rw [F.keep _ _ q] at h0; cases h0
    · exact ⟨kp _ _ (N p hp).1, (N p hp).2⟩
  · have := (N p hp).1; rw [e, h0] at this; cases this
theorem colour_at (KX : (heapK w.params).In h₀) (T : Top viewK loo mean mg mb h₀) (F : Fr h₀ L s.heap m) (N : News h₀ L s.heap news) {n : Int} {t : Tok}
    (hQ : ∀ l ta tb tc h' tk, Fr h₀ L h' m → News h₀ L h' ((l, LCg.lst [.int (colour n).1 ta, .int (colour n).2.1 tb, .int (colour n).2.2 tc]) :: news) → (∀ p ∈ news, p.1 ≠ l) → l ≠ L → Q (.ref l) { s with heap := h', toks := tk })
    (hh : A.handled = none) (hg : A.guards = some []) (hd : A.depth ≤ 500) (hu : A.units ≤ 3000) :
    wpAny (model prg w) A (call (.ref 167) [.int n t] []) Q E s := by
  refine wpAny_call (codeAny_mono (codeAny_lv (colour_call (KX.keeps F.keep) (T.keeps F.keep) n t) hh hg hd hu) fun r s' h => ?_)
  obtain ⟨l, ta, tb, tc, rfl, ⟨h', tk, rfl, kp⟩, h0, h1⟩ := h
  obtain ⟨N', hn, hl⟩ := news_put F N kp h0 h1
  exact hQ _ _ _ _ _ _ (F.grownK kp) N' hn hl
end
end Mine

namespace Mine
open LCg LCt
section
variable {prog : Program} {w : World} {A : Around} {E : Value → Shared → Prop} {s : Shared} {h₀ : Heap} {L : Addr} {m : Str → Option Value} {env : Env}
theorem comp_invT {ct elt : Expr} {x : Str} {scope : Scope} {cl : List (Str × Addr)} {S : List (Addr × Obj) → Prop} {P : Nat → Value → Prop} {Fin : List Value → List (Addr × Obj) → Prop} {n : Nat}
    (J : Nat → List Value → List (Addr × Obj) → Prop)
    (turn : ∀ i ys news v I oI C oC D m₂ h tk (E' : Value → Shared → Prop), i < n → J i ys news → P i v → NsObj oC m₂ → m₂ x = some v → Fr h₀ L h m → News h₀ L h ((I, oI) :: (C, oC) :: (D, lst ys) :: news) → Off3 I C D news → ((@Ne Nat I C) ∧ (@Ne Nat I D) ∧ (@Ne Nat C D)) →
      wpAny (model prog w) A (isTrue ct (compEnvC scope cl C env) (eval ct (compEnvC scope cl C env))) (fun ok s' => if ok = true then
        wpAny (model prog w) A (eval elt (compEnvC scope cl C env)) (CompEnd h₀ L m { s with heap := h, toks := tk } I oI C oC D (lst ys) S (fun y news' => J (i + 1) (ys ++ [y]) news')) E' s'
        else CompEnd h₀ L m { s with heap := h, toks := tk } I oI C oC D (lst ys) S (fun _ news' => J (i + 1) ys news') Value.none s') E' { s with heap := h, toks := tk })
    (fin : ∀ ys news, J n ys news → Fin ys news) :
    ∀ k i ys news, i + k = n → J i ys news → CompRestT prog w A h₀ L m env ct elt x scope cl s S P Fin k i ys news := by
  intro k
  induction k with
  | zero => intro i ys news hi hJ; obtain rfl : i = n := by omega
            exact CompRestT.zero (fin _ _ hJ)
  | succ k ih =>
    intro i ys news hi hJ
    refine CompRestT.succ fun v I oI C oC D m₂ h tk E' hP hC hx F N off ne => ?_
    refine wpAny_mono (turn i ys news v I oI C oC D m₂ h tk E' (by omega) hJ hP hC hx F N off ne) (fun ok s₁ q => ?_) fun _ _ e => e
    cases ok with
    | true =>
      rw [if_pos rfl] at q ⊢
      refine wpAny_mono q (fun y s₂ q => ?_) fun _ _ e => e
      obtain ⟨h', tk', news', e, F', N', o', hS, r⟩ := q
      exact ⟨h', tk', news', e, F', N', o', hS, ih (i + 1) _ _ (by omega) r⟩
    | false =>
      rw [if_neg Bool.false_ne_true] at q ⊢
      obtain ⟨h', tk', news', e, F', N', o', hS, r⟩ := q
      exact ⟨h', tk', news', e, F', N', o', hS, ih (i + 1) _ _ (by omega) r⟩
/-- a list from a dict's values, with a test -/
theorem ListComp_V {ct elt iter : Expr} {x : Str} {px : Pos} {scope : Scope} {cl : List (Str × Addr)} {pos : Pos} {Q : Value → Shared → Prop} (_F₀ : Fr h₀ L s.heap m)
    (hclos : closureFor scope env = pure cl) (hcell : ∀ y ∈ scope.names, y.2 ≠ .cell) (hkind : scope.kind = .function)
    (hnames : ∀ y ∈ scope.names, y.2 = .local → scope.names.lookup y.1 = some .local) (hx : scope.names.lookup x = some .local)
    (h : wpAny (model prog w) A (eval iter env) (fun xv s₁ => ∃ vw d od, ∃ (kvs : List (Int × Value)), ∃ news, xv = .ref vw ∧ A.handled = none ∧ Fr h₀ L s₁.heap m ∧ News h₀ L s₁.heap news ∧ s₁.heap.IsValuesView vw d ∧ (d, od) ∈ news ∧ od.IsDictOf (PySem.intKind prog w) kvs ∧ kvs.length ≤ sizeLine ∧
      ∀ g, CompRestT prog w A h₀ L m env ct elt x scope cl { s₁ with heap := g } (fun nw => (d, od) ∈ nw) (fun i v => ∃ k, kvs[i]? = some (k, v)) (FinE h₀ L m { s₁ with heap := g } Q) kvs.length 0 [] news) E s)
    (hs : ∀ x, foldedSetIterable iter env x = pure x := by intro _; rfl) :
    wpAny (model prog w) A (eval (.ListComp elt [⟨.Name x px, iter, [ct], 0⟩] scope pos) env) Q E s := by
  rw [eval_ListComp]
  refine wpAny_comprehension_free (use := none) rfl hs hclos hkind hnames (wpAny_mono h (fun xv s₁ h₁ => ?_) fun _ _ e => e)
  obtain ⟨vw, d, od, kvs, news, rfl, hh, F, N, hv, hm, hd, hsz, R⟩ := h₁
  obtain ⟨ep, es, hex, hdat, hke, hpr, hnd⟩ := KdkAt.of hd
  have hat : s₁.heap.DictAt (PySem.intKind prog w) d kvs ep := ⟨od, es, (N _ hm).1, hex, hdat, hke, hpr, hnd⟩
  have hlt : d < s₁.heap.objs.size := hat.lt_size
  refine wpAny_pyIter_values hv hat ?_
  have up : ∀ b o, s₁.heap.get? b = some o → (s₁.heap.push { cls := .type "dict_valueiterator", data := .fields #[.ref d, .int 0 0, .int kvs.length 0, .int ep 0] }).get? b = some o := fun b o e => Heap.get?_push_of_some _ e
  refine block_T (Walks.dictValues (knd := PySem.intKind prog w) hh s₁.heap.objs.size d (Nat.ne_of_lt hlt) kvs ep) hsz (fun i h st => by obtain ⟨o, e, _⟩ := st.1; exact ⟨o, e⟩) ?_ hcell hkind hx ⟨⟨_, Heap.get?_push_size _ rfl, rfl, rfl⟩, hat.push _⟩ (fun b hb => ?_)
    (F.keeps up) (N.grown up) (Nat.ne_of_lt F.ns.lt) (next_is_new F) (fun p hp => Nat.ne_of_lt (Heap.lt_size (N p hp).1)) hm (R _) ?_
  · intro i h h' o nw st ho ho' _ Nw hS
    refine ⟨st.1.at fun o' e => by rw [ho] at e; cases e; exact ho', od, es, (Nw _ hS).1, hex, hdat, hke, hpr, hnd⟩
  · show b < (s₁.heap.push _).objs.size
    rw [Heap.size_push]
    rcases List.mem_cons.mp hb with rfl | hb
    · exact Nat.lt_succ_self _
    · rw [List.mem_singleton.mp hb]; exact Nat.lt_succ_of_lt hlt
  · intro D C h tk m' ys news' F' N' o1 hn hC₀ hD₀ hCL hDL hCD offC fin
    refine ⟨m', hn, fun h'' hs'' => fin D h'' tk (F'.change hs'' hCL hC₀) (fun p hp => ?_) o1⟩
    refine ⟨hs''.extBut _ _ ?_ (N' p hp).1, (N' p hp).2⟩
    rcases List.mem_cons.mp hp with rfl | hp
    · exact Ne.symm hCD
    · exact offC p hp
end
theorem Off1.all {D : Addr} : ∀ {l : List (Addr × Obj)}, Off1 D l → ∀ p ∈ l, p.1 ≠ D := by
  intro l
  induction l with
  | nil => intro _ p hp; cases hp
  | cons q r ih =>
    intro h p hp
    rcases List.mem_cons.mp hp with rfl | hp
    · exact h.1
    · exact ih h.2 p hp
end Mine

namespace Mine
noncomputable def Rk (r : Nat → Int) (p : Array Nat) (k : Nat) : Int := r (p.getD k 0)
noncomputable def PermN (n : Nat) (p : Array Nat) : Prop := p.Perm (List.range n).toArray
noncomputable def Asc (r : Nat → Int) (p : Array Nat) (k : Nat) : Prop := ∀ i j, i < j → j < k → Rk r p i < Rk r p j
noncomputable def Dsc (r : Nat → Int) (p : Array Nat) (k : Nat) : Prop := ∀ i j, i < j → j < k → Rk r p j < Rk r p i
noncomputable def Cmp (n : Nat) (r : Nat → Int) (P : Shared → Prop) (cmp : Nat → Nat → (Bool → Shared → Prop) → Shared → Prop) : Prop := ∀ i j Q s, i < n → j < n → P s → (∀ s', P s' → Q (decide (r i < r j)) s') → cmp i j Q s
theorem PermN.size {n : Nat} {p : Array Nat} (h : PermN n p) : p.size = n := by
  have := h.size_eq; simpa using this
theorem PermN.list {n : Nat} {p : Array Nat} (h : PermN n p) : p.toList.Perm (List.range n) := by
  have := Array.perm_iff_toList_perm.mp h; simpa using this
theorem getD_list (p : Array Nat) (k : Nat) : p.getD k 0 = p.toList.getD k 0 := by
  simp [Array.getD, List.getD]
  split <;> rename_i h
  · simp [h]
  · simp [Array.getElem?_eq_none (Nat.le_of_not_lt h)]
theorem PermN.lt {n k : Nat} {p : Array Nat} (h : PermN n p) (hk : k < n) : p.getD k 0 < n := by
  rw [getD_list]
  have hl : k < p.toList.length := by rw [h.list.length_eq, List.length_range]; exact hk
  have : p.toList.getD k 0 ∈ p.toList := by
    have e : p.toList.getD k 0 = p.toList[k] := by rw [List.getD_eq_getElem?_getD, List.getElem?_eq_getElem hl]; rfl
    rw [e]; exact List.getElem_mem hl
  exact List.mem_range.mp (h.list.mem_iff.mp this)
theorem PermN.inj {n i j : Nat} {p : Array Nat} (h : PermN n p) (hi : i < n) (hj : j < n) (e : p.getD i 0 = p.getD j 0) : i = j := by
  rw [getD_list, getD_list] at e
  have hl : p.toList.length = n := by rw [h.list.length_eq, List.length_range]
  have nd : p.toList.Nodup := h.list.nodup_iff.mpr List.nodup_range
  have e1 : p.toList.getD i 0 = p.toList[i]'(by lia) := by simp [hl, hi]
  have e2 : p.toList.getD j 0 = p.toList[j]'(by lia) := by simp [hl, hj]
  rw [e1, e2] at e
  exact (List.getElem_inj nd).mp e
section
variable {n : Nat} {r : Nat → Int} {cmp : Nat → Nat → (Bool → Shared → Prop) → Shared → Prop} {P : Shared → Prop}
theorem rk_ne {p : Array Nat} (hinj : ∀ i j, i < n → j < n → r i = r j → i = j) (h : PermN n p) {i j : Nat} (hi : i < n) (hj : j < n) (e : i ≠ j) : Rk r p i ≠ Rk r p j := fun q => e (h.inj hi hj (hinj _ _ (h.lt hi) (h.lt hj) q))
theorem Asc.snoc {p : Array Nat} {k : Nat} (h1 : 1 ≤ k) (h : Asc r p k) (hk : Rk r p (k - 1) < Rk r p k) : Asc r p (k + 1) := by
  intro i j hij hj
  by_cases e : j = k
  · subst e
    by_cases e2 : i = j - 1
    · subst e2; exact hk
    · exact Int.lt_trans (h i (j - 1) (by lia) (by lia)) hk
  · exact h i j hij (by lia)
theorem Dsc.snoc {p : Array Nat} {k : Nat} (h1 : 1 ≤ k) (h : Dsc r p k) (hk : Rk r p k < Rk r p (k - 1)) : Dsc r p (k + 1) := by
  intro i j hij hj
  by_cases e : j = k
  · subst e
    by_cases e2 : i = j - 1
    · subst e2; exact hk
    · exact Int.lt_trans hk (h i (j - 1) (by lia) (by lia))
  · exact h i j hij (by lia)
theorem run_asc (hinj : ∀ i j, i < n → j < n → r i = r j → i = j) (hc : Cmp n r P cmp) {p : Array Nat} (hp : PermN n p) {Q : Nat → Shared → Prop} :
    ∀ f a s, 1 ≤ a → a + f = n → Asc r p a → P s → (∀ m s', a ≤ m → m ≤ n → Asc r p m → (m < n → Rk r p m < Rk r p (m - 1)) → P s' → Q m s') → (kas_asc p f a).kasWp cmp Q s := by
  intro f
  induction f with
  | zero => intro a s h1 h2 ha hs hQ; exact hQ a s (Nat.le_refl _) (by lia) ha (fun h => absurd h (by lia)) hs
  | succ f ih =>
    intro a s h1 h2 ha hs hQ
    show cmp _ _ _ _
    refine hc _ _ _ _ (hp.lt (by lia)) (hp.lt (by lia)) hs fun s' hs' => ?_
    by_cases e : Rk r p a < Rk r p (a - 1)
    · rw [show decide (r (p.getD a 0) < r (p.getD (a - 1) 0)) = true from decide_eq_true e]
      dsimp only
      rw [if_pos rfl]
      exact hQ a s' (Nat.le_refl _) (by lia) ha (fun _ => e) hs'
    · rw [show decide (r (p.getD a 0) < r (p.getD (a - 1) 0)) = false from decide_eq_false e]
      dsimp only
      rw [if_neg Bool.false_ne_true]
      have := rk_ne hinj hp (i := a) (j := a - 1) (by lia) (by lia) (by lia)
      exact ih (a + 1) s' (by lia) (by lia) (ha.snoc h1 (by lia)) hs' fun m s' h1' => hQ m s' (by lia)
theorem run_desc (hinj : ∀ i j, i < n → j < n → r i = r j → i = j) (hc : Cmp n r P cmp) {p : Array Nat} (hp : PermN n p) {Q : Array Nat × Nat × Nat → Shared → Prop} :
    ∀ f a s, 1 ≤ a → a + f = n → Dsc r p a → P s → (∀ m s', a ≤ m → m ≤ n → Dsc r p m → P s' → Q (p, m, 0) s') → (kas_desc f p a 0).kasWp cmp Q s := by
  intro f
  induction f with
  | zero => intro a s h1 h2 ha hs hQ; exact hQ a s (Nat.le_refl _) (by lia) ha hs
  | succ f ih =>
    intro a s h1 h2 ha hs hQ
    show cmp _ _ _ _
    refine hc _ _ _ _ (hp.lt (by lia)) (hp.lt (by lia)) hs fun s' hs' => ?_
    by_cases e : Rk r p a < Rk r p (a - 1)
    · rw [show decide (r (p.getD a 0) < r (p.getD (a - 1) 0)) = true from decide_eq_true e]
      dsimp only
      rw [if_pos rfl, if_neg (by lia)]
      exact ih (a + 1) s' (by lia) (by lia) (ha.snoc h1 e) hs' fun m s' h1' => hQ m s' (by lia)
    · rw [show decide (r (p.getD a 0) < r (p.getD (a - 1) 0)) = false from decide_eq_false e]
      dsimp only
      rw [if_neg Bool.false_ne_true]
      show cmp _ _ _ _
      refine hc _ _ _ _ (hp.lt (by lia)) (hp.lt (by lia)) hs' fun s2 hs2 => ?_
      have := rk_ne hinj hp (i := a) (j := a - 1) (by lia) (by lia) (by lia)
      rw [show decide (r (p.getD (a - 1) 0) < r (p.getD a 0)) = true from decide_eq_true (by unfold Rk at *; lia)]
      dsimp only
      rw [if_pos rfl]
      exact hQ a s2 (Nat.le_refl _) (by lia) ha hs2
theorem getD_opt (p : Array Nat) (k : Nat) : p.getD k 0 = (p[k]?).getD 0 := by
  rw [getD_list]; simp [List.getD]
theorem rev_perm {p : Array Nat} (hp : PermN n p) (i j : Nat) : PermN n (kas_rev p i j) := (mirror_perm p i j _).trans hp
theorem rev_asc {p : Array Nat} (hp : PermN n p) {k : Nat} (hk : k ≤ n) (h : Dsc r p k) : Asc r (kas_rev p 0 k) k := by
  have key : ∀ i, i < k → Rk r (kas_rev p 0 k) i = Rk r p (k - 1 - i) := by
    intro i hi
    unfold Rk
    rw [getD_opt, getD_opt]
    show r (((mirror p 0 k ((k - 0) / 2))[i]?).getD 0) = _
    rw [getElem?_mirror_all (by rw [hp.size]; exact hk), if_pos ⟨Nat.zero_le _, hi⟩]
    congr 3; lia
  intro i j hij hj
  rw [key i (by lia), key j hj]
  exact h _ _ (by lia) (by lia)
theorem run_place (hinj : ∀ i j, i < n → j < n → r i = r j → i = j) (hc : Cmp n r P cmp) {p : Array Nat} (hp : PermN n p) {k : Nat} (hk : k < n) (ha : Asc r p k) {Q : Nat → Shared → Prop} :
    ∀ f a b s, b - a ≤ f → a ≤ b → b ≤ k → (∀ i, i < a → Rk r p i < Rk r p k) → (∀ i, b ≤ i → i < k → Rk r p k < Rk r p i) → P s → (∀ l s', l ≤ k → (∀ i, i < l → Rk r p i < Rk r p k) → (∀ i, l ≤ i → i < k → Rk r p k < Rk r p i) → P s' → Q l s') → (kas_place p k f a b).kasWp cmp Q s := by
  intro f
  induction f with
  | zero =>
    intro a b s h1 h2 h3 h4 h5 hs hQ
    obtain rfl : a = b := by lia
    exact hQ a s h3 h4 h5 hs
  | succ f ih =>
    intro a b s h1 h2 h3 h4 h5 hs hQ
    unfold kas_place
    by_cases e0 : a ≥ b
    · rw [if_pos e0]
      obtain rfl : a = b := by lia
      exact hQ a s h3 h4 h5 hs
    · rw [if_neg e0]
      show cmp _ _ _ _
      refine hc _ _ _ _ (hp.lt (by lia)) (hp.lt (by lia)) hs fun s' hs' => ?_
      by_cases e : Rk r p k < Rk r p ((a + b) / 2)
      · rw [show decide (r (p.getD k 0) < r (p.getD ((a + b) / 2) 0)) = true from decide_eq_true e]
        dsimp only
        rw [if_pos rfl]
        refine ih _ _ s' (by lia) (by lia) (by lia) h4 (fun i hi1 hi2 => ?_) hs' hQ
        by_cases q : i = (a + b) / 2
        · rw [q]; exact e
        · exact Int.lt_trans e (ha _ _ (by lia) hi2)
      · rw [show decide (r (p.getD k 0) < r (p.getD ((a + b) / 2) 0)) = false from decide_eq_false e]
        dsimp only
        rw [if_neg Bool.false_ne_true]
        have := rk_ne hinj hp (i := k) (j := (a + b) / 2) (by lia) (by lia) (by lia)
        refine ih _ _ s' (by lia) (by lia) (by lia) (fun i hi => ?_) h5 hs' hQ
        by_cases q : i = (a + b) / 2
        · rw [q]; lia
        · have := ha i ((a + b) / 2) (by lia) (by lia); lia
theorem bub_asc {p : Array Nat} (hp : PermN n p) {k l : Nat} (hk : k < n) (hl : l ≤ k) (ha : Asc r p k) (h1 : ∀ i, i < l → Rk r p i < Rk r p k) (h2 : ∀ i, l ≤ i → i < k → Rk r p k < Rk r p i) : Asc r (bubble p k (k - l)) (k + 1) := by
  have key : ∀ i, Rk r (bubble p k (k - l)) i = if i = l then Rk r p k else if l < i ∧ i ≤ k then Rk r p (i - 1) else Rk r p i := by
    intro i
    unfold Rk
    rw [getD_opt, getElem?_bubble (by rw [hp.size]; exact hk) _ (by lia)]
    have e : k - (k - l) = l := by lia
    rw [e]
    simp only [getD_opt]
    split
    · rfl
    · split <;> rfl
  intro i j hij hj
  rw [key, key]
  by_cases q1 : i = l
  · rw [if_pos q1, if_neg (by lia), if_pos (by lia)]; exact h2 _ (by lia) (by lia)
  · rw [if_neg q1]
    by_cases q2 : l < i ∧ i ≤ k
    · rw [if_pos q2, if_neg (by lia), if_pos (by lia)]; exact ha _ _ (by lia) (by lia)
    · rw [if_neg q2]
      by_cases q3 : j = l
      · rw [if_pos q3]; exact h1 _ (by lia)
      · rw [if_neg q3]
        by_cases q4 : l < j ∧ j ≤ k
        · rw [if_pos q4]
          by_cases q5 : i = j - 1
          · lia
          · exact ha _ _ (by lia) (by lia)
        · rw [if_neg q4]; exact ha _ _ (by lia) (by lia)
theorem run_bin (hinj : ∀ i j, i < n → j < n → r i = r j → i = j) (hc : Cmp n r P cmp) {Q : Array Nat → Shared → Prop} :
    ∀ f p k s, PermN n p → k + f = n → Asc r p k → P s → (∀ p s', PermN n p → Asc r p n → P s' → Q p s') → (kas_bin f p k).kasWp cmp Q s := by
  intro f
  induction f with
  | zero => intro p k s hp hk ha hs hQ; obtain rfl : k = n := by lia
            exact hQ p s hp ha hs
  | succ f ih =>
    intro p k s hp hk ha hs hQ
    unfold kas_bin
    rw [KasT.kasWp_bind]
    refine run_place hinj hc hp (by lia) ha k 0 k s (by lia) (by lia) (Nat.le_refl _) (fun i hi => absurd hi (Nat.not_lt_zero _)) (fun i h1 h2 => absurd h2 (by lia)) hs fun l s' hl h1 h2 hs' => ?_
    exact ih _ _ s' ((bubble_perm p k _).trans hp) (by lia) (bub_asc hp (by lia) hl ha h1 h2) hs' hQ
theorem kas_sorts (hinj : ∀ i j, i < n → j < n → r i = r j → i = j) (hc : Cmp n r P cmp) (hn : 1 ≤ n) {Q : Array Nat → Shared → Prop} {s : Shared} (hs : P s) (hQ : ∀ p s', PermN n p → Asc r p n → P s' → Q p s') : (kas_sort n).kasWp cmp Q s := by
  unfold kas_sort
  rw [KasT.kasWp_bind]
  have hp0 : PermN n (List.range n).toArray := Array.Perm.refl _
  have h1 : Asc r (List.range n).toArray 1 := fun i j a b => by lia
  have fin : ∀ (q : Nat × Array Nat) s', PermN n q.2 → 1 ≤ q.1 → q.1 ≤ n → Asc r q.2 q.1 → P s' → (if q.1 < n then kas_bin (n - max q.1 1) q.2 (max q.1 1) else KasT.ret q.2).kasWp cmp Q s' := by
    intro q s' hp a b ha hs'
    have e : max q.1 1 = q.1 := by lia
    rw [e]
    by_cases c : q.1 < n
    · rw [if_pos c]
      exact run_bin hinj hc _ _ _ s' hp (by lia) ha hs' hQ
    · rw [if_neg c]
      have e : q.1 = n := by lia
      exact hQ _ s' hp (e ▸ ha) hs'
  unfold kas_count
  rw [KasT.kasWp_bind]
  refine run_asc hinj hc hp0 (n - 1) 1 s (Nat.le_refl _) (by lia) h1 hs fun m s' a b ha hlt hs' => ?_
  by_cases e : (m == n) = true
  · rw [if_pos e]
    exact fin _ s' hp0 a b ha hs'
  · rw [if_neg e]
    have e : m ≠ n := fun h => e (by simp [h])
    by_cases e2 : m > 1
    · rw [if_pos e2]
      show cmp _ _ _ _
      refine hc _ _ _ _ (hp0.lt (by lia)) (hp0.lt (by lia)) hs' fun s2 hs2 => ?_
      rw [decide_eq_true (show r _ < r _ from ha 0 (m - 1) (by lia) (by lia))]
      dsimp only
      rw [if_pos rfl]
      exact fin _ s2 hp0 a b ha hs2
    · rw [if_neg e2]
      obtain rfl : m = 1 := by lia
      have hd : Dsc r (List.range n).toArray 2 := by
        intro i j hij hj
        obtain rfl : i = 0 := by lia
        obtain rfl : j = 1 := by lia
        exact hlt (by lia)
      unfold kas_descPart
      rw [KasT.kasWp_bind]
      refine run_desc hinj hc hp0 _ 2 s' (by lia) (by lia) hd hs' fun k s2 c d hk hs2 => ?_
      rw [if_neg (by show ¬ 0 > 0; lia)]
      unfold kas_tail3
      rw [KasT.kasWp_bind]
      refine run_asc hinj hc (rev_perm hp0 0 k) _ k s2 (by lia) (by show k + (n - k) = n; lia) (rev_asc hp0 d hk) hs2 fun m s3 a2 b2 ha2 _ hs3 => ?_
      exact fin (m, _) s3 (rev_perm hp0 0 k) (by show 1 ≤ m; lia) b2 ha2 hs3
end
end Mine

namespace Mine
open PySem.Calls
section
variable {M : Model} {A : Around} {E : Value → Shared → Prop} {s : Shared} {env : Env}
theorem StarMethod_ {o : Expr} {name : Str} {apos pos : Pos} {args : List Expr} {Q : Value → Shared → Prop}
    (h : wpAny M A (eval o env) (fun ov s₁ => wpAny M A (getAttr ov name true) (fun f s₂ => wpAny M A (callWith pos f [] (backTo pos (starEach args env)) []) Q E s₂) E s₁) E s)
    (he : eval (.Call (.Attribute o name apos) args [] pos) env = (do
      let ov ← eval o env
      standAt apos.atName
      let (f, first) ← holding [ov] (do pure (← getAttr ov name true, ([] : List Value)))
      callWith pos f first (backTo pos (starEach args env)) []) := by rfl) :
    wpAny M A (eval (.Call (.Attribute o name apos) args [] pos) env) Q E s := by
  rw [he]
  refine wpAny_bind (wpAny_mono h (fun ov s₁ h₁ => wpAny_bind (wpAny_standAt (wpAny_bind (wpAny_holding (wpAny_bind (wpAny_mono h₁ (fun f s₂ h₂ => wpAny_pure h₂) fun _ _ x => x)))))) fun _ _ x => x)
variable {K : Frag} {pos p : Pos} {q g : Addr} {self : Value} {first : List Value} {Q : Value → Shared → Prop} {e : Expr} {rest : List Expr}
theorem callWith_S2M (hf : fnIn K g = true) (h : wpAny M A (spliced (backTo pos (starEach (e :: rest) env))) (fun vs s₁ => MethP K q g self s₁.heap ∧ wpAny M A (call (.ref q) (first ++ vs)) Q E s₁) E s)
    (he : starEach (e :: rest) env = (false, eval e env) :: starEach rest env := by rfl) (hst : (backTo pos (starEach rest env)).any (·.1) = true := by rfl) :
    wpAny M A (callWith pos (.ref q) first (backTo pos (starEach (e :: rest) env)) []) Q E s := by
  rw [he] at h ⊢
  exact ks_call (by show (false || (backTo pos (starEach rest env)).any (·.1)) = true; rw [hst]; rfl) (keeps_M hf) (evalArgs_plain h)
theorem callWith_SM (hf : fnIn K g = true) (h : wpAny M A (eval e env) (fun v s₁ => StarOf M A E v (fun vs s₂ => MethP K q g self s₂.heap ∧ wpAny M A (call (.ref q) (first ++ vs)) Q E s₂) s₁) E s)
    (he : starEach [.Starred e p] env = [(true, eval e env)] := by rfl) :
    wpAny M A (callWith pos (.ref q) first (backTo pos (starEach [.Starred e p] env)) []) Q E s := by
  rw [he]
  exact ks_call rfl (keeps_M hf) (ks_lone h)
end
end Mine

namespace Mine
section
variable {prog : Program} {w : World} {A : Around} {E : Value → Shared → Prop} {s : Shared} {env : Env} {h₀ : Heap} {target : Expr} {body : List Stmt} {Q : Flow → Shared → Prop}
/-- a loop whose target is stored by the walk -/
theorem turns_core {I : Addr} {fp : List Addr} {n : Nat} {P Md : Nat → Value → Heap → Prop} {St : Nat → Heap → Prop} {m₀ : Str → Option Value} {news : List (Addr × Obj)} (vars : List Str) (J : Nat → (Str → Option Value) → List (Addr × Obj) → Prop) (K : List (Addr × Obj))
    (W : KTurns prog w A target I fp [I] n P Md St) (hK : ∀ b ∈ fp, b = I ∨ ∃ o, (b, o) ∈ K) (hJK : ∀ i m nx, J i m nx → ∀ p ∈ K, p ∈ nx ∨ h₀.get? p.1 = some p.2) (hob : ∀ i h, St i h → ∃ o, h.get? I = some o) (hLf : env.locals ∉ fp) (hI₀ : h₀.get? I = none)
    (hnw : ∀ p ∈ news, p.1 ≠ I) (hst : St 0 s.heap) (F : Fr h₀ env.locals s.heap m₀) (N : News h₀ env.locals s.heap news) (hj : J 0 m₀ news)
    (turn : ∀ i v m₁ nx h tk oI, i < n → P i v h → (∀ p ∈ nx, p.1 ≠ I) → J i m₁ nx → Fr h₀ env.locals h (fun z => if vars.contains z then m₁ z else m₀ z) → News h₀ env.locals h ((I, oI) :: nx) →
      wpAny (model prog w) A (assign target env v) (fun _ s₂ => wpAny (model prog w) A (execs body env) (LPost h₀ env.locals vars m₀ (J (i + 1)) I oI { s with heap := h, toks := tk } Q) E s₂) E { s with heap := h, toks := tk })
    (done : ∀ m₁ nx h tk, J n m₁ nx → Fr h₀ env.locals h (fun z => if vars.contains z then m₁ z else m₀ z) → News h₀ env.locals h nx → Q .next { s with heap := h, toks := tk }) :
    TurnsAt prog w A h₀ env target body Q E (.ref I) s := by
  have hIfp : I ∈ fp := W.sub I (by simp)
  refine ⟨I, fp, [I], n, P, Md, St, m₀, news, fun i m nx => MapOff vars m₀ m ∧ J i m nx, rfl, W, hLf, fun b hb => (List.mem_singleton.mp hb) ▸ hI₀, fun p hp h => hnw p hp (List.mem_singleton.mp h), hst, F, N, ⟨fun _ _ => rfl, hj⟩, ?_, ?_⟩
  · rintro i v m₁ news₁ hh' tk' own hin hP ⟨hmo, hJ⟩ hoff hown hownH hmem hst' F₁ N₁
    obtain ⟨oI, heI⟩ := hob _ _ hst'
    have hIo : (I, oI) ∈ own := hmem I hIfp hI₀ oI heI
    have N₂ : News h₀ env.locals hh' ((I, oI) :: news₁) := fun p hp => by
      rcases List.mem_cons.mp hp with rfl | hp
      · exact N₁ _ (List.mem_append_left _ hIo)
      · exact N₁ _ (List.mem_append_right _ hp)
    refine wpAny_mono (turn i v m₁ news₁ hh' tk' oI hin hP (fun p hp e => hoff p hp (by simp [e])) hJ (hmo.fr F₁) N₂) (fun _ s₂ h₂ => wpAny_mono h₂ (fun f s₂ p => ?_) fun _ _ e => e) fun _ _ e => e
    have fin : LEnd h₀ env.locals vars m₀ (J (i + 1)) I oI { s with heap := hh', toks := tk' } s₂ → LoopStepU h₀ env.locals [I] own (fun m nx => MapOff vars m₀ m ∧ J (i + 1) m nx) { s with heap := hh', toks := tk' } .next s₂ := by
      rintro ⟨h', tk, m', news', nx, e, F', N', hv', hn, ho, ha, hm⟩
      refine ⟨rfl, h', tk, m', nx, e, F', fun p hp => ?_, fun p hp hq => ha p hp (List.mem_singleton.mp hq), hv', hm⟩
      rcases List.mem_append.mp hp with hp | hp
      · obtain ⟨b, o⟩ := p
        have e1 : hh'.get? b = some o := hownH _ hp
        rcases hK b (hown _ hp) with rfl | ⟨o', ho'⟩
        · have : oI = o := Option.some.inj (heI.symm.trans e1)
          subst this
          exact N' _ ho
        · rcases hJK _ _ _ hJ _ ho' with q | q
          · have : o' = o := Option.some.inj ((N₁ _ (List.mem_append_right _ q)).1.symm.trans e1)
            subst this
            rcases hJK _ _ _ hm _ ho' with q' | q'
            · exact N' _ (hn _ q')
            · rw [(N₁ _ (List.mem_append_left _ hp)).2.2] at q'; cases q'
          · rw [(N₁ _ (List.mem_append_left _ hp)).2.2] at q; cases q
      · exact N' _ (hn _ hp)
    cases f with
    | ret v => exact p
    | brk => exact p
    | next => exact fin p
    | cont => exact fin p
  · rintro h' tk m' news' F' N' _ hJ
    exact done m' news' h' tk hJ.2 (hJ.1.fr F') N'

/-- over a list -/
theorem turnsL {x : Str} {px : Pos} {l : Addr} {ol : Obj} {vs : List Value} {e : Nat} {m₀ : Str → Option Value} {news : List (Addr × Obj)} (vars : List Str) (J : Nat → (Str → Option Value) → List (Addr × Obj) → Prop)
    (hh : A.handled = none) (F : Fr h₀ env.locals s.heap m₀) (N : News h₀ env.locals s.heap news) (hc : ol.cls = .type "list") (hd : ol.data = .seq vs.toArray e)
    (hL : l ≠ env.locals) (hJK : ∀ i m nx, J i m nx → (l, ol) ∈ nx ∨ h₀.get? l = some ol) (hj : J 0 m₀ news)
    (turn : ∀ (i : Nat) v m₁ nx h tk I oI, vs[i]? = some v → (∀ p ∈ news, p.1 < I) → (∀ p ∈ nx, p.1 ≠ I) → J i m₁ nx → Fr h₀ env.locals h (fun z => if vars.contains z then m₁ z else m₀ z) → News h₀ env.locals h ((I, oI) :: nx) →
      wpAny (model prog w) A (assign (.Name x px) env v) (fun _ s₂ => wpAny (model prog w) A (execs body env) (LPost h₀ env.locals vars m₀ (J (i + 1)) I oI { s with heap := h, toks := tk } Q) E s₂) E { s with heap := h, toks := tk })
    (done : ∀ m₁ nx h tk, J vs.length m₁ nx → Fr h₀ env.locals h (fun z => if vars.contains z then m₁ z else m₀ z) → News h₀ env.locals h nx → Q .next { s with heap := h, toks := tk }) :
    wpAny (model prog w) A (pyIter (.ref l)) (fun it s₂ => TurnsAt prog w A h₀ env (.Name x px) body Q E it s₂) E s := by
  have hls : s.heap.IsList l vs.toArray := ⟨ol, (hJK _ _ _ hj).elim (fun h => (N _ h).1) (fun h => F.keep _ _ h), hc, e, hd⟩
  have hlt : l < s.heap.objs.size := by obtain ⟨o, ho, _⟩ := hls; exact Heap.lt_size ho
  have hne : l ≠ s.heap.objs.size := Nat.ne_of_lt hlt
  refine wpAny_pyIter_list hls ?_
  have W := Walks.list (prog := prog) (w := w) hh s.heap.objs.size l hne vs.toArray
  have hlen : vs.toArray.size = vs.length := by simp
  rw [hlen] at W
  refine turns_core vars J [(l, ol)] (KTurns.ofWalks W fun i v s Q E st q => wpAny_pure q) (fun b hb => ?_) (fun i m nx hJ p hp => by rw [List.mem_singleton.mp hp]; exact hJK i m nx hJ) (fun i h st => ?_) ?_ (next_is_new F) (fun p hp => Nat.ne_of_lt (Heap.lt_size (N p hp).1))
    ⟨⟨_, Heap.get?_push_size _ rfl, rfl, rfl⟩, hls.at fun o e => Heap.get?_push_of_some _ e⟩ (F.push _) (fun p hp => ⟨Heap.get?_push_of_some _ (N p hp).1, (N p hp).2⟩) hj ?_ done
  · have : b = s.heap.objs.size ∨ b = l := by simpa using hb
    exact this.imp id fun h => ⟨ol, by simp [h]⟩
  · obtain ⟨⟨o, ho, _⟩, _⟩ := st
    exact ⟨o, ho⟩
  · intro hm
    have : env.locals = s.heap.objs.size ∨ env.locals = l := by simpa using hm
    rcases this with e | e
    · exact absurd F.ns.lt (e ▸ Nat.lt_irrefl _)
    · exact hL e.symm
  · intro i v m₁ nx h tk oI hi hP off hJ F₁ N₁
    exact turn i v m₁ nx h tk _ oI (by simpa using hP) (fun p hp => Heap.lt_size (N p hp).1) off hJ F₁ N₁
/-- over range(n) -/
theorem turnsR {x : Str} {px : Pos} {r : Addr} {a₀ b₀ : Int} {t₀ u₀ v₀ : Tok} {n : Nat} {m₀ : Str → Option Value} {news : List (Addr × Obj)} (vars : List Str) (J : Nat → (Str → Option Value) → List (Addr × Obj) → Prop)
    (hh : A.handled = none) (hr : IsRange s.heap r a₀ b₀ 1 t₀ u₀ v₀) (hsmall : Builtin.Range.small a₀ b₀ 1 = true) (hn : Builtin.Range.rangeSize a₀ b₀ 1 = (n : Int)) (F : Fr h₀ env.locals s.heap m₀) (N : News h₀ env.locals s.heap news) (hj : J 0 m₀ news)
    (turn : ∀ (i : Nat) t m₁ nx h tk I oI, i < n → (∀ p ∈ news, p.1 < I) → (∀ p ∈ nx, p.1 ≠ I) → J i m₁ nx → Fr h₀ env.locals h (fun z => if vars.contains z then m₁ z else m₀ z) → News h₀ env.locals h ((I, oI) :: nx) →
      wpAny (model prog w) A (assign (.Name x px) env (.int (a₀ + (i : Int)) t)) (fun _ s₂ => wpAny (model prog w) A (execs body env) (LPost h₀ env.locals vars m₀ (J (i + 1)) I oI { s with heap := h, toks := tk } Q) E s₂) E { s with heap := h, toks := tk })
    (done : ∀ m₁ nx h tk, J n m₁ nx → Fr h₀ env.locals h (fun z => if vars.contains z then m₁ z else m₀ z) → News h₀ env.locals h nx → Q .next { s with heap := h, toks := tk }) :
    wpAny (model prog w) A (pyIter (.ref r)) (fun it s₂ => TurnsAt prog w A h₀ env (.Name x px) body Q E it s₂) E s := by
  refine wpAny_pyIter_range hr hsmall ?_
  have W : Walks prog w A s.heap.objs.size [s.heap.objs.size] [s.heap.objs.size] n (fun i v => i < n ∧ ∃ t, v = .int (a₀ + i * 1) t)
      (fun i h => IsRangeIter h s.heap.objs.size (a₀ + (i : Nat) * 1) ((n : Int) - (i : Nat)) 1) := (Walks.range hh _ a₀ 1 n).bound
  refine turns_core vars J [] (KTurns.ofWalks W fun i v s Q E st q => wpAny_pure q) (fun b hb => .inl (by simpa using hb)) (fun i m nx hJ p hp => by cases hp) (fun i h st => ⟨_, st⟩) ?_ (next_is_new F) (fun p hp => Nat.ne_of_lt (Heap.lt_size (N p hp).1))
    (by show IsRangeIter _ _ _ _ _; rw [hn]; simpa using Heap.get?_push_size _ rfl) (F.push _) (fun p hp => ⟨Heap.get?_push_of_some _ (N p hp).1, (N p hp).2⟩) hj ?_ done
  · intro hm
    exact absurd F.ns.lt ((List.mem_singleton.mp hm) ▸ Nat.lt_irrefl _)
  · rintro i v m₁ nx h tk oI hi ⟨_, t, rfl⟩ off hJ F₁ N₁
    have e1 : a₀ + (i : Int) * 1 = a₀ + (i : Int) := by omega
    rw [e1]
    exact turn i t m₁ nx h tk _ oI hi (fun p hp => Heap.lt_size (N p hp).1) off hJ F₁ N₁
end
end Mine

namespace Mine
/-- one node of the sorter -/
structure Nd where
  x : Addr
  l : Addr
  d : Addr
  t : Tok
  tn : Tok
  np : Int
  su : List Value
  e : Nat
abbrev Nd.ox (q : Nd) (i : Nat) : Obj := nodeObj q.d (i : Int) q.t q.np q.tn q.l
abbrev Nd.ol (q : Nd) : Obj := W.listOf q.su.toArray q.e
noncomputable def reg (f : Nat → Nd) (n : Nat) : List (Addr × Obj) := (List.range n).flatMap fun i => [((f i).x, (f i).ox i), ((f i).l, (f i).ol), ((f i).d, dictOf [] 0)]
noncomputable def regO (f : Nat → Nd) (n i : Nat) : List (Addr × Obj) := ((List.range n).filter (· ≠ i)).flatMap fun i => [((f i).x, (f i).ox i), ((f i).l, (f i).ol), ((f i).d, dictOf [] 0)]
theorem mem_reg {f : Nat → Nd} {n : Nat} {p : Addr × Obj} : p ∈ reg f n ↔ ∃ i, i < n ∧ (p = ((f i).x, (f i).ox i) ∨ p = ((f i).l, (f i).ol) ∨ p = ((f i).d, dictOf [] 0)) := by
  simp [reg, List.mem_flatMap]
theorem mem_regO {f : Nat → Nd} {n j : Nat} {p : Addr × Obj} : p ∈ regO f n j ↔ ∃ i, i < n ∧ i ≠ j ∧ (p = ((f i).x, (f i).ox i) ∨ p = ((f i).l, (f i).ol) ∨ p = ((f i).d, dictOf [] 0)) := by
  simp [regO, List.mem_flatMap, and_assoc]
/-- all the addresses of the nodes are apart -/
structure Apart (f : Nat → Nd) (n : Nat) : Prop where
  xx : ∀ i j, i < n → j < n → i ≠ j → (f i).x ≠ (f j).x
  ll : ∀ i j, i < n → j < n → i ≠ j → (f i).l ≠ (f j).l
  xl : ∀ i j, i < n → j < n → (f i).x ≠ (f j).l
  xd : ∀ i j, i < n → j < n → (f i).x ≠ (f j).d
  ld : ∀ i j, i < n → j < n → (f i).l ≠ (f j).d
/-- an address that is no node's -/
noncomputable def Off (f : Nat → Nd) (n : Nat) (a : Addr) : Prop := ∀ i, i < n → a ≠ (f i).x ∧ a ≠ (f i).l ∧ a ≠ (f i).d
theorem Off.all {f : Nat → Nd} {n : Nat} {a : Addr} (h : Off f n a) : ∀ p ∈ reg f n, p.1 ≠ a := fun p hp => by
  obtain ⟨i, hi, rfl | rfl | rfl⟩ := mem_reg.mp hp
  · exact Ne.symm (h i hi).1
  · exact Ne.symm (h i hi).2.1
  · exact Ne.symm (h i hi).2.2
theorem Off.allO {f : Nat → Nd} {n j : Nat} {a : Addr} (h : Off f n a) : ∀ p ∈ regO f n j, p.1 ≠ a := fun p hp => by
  obtain ⟨i, hi, _, rfl | rfl | rfl⟩ := mem_regO.mp hp
  · exact Ne.symm (h i hi).1
  · exact Ne.symm (h i hi).2.1
  · exact Ne.symm (h i hi).2.2
theorem Apart.offx {f : Nat → Nd} {n i : Nat} (h : Apart f n) (hi : i < n) : ∀ p ∈ regO f n i, p.1 ≠ (f i).x := fun p hp => by
  obtain ⟨j, hj, hne, rfl | rfl | rfl⟩ := mem_regO.mp hp
  · exact h.xx j i hj hi hne
  · exact Ne.symm (h.xl i j hi hj)
  · exact Ne.symm (h.xd i j hi hj)
theorem Apart.offl {f : Nat → Nd} {n i : Nat} (h : Apart f n) (hi : i < n) : ∀ p ∈ regO f n i, p.1 ≠ (f i).l := fun p hp => by
  obtain ⟨j, hj, hne, rfl | rfl | rfl⟩ := mem_regO.mp hp
  · exact h.xl j i hj hi
  · exact h.ll j i hj hi hne
  · exact Ne.symm (h.ld i j hi hj)
/-- the same addresses -/
noncomputable def SameA (n : Nat) (f f' : Nat → Nd) : Prop := ∀ i, i < n → (f' i).x = (f i).x ∧ (f' i).l = (f i).l ∧ (f' i).d = (f i).d
theorem SameA.refl {n : Nat} {f : Nat → Nd} : SameA n f f := fun _ _ => ⟨rfl, rfl, rfl⟩
theorem SameA.trans {n : Nat} {f g h : Nat → Nd} (a : SameA n f g) (b : SameA n g h) : SameA n f h := fun i hi => ⟨(b i hi).1.trans (a i hi).1, (b i hi).2.1.trans (a i hi).2.1, (b i hi).2.2.trans (a i hi).2.2⟩
theorem SameA.apart {n : Nat} {f f' : Nat → Nd} (s : SameA n f f') (h : Apart f n) : Apart f' n :=
  ⟨fun i j hi hj e => by rw [(s i hi).1, (s j hj).1]; exact h.xx i j hi hj e, fun i j hi hj e => by rw [(s i hi).2.1, (s j hj).2.1]; exact h.ll i j hi hj e,
   fun i j hi hj => by rw [(s i hi).1, (s j hj).2.1]; exact h.xl i j hi hj, fun i j hi hj => by rw [(s i hi).1, (s j hj).2.2]; exact h.xd i j hi hj, fun i j hi hj => by rw [(s i hi).2.1, (s j hj).2.2]; exact h.ld i j hi hj⟩
theorem SameA.off {n : Nat} {f f' : Nat → Nd} {a : Addr} (s : SameA n f f') (h : Off f n a) : Off f' n a := fun i hi => by rw [(s i hi).1, (s i hi).2.1, (s i hi).2.2]; exact h i hi
/-- one node changed -/
noncomputable def upd (f : Nat → Nd) (i : Nat) (q : Nd) : Nat → Nd := fun j => if j = i then q else f j
theorem upd_self {f : Nat → Nd} {i : Nat} {q : Nd} : upd f i q i = q := by simp [upd]
theorem upd_ne {f : Nat → Nd} {i j : Nat} {q : Nd} (h : j ≠ i) : upd f i q j = f j := by simp [upd, h]
theorem SameA.upd {n : Nat} {f : Nat → Nd} {i : Nat} {q : Nd} (hx : q.x = (f i).x) (hl : q.l = (f i).l) (hd : q.d = (f i).d) : SameA n f (upd f i q) := fun j _ => by
  by_cases h : j = i
  · subst h; rw [upd_self]; exact ⟨hx, hl, hd⟩
  · rw [upd_ne h]; exact ⟨rfl, rfl, rfl⟩
section
variable {h₀ h : Heap} {L : Addr} {news : List (Addr × Obj)}
theorem subN {a b : List (Addr × Obj)} (N : News h₀ L h b) (hs : ∀ p ∈ a, p ∈ b) : News h₀ L h a := fun p hp => N p (hs p hp)
/-- take out node i -/
theorem reg_open {f : Nat → Nd} {n i : Nat} {pre rest : List (Addr × Obj)} (hi : i < n) (N : News h₀ L h (pre ++ (reg f n ++ rest))) :
    News h₀ L h (((f i).x, (f i).ox i) :: ((f i).l, (f i).ol) :: ((f i).d, dictOf [] 0) :: (pre ++ (regO f n i ++ rest))) := subN N fun p hp => by
  simp only [List.mem_cons, List.mem_append] at hp ⊢
  rcases hp with rfl | rfl | rfl | hp | hp | hp
  · exact .inr (.inl (mem_reg.mpr ⟨i, hi, .inl rfl⟩))
  · exact .inr (.inl (mem_reg.mpr ⟨i, hi, .inr (.inl rfl)⟩))
  · exact .inr (.inl (mem_reg.mpr ⟨i, hi, .inr (.inr rfl)⟩))
  · exact .inl hp
  · obtain ⟨j, hj, _, e⟩ := mem_regO.mp hp
    exact .inr (.inl (mem_reg.mpr ⟨j, hj, e⟩))
  · exact .inr (.inr hp)
theorem reg_shut {f : Nat → Nd} {n i : Nat} {pre rest : List (Addr × Obj)} (q : Nd) (N : News h₀ L h ((q.x, q.ox i) :: (q.l, q.ol) :: (q.d, dictOf [] 0) :: (pre ++ (regO f n i ++ rest)))) :
    News h₀ L h (pre ++ (reg (upd f i q) n ++ rest)) := subN N fun p hp => by
  simp only [List.mem_append, List.mem_cons] at hp ⊢
  rcases hp with hp | hp | hp
  · exact .inr (.inr (.inr (.inl hp)))
  · obtain ⟨j, hj, e⟩ := mem_reg.mp hp
    by_cases hji : j = i
    · subst hji
      rw [upd_self] at e
      rcases e with rfl | rfl | rfl
      · exact .inl rfl
      · exact .inr (.inl rfl)
      · exact .inr (.inr (.inl rfl))
    · rw [upd_ne hji] at e
      exact .inr (.inr (.inr (.inr (.inl (mem_regO.mpr ⟨j, hj, hji, e⟩)))))
  · exact .inr (.inr (.inr (.inr (.inr hp))))
end
theorem off_same {f f' : Nat → Nd} {n : Nat} {I : Addr} {pre rest : List (Addr × Obj)} (hs : SameA n f f') (h : ∀ p ∈ pre ++ (reg f n ++ rest), p.1 ≠ I) : ∀ p ∈ pre ++ (reg f' n ++ rest), p.1 ≠ I := fun p hp => by
  simp only [List.mem_append] at hp h
  rcases hp with hp | hp | hp
  · exact h p (.inl hp)
  · obtain ⟨j, hj, rfl | rfl | rfl⟩ := mem_reg.mp hp
    · show (f' j).x ≠ I
      rw [(hs j hj).1]; exact h _ (.inr (.inl (mem_reg.mpr ⟨j, hj, .inl rfl⟩)))
    · show (f' j).l ≠ I
      rw [(hs j hj).2.1]; exact h _ (.inr (.inl (mem_reg.mpr ⟨j, hj, .inr (.inl rfl)⟩)))
    · show (f' j).d ≠ I
      rw [(hs j hj).2.2]; exact h _ (.inr (.inl (mem_reg.mpr ⟨j, hj, .inr (.inr rfl)⟩)))
  · exact h p (.inr (.inr hp))
theorem off_new {f : Nat → Nd} {n : Nat} {q : Nd} {a : Addr} (o : Off f n a) (h1 : a ≠ q.x) (h2 : a ≠ q.l) (h3 : a ≠ q.d) : Off (upd f n q) (n + 1) a := fun i hi => by
  by_cases e : i = n
  · subst e; rw [upd_self]; exact ⟨h1, h2, h3⟩
  · rw [upd_ne e]; exact o i (by lia)
theorem apart_new {f : Nat → Nd} {n : Nat} {q : Nd} (ap : Apart f n) (hl : ∀ p ∈ reg f n, p.1 < q.d) (h1 : q.d < q.x) (h2 : q.x < q.l) : Apart (upd f n q) (n + 1) := by
  have hx : ∀ i, i < n → (f i).x < q.d := fun i hi => hl _ (mem_reg.mpr ⟨i, hi, .inl rfl⟩)
  have hL : ∀ i, i < n → (f i).l < q.d := fun i hi => hl _ (mem_reg.mpr ⟨i, hi, .inr (.inl rfl)⟩)
  have hd : ∀ i, i < n → (f i).d < q.d := fun i hi => hl _ (mem_reg.mpr ⟨i, hi, .inr (.inr rfl)⟩)
  have l2 : q.d < q.l := Nat.lt_trans h1 h2
  refine ⟨fun i j hi hj hne => ?_, fun i j hi hj hne => ?_, fun i j hi hj => ?_, fun i j hi hj => ?_, fun i j hi hj => ?_⟩ <;>
  · by_cases ei : i = n <;> by_cases ej : j = n
    · subst ei; subst ej
      first
      | exact absurd rfl hne
      | (rw [upd_self]; first | exact Nat.ne_of_lt h2 | exact Nat.ne_of_gt h1 | exact Nat.ne_of_gt l2)
    · subst ei; rw [upd_self, upd_ne ej]
      have a := hx j (by lia); have b := hL j (by lia); have c := hd j (by lia)
      first
      | exact Nat.ne_of_gt (Nat.lt_trans a h1)
      | exact Nat.ne_of_gt (Nat.lt_trans b l2)
      | exact Nat.ne_of_gt (Nat.lt_trans b h1)
      | exact Nat.ne_of_gt (Nat.lt_trans c h1)
      | exact Nat.ne_of_gt (Nat.lt_trans c l2)
    · subst ej; rw [upd_self, upd_ne ei]
      have a := hx i (by lia); have b := hL i (by lia); have c := hd i (by lia)
      first
      | exact Nat.ne_of_lt (Nat.lt_trans a h1)
      | exact Nat.ne_of_lt (Nat.lt_trans b l2)
      | exact Nat.ne_of_lt (Nat.lt_trans a l2)
      | exact Nat.ne_of_lt a
      | exact Nat.ne_of_lt b
    · rw [upd_ne ei, upd_ne ej]
      first
      | exact ap.xx i j (by lia) (by lia) hne
      | exact ap.ll i j (by lia) (by lia) hne
      | exact ap.xl i j (by lia) (by lia)
      | exact ap.xd i j (by lia) (by lia)
      | exact ap.ld i j (by lia) (by lia)
theorem reg_new {h₀ h : Heap} {L : Addr} {f : Nat → Nd} {n : Nat} {pre rest : List (Addr × Obj)} (q : Nd) (N : News h₀ L h ((q.l, q.ol) :: (q.x, q.ox n) :: (q.d, dictOf [] 0) :: (pre ++ (reg f n ++ rest)))) :
    News h₀ L h (pre ++ (reg (upd f n q) (n + 1) ++ rest)) := subN N fun p hp => by
  simp only [List.mem_append, List.mem_cons] at hp ⊢
  rcases hp with hp | hp | hp
  · exact .inr (.inr (.inr (.inl hp)))
  · obtain ⟨j, hj, e⟩ := mem_reg.mp hp
    by_cases hji : j = n
    · subst hji
      rw [upd_self] at e
      rcases e with rfl | rfl | rfl
      · exact .inr (.inl rfl)
      · exact .inl rfl
      · exact .inr (.inr (.inl rfl))
    · rw [upd_ne hji] at e
      exact .inr (.inr (.inr (.inr (.inl (mem_reg.mpr ⟨j, by lia, e⟩)))))
  · exact .inr (.inr (.inr (.inr (.inr hp))))
theorem notin_take {l : List Nat} (hn : l.Nodup) {k j : Nat} (h : l[k]? = some j) : j ∉ l.take k := by
  intro hm
  have h1 : j ∈ l.drop k := List.mem_iff_getElem?.mpr ⟨0, by simpa using h⟩
  rw [← List.take_append_drop k l, List.nodup_append] at hn
  exact hn.2.2 j hm j h1 rfl
theorem offR {I a : Addr} {o o' : Obj} {pre post : List (Addr × Obj)} (h : ∀ p ∈ pre ++ (a, o) :: post, p.1 ≠ I) : ∀ p ∈ pre ++ (a, o') :: post, p.1 ≠ I := fun p hp => by
  rcases List.mem_append.mp hp with hp | hp
  · exact h p (List.mem_append_left _ hp)
  · rcases List.mem_cons.mp hp with rfl | hp
    · exact h (a, o) (List.mem_append_right _ (.head _))
    · exact h p (List.mem_append_right _ (.tail _ hp))
theorem offR2 {I a : Addr} {o o' : Obj} {pre post : List (Addr × Obj)} (h : ∀ p ∈ pre ++ (a, o) :: post, p.1 ≠ I) : ∀ p ∈ pre ++ (a, o') :: post, p.1 ≠ I := offR h
theorem dr3 {α : Type} {a b c d e : α} {r : List α} : ∀ p ∈ a :: b :: c :: e :: r, p ∈ a :: b :: c :: d :: e :: r := by grind
theorem dr3' {α : Type} {a b c d : α} {r : List α} : ∀ p ∈ a :: b :: c :: r, p ∈ a :: b :: c :: d :: r := by grind
theorem mvB3 {α : Type} {a b c d : α} {r : List α} : ∀ p ∈ b :: c :: d :: a :: r, p ∈ a :: b :: c :: d :: r := by grind
theorem mvF3 {α : Type} {a b c d : α} {r : List α} : ∀ p ∈ a :: b :: c :: d :: r, p ∈ b :: c :: d :: a :: r := by grind
/-- the dict of the nodes -/
noncomputable def kvs (f : Nat → Nd) (n : Nat) : List (Int × Value) := (List.range n).map fun (i : Nat) => ((i : Int), .ref (f i).x)
theorem kvs_len {f : Nat → Nd} {n : Nat} : (kvs f n).length = n := by simp [kvs]
theorem kvs_same {f f' : Nat → Nd} {n : Nat} (s : SameA n f f') : kvs f' n = kvs f n := by
  unfold kvs
  apply List.map_congr_left
  intro i hi
  rw [(s i (List.mem_range.mp hi)).1]
theorem kvs_at {f : Nat → Nd} {n i : Nat} (hi : i < n) : valueAt (kvs f n) (i : Int) = some (.ref (f i).x) := by
  unfold valueAt kvs
  rw [List.find?_map]
  have : (List.range n).find? ((fun kv : Int × Value => decide (kv.1 = (i : Int))) ∘ fun (i : Nat) => ((i : Int), Value.ref (f i).x)) = some i := by
    rw [List.find?_eq_some_iff_getElem]
    refine ⟨by simp, i, by simpa using hi, by simp, fun j hj => ?_⟩
    simp; lia
  rw [this]; rfl
theorem kvs_none {f : Nat → Nd} {n : Nat} : valueAt (kvs f n) (n : Int) = none := by
  unfold valueAt kvs
  rw [List.find?_map]
  have : (List.range n).find? ((fun kv : Int × Value => decide (kv.1 = (n : Int))) ∘ fun (i : Nat) => ((i : Int), Value.ref (f i).x)) = none := by
    rw [List.find?_eq_none]
    intro j hj
    have := List.mem_range.mp hj
    simp; lia
  rw [this]; rfl
theorem kvs_stored {f : Nat → Nd} {n : Nat} {q : Nd} : stored (kvs f n) (n : Int) (.ref q.x) = kvs (upd f n q) (n + 1) := by
  have hn : ((kvs f n).any fun kv => decide (kv.1 = (n : Int))) = false := by
    rw [List.any_eq_false]
    intro p hp
    obtain ⟨j, hj, rfl⟩ := List.mem_map.mp hp
    have := List.mem_range.mp hj
    simp; lia
  unfold stored
  rw [hn]
  simp only [Bool.false_eq_true, if_false]
  show _ = (List.range (n + 1)).map _
  rw [List.range_succ, List.map_append, List.map_singleton, upd_self]
  congr 1
  unfold kvs
  apply List.map_congr_left
  intro i hi
  have := List.mem_range.mp hi
  rw [upd_ne (by lia)]
end Mine

namespace Mine
open LCg
theorem stored_range {n : Nat} {g : Nat → Value} {v : Value} : stored ((List.range n).map fun (k : Nat) => ((k : Int), g k)) (n : Int) v = (List.range (n + 1)).map fun (k : Nat) => ((k : Int), if k = n then v else g k) := by
  have hn : (((List.range n).map fun (k : Nat) => ((k : Int), g k)).any fun kv => decide (kv.1 = (n : Int))) = false := by
    rw [List.any_eq_false]
    intro p hp
    obtain ⟨j, hj, rfl⟩ := List.mem_map.mp hp
    have := List.mem_range.mp hj
    simp; omega
  unfold stored
  rw [hn]
  simp only [Bool.false_eq_true, if_false]
  rw [List.range_succ, List.map_append, List.map_singleton, if_pos rfl]
  congr 1
  apply List.map_congr_left
  intro i hi
  have := List.mem_range.mp hi
  rw [if_neg (by omega)]
section
variable {prog : Program} {w : World} {A : Around} {E : Value → Shared → Prop} {s : Shared} {h₀ : Heap} {L : Addr} {m : Str → Option Value} {env : Env}
/-- what a turn of a dict comprehension leaves -/
noncomputable def DcEnd (h₀ : Heap) (L : Addr) (m : Str → Option Value) (s₁ : Shared) (I : Addr) (oI : Obj) (C : Addr) (oC : Obj) (D : Addr) (oD : Obj) (rest : Int → Value → List (Addr × Obj) → Prop) (kv vv : Value) (s₂ : Shared) : Prop :=
  ∃ k t h' tk news', kv = .int k t ∧ s₂ = { s₁ with heap := h', toks := tk } ∧ Fr h₀ L h' m ∧ News h₀ L h' ((I, oI) :: (C, oC) :: (D, oD) :: news') ∧ (∀ p ∈ news', p.1 ≠ I ∧ p.1 ≠ C ∧ p.1 ≠ D) ∧ rest k vv news'

theorem block_D {kx vx iter : Expr} {x : Str} {px : Pos} {scope : Scope} {cl : List (Str × Addr)} {pos : Pos} {Q : Value → Shared → Prop} {s₂ : Shared} {I : Addr} {a : Int} {n : Nat} {news : List (Addr × Obj)} (J : Nat → List (Int × Value) → List (Addr × Obj) → Prop)
    (hcell : ∀ y ∈ scope.names, y.2 ≠ .cell) (hkind : scope.kind = .function) (hx : scope.names.lookup x = some .local) (hh : A.handled = none)
    (hIit : IsRangeIter s₂.heap I (a + (0 : Nat) * 1) ((n : Int) - (0 : Nat)) 1) (F : Fr h₀ L s₂.heap m) (N : News h₀ L s₂.heap news) (hIL : L ≠ I) (hI₀ : h₀.get? I = none) (offI : ∀ p ∈ news, p.1 ≠ I) (hsz : n ≤ sizeLine) (hj : J 0 [] news)
    (hlen : ∀ i kvs nw, J i kvs nw → kvs.length ≤ i)
    (turn : ∀ i kvs nw t I oI C oC D oD m₂ h tk (E' : Value → Shared → Prop), i < n → J i kvs nw → oD.IsDictOf (PySem.intKind prog w) kvs → NsObj oC m₂ → m₂ x = some (.int (a + (i : Int)) t) → Fr h₀ L h m → News h₀ L h ((I, oI) :: (C, oC) :: (D, oD) :: nw) → (∀ p ∈ nw, p.1 ≠ I ∧ p.1 ≠ C ∧ p.1 ≠ D) → ((@Ne Nat I C) ∧ (@Ne Nat I D) ∧ (@Ne Nat C D)) →
        wpAny (model prog w) A (eval kx (compEnvC scope cl C env)) (fun kv s₄ => wpAny (model prog w) A (eval vx (compEnvC scope cl C env)) (fun vv s₅ => DcEnd h₀ L m { s₂ with heap := h, toks := tk } I oI C oC D oD (fun k y nw' => J (i + 1) (stored kvs k y) nw') kv vv s₅) E' s₄) E' { s₂ with heap := h, toks := tk })
    (fin : ∀ D oD kvs nw h tk, J n kvs nw → oD.IsDictOf (PySem.intKind prog w) kvs → (D == sysModules) = false → (∀ p ∈ nw, p.1 ≠ D) → Fr h₀ L h m → News h₀ L h ((D, oD) :: nw) → Q (.ref D) { s₂ with heap := h, toks := tk })
    (hbig : h₀.NoLimit) :
    wpAny (model prog w) A newDict (fun acc s₃ => wpAny (model prog w) A (newFunctionEnv scope env.globals cl [] env.qual none .none (some env)) (fun cenv s₄ =>
      codeAny (model prog w) A (.compStart (.DictComp kx vx [⟨.Name x px, iter, [], 0⟩] scope pos) 0 (.ref I) acc { cenv with scope := relabel scope env }) (compPost (model prog w) A E none Q acc cenv.locals) s₄) E s₃) E s₂ := by
  have W := range_walks (prog := prog) (w := w) (A := A) (I := I) hh a n
  refine wpAny_newObj_type (wpAny_newFunctionEnv hcell (by intro y hy; simp at hy) (fun h₁ hns₁ hsb₁ => ?_) hkind)
  dsimp only at hns₁ hsb₁ ⊢
  have hnew : (s₂.heap.push { cls := .type "dict", dict := none, data := .dict #[] }).DictOf (PySem.intKind prog w) s₂.heap.objs.size [] := Heap.DictOf.new s₂.heap
  generalize hH2 : s₂.heap.push { cls := .type "dict", dict := none, data := .dict #[] } = H2 at hns₁ hsb₁ hnew ⊢
  have hC : H2.objs.size = s₂.heap.objs.size + 1 := by rw [← hH2, Heap.size_push]
  have hDC : s₂.heap.objs.size ≠ H2.objs.size := by rw [hC]; exact Nat.ne_of_lt (Nat.lt_succ_self _)
  have below : ∀ b, b < s₂.heap.objs.size → b ≠ H2.objs.size ∧ b ≠ s₂.heap.objs.size := fun b hb => ⟨by rw [hC]; exact Nat.ne_of_lt (Nat.lt_succ_of_lt hb), Nat.ne_of_lt hb⟩
  have hIlt : I < s₂.heap.objs.size := Heap.lt_size hIit
  have old : ∀ b o, s₂.heap.get? b = some o → h₁.get? b = some o := fun b o e => hsb₁.extBut b o (below b (Heap.lt_size e)).1 (Heap.get?_push_of_some _ (hH2 ▸ Heap.get?_push_of_some _ e))
  obtain ⟨oD0, hoD0, hoD0'⟩ := Heap.dictOf_iff.mp hnew
  have hacc : h₁.get? s₂.heap.objs.size = some oD0 := hsb₁.extBut _ _ hDC (Heap.get?_push_of_some _ hoD0)
  have hst₁ : IsRangeIter h₁ I (a + (0 : Nat) * 1) ((n : Int) - (0 : Nat)) 1 := old _ _ hIit
  have fresh₀ : ∀ a, s₂.heap.objs.size ≤ a → h₀.get? a = none := fun a ha => by
    cases e : h₀.get? a with
    | none => rfl
    | some o' => exact absurd (Heap.lt_size (F.keep a o' e)) (Nat.not_lt.mpr ha)
  have hD₀ : h₀.get? s₂.heap.objs.size = none := fresh₀ _ (Nat.le_refl _)
  have hC₀ : h₀.get? H2.objs.size = none := fresh₀ _ (by rw [hC]; exact Nat.le_succ _)
  have hLlt : L < s₂.heap.objs.size := F.ns.lt
  have hDL : s₂.heap.objs.size ≠ L := Ne.symm (below L hLlt).2
  have hCL : H2.objs.size ≠ L := Ne.symm (below L hLlt).1
  have hCI : I ≠ H2.objs.size := (below I hIlt).1
  have hDI : I ≠ s₂.heap.objs.size := (below I hIlt).2
  have hDm : (s₂.heap.objs.size == sysModules) = false := F.notModules (modules_low hbig)
  have off₀ : ∀ p ∈ news, p.1 ≠ I ∧ p.1 ≠ H2.objs.size ∧ p.1 ≠ s₂.heap.objs.size := fun p hp => ⟨offI p hp, (below _ (Heap.lt_size (N p hp).1)).1, (below _ (Heap.lt_size (N p hp).1)).2⟩
  have loop : ∀ s₃ : Shared, s₃ = { s₂ with heap := h₁, toks := s₂.toks + ([] : List (Str × Value)).length } →
      codeAny (model prog w) A (.compLoop (.DictComp kx vx [⟨.Name x px, iter, [], 0⟩] scope pos) 0 (.ref I) (.ref s₂.heap.objs.size) (compEnvC scope cl H2.objs.size env))
        (compPost (model prog w) A E none Q (.ref s₂.heap.objs.size) H2.objs.size) s₃ := by
    rintro s₃ rfl
    refine codeAny_compLoop_testsD
      (fun k s' => ∃ h' tk i kvs oD m' nw, s' = { s₂ with heap := h', toks := tk } ∧ i ≤ n ∧ k = n + 1 - i ∧ IsRangeIter h' I (a + (i : Nat) * 1) ((n : Int) - (i : Nat)) 1 ∧ Fr h₀ L h' m ∧ h'.Ns H2.objs.size m' ∧ News h₀ L h' ((s₂.heap.objs.size, oD) :: nw) ∧ oD.IsDictOf (PySem.intKind prog w) kvs ∧
        (∀ p ∈ nw, p.1 ≠ I ∧ p.1 ≠ H2.objs.size ∧ p.1 ≠ s₂.heap.objs.size) ∧ J i kvs nw) ?_ (n + 1)
      ⟨h₁, _, 0, [], oD0, _, news, rfl, Nat.zero_le _, rfl, hst₁, F.keeps old, hns₁, fun p hp => ?_, hoD0', off₀, hj⟩
    · rintro k s' ⟨h', tk, i, kvs, oD, m', nw, rfl, hi, rfl, hst', F', hn', N', hoD, off', hJ⟩
      by_cases hlt : i < n
      · refine W.item i _ _ _ hlt hst' fun v h₂ tk₂ hPv hst₂ hk₂ => ?_
        obtain ⟨tv, rfl⟩ := hPv
        refine wpAny_assign_Name (wpAny_storeName_local (lookup_relabel_local hx) (hn'.at' fun o e => hk₂ _ o (by simpa using Ne.symm hCI) e) (fun h₃ hn₃ hs₃ => ?_) (by simp [compEnvC, relabel, hkind]))
        refine wpAny_tests_nil ?_
        simp only [if_true]
        have hst₃ : IsRangeIter h₃ I (a + ((i + 1 : Nat) : Int) * 1) ((n : Int) - ((i + 1 : Nat) : Int)) 1 := W.frame _ _ _ hst₂ fun b hb o e => hs₃.extBut b o (fun q => by rw [List.mem_singleton.mp hb] at q; exact hCI q) e
        obtain ⟨oC, heC, hoC⟩ := ns_obj hn₃
        have F₃ : Fr h₀ L h₃ m := (fr_but F' hk₂ hIL hI₀).change hs₃ hCL hC₀
        have N₂ : News h₀ L h₂ ((s₂.heap.objs.size, oD) :: nw) := news_but N' hk₂ fun p hp => by
          rcases List.mem_cons.mp hp with rfl | hp
          · exact Ne.symm hDI
          · exact (off' p hp).1
        have N₃ : News h₀ L h₃ ((I, _) :: (H2.objs.size, oC) :: (s₂.heap.objs.size, oD) :: nw) := fun p hp => by
          rcases List.mem_cons.mp hp with rfl | hp
          · exact ⟨hst₃, Ne.symm hIL, hI₀⟩
          · rcases List.mem_cons.mp hp with rfl | hp
            · exact ⟨heC, hCL, hC₀⟩
            · have z := N₂ p hp
              refine ⟨hs₃.extBut _ _ ?_ z.1, z.2⟩
              rcases List.mem_cons.mp hp with rfl | hp
              · exact hDC
              · exact (off' p hp).2.1
        refine wpAny_mono (turn i kvs nw tv I _ H2.objs.size oC s₂.heap.objs.size oD _ h₃ _ _ hlt hJ hoD hoC (by simp) F₃ N₃ off' ⟨hCI, hDI, Ne.symm hDC⟩) (fun kv s₄ h₄ => wpAny_mono h₄ (fun vv s₅ h₅ => ?_) fun _ _ e => e) fun _ _ e => e
        obtain ⟨kk, kt, h₄, tk₄, nw₄, rfl, rfl, F₄, N₄, off₄, J₄⟩ := h₅
        have zI := (N₄ (I, _) List.mem_cons_self).1
        have zC := (N₄ (H2.objs.size, oC) (List.mem_cons_of_mem _ List.mem_cons_self)).1
        have zD := (N₄ (s₂.heap.objs.size, oD) (List.mem_cons_of_mem _ (List.mem_cons_of_mem _ List.mem_cons_self))).1
        have hkl := hlen _ _ _ hJ
        refine wpAny_dictSet_pairs (hsz := by omega) (k := kk) (intKind_is _ _ _ _) (Heap.dictOf_iff.mpr ⟨oD, zD, hoD⟩) fun h₅ hd₅ hs₅ => ?_
        obtain ⟨oD', hoD', hoD''⟩ := Heap.dictOf_iff.mp hd₅
        refine ⟨n + 1 - (i + 1), by omega, h₅, _, i + 1, _, oD', _, nw₄, rfl, hlt, rfl, hs₅.extBut _ _ hDI zI, F₄.change hs₅ hDL hD₀, (hoC.ns zC).sameBut hs₅ (Ne.symm hDC), fun p hp => ?_, hoD'', off₄, J₄⟩
        rcases List.mem_cons.mp hp with rfl | hp
        · exact ⟨hoD', hDL, hD₀⟩
        · have z := N₄ p (List.mem_cons_of_mem _ (List.mem_cons_of_mem _ (List.mem_cons_of_mem _ hp)))
          exact ⟨hs₅.extBut _ _ (off₄ p hp).2.2 z.1, z.2⟩
      · obtain rfl : i = n := Nat.le_antisymm hi (Nat.not_lt.mp hlt)
        refine W.done _ _ _ hst' fun h₂ tk₂ hk₂ => ?_
        have F₂ := fr_but F' hk₂ hIL hI₀
        have N₂ : News h₀ L h₂ ((s₂.heap.objs.size, oD) :: nw) := news_but N' hk₂ fun p hp => by
          rcases List.mem_cons.mp hp with rfl | hp
          · exact Ne.symm hDI
          · exact (off' p hp).1
        refine ⟨m', hn'.at' fun o e => hk₂ _ o (by simpa using Ne.symm hCI) e, fun h'' hs'' => fin _ oD kvs nw h'' _ hJ hoD hDm (fun p hp => (off' p hp).2.2) (F₂.change hs'' hCL hC₀) fun p hp => ?_⟩
        refine ⟨hs''.extBut _ _ ?_ (N₂ p hp).1, (N₂ p hp).2⟩
        rcases List.mem_cons.mp hp with rfl | hp
        · exact hDC
        · exact (off' p hp).2.1
    · rcases List.mem_cons.mp hp with rfl | hp
      · exact ⟨hacc, hDL, hD₀⟩
      · exact ⟨old _ _ (N p hp).1, (N p hp).2⟩
  exact codeAny_compStart_dict (loop _ rfl) (W.self 0 _ _ _ hst₁ (loop _ rfl))
theorem DictComp_R {kx vx iter : Expr} {x : Str} {px : Pos} {scope : Scope} {cl : List (Str × Addr)} {pos : Pos} {Q : Value → Shared → Prop} (J : Nat → List (Int × Value) → List (Addr × Obj) → Prop) (_F₀ : Fr h₀ L s.heap m)
    (hclos : closureFor scope env = pure cl) (hcell : ∀ y ∈ scope.names, y.2 ≠ .cell) (hkind : scope.kind = .function)
    (hnames : ∀ y ∈ scope.names, y.2 = .local → scope.names.lookup y.1 = some .local) (hx : scope.names.lookup x = some .local)
    (h : wpAny (model prog w) A (eval iter env) (fun xv s₁ => ∃ r a b t u v, ∃ n : Nat, ∃ news, xv = .ref r ∧ A.handled = none ∧ Fr h₀ L s₁.heap m ∧ News h₀ L s₁.heap news ∧ IsRange s₁.heap r a b 1 t u v ∧ Builtin.Range.small a b 1 = true ∧ Builtin.Range.rangeSize a b 1 = (n : Int) ∧ n ≤ sizeLine ∧ J 0 [] news ∧
      (∀ i kvs nw, J i kvs nw → kvs.length ≤ i) ∧
      (∀ i kvs nw t I oI C oC D oD m₂ h tk (E' : Value → Shared → Prop), i < n → J i kvs nw → oD.IsDictOf (PySem.intKind prog w) kvs → NsObj oC m₂ → m₂ x = some (.int (a + (i : Int)) t) → Fr h₀ L h m → News h₀ L h ((I, oI) :: (C, oC) :: (D, oD) :: nw) → (∀ p ∈ nw, p.1 ≠ I ∧ p.1 ≠ C ∧ p.1 ≠ D) → ((@Ne Nat I C) ∧ (@Ne Nat I D) ∧ (@Ne Nat C D)) →
        wpAny (model prog w) A (eval kx (compEnvC scope cl C env)) (fun kv s₄ => wpAny (model prog w) A (eval vx (compEnvC scope cl C env)) (fun vv s₅ => DcEnd h₀ L m { s₁ with heap := h, toks := tk } I oI C oC D oD (fun k y nw' => J (i + 1) (stored kvs k y) nw') kv vv s₅) E' s₄) E' { s₁ with heap := h, toks := tk }) ∧
      (∀ D oD kvs nw h tk, J n kvs nw → oD.IsDictOf (PySem.intKind prog w) kvs → (D == sysModules) = false → (∀ p ∈ nw, p.1 ≠ D) → Fr h₀ L h m → News h₀ L h ((D, oD) :: nw) → Q (.ref D) { s₁ with heap := h, toks := tk })) E s)
    (hbig : h₀.NoLimit)
    (hs : ∀ x, foldedSetIterable iter env x = pure x := by intro _; rfl) :
    wpAny (model prog w) A (eval (.DictComp kx vx [⟨.Name x px, iter, [], 0⟩] scope pos) env) Q E s := by
  rw [arm_eval_DictComp]
  refine wpAny_comprehension_free (use := none) rfl hs hclos hkind hnames (wpAny_mono h (fun xv s₁ h₁ => ?_) fun _ _ e => e)
  obtain ⟨r, a, b, t, u, v, n, news, rfl, hh, F₁, N₁, hr, hsm, hn, hsz, hj, hlen, turn, fin⟩ := h₁
  refine wpAny_pyIter_range hr hsm ?_
  exact block_D J hcell hkind hx hh (by show IsRangeIter _ _ _ _ _; rw [hn]; simpa using Heap.get?_push_size _ rfl) (F₁.push _) (N₁.grown fun _ _ e => Heap.get?_push_of_some _ e) (Nat.ne_of_lt F₁.ns.lt) (next_is_new F₁) (fun p hp => Nat.ne_of_lt (Heap.lt_size (N₁ p hp).1)) hsz hj hlen turn fin hbig
end
end Mine

namespace Mine
section
variable {w : World} {h₀ : Heap} {L : Addr} {m mg mb : Str → Option Value} {s : Shared} {mean : ExcName → Option Value} {R : Result → Shared → Prop}
theorem le11 {P : List Value → Prop} (h0 : P []) (h1 : ∀ a, P [a]) (h2 : ∀ a b, P [a, b]) (h3 : ∀ a b c, P [a, b, c]) (h4 : ∀ a b c d, P [a, b, c, d]) (h5 : ∀ a b c d e, P [a, b, c, d, e]) (h6 : ∀ a b c d e f, P [a, b, c, d, e, f])
    (h7 : ∀ a b c d e f g, P [a, b, c, d, e, f, g]) (h8 : ∀ a b c d e f g h, P [a, b, c, d, e, f, g, h]) (h9 : ∀ a b c d e f g h i, P [a, b, c, d, e, f, g, h, i]) (h10 : ∀ a b c d e f g h i j, P [a, b, c, d, e, f, g, h, i, j]) (h11 : ∀ a b c d e f g h i j k, P [a, b, c, d, e, f, g, h, i, j, k]) :
    ∀ vs : List Value, vs.length ≤ 11 → P vs
  | [], _ => h0
  | [a], _ => h1 a
  | [a, b], _ => h2 a b
  | [a, b, c], _ => h3 a b c
  | [a, b, c, d], _ => h4 a b c d
  | [a, b, c, d, e], _ => h5 a b c d e
  | [a, b, c, d, e, f], _ => h6 a b c d e f
  | [a, b, c, d, e, f, g], _ => h7 a b c d e f g
  | [a, b, c, d, e, f, g, h], _ => h8 a b c d e f g h
  | [a, b, c, d, e, f, g, h, i], _ => h9 a b c d e f g h i
  | [a, b, c, d, e, f, g, h, i, j], _ => h10 a b c d e f g h i j
  | [a, b, c, d, e, f, g, h, i, j, k], _ => h11 a b c d e f g h i j k
  | _ :: _ :: _ :: _ :: _ :: _ :: _ :: _ :: _ :: _ :: _ :: _ :: _, h => by simp at h
theorem add_there (KX : (heapK w.params).In h₀) (T : Top viewK loo mean mg mb h₀) (F : Fr h₀ L s.heap m) 
  {x dx D : Addr} {h1 h2 h3 h4 : Int} {t1 t2 t3 t4 : Tok} {c d : Value} {k : Nat} {oD : Obj} {f : Nat → Nd} {n i : Nat} {t : Tok} {vs : List Value} {ps : List Nat} {rest : List (Addr × Obj)}
  (N : News h₀ L s.heap ((x, instObj 158 dx) :: (dx, dictOf (e4 h1 h2 h3 h4 t1 t2 t3 t4 (.ref D) .none c d) k) :: (D, oD) :: (reg f n ++ rest))) (lo : (D == sysModules) = false) (hD : oD.IsDictOf (PySem.intKind prg w) (kvs f n))
  (ap : Apart f n) (ox : Off f n x) (od : Off f n dx) (oD' : Off f n D) (orr : ∀ p ∈ rest, Off f n p.1) (hi : i < n) (hn : n ≤ 11) (hv : IntsAre vs (ps.map Int.ofNat)) (hp : ∀ j ∈ ps, j < n) (hnd : ps.Nodup) (hsl : ∀ j, j < n → (f j).su.length ≤ 100)
  (hQ : ∀ f' h' tk, SameA n f f' → (∀ j, j < n → (f' j).np = if j = i then (f i).np + ps.length else (f j).np) → (∀ j, j < n → (f' j).su = (f j).su ++ if j ∈ ps then [.int i t] else []) → 
    Fr h₀ L h' m → News h₀ L h' ((x, instObj 158 dx) :: (dx, dictOf (e4 h1 h2 h3 h4 t1 t2 t3 t4 (.ref D) .none c d) k) :: (D, oD) :: (reg f' n ++ rest)) → R (.ok (.ret .none)) { s with heap := h', toks := tk }) :
  codeAny (model prg w) (lv 400 2000) (.call (.ref 108) ⟨.ref x :: .int i t :: vs, []⟩) R s := by
  have hvl : vs.length ≤ 11 := by
    rw [hv.length, List.length_map]
    have h1 := List.Nodup.length_le_of_subset hnd (fun j hj => List.mem_range.mpr (hp j hj) : ps ⊆ List.range n)
    rw [List.length_range] at h1
    lia
  refine' enterR (vs := vs) (g₁ := fun P => some [(Str.ofString "self", .ref x), (Str.ofString "node", .int i t), (Str.ofString "predecessors", .ref P)]) (binds := fun P => [(Str.ofString "self", .ref x), (Str.ofString "node", .int i t), (Str.ofString "predecessors", .ref P)]) F N KX T ?k6 ?k7 ?k8 ?k9 ?kG ?kB ?_ ?c2 ?c3 ?c4 ?c5
  case k6 => k_is
  case k7 => k_is
  case k8 => decide
  case k9 =>
    clear hQ hv F N KX T
    revert hvl
    generalize vs = us
    revert us
    refine le11 ?_ ?_ ?_ ?_ ?_ ?_ ?_ ?_ ?_ ?_ ?_ ?_
    all_goals intros; exact rfl
  case kG => exact fun _ => rfl
  case kB => exact fun _ => locs rfl
  case c2 => exact rfl
  case c3 => exact rfl
  case c4 => exact rfl
  case c5 => decide
  dsimp only [fB, fS, fA, met, stm, PySem.Challenge.pw_mj0230_01, List.drop]
  intro P g L' h₁ tk lP FG F N X' T' hlt hPL
  clear KX T
  (try dsimp only); (try k_fold)
  iterate 23 ((try (first | with_reducible refine Mine.hide_execT fun Qh tkh hQh => ?_ | with_reducible refine Mine.hide_exec fun Qh hQh => ?_ | with_reducible refine Mine.hide_loop fun Qh hQh => ?_ | with_reducible refine Mine.hide_comp fun Qh hQh => ?_ | with_reducible refine Mine.hide_tok fun tkh => ?_)); (first | walk1 | (dsimp only; walk1) | (refine hQh _ _ ?_; clear hQh; try clear Qh)); try dsimp only)
  refine wpAny_lv (d := 500) (u := 3000) (getinfo_there X' T' (by k_asm) (news := (P, { cls := .type "tuple", data := .seq vs.toArray }) :: (reg f n ++ rest)) (subN N mvB3) lo hD (kvs_at hi) ?_) rfl rfl (Nat.le_of_ble_eq_true rfl) (Nat.le_of_ble_eq_true rfl)
  intro h' tk' F' N'
  clear N F
  try dsimp only
  have N2 := reg_open (pre := [(x, instObj 158 dx), (dx, dictOf (e4 h1 h2 h3 h4 t1 t2 t3 t4 (.ref D) .none c d) k), (D, oD), (P, { cls := .type "tuple", data := .seq vs.toArray })]) hi N'
  simp only [List.cons_append, List.nil_append, Nd.ox, Nd.ol] at N2
  clear N'
  have a1 := neN (ox i hi).1
  have a3 := neN (od i hi).1
  have a5 := neN (oD' i hi).1
  have a7 := neN (ap.xl i i hi hi)
  have a8 := neN (ap.xd i i hi hi)
  have a9 := ltN (lP _ (by simp only [List.mem_cons, List.mem_append]; exact .inr (.inr (.inr (.inl (mem_reg.mpr ⟨i, hi, .inl rfl⟩))))) : (f i).x < P)
  have b1 : ∀ p ∈ regO f n i ++ rest, p.1 ≠ (f i).x := fun p hp => (List.mem_append.mp hp).elim (ap.offx hi p) fun h => (orr p h i hi).1
  iterate 13 ((try (first | with_reducible refine Mine.hide_execT fun Qh tkh hQh => ?_ | with_reducible refine Mine.hide_exec fun Qh hQh => ?_ | with_reducible refine Mine.hide_loop fun Qh hQh => ?_ | with_reducible refine Mine.hide_comp fun Qh hQh => ?_ | with_reducible refine Mine.hide_tok fun tkh => ?_)); (first | walk1 | (dsimp only; walk1) | (refine hQh _ _ ?_; clear hQh; try clear Qh)); try dsimp only)
  refine kun_lenT (News.isTup (by k_asm) (by k_mem)) (k := (vs.length : Int)) (by simp) (by lia) ?_
  try dsimp only
  iterate 5 ((try (first | with_reducible refine Mine.hide_execT fun Qh tkh hQh => ?_ | with_reducible refine Mine.hide_exec fun Qh hQh => ?_ | with_reducible refine Mine.hide_loop fun Qh hQh => ?_ | with_reducible refine Mine.hide_comp fun Qh hQh => ?_ | with_reducible refine Mine.hide_tok fun tkh => ?_)); (first | walk1 | (dsimp only; walk1) | (refine hQh _ _ ?_; clear hQh; try clear Qh)); try dsimp only)
  rename News _ _ _ _ => N3
  have N4 := reg_shut (f := f) (pre := [(x, instObj 158 dx), (dx, dictOf (e4 h1 h2 h3 h4 t1 t2 t3 t4 (.ref D) .none c d) k), (D, oD), (P, { cls := .type "tuple", data := .seq vs.toArray })]) { f i with np := (f i).np + vs.length, tn := _ } N3
  simp only [List.cons_append, List.nil_append] at N4
  clear N3
  rename Fr _ _ _ _ => lF'
  refine For_invVF lF' rfl rfl ?_
  iterate 1 ((try (first | with_reducible refine Mine.hide_execT fun Qh tkh hQh => ?_ | with_reducible refine Mine.hide_exec fun Qh hQh => ?_ | with_reducible refine Mine.hide_loop fun Qh hQh => ?_ | with_reducible refine Mine.hide_comp fun Qh hQh => ?_ | with_reducible refine Mine.hide_tok fun tkh => ?_)); (first | walk1 | (dsimp only; walk1) | (refine hQh _ _ ?_; clear hQh; try clear Qh)); try dsimp only)
  refine loopT (ol := { cls := .type "tuple", data := .seq vs.toArray }) (vs := vs) (e := 0) [Str.ofString "pred", Str.ofString "pred_info"] (fun kk u nx => ∃ f', SameA n f f' ∧ (∀ j, j < n → (f' j).np = if j = i then (f i).np + ps.length else (f j).np) ∧ (∀ j, j < n → (f' j).su = (f j).su ++ if j ∈ ps.take kk then [.int i t] else []) ∧
    nx = (x, instObj 158 dx) :: (dx, dictOf (e4 h1 h2 h3 h4 t1 t2 t3 t4 (.ref D) .none c d) k) :: (D, oD) :: (P, { cls := .type "tuple", data := .seq vs.toArray }) :: (reg f' n ++ rest)) rfl (by k_asm) N4 rfl rfl (Nat.ne_of_lt hPL) ?_ ?_ ?_ ?_
  · rintro _ _ _ ⟨f', _, _, _, rfl⟩
    exact .inl (by k_mem)
  · refine ⟨upd f i { f i with np := (f i).np + vs.length, tn := _ }, SameA.upd rfl rfl rfl, ?_, ?_, rfl⟩
    · intro j hj
      by_cases e : j = i
      · subst e; rw [upd_self, if_pos rfl, hv.length, List.length_map]
      · rw [upd_ne e, if_neg e]
    · intro j hj
      by_cases e : j = i
      · subst e; rw [upd_self]; simp
      · rw [upd_ne e]; simp
  · rintro kk v u nx h tk I oI hvk hI off ⟨f', hsa, hnp, hsu, rfl⟩ F N
    clear lF' N4 hQ
    replace F : Fr g L' _ _ := F
    replace N : News g L' _ _ := N
    obtain ⟨j, tj, rfl, hj, hjk⟩ : ∃ j tj, v = .int (j : Nat) tj ∧ j < n ∧ ps[kk]? = some j := by
      obtain ⟨a, ta, rfl, e2⟩ := hv.at kk v hvk
      rw [List.getElem?_map] at e2
      obtain ⟨j, hj, rfl⟩ := Option.map_eq_some_iff.mp e2
      exact ⟨j, ta, rfl, hp j (List.mem_of_getElem? hj), hj⟩
    iterate 10 ((try (first | with_reducible refine Mine.hide_execT fun Qh tkh hQh => ?_ | with_reducible refine Mine.hide_exec fun Qh hQh => ?_ | with_reducible refine Mine.hide_loop fun Qh hQh => ?_ | with_reducible refine Mine.hide_comp fun Qh hQh => ?_ | with_reducible refine Mine.hide_tok fun tkh => ?_)); (first | walk1 | (dsimp only; walk1) | (refine hQh _ _ ?_; clear hQh; try clear Qh)); try dsimp only)
    refine wpAny_lv (d := 500) (u := 3000) (getinfo_there X' T' (by k_asm) (subN N mvB3) lo (kvs_same hsa ▸ hD) (kvs_at hj) ?_) rfl rfl (Nat.le_of_ble_eq_true rfl) (Nat.le_of_ble_eq_true rfl)
    intro h' tk' F' N'
    clear N F
    try dsimp only
    have N2 := reg_open (pre := [(x, instObj 158 dx), (dx, dictOf (e4 h1 h2 h3 h4 t1 t2 t3 t4 (.ref D) .none c d) k), (D, oD), (I, oI), (P, { cls := .type "tuple", data := .seq vs.toArray })]) hj N'
    simp only [List.cons_append, List.nil_append, Nd.ox, Nd.ol] at N2
    clear N'
    have ap' := hsa.apart ap
    have a1 := neN (hsa.off ox j hj).2.1
    have a3 := neN (hsa.off od j hj).2.1
    have a5 := neN (hsa.off oD' j hj).2.1
    have a7 := neN (ap'.xl j j hj hj)
    have a8 := neN (ap'.ld j j hj hj)
    have a9 := ltN (lP _ (by simp only [List.mem_cons, List.mem_append]; exact .inr (.inr (.inr (.inl (mem_reg.mpr ⟨j, hj, .inr (.inl rfl)⟩))))) : (f j).l < P)
    rw [← (hsa j hj).2.1] at a9
    have c1 := neN (off _ (by simp only [List.mem_cons, List.mem_append]; exact .inr (.inr (.inr (.inr (.inl (mem_reg.mpr ⟨j, hj, .inr (.inl rfl)⟩)))))) : (f' j).l ≠ I)
    have b1 : ∀ p ∈ regO f' n j ++ rest, p.1 ≠ (f' j).l := fun p hp => (List.mem_append.mp hp).elim (ap'.offl hj p) fun h => (hsa.off (orr p h) j hj).2.1
    have hsl' : (f' j).su.length ≤ 1000 := by
      rw [hsu j hj, List.length_append]
      have := hsl j hj
      split <;> simp <;> lia
    iterate 14 ((try (first | with_reducible refine Mine.hide_execT fun Qh tkh hQh => ?_ | with_reducible refine Mine.hide_exec fun Qh hQh => ?_ | with_reducible refine Mine.hide_loop fun Qh hQh => ?_ | with_reducible refine Mine.hide_comp fun Qh hQh => ?_ | with_reducible refine Mine.hide_tok fun tkh => ?_)); (first | walk1 | (dsimp only; walk1) | (refine hQh _ _ ?_; clear hQh; try clear Qh)); try dsimp only)
    refine append_F (by k_asm) (by k_asm) (by k_updF) hsl' ?_
    intro h' F' N'
    try dsimp only at N'
    try dsimp only
    iterate 4 ((try (first | with_reducible refine Mine.hide_execT fun Qh tkh hQh => ?_ | with_reducible refine Mine.hide_exec fun Qh hQh => ?_ | with_reducible refine Mine.hide_loop fun Qh hQh => ?_ | with_reducible refine Mine.hide_comp fun Qh hQh => ?_ | with_reducible refine Mine.hide_tok fun tkh => ?_)); (first | walk1 | (dsimp only; walk1) | (refine hQh _ _ ?_; clear hQh; try clear Qh)); try dsimp only)
    have N5 := reg_shut (f := f') (i := j) (pre := [(x, instObj 158 dx), (dx, dictOf (e4 h1 h2 h3 h4 t1 t2 t3 t4 (.ref D) .none c d) k), (D, oD), (I, oI), (P, { cls := .type "tuple", data := .seq vs.toArray })]) { f' j with su := (f' j).su ++ [.int i t], e := (f' j).e + 1 } N'
    have hs2 : SameA n f' (upd f' j { f' j with su := (f' j).su ++ [.int i t], e := (f' j).e + 1 }) := SameA.upd rfl rfl rfl
    refine LEnd.intro ((x, instObj 158 dx) :: (dx, dictOf (e4 h1 h2 h3 h4 t1 t2 t3 t4 (.ref D) .none c d) k) :: (D, oD) :: (P, { cls := .type "tuple", data := .seq vs.toArray }) :: (reg (upd f' j { f' j with su := (f' j).su ++ [.int i t], e := (f' j).e + 1 }) n ++ rest))
      (by k_asm) N5 ?_ dr3 (by k_mem) (off_same (pre := [_, _, _, _]) hs2 off) ⟨_, hsa.trans hs2, ?_, ?_, rfl⟩
    · repeat' (first | exact MapOff.base | refine MapOff.put (by decide) ?_)
    · intro r hr
      by_cases e : r = j
      · subst e; rw [upd_self]; exact hnp r hr
      · rw [upd_ne e]; exact hnp r hr
    · have hjn := notin_take hnd hjk
      intro r hr
      rw [List.take_add_one, hjk]
      by_cases e : r = j
      · subst e; rw [upd_self]
        show (f' r).su ++ _ = _
        rw [hsu r hr, if_neg hjn]; simp
      · rw [upd_ne e, hsu r hr]
        simp [e]
  · rintro u nx h tk ⟨f', hsa, hnp, hsu, rfl⟩ F N
    iterate 1 ((try (first | with_reducible refine Mine.hide_execT fun Qh tkh hQh => ?_ | with_reducible refine Mine.hide_exec fun Qh hQh => ?_ | with_reducible refine Mine.hide_loop fun Qh hQh => ?_ | with_reducible refine Mine.hide_comp fun Qh hQh => ?_ | with_reducible refine Mine.hide_tok fun tkh => ?_)); (first | walk1 | (dsimp only; walk1) | (refine hQh _ _ ?_; clear hQh; try clear Qh)); try dsimp only)
    refine leaveK_ (by k_asm) (by k_asm) (fun kF kN => hQ f' _ _ hsa hnp (fun j hj => ?_) kF (subN kN dr3'))
    rw [hsu j hj, List.take_of_length_le]
    rw [hv.length, List.length_map]; exact Nat.le_refl _

theorem add_new (KX : (heapK w.params).In h₀) (T : Top viewK loo mean mg mb h₀) (F : Fr h₀ L s.heap m) 
  {x dx D : Addr} {h1 h2 h3 h4 : Int} {t1 t2 t3 t4 : Tok} {c d : Value} {k : Nat} {oD : Obj} {f : Nat → Nd} {n : Nat} {t : Tok} {rest : List (Addr × Obj)}
  (N : News h₀ L s.heap ((x, instObj 158 dx) :: (dx, dictOf (e4 h1 h2 h3 h4 t1 t2 t3 t4 (.ref D) .none c d) k) :: (D, oD) :: (reg f n ++ rest))) (lo : (D == sysModules) = false) (hD : oD.IsDictOf (PySem.intKind prg w) (kvs f n))
  (ap : Apart f n) (ox : Off f n x) (od : Off f n dx) (oD' : Off f n D) (orr : ∀ p ∈ rest, Off f n p.1) (n2 : x ≠ D) (n3 : dx ≠ D) (n4 : ∀ p ∈ rest, p.1 ≠ D) (hn : n ≤ 11)
  (hQ : ∀ q oD1 h' tk, q.np = 0 → q.su = [] → Apart (upd f n q) (n + 1) → Off (upd f n q) (n + 1) x → Off (upd f n q) (n + 1) dx → Off (upd f n q) (n + 1) D → (∀ p ∈ rest, Off (upd f n q) (n + 1) p.1) → oD1.IsDictOf (PySem.intKind prg w) (kvs (upd f n q) (n + 1)) →
    Fr h₀ L h' m → News h₀ L h' ((x, instObj 158 dx) :: (dx, dictOf (e4 h1 h2 h3 h4 t1 t2 t3 t4 (.ref D) .none c d) k) :: (D, oD1) :: (reg (upd f n q) (n + 1) ++ rest)) → R (.ok (.ret .none)) { s with heap := h', toks := tk }) :
  codeAny (model prg w) (lv 400 2000) (.call (.ref 108) ⟨[.ref x, .int n t], []⟩) R s := by
  refine' enterR (vs := []) (g₁ := fun P => some [(Str.ofString "self", .ref x), (Str.ofString "node", .int n t), (Str.ofString "predecessors", .ref P)]) (binds := fun P => [(Str.ofString "self", .ref x), (Str.ofString "node", .int n t), (Str.ofString "predecessors", .ref P)]) F N KX T ?k6 ?k7 ?k8 ?k9 ?kG ?kB ?_ ?c2 ?c3 ?c4 ?c5
  case k6 => k_is
  case k7 => k_is
  case k8 => decide
  case k9 => exact rfl
  case kG => exact fun _ => rfl
  case kB => exact fun _ => locs rfl
  case c2 => exact rfl
  case c3 => exact rfl
  case c4 => exact rfl
  case c5 => decide
  dsimp only [fB, fS, fA, met, stm, PySem.Challenge.pw_mj0230_01, List.drop]
  intro P g L' h₁ tk lP FG F N X' T' hlt hPL
  clear KX T
  (try dsimp only); (try k_fold)
  iterate 23 ((try (first | with_reducible refine Mine.hide_execT fun Qh tkh hQh => ?_ | with_reducible refine Mine.hide_exec fun Qh hQh => ?_ | with_reducible refine Mine.hide_loop fun Qh hQh => ?_ | with_reducible refine Mine.hide_comp fun Qh hQh => ?_ | with_reducible refine Mine.hide_tok fun tkh => ?_)); (first | walk1 | (dsimp only; walk1) | (refine hQh _ _ ?_; clear hQh; try clear Qh)); try dsimp only)
  refine wpAny_lv (d := 500) (u := 3000) (getinfo_new X' T' (by k_asm) (subN N mvB3) lo hD kvs_none n2 n3 (fun p hp => ?_) (by rw [kvs_len]; lia) ?_) rfl rfl (Nat.le_of_ble_eq_true rfl) (Nat.le_of_ble_eq_true rfl)
  · rcases List.mem_cons.mp hp with rfl | hp
    · exact Ne.symm (Nat.ne_of_lt (lP (D, oD) (by k_mem)))
    · exact (List.mem_append.mp hp).elim (oD'.all p) (n4 p)
  intro xi di li tn oD1 h' tk' F' N' l1 l2 l3 hD1
  clear N F
  try dsimp only
  have p1 := ltN l2
  have p2 := ltN l3
  have p3 := ltN (l1 (x, instObj 158 dx) (by k_mem))
  have p4 := ltN (l1 (dx, _) (.tail _ (.head _)))
  have p5 := ltN (l1 (D, _) (.tail _ (.tail _ (.head _))))
  have p6 := ltN (l1 (P, _) (.tail _ (.tail _ (.tail _ (.head _)))))
  have q1 : ∀ p ∈ reg f n ++ rest, p.1 < di := fun p hp => l1 p (.tail _ (.tail _ (.tail _ (.tail _ hp))))
  have q2 : ∀ p ∈ reg f n ++ rest, p.1 ≠ xi := fun p hp => Nat.ne_of_lt (Nat.lt_trans (q1 p hp) l2)
  iterate 19 ((try (first | with_reducible refine Mine.hide_execT fun Qh tkh hQh => ?_ | with_reducible refine Mine.hide_exec fun Qh hQh => ?_ | with_reducible refine Mine.hide_loop fun Qh hQh => ?_ | with_reducible refine Mine.hide_comp fun Qh hQh => ?_ | with_reducible refine Mine.hide_tok fun tkh => ?_)); (first | walk1 | (dsimp only; walk1) | (refine hQh _ _ ?_; clear hQh; try clear Qh)); try dsimp only)
  rename News _ _ _ _ => N3
  rename Fr _ _ _ _ => lF'
  refine For_invVF lF' rfl rfl ?_
  iterate 1 ((try (first | with_reducible refine Mine.hide_execT fun Qh tkh hQh => ?_ | with_reducible refine Mine.hide_exec fun Qh hQh => ?_ | with_reducible refine Mine.hide_loop fun Qh hQh => ?_ | with_reducible refine Mine.hide_comp fun Qh hQh => ?_ | with_reducible refine Mine.hide_tok fun tkh => ?_)); (first | walk1 | (dsimp only; walk1) | (refine hQh _ _ ?_; clear hQh; try clear Qh)); try dsimp only)
  refine loopT (ol := { cls := .type "tuple", data := .seq #[] }) (vs := []) (e := 0) [Str.ofString "pred", Str.ofString "pred_info"] (fun kk u nx => nx = _) rfl (by k_asm) N3 rfl rfl (Nat.ne_of_lt hPL) ?_ rfl ?_ ?_
  · rintro _ _ _ rfl
    exact .inl (by k_mem)
  · intro i v u nx h tk I oI hv
    cases hv
  rintro u nx h tk rfl F N
  iterate 1 ((try (first | with_reducible refine Mine.hide_execT fun Qh tkh hQh => ?_ | with_reducible refine Mine.hide_exec fun Qh hQh => ?_ | with_reducible refine Mine.hide_loop fun Qh hQh => ?_ | with_reducible refine Mine.hide_comp fun Qh hQh => ?_ | with_reducible refine Mine.hide_tok fun tkh => ?_)); (first | walk1 | (dsimp only; walk1) | (refine hQh _ _ ?_; clear hQh; try clear Qh)); try dsimp only)
  refine leaveK_ (by k_asm) (by k_asm) (fun kF kN => ?_)
  have kN2 := reg_new (pre := [(x, instObj 158 dx), (dx, dictOf (e4 h1 h2 h3 h4 t1 t2 t3 t4 (.ref D) .none c d) k), (D, oD1), (P, { cls := .type "tuple", data := .seq #[] })]) { x := xi, l := li, d := di, t := t, tn := _, np := 0 + 0, su := [], e := 0 } kN
  have g1 : ∀ a, a < di → a ≠ xi ∧ a ≠ li ∧ a ≠ di := fun a ha => ⟨Nat.ne_of_lt (Nat.lt_trans ha l2), Nat.ne_of_lt (Nat.lt_trans ha (Nat.lt_trans l2 l3)), Nat.ne_of_lt ha⟩
  have g2 : ∀ (q : Nd), q.x = xi → q.l = li → q.d = di → ∀ a, a < di → Off f n a → Off (upd f n q) (n + 1) a := fun q e1 e2 e3 a ha o => off_new o (e1 ▸ (g1 a ha).1) (e2 ▸ (g1 a ha).2.1) (e3 ▸ (g1 a ha).2.2)
  refine hQ _ oD1 _ _ rfl rfl (apart_new ap (fun p hp => q1 p (List.mem_append_left _ hp)) l2 l3) (g2 _ rfl rfl rfl _ p3 ox) (g2 _ rfl rfl rfl _ p4 od) (g2 _ rfl rfl rfl _ p5 oD') (fun p hp => g2 _ rfl rfl rfl _ (q1 p (List.mem_append_right _ hp)) (orr p hp)) ?_ kF (subN kN2 dr3')
  rw [← kvs_stored]; exact hD1
end
end Mine

namespace Mine
section
open Sem (wp)
theorem meets_bool_list (l : Addr) (items : Array Value) (hfit : (items.size : Int) < 2 ^ 63) :
    Meets (Builtin.«bool.__new__» ⟨[.type "bool", .ref l], []⟩) (fun _ R s => s.heap.IsList l items ∧ R (.ok (.ret (.bool (!items.isEmpty)))) { s with toks := s.toks + 1 + 1 }) :=
  Meets.of_wp fun prog w A R s hs => by
    obtain ⟨hp, g, d, tk, os⟩ := s
    obtain ⟨hl, hs⟩ := hs
    have f1 := F.conv_sub_bool
    repeat (any_goals (first | assumption | (with_reducible refine wpAny_truthy_list hl hfit ?_) | wp_step))
    all_goals first | exact ⟨_, rfl, hs⟩ | exact hs | skip
theorem call_bool_list {prog : Program} {w : World} {A : Around} {E : Value → Shared → Prop} {s : Shared} {l : Addr} {items : Array Value} {Q : Value → Shared → Prop} (hl : s.heap.IsList l items) (hfit : (items.size : Int) < 2 ^ 63) (h : Q (.bool (!items.isEmpty)) { s with toks := s.toks + 1 + 1 }) :
    wpAny (model prog w) A (call (.type "bool") [.ref l]) Q E s :=
  call_bool_1 (meets_bool_list l items hfit) ⟨hl, show wants (fun obj s₁ => s₁.TypeIs obj "bool" ∧ Q obj s₁) E _ _ from ⟨rfl, h⟩⟩
end
/-- all that must be apart -/
structure SOK (f : Nat → Nd) (n : Nat) (x dx D R : Addr) (rest : List (Addr × Obj)) : Prop where
  ap : Apart f n
  ox : Off f n x
  od : Off f n dx
  oD : Off f n D
  oR : Off f n R
  n1 : x ≠ dx
  n2 : x ≠ R
  n3 : D ≠ dx
  n4 : D ≠ R
  n5 : dx ≠ R
  orr : ∀ p ∈ rest, Off f n p.1 ∧ p.1 ≠ dx ∧ p.1 ≠ R
theorem SOK.same {f f' : Nat → Nd} {n : Nat} {x dx D R : Addr} {rest : List (Addr × Obj)} (h : SOK f n x dx D R rest) (s : SameA n f f') : SOK f' n x dx D R rest :=
  ⟨s.apart h.ap, s.off h.ox, s.off h.od, s.off h.oD, s.off h.oR, h.n1, h.n2, h.n3, h.n4, h.n5, fun p hp => ⟨s.off (h.orr p hp).1, (h.orr p hp).2⟩⟩
section
variable {w : World} {h₀ : Heap} {L : Addr} {m mg mb : Str → Option Value} {s : Shared} {mean : ExcName → Option Value} {Q : Value → Shared → Prop} {E : Value → Shared → Prop}
theorem get_ready_ok (KX : (heapK w.params).In h₀) (T : Top viewK loo mean mg mb h₀) (F : Fr h₀ L s.heap m) 
  {x dx D R : Addr} {h1 h2 h3 h4 : Int} {t1 t2 t3 t4 ta : Tok} {a : Int} {d : Value} {er : Nat} {oD : Obj} {f : Nat → Nd} {n : Nat} {rv : List Value} {rs : List Nat} {rest : List (Addr × Obj)}
  (N : News h₀ L s.heap ((x, instObj 158 dx) :: (dx, dictOf (e4 h1 h2 h3 h4 t1 t2 t3 t4 (.ref D) (.ref R) (.int a ta) d) 4) :: (D, oD) :: (R, W.listOf rv.toArray er) :: (reg f n ++ rest))) (lo : (D == sysModules) = false) (hD : oD.IsDictOf (PySem.intKind prg w) (kvs f n))
  (ok : SOK f n x dx D R rest) (hn : n ≤ 11) (hv : IntsAre rv (rs.map Int.ofNat)) (hp : ∀ j ∈ rs, j < n) (hl : rs.length ≤ 11) (hne : rs ≠ [])
  (hQ : ∀ f' Tu ta' er' h' tk, SameA n f f' → (∀ j, j < n → (f' j).np = if j ∈ rs then -1 else (f j).np) → (∀ j, j < n → (f' j).su = (f j).su) → 
    Fr h₀ L h' m → News h₀ L h' ((Tu, { cls := .type "tuple", data := .seq rv.toArray }) :: (x, instObj 158 dx) :: (dx, dictOf (e4 h1 h2 h3 h4 t1 t2 t3 t4 (.ref D) (.ref R) (.int (a + rs.length) ta') d) 4) :: (D, oD) :: (R, W.listOf #[] er') :: (reg f' n ++ rest)) → 
    (∀ p ∈ (x, instObj 158 dx) :: (dx, instObj 158 dx) :: (D, oD) :: (R, oD) :: (reg f n ++ rest), p.1 < Tu) → Q (.ref Tu) { s with heap := h', toks := tk }) :
  wpAny (model prg w) (lv 400 2000) (call (.ref 120) [.ref x] []) Q E s := by
  refine wpAny_call ?_
  refine' enterN (binds := [(Str.ofString "self", .ref x)]) F N KX T ?k6 ?k7 ?k8 ?k9 ?kB ?_ ?c2 ?c3 ?c4 ?c5
  case k6 => k_is
  case k7 => k_is
  case k8 => decide
  case k9 => exact BindsTo.of_eq rfl
  case kB => exact locs rfl
  case c2 => exact rfl
  case c3 => exact rfl
  case c4 => exact rfl
  case c5 => decide
  dsimp only [fB, fS, fA, met, stm, PySem.Challenge.pw_mj0230_01, List.drop]
  intro g L' h₁ tk FG F N X' T' hst hlt
  clear KX T
  (try dsimp only); (try k_fold)
  iterate 23 ((try (first | with_reducible refine Mine.hide_execT fun Qh tkh hQh => ?_ | with_reducible refine Mine.hide_exec fun Qh hQh => ?_ | with_reducible refine Mine.hide_loop fun Qh hQh => ?_ | with_reducible refine Mine.hide_comp fun Qh hQh => ?_ | with_reducible refine Mine.hide_tok fun tkh => ?_)); (first | walk1 | (dsimp only; walk1) | (refine hQh _ _ ?_; clear hQh; try clear Qh)); try dsimp only)
  have hrl : rv.length = rs.length := by rw [hv.length, List.length_map]
  refine kde_tupleOf (by k_asm) (by k_asm) (News.isList (N := N) (by k_mem)) (by simp; lia) (List.toList_toArray) ?_
  intro Tu h' F' N' lT
  clear N F
  (try dsimp only)
  have hTL : Tu ≠ L' := (N' _ (.head _)).2.1
  have lT' : ∀ p ∈ (x, instObj 158 dx) :: (dx, instObj 158 dx) :: (D, oD) :: (R, oD) :: (reg f n ++ rest), p.1 < Tu := fun p hp => by
    rcases List.mem_cons.mp hp with rfl | hp
    · exact lT _ (.head _)
    rcases List.mem_cons.mp hp with rfl | hp
    · have h := lT (dx, _) (.tail _ (.head _)); exact h
    rcases List.mem_cons.mp hp with rfl | hp
    · exact lT (D, _) (.tail _ (.tail _ (.head _)))
    rcases List.mem_cons.mp hp with rfl | hp
    · have h := lT (R, _) (.tail _ (.tail _ (.tail _ (.head _)))); exact h
    · exact lT p (.tail _ (.tail _ (.tail _ (.tail _ hp))))
  iterate 12 ((try (first | with_reducible refine Mine.hide_execT fun Qh tkh hQh => ?_ | with_reducible refine Mine.hide_exec fun Qh hQh => ?_ | with_reducible refine Mine.hide_loop fun Qh hQh => ?_ | with_reducible refine Mine.hide_comp fun Qh hQh => ?_ | with_reducible refine Mine.hide_tok fun tkh => ?_)); (first | walk1 | (dsimp only; walk1) | (refine hQh _ _ ?_; clear hQh; try clear Qh)); try dsimp only)
  rename Fr _ _ _ _ => lF'
  rename News _ _ _ _ => N3
  refine For_invVF lF' rfl rfl ?_
  iterate 1 ((try (first | with_reducible refine Mine.hide_execT fun Qh tkh hQh => ?_ | with_reducible refine Mine.hide_exec fun Qh hQh => ?_ | with_reducible refine Mine.hide_loop fun Qh hQh => ?_ | with_reducible refine Mine.hide_comp fun Qh hQh => ?_ | with_reducible refine Mine.hide_tok fun tkh => ?_)); (first | walk1 | (dsimp only; walk1) | (refine hQh _ _ ?_; clear hQh; try clear Qh)); try dsimp only)
  refine loopT (ol := { cls := .type "tuple", data := .seq rv.toArray }) (vs := rv) (e := 0) [Str.ofString "node"] (fun kk u nx => ∃ f', SameA n f f' ∧ (∀ j, j < n → (f' j).np = if j ∈ rs.take kk then -1 else (f j).np) ∧ (∀ j, j < n → (f' j).su = (f j).su) ∧
    nx = (Tu, { cls := .type "tuple", data := .seq rv.toArray }) :: (x, instObj 158 dx) :: (dx, dictOf (e4 h1 h2 h3 h4 t1 t2 t3 t4 (.ref D) (.ref R) (.int a ta) d) 4) :: (D, oD) :: (R, W.listOf rv.toArray er) :: (reg f' n ++ rest)) rfl (by k_asm) N3 rfl rfl hTL ?_ ?_ ?_ ?_
  · rintro _ _ _ ⟨f', _, _, _, rfl⟩
    exact .inl (by k_mem)
  · exact ⟨f, SameA.refl, fun j hj => by simp, fun j hj => rfl, rfl⟩
  · rintro kk v u nx h tk I oI hvk hI off ⟨f', hsa, hnp, hsu, rfl⟩ F N
    clear lF' N3 hQ
    replace F : Fr g L' _ _ := F
    replace N : News g L' _ _ := N
    obtain ⟨j, tj, rfl, hj, hjk⟩ : ∃ j tj, v = .int (j : Nat) tj ∧ j < n ∧ rs[kk]? = some j := by
      obtain ⟨a, ta, rfl, e2⟩ := hv.at kk v hvk
      rw [List.getElem?_map] at e2
      obtain ⟨j, hj, rfl⟩ := Option.map_eq_some_iff.mp e2
      exact ⟨j, ta, rfl, hp j (List.mem_of_getElem? hj), hj⟩
    have ok' := ok.same hsa
    have N2 := reg_open (pre := [(I, oI), (Tu, { cls := .type "tuple", data := .seq rv.toArray }), (x, instObj 158 dx), (dx, dictOf (e4 h1 h2 h3 h4 t1 t2 t3 t4 (.ref D) (.ref R) (.int a ta) d) 4), (D, oD), (R, W.listOf rv.toArray er)]) hj N
    simp only [List.cons_append, List.nil_append, Nd.ox, Nd.ol] at N2
    clear N
    have a1 := neN (ok'.ox j hj).1
    have a3 := neN (ok'.od j hj).1
    have a5 := neN (ok'.oD j hj).1
    have a6 := neN (ok'.oR j hj).1
    have a7 := neN (ok'.ap.xl j j hj hj)
    have a8 := neN (ok'.ap.xd j j hj hj)
    have a9 := ltN (lT _ (by simp only [List.mem_cons, List.mem_append]; exact .inr (.inr (.inr (.inr (.inl (mem_reg.mpr ⟨j, hj, .inl rfl⟩)))))) : (f j).x < Tu)
    rw [← (hsa j hj).1] at a9
    have c1 := neN (off _ (by simp only [List.mem_cons, List.mem_append]; exact .inr (.inr (.inr (.inr (.inr (.inl (mem_reg.mpr ⟨j, hj, .inl rfl⟩)))))))  : (f' j).x ≠ I)
    have b1 : ∀ p ∈ regO f' n j ++ rest, p.1 ≠ (f' j).x := fun p hp => (List.mem_append.mp hp).elim (ok'.ap.offx hj p) fun h => ((ok'.orr p h).1 j hj).1
    iterate 6 ((try (first | with_reducible refine Mine.hide_execT fun Qh tkh hQh => ?_ | with_reducible refine Mine.hide_exec fun Qh hQh => ?_ | with_reducible refine Mine.hide_loop fun Qh hQh => ?_ | with_reducible refine Mine.hide_comp fun Qh hQh => ?_ | with_reducible refine Mine.hide_tok fun tkh => ?_)); (first | walk1 | (dsimp only; walk1) | (refine hQh _ _ ?_; clear hQh; try clear Qh)); try dsimp only)
    refine kda_item (knd := PySem.intKind _ _) (by k_asm) (by k_mem) hD (k := (j : Int)) (by simp [intKind, Value.isInt]) (kvs_same hsa ▸ kvs_at hj) ?_
    (try dsimp only)
    iterate 5 ((try (first | with_reducible refine Mine.hide_execT fun Qh tkh hQh => ?_ | with_reducible refine Mine.hide_exec fun Qh hQh => ?_ | with_reducible refine Mine.hide_loop fun Qh hQh => ?_ | with_reducible refine Mine.hide_comp fun Qh hQh => ?_ | with_reducible refine Mine.hide_tok fun tkh => ?_)); (first | walk1 | (dsimp only; walk1) | (refine hQh _ _ ?_; clear hQh; try clear Qh)); try dsimp only)
    rename News _ _ _ _ => N5
    have N6 := reg_shut (f := f') (i := j) (pre := [(I, oI), (Tu, { cls := .type "tuple", data := .seq rv.toArray }), (x, instObj 158 dx), (dx, dictOf (e4 h1 h2 h3 h4 t1 t2 t3 t4 (.ref D) (.ref R) (.int a ta) d) 4), (D, oD), (R, W.listOf rv.toArray er)]) { f' j with np := -1, tn := 250 } N5
    have hs2 : SameA n f' (upd f' j { f' j with np := -1, tn := 250 }) := SameA.upd rfl rfl rfl
    refine LEnd.intro _ (by k_asm) N6 ?_ (fun p hp => .tail _ hp) (.head _) (off_same (pre := [_, _, _, _, _]) hs2 off) ⟨_, hsa.trans hs2, ?_, ?_, rfl⟩
    · repeat' (first | exact MapOff.base | refine MapOff.put (by decide) ?_)
    · intro r hr
      rw [List.take_add_one, hjk]
      by_cases e : r = j
      · subst e; rw [upd_self]; simp
      · rw [upd_ne e, hnp r hr]; simp [e]
    · intro r hr
      by_cases e : r = j
      · subst e; rw [upd_self]; exact hsu r hr
      · rw [upd_ne e]; exact hsu r hr
  · rintro u nx h tk ⟨f', hsa, hnp, hsu, rfl⟩ F N
    replace F : Fr g L' _ _ := F
    replace N : News g L' _ _ := N
    clear lF' N3
    have ok' := ok.same hsa
    have b1 : ∀ p ∈ reg f' n ++ rest, p.1 ≠ R := fun p hp => (List.mem_append.mp hp).elim (ok'.oR.all p) fun h => (ok'.orr p h).2.2
    have b2 : ∀ p ∈ reg f' n ++ rest, p.1 ≠ dx := fun p hp => (List.mem_append.mp hp).elim (ok'.od.all p) fun h => (ok'.orr p h).2.1
    have a1 := neN ok.n1
    have a2 := neN ok.n2
    have a3 := neN ok.n3
    have a4 := neN ok.n4
    have a5 := neN ok.n5
    have a6 := ltN (lT (R, _) (.tail _ (.tail _ (.tail _ (.head _)))))
    have a7 := ltN (lT (dx, _) (.tail _ (.head _)))
    iterate 8 ((try (first | with_reducible refine Mine.hide_execT fun Qh tkh hQh => ?_ | with_reducible refine Mine.hide_exec fun Qh hQh => ?_ | with_reducible refine Mine.hide_loop fun Qh hQh => ?_ | with_reducible refine Mine.hide_comp fun Qh hQh => ?_ | with_reducible refine Mine.hide_tok fun tkh => ?_)); (first | walk1 | (dsimp only; walk1) | (refine hQh _ _ ?_; clear hQh; try clear Qh)); try dsimp only)
    refine kl_clear (by k_asm) (by k_asm) (by k_upd) (by rw [List.toList_toArray, hrl]; exact fun h => hne (List.length_eq_zero_iff.mp h)) (by rw [List.toList_toArray, sizeLine_eq]; lia) ?_
    intro h' F' N'
    clear N F
    try dsimp only
    iterate 12 ((try (first | with_reducible refine Mine.hide_execT fun Qh tkh hQh => ?_ | with_reducible refine Mine.hide_exec fun Qh hQh => ?_ | with_reducible refine Mine.hide_loop fun Qh hQh => ?_ | with_reducible refine Mine.hide_comp fun Qh hQh => ?_ | with_reducible refine Mine.hide_tok fun tkh => ?_)); (first | walk1 | (dsimp only; walk1) | (refine hQh _ _ ?_; clear hQh; try clear Qh)); try dsimp only)
    refine kun_lenT (News.isTup (by k_asm) (by k_mem)) (k := (rs.length : Int)) (by simp [hrl]) (by lia) ?_
    try dsimp only
    iterate 8 ((try (first | with_reducible refine Mine.hide_execT fun Qh tkh hQh => ?_ | with_reducible refine Mine.hide_exec fun Qh hQh => ?_ | with_reducible refine Mine.hide_loop fun Qh hQh => ?_ | with_reducible refine Mine.hide_comp fun Qh hQh => ?_ | with_reducible refine Mine.hide_tok fun tkh => ?_)); (first | walk1 | (dsimp only; walk1) | (refine hQh _ _ ?_; clear hQh; try clear Qh)); try dsimp only)
    refine leaveK_ (by k_asm) (by k_asm) (fun kF kN => hQ f' Tu _ _ _ _ hsa (fun j hj => ?_) hsu kF kN lT')
    rw [hnp j hj, List.take_of_length_le (by rw [hrl]; exact Nat.le_refl _)]

theorem is_active_ok (KX : (heapK w.params).In h₀) (T : Top viewK loo mean mg mb h₀) (F : Fr h₀ L s.heap m) 
  {x dx R : Addr} {D : Value} {h1 h2 h3 h4 : Int} {t1 t2 t3 t4 ta tb : Tok} {a b : Int} {er : Nat} {rv : List Value} {news : List (Addr × Obj)}
  (N : News h₀ L s.heap ((x, instObj 158 dx) :: (dx, dictOf (e4 h1 h2 h3 h4 t1 t2 t3 t4 D (.ref R) (.int a ta) (.int b tb)) 4) :: (R, W.listOf rv.toArray er) :: news)) (hab : a = b) (hrl : rv.length ≤ 11)
  (hQ : ∀ h' tk, Fr h₀ L h' m → News h₀ L h' ((x, instObj 158 dx) :: (dx, dictOf (e4 h1 h2 h3 h4 t1 t2 t3 t4 D (.ref R) (.int a ta) (.int b tb)) 4) :: (R, W.listOf rv.toArray er) :: news) → Q (.bool (decide (rv ≠ []))) { s with heap := h', toks := tk }) :
  wpAny (model prg w) (lv 400 2000) (call (.ref 127) [.ref x] []) Q E s := by
  refine wpAny_call ?_
  refine' enterN (binds := [(Str.ofString "self", .ref x)]) F N KX T ?k6 ?k7 ?k8 ?k9 ?kB ?_ ?c2 ?c3 ?c4 ?c5
  case k6 => k_is
  case k7 => k_is
  case k8 => decide
  case k9 => exact BindsTo.of_eq rfl
  case kB => exact locs rfl
  case c2 => exact rfl
  case c3 => exact rfl
  case c4 => exact rfl
  case c5 => decide
  dsimp only [fB, fS, fA, met, stm, PySem.Challenge.pw_mj0230_01, List.drop]
  intro g L' h₁ tk FG F N X' T' hst hlt
  clear KX T
  (try dsimp only); (try k_fold)
  iterate 35 ((try (first | with_reducible refine Mine.hide_execT fun Qh tkh hQh => ?_ | with_reducible refine Mine.hide_exec fun Qh hQh => ?_ | with_reducible refine Mine.hide_loop fun Qh hQh => ?_ | with_reducible refine Mine.hide_comp fun Qh hQh => ?_ | with_reducible refine Mine.hide_tok fun tkh => ?_)); (first | walk1 | (dsimp only; walk1) | (refine hQh _ _ ?_; clear hQh; try clear Qh)); try dsimp only)
  refine call_bool_list (News.isList (N := N) (by k_mem)) (by simp; lia) ?_
  (try dsimp only)
  iterate 1 ((try (first | with_reducible refine Mine.hide_execT fun Qh tkh hQh => ?_ | with_reducible refine Mine.hide_exec fun Qh hQh => ?_ | with_reducible refine Mine.hide_loop fun Qh hQh => ?_ | with_reducible refine Mine.hide_comp fun Qh hQh => ?_ | with_reducible refine Mine.hide_tok fun tkh => ?_)); (first | walk1 | (dsimp only; walk1) | (refine hQh _ _ ?_; clear hQh; try clear Qh)); try dsimp only)
  refine leaveK_ (by k_asm) (by k_asm) (fun kF kN => ?_)
  have e : (!rv.toArray.isEmpty) = decide (rv ≠ []) := by cases rv <;> simp
  rw [e]
  exact hQ _ _ kF kN
end
end Mine

namespace Mine
/-- the sorter's reckoning: what is awaited, what is ready -/
structure Sst where
  np : Nat → Int
  R : List Nat
noncomputable def stepS (st : Sst) (j : Nat) : Sst := ⟨fun r => if r = j then st.np r - 1 else st.np r, if st.np j - 1 = 0 then st.R ++ [j] else st.R⟩
noncomputable def stepN (sn : Nat → List Nat) (st : Sst) (i : Nat) : Sst := (sn i).foldl stepS ⟨fun r => if r = i then -2 else st.np r, st.R⟩
theorem stepS_len (l : List Nat) : ∀ st, (l.foldl stepS st).R.length ≤ st.R.length + l.length := by
  induction l with
  | nil => intro st; simp
  | cons a l ih =>
    intro st
    have h1 := ih (stepS st a)
    have h2 : (stepS st a).R.length ≤ st.R.length + 1 := by unfold stepS; dsimp only; split <;> simp
    simp only [List.foldl_cons, List.length_cons]; lia
theorem stepN_len {sn : Nat → List Nat} (l : List Nat) (h : ∀ i ∈ l, (sn i).length ≤ 11) : ∀ st, (l.foldl (stepN sn) st).R.length ≤ st.R.length + 11 * l.length := by
  induction l with
  | nil => intro st; simp
  | cons a l ih =>
    intro st
    have h1 := ih (fun i hi => h i (.tail _ hi)) (stepN sn st a)
    have h2 : (stepN sn st a).R.length ≤ st.R.length + (sn a).length := stepS_len _ _
    have h3 := h a (.head _)
    simp only [List.foldl_cons, List.length_cons]; lia
section
variable {w : World} {h₀ : Heap} {L : Addr} {m mg mb : Str → Option Value} {s : Shared} {mean : ExcName → Option Value} {RR : Result → Shared → Prop}
theorem done_ok (KX : (heapK w.params).In h₀) (T : Top viewK loo mean mg mb h₀) (F : Fr h₀ L s.heap m) 
  {x dx D R : Addr} {h1 h2 h3 h4 : Int} {t1 t2 t3 t4 tb : Tok} {b : Int} {c : Value} {er : Nat} {oD : Obj} {f : Nat → Nd} {n : Nat} {rv vs : List Value} {ns : List Nat} {st : Sst} {sn : Nat → List Nat} {rest : List (Addr × Obj)}
  (N : News h₀ L s.heap ((x, instObj 158 dx) :: (dx, dictOf (e4 h1 h2 h3 h4 t1 t2 t3 t4 (.ref D) (.ref R) c (.int b tb)) 4) :: (D, oD) :: (R, W.listOf rv.toArray er) :: (reg f n ++ rest))) (lo : (D == sysModules) = false) (hD : oD.IsDictOf (PySem.intKind prg w) (kvs f n))
  (ok : SOK f n x dx D R rest) (hv : IntsAre vs (ns.map Int.ofNat)) (hp : ∀ j ∈ ns, j < n) (hl : ns.length ≤ 11) (hnp : ∀ j, j < n → (f j).np = st.np j) (hrv : IntsAre rv (st.R.map Int.ofNat)) (hrl : st.R.length ≤ 11)
  (hsn : ∀ j, j < n → IntsAre (f j).su ((sn j).map Int.ofNat)) (hsl : ∀ j, j < n → (sn j).length ≤ 11) (hsb : ∀ j, j < n → ∀ r ∈ sn j, r < n) 
  (hout : ∀ kk i, ns[kk]? = some i → ((ns.take kk).foldl (stepN sn) st).np i = -1)
  (hQ : ∀ f' rv' er' tb' h' tk, SameA n f f' → (∀ j, j < n → (f' j).np = (ns.foldl (stepN sn) st).np j) → (∀ j, j < n → (f' j).su = (f j).su) → IntsAre rv' ((ns.foldl (stepN sn) st).R.map Int.ofNat) →
    Fr h₀ L h' m → News h₀ L h' ((x, instObj 158 dx) :: (dx, dictOf (e4 h1 h2 h3 h4 t1 t2 t3 t4 (.ref D) (.ref R) c (.int (b + ns.length) tb')) 4) :: (D, oD) :: (R, W.listOf rv'.toArray er') :: (reg f' n ++ rest)) → RR (.ok (.ret .none)) { s with heap := h', toks := tk }) :
  codeAny (model prg w) (lv 400 2000) (.call (.ref 141) ⟨.ref x :: vs, []⟩) RR s := by
  have hvl : vs.length ≤ 11 := by rw [hv.length, List.length_map]; exact hl
  refine' enterR (vs := vs) (g₁ := fun P => some [(Str.ofString "self", .ref x), (Str.ofString "nodes", .ref P)]) (binds := fun P => [(Str.ofString "self", .ref x), (Str.ofString "nodes", .ref P)]) F N KX T ?k6 ?k7 ?k8 ?k9 ?kG ?kB ?_ ?c2 ?c3 ?c4 ?c5
  case k6 => k_is
  case k7 => k_is
  case k8 => decide
  case k9 =>
    clear hQ hv F N KX T
    revert hvl
    generalize vs = us
    revert us
    refine le11 ?_ ?_ ?_ ?_ ?_ ?_ ?_ ?_ ?_ ?_ ?_ ?_
    all_goals intros; exact rfl
  case kG => exact fun _ => rfl
  case kB => exact fun _ => locs rfl
  case c2 => exact rfl
  case c3 => exact rfl
  case c4 => exact rfl
  case c5 => decide
  dsimp only [fB, fS, fA, met, stm, PySem.Challenge.pw_mj0230_01, List.drop]
  intro P g L' h₁ tk lP FG F N X' T' hlt hPL
  clear KX T
  (try dsimp only); (try k_fold)
  iterate 22 ((try (first | with_reducible refine Mine.hide_execT fun Qh tkh hQh => ?_ | with_reducible refine Mine.hide_exec fun Qh hQh => ?_ | with_reducible refine Mine.hide_loop fun Qh hQh => ?_ | with_reducible refine Mine.hide_comp fun Qh hQh => ?_ | with_reducible refine Mine.hide_tok fun tkh => ?_)); (first | walk1 | (dsimp only; walk1) | (refine hQh _ _ ?_; clear hQh; try clear Qh)); try dsimp only)
  rename Fr _ _ _ _ => lF'
  rename News _ _ _ _ => N3
  refine For_invVF lF' rfl rfl ?_
  iterate 1 ((try (first | with_reducible refine Mine.hide_execT fun Qh tkh hQh => ?_ | with_reducible refine Mine.hide_exec fun Qh hQh => ?_ | with_reducible refine Mine.hide_loop fun Qh hQh => ?_ | with_reducible refine Mine.hide_comp fun Qh hQh => ?_ | with_reducible refine Mine.hide_tok fun tkh => ?_)); (first | walk1 | (dsimp only; walk1) | (refine hQh _ _ ?_; clear hQh; try clear Qh)); try dsimp only)
  refine loopT (ol := { cls := .type "tuple", data := .seq vs.toArray }) (vs := vs) (e := 0) [Str.ofString "node", Str.ofString "nodeinfo", Str.ofString "stat", Str.ofString "successor", Str.ofString "successor_info"] (fun kk u nx => ∃ f' rv' er' tb', SameA n f f' ∧ (∀ j, j < n → (f' j).np = ((ns.take kk).foldl (stepN sn) st).np j) ∧ (∀ j, j < n → (f' j).su = (f j).su) ∧
    IntsAre rv' (((ns.take kk).foldl (stepN sn) st).R.map Int.ofNat) ∧ nx = (P, { cls := .type "tuple", data := .seq vs.toArray }) :: (x, instObj 158 dx) :: (dx, dictOf (e4 h1 h2 h3 h4 t1 t2 t3 t4 (.ref D) (.ref R) c (.int (b + kk) tb')) 4) :: (D, oD) :: (R, W.listOf rv'.toArray er') :: (reg f' n ++ rest)) rfl (by k_asm) N3 rfl rfl (Nat.ne_of_lt hPL) ?_ ?_ ?_ ?_
  · rintro _ _ _ ⟨f', _, _, _, _, _, _, _, rfl⟩
    exact .inl (by k_mem)
  · exact ⟨f, rv, er, tb, SameA.refl, hnp, fun j hj => rfl, hrv, by simp⟩
  · rintro kk v u nx h tk I oI hvk hI off ⟨f', rv', er', tb', hsa, hnp', hsu, hrv', rfl⟩ F N
    clear lF' N3 hQ
    replace F : Fr g L' _ _ := F
    replace N : News g L' _ _ := N
    obtain ⟨i, ti, rfl, hi, hik⟩ : ∃ j tj, v = .int (j : Nat) tj ∧ j < n ∧ ns[kk]? = some j := by
      obtain ⟨a, ta, rfl, e2⟩ := hv.at kk v hvk
      rw [List.getElem?_map] at e2
      obtain ⟨j, hj, rfl⟩ := Option.map_eq_some_iff.mp e2
      exact ⟨j, ta, rfl, hp j (List.mem_of_getElem? hj), hj⟩
    have hm1 : (f' i).np = -1 := (hnp' i hi).trans (hout kk i hik)
    have ok' := ok.same hsa
    have N2 := reg_open (pre := [(I, oI), (P, { cls := .type "tuple", data := .seq vs.toArray }), (x, instObj 158 dx), (dx, dictOf (e4 h1 h2 h3 h4 t1 t2 t3 t4 (.ref D) (.ref R) c (.int (b + kk) tb')) 4), (D, oD), (R, W.listOf rv'.toArray er')]) hi N
    simp only [List.cons_append, List.nil_append, Nd.ox, Nd.ol, hm1] at N2
    clear N
    have a1 := neN (ok'.ox i hi).1
    have a3 := neN (ok'.od i hi).1
    have a5 := neN (ok'.oD i hi).1
    have a6 := neN (ok'.oR i hi).1
    have a7 := neN (ok'.ap.xl i i hi hi)
    have a8 := neN (ok'.ap.xd i i hi hi)
    have a9 := ltN (lP _ (by simp only [List.mem_cons, List.mem_append]; exact .inr (.inr (.inr (.inr (.inl (mem_reg.mpr ⟨i, hi, .inl rfl⟩)))))) : (f i).x < P)
    rw [← (hsa i hi).1] at a9
    have c1 := neN (off _ (by simp only [List.mem_cons, List.mem_append]; exact .inr (.inr (.inr (.inr (.inr (.inl (mem_reg.mpr ⟨i, hi, .inl rfl⟩)))))))  : (f' i).x ≠ I)
    have b1 : ∀ p ∈ regO f' n i ++ rest, p.1 ≠ (f' i).x := fun p hp => (List.mem_append.mp hp).elim (ok'.ap.offx hi p) fun h => ((ok'.orr p h).1 i hi).1
    iterate 11 ((try (first | with_reducible refine Mine.hide_execT fun Qh tkh hQh => ?_ | with_reducible refine Mine.hide_exec fun Qh hQh => ?_ | with_reducible refine Mine.hide_loop fun Qh hQh => ?_ | with_reducible refine Mine.hide_comp fun Qh hQh => ?_ | with_reducible refine Mine.hide_tok fun tkh => ?_)); (first | walk1 | (dsimp only; walk1) | (refine hQh _ _ ?_; clear hQh; try clear Qh)); try dsimp only)
    refine kdg_get1 (N := by k_asm) (by k_mem) hD lo (k := (i : Int)) (by simp [intKind, Value.isInt]) _ (kvs_same hsa ▸ kvs_at hi) ?_
    dsimp only [Option.getD]
    iterate 35 ((try (first | with_reducible refine Mine.hide_execT fun Qh tkh hQh => ?_ | with_reducible refine Mine.hide_exec fun Qh hQh => ?_ | with_reducible refine Mine.hide_loop fun Qh hQh => ?_ | with_reducible refine Mine.hide_comp fun Qh hQh => ?_ | with_reducible refine Mine.hide_tok fun tkh => ?_)); (first | walk1 | (dsimp only; walk1) | (refine hQh _ _ ?_; clear hQh; try clear Qh)); try dsimp only)
    rename Fr _ _ _ _ => lF'
    rename News _ _ _ _ => N3
    refine For_invVF lF' rfl rfl ?_
    iterate 3 ((try (first | with_reducible refine Mine.hide_execT fun Qh tkh hQh => ?_ | with_reducible refine Mine.hide_exec fun Qh hQh => ?_ | with_reducible refine Mine.hide_loop fun Qh hQh => ?_ | with_reducible refine Mine.hide_comp fun Qh hQh => ?_ | with_reducible refine Mine.hide_tok fun tkh => ?_)); (first | walk1 | (dsimp only; walk1) | (refine hQh _ _ ?_; clear hQh; try clear Qh)); try dsimp only)
    have N4 := reg_shut (f := f') (i := i) (pre := [(I, oI), (P, { cls := .type "tuple", data := .seq vs.toArray }), (x, instObj 158 dx), (dx, dictOf (e4 h1 h2 h3 h4 t1 t2 t3 t4 (.ref D) (.ref R) c (.int (b + kk) tb')) 4), (D, oD), (R, W.listOf rv'.toArray er')]) { f' i with np := -2, tn := 253 } N3
    simp only [List.cons_append, List.nil_append] at N4
    clear N3
    have hs2 : SameA n f' (upd f' i { f' i with np := -2, tn := 253 }) := SameA.upd rfl rfl rfl
    generalize hst : ((ns.take kk).foldl (stepN sn) st) = st1 at hnp' hrv'
    have hR1 : st1.R.length ≤ 132 := by
      have := stepN_len (sn := sn) (ns.take kk) (fun i hi => hsl i (hp i (List.mem_of_mem_take hi))) st
      rw [hst, List.length_take] at this
      lia
    have hL1 : (f' i).l ≠ L' := (N4 ((f' i).l, (f' i).ol) (by simp only [List.mem_cons, List.mem_append]; exact .inr (.inr (.inr (.inr (.inr (.inr (.inl (mem_reg.mpr ⟨i, hi, .inr (.inl (by rw [upd_self]))⟩))))))))).2.1
    refine loopL (ol := W.listOf (f' i).su.toArray (f' i).e) (vs := (f' i).su) (e := (f' i).e) [Str.ofString "successor", Str.ofString "successor_info"] (fun k2 u nx => ∃ f2 rv2 er2, SameA n f' f2 ∧ (∀ j, j < n → (f2 j).np = (((sn i).take k2).foldl stepS ⟨fun r => if r = i then -2 else st1.np r, st1.R⟩).np j) ∧ (∀ j, j < n → (f2 j).su = (f' j).su ∧ (f2 j).e = (f' j).e) ∧
      IntsAre rv2 ((((sn i).take k2).foldl stepS ⟨fun r => if r = i then -2 else st1.np r, st1.R⟩).R.map Int.ofNat) ∧ nx = (I, oI) :: (P, { cls := .type "tuple", data := .seq vs.toArray }) :: (x, instObj 158 dx) :: (dx, dictOf (e4 h1 h2 h3 h4 t1 t2 t3 t4 (.ref D) (.ref R) c (.int (b + kk) tb')) 4) :: (D, oD) :: (R, W.listOf rv2.toArray er2) :: (reg f2 n ++ rest)) rfl (by k_asm) N4 rfl rfl hL1 ?_ ?_ ?_ ?_
    · rintro _ _ _ ⟨f2, rv2, er2, hsa2, _, hse, _, rfl⟩
      refine .inl ?_
      simp only [List.mem_cons, List.mem_append]
      refine .inr (.inr (.inr (.inr (.inr (.inr (.inl (mem_reg.mpr ⟨i, hi, .inr (.inl ?_)⟩)))))))
      rw [(hsa2 i hi).2.1]
      show _ = (_, W.listOf (f2 i).su.toArray (f2 i).e)
      rw [(hse i hi).1, (hse i hi).2]
    · refine ⟨_, rv', er', hs2, fun j hj => ?_, fun j hj => ?_, hrv', rfl⟩
      · by_cases e : j = i
        · subst e; rw [upd_self]; simp
        · rw [upd_ne e, hnp' j hj]; simp [e]
      · by_cases e : j = i
        · subst e; rw [upd_self]; exact ⟨rfl, rfl⟩
        · rw [upd_ne e]; exact ⟨rfl, rfl⟩
    · rintro k2 v u2 nx h tk I2 oI2 hvk2 hI2 off2 ⟨f2, rv2, er2, hsa2, hnp2, hse, hrv2, rfl⟩ F N
      clear lF' N4
      replace F : Fr g L' _ _ := F
      replace N : News g L' _ _ := N
      obtain ⟨j, tj, rfl, hj, hjk⟩ : ∃ j tj, v = .int (j : Nat) tj ∧ j < n ∧ (sn i)[k2]? = some j := by
        have hq := hsn i hi
        rw [← hsu i hi] at hq
        obtain ⟨a, ta, rfl, e2⟩ := hq.at k2 v hvk2
        rw [List.getElem?_map] at e2
        obtain ⟨j, hj, rfl⟩ := Option.map_eq_some_iff.mp e2
        exact ⟨j, ta, rfl, hsb i hi j (List.mem_of_getElem? hj), hj⟩
      have hsa3 := hsa.trans hsa2
      have ok2 := ok.same hsa3
      have N2 := reg_open (pre := [(I2, oI2), (I, oI), (P, { cls := .type "tuple", data := .seq vs.toArray }), (x, instObj 158 dx), (dx, dictOf (e4 h1 h2 h3 h4 t1 t2 t3 t4 (.ref D) (.ref R) c (.int (b + kk) tb')) 4), (D, oD), (R, W.listOf rv2.toArray er2)]) hj N
      simp only [List.cons_append, List.nil_append, Nd.ox, Nd.ol] at N2
      clear N
      clear a1 a3 a5 a6 a7 a8 a9 c1 b1
      have a1 := neN (ok2.ox j hj).1
      have a3 := neN (ok2.od j hj).1
      have a5 := neN (ok2.oD j hj).1
      have a6 := neN (ok2.oR j hj).1
      have a6' := neN (ok2.oR j hj).2.1
      have a6'' := neN (ok2.oR j hj).2.2
      have a7 := neN (ok2.ap.xl j j hj hj)
      have a8 := neN (ok2.ap.xd j j hj hj)
      have a9 := ltN (lP _ (by simp only [List.mem_cons, List.mem_append]; exact .inr (.inr (.inr (.inr (.inl (mem_reg.mpr ⟨j, hj, .inl rfl⟩)))))) : (f j).x < P)
      rw [← (hsa3 j hj).1] at a9
      have a10 := ltN (lP (R, _) (.tail _ (.tail _ (.tail _ (.head _)))))
      have n1 := neN ok2.n2
      have n2 := neN ok2.n4
      have n3 := neN ok2.n5
      have c0 := neN (off _ (by simp only [List.mem_cons, List.mem_append]; exact .inr (.inr (.inr (.inr (.inr (.inl (mem_reg.mpr ⟨j, hj, .inl rfl⟩)))))))  : (f' j).x ≠ I)
      rw [← (hsa2 j hj).1] at c0
      have c1 := neN (off2 _ (by simp only [List.mem_cons, List.mem_append]; exact .inr (.inr (.inr (.inr (.inr (.inr (.inl (mem_reg.mpr ⟨j, hj, .inl rfl⟩))))))))  : (f2 j).x ≠ I2)
      have c2 := neN (off (R, _) (.tail _ (.tail _ (.tail _ (.tail _ (.head _))))))
      have c3 := neN (off2 (R, _) (.tail _ (.tail _ (.tail _ (.tail _ (.tail _ (.head _)))))))
      have b1 : ∀ p ∈ regO f2 n j ++ rest, p.1 ≠ (f2 j).x := fun p hp => (List.mem_append.mp hp).elim (ok2.ap.offx hj p) fun h => ((ok2.orr p h).1 j hj).1
      have b2 : ∀ p ∈ regO f2 n j ++ rest, p.1 ≠ R := fun p hp => (List.mem_append.mp hp).elim (ok2.oR.allO p) fun h => (ok2.orr p h).2.2
      iterate 5 ((try (first | with_reducible refine Mine.hide_execT fun Qh tkh hQh => ?_ | with_reducible refine Mine.hide_exec fun Qh hQh => ?_ | with_reducible refine Mine.hide_loop fun Qh hQh => ?_ | with_reducible refine Mine.hide_comp fun Qh hQh => ?_ | with_reducible refine Mine.hide_tok fun tkh => ?_)); (first | walk1 | (dsimp only; walk1) | (refine hQh _ _ ?_; clear hQh; try clear Qh)); try dsimp only)
      refine kda_item (knd := PySem.intKind _ _) (by k_asm) (by k_mem) hD (k := (j : Int)) (by simp [intKind, Value.isInt]) (kvs_same hsa3 ▸ kvs_at hj) ?_
      (try dsimp only)
      iterate 12 ((try (first | with_reducible refine Mine.hide_execT fun Qh tkh hQh => ?_ | with_reducible refine Mine.hide_exec fun Qh hQh => ?_ | with_reducible refine Mine.hide_loop fun Qh hQh => ?_ | with_reducible refine Mine.hide_comp fun Qh hQh => ?_ | with_reducible refine Mine.hide_tok fun tkh => ?_)); (first | walk1 | (dsimp only; walk1) | (refine hQh _ _ ?_; clear hQh; try clear Qh)); try dsimp only)
      generalize hS : (((sn i).take k2).foldl stepS ⟨fun r => if r = i then -2 else st1.np r, st1.R⟩) = S at hnp2 hrv2
      have hS1 : (((sn i).take (k2 + 1)).foldl stepS ⟨fun r => if r = i then -2 else st1.np r, st1.R⟩) = stepS S j := by
        rw [List.take_add_one, hjk, List.foldl_append, hS]; rfl
      have hSl : rv2.length ≤ 1000 := by
        rw [hrv2.length, List.length_map, ← hS]
        have := stepS_len ((sn i).take k2) ⟨fun r => if r = i then -2 else st1.np r, st1.R⟩
        have h2 := hsl i hi
        rw [List.length_take] at this
        dsimp only at this
        lia
      have hnpj := hnp2 j hj
      have fin : ∀ (rv3 : List Value) (er3 : Nat) (tt : Tok), IntsAre rv3 ((stepS S j).R.map Int.ofNat) → ∃ f3 rv2 er2, SameA n f' f3 ∧ (∀ j, j < n → (f3 j).np = (((sn i).take (k2 + 1)).foldl stepS ⟨fun r => if r = i then -2 else st1.np r, st1.R⟩).np j) ∧ (∀ j, j < n → (f3 j).su = (f' j).su ∧ (f3 j).e = (f' j).e) ∧
          IntsAre rv2 ((((sn i).take (k2 + 1)).foldl stepS ⟨fun r => if r = i then -2 else st1.np r, st1.R⟩).R.map Int.ofNat) ∧ (I, oI) :: (P, { cls := .type "tuple", data := .seq vs.toArray }) :: (x, instObj 158 dx) :: (dx, dictOf (e4 h1 h2 h3 h4 t1 t2 t3 t4 (.ref D) (.ref R) c (.int (b + kk) tb')) 4) :: (D, oD) :: (R, W.listOf rv3.toArray er3) :: (reg (upd f2 j { f2 j with np := (f2 j).np - 1, tn := tt }) n ++ rest) =
            (I, oI) :: (P, { cls := .type "tuple", data := .seq vs.toArray }) :: (x, instObj 158 dx) :: (dx, dictOf (e4 h1 h2 h3 h4 t1 t2 t3 t4 (.ref D) (.ref R) c (.int (b + kk) tb')) 4) :: (D, oD) :: (R, W.listOf rv2.toArray er2) :: (reg f3 n ++ rest) := by
        intro rv3 er3 tt hrv3
        refine ⟨upd f2 j { f2 j with np := (f2 j).np - 1, tn := tt }, rv3, er3, hsa2.trans (SameA.upd rfl rfl rfl), fun r hr => ?_, fun r hr => ?_, by rw [hS1]; exact hrv3, rfl⟩
        · rw [hS1]
          by_cases e : r = j
          · subst e; rw [upd_self]; simp [stepS, hnpj]
          · rw [upd_ne e, hnp2 r hr]; simp [stepS, e]
        · by_cases e : r = j
          · subst e; rw [upd_self]; exact hse r hr
          · rw [upd_ne e]; exact hse r hr
      iterate 8 ((try (first | with_reducible refine Mine.hide_execT fun Qh tkh hQh => ?_ | with_reducible refine Mine.hide_exec fun Qh hQh => ?_ | with_reducible refine Mine.hide_loop fun Qh hQh => ?_ | with_reducible refine Mine.hide_comp fun Qh hQh => ?_ | with_reducible refine Mine.hide_tok fun tkh => ?_)); (first | walk1 | (dsimp only; walk1) | (refine hQh _ _ ?_; clear hQh; try clear Qh)); try dsimp only)
      by_cases hz : (f2 j).np - 1 = 0
      · refine ite_pos (beq_iff_eq.mpr hz) ?_
        iterate 12 ((try (first | with_reducible refine Mine.hide_execT fun Qh tkh hQh => ?_ | with_reducible refine Mine.hide_exec fun Qh hQh => ?_ | with_reducible refine Mine.hide_loop fun Qh hQh => ?_ | with_reducible refine Mine.hide_comp fun Qh hQh => ?_ | with_reducible refine Mine.hide_tok fun tkh => ?_)); (first | walk1 | (dsimp only; walk1) | (refine hQh _ _ ?_; clear hQh; try clear Qh)); try dsimp only)
        refine append_F (by k_asm) (by k_asm) (by k_updF) hSl ?_
        intro h' F' N'
        try dsimp only at N'
        try dsimp only
        iterate 6 ((try (first | with_reducible refine Mine.hide_execT fun Qh tkh hQh => ?_ | with_reducible refine Mine.hide_exec fun Qh hQh => ?_ | with_reducible refine Mine.hide_loop fun Qh hQh => ?_ | with_reducible refine Mine.hide_comp fun Qh hQh => ?_ | with_reducible refine Mine.hide_tok fun tkh => ?_)); (first | walk1 | (dsimp only; walk1) | (refine hQh _ _ ?_; clear hQh; try clear Qh)); try dsimp only)
        rename News _ _ _ _ => N5
        have N6 := reg_shut (f := f2) (i := j) (pre := [(I2, oI2), (I, oI), (P, { cls := .type "tuple", data := .seq vs.toArray }), (x, instObj 158 dx), (dx, dictOf (e4 h1 h2 h3 h4 t1 t2 t3 t4 (.ref D) (.ref R) c (.int (b + kk) tb')) 4), (D, oD), (R, W.listOf (rv2 ++ [Value.int j tj]).toArray (er2 + 1))]) { f2 j with np := (f2 j).np - 1, tn := _ } N5
        refine LEnd.intro _ (by k_asm) N6 ?_ (fun p hp => .tail _ hp) (.head _) ?_ (fin _ _ _ ?_)
        · repeat' (first | exact MapOff.base | refine MapOff.put (by decide) ?_ | refine MapOff.inner (by decide) ?_)
        · refine off_same (f := f2) (pre := [_, _, _, _, _, _]) (SameA.upd rfl rfl rfl) ?_
          exact offR (pre := [_, _, _, _, _]) off2
        · have : (stepS S j).R = S.R ++ [j] := by unfold stepS; dsimp only; rw [if_pos (by rw [← hnpj]; exact hz)]
          rw [this, List.map_append]
          exact hrv2.append (.cons _ _ .nil)
      · refine ite_neg (fun h => hz (beq_iff_eq.mp h)) ?_
        iterate 5 ((try (first | with_reducible refine Mine.hide_execT fun Qh tkh hQh => ?_ | with_reducible refine Mine.hide_exec fun Qh hQh => ?_ | with_reducible refine Mine.hide_loop fun Qh hQh => ?_ | with_reducible refine Mine.hide_comp fun Qh hQh => ?_ | with_reducible refine Mine.hide_tok fun tkh => ?_)); (first | walk1 | (dsimp only; walk1) | (refine hQh _ _ ?_; clear hQh; try clear Qh)); try dsimp only)
        rename News _ _ _ _ => N5
        have N6 := reg_shut (f := f2) (i := j) (pre := [(I2, oI2), (I, oI), (P, { cls := .type "tuple", data := .seq vs.toArray }), (x, instObj 158 dx), (dx, dictOf (e4 h1 h2 h3 h4 t1 t2 t3 t4 (.ref D) (.ref R) c (.int (b + kk) tb')) 4), (D, oD), (R, W.listOf rv2.toArray er2)]) { f2 j with np := (f2 j).np - 1, tn := _ } N5
        refine LEnd.intro _ (by k_asm) N6 ?_ (fun p hp => .tail _ hp) (.head _) ?_ (fin _ _ _ ?_)
        · repeat' (first | exact MapOff.base | refine MapOff.put (by decide) ?_ | refine MapOff.inner (by decide) ?_)
        · exact off_same (f := f2) (pre := [_, _, _, _, _, _]) (SameA.upd rfl rfl rfl) off2
        · have : (stepS S j).R = S.R := by unfold stepS; dsimp only; rw [if_neg (by rw [← hnpj]; exact hz)]
          rw [this]
          exact hrv2
    · rintro u2 nx h tk ⟨f2, rv2, er2, hsa2, hnp2, hse, hrv2, rfl⟩ F N
      clear lF' N4
      replace F : Fr g L' _ _ := F
      replace N : News g L' _ _ := N
      have hsa3 := hsa.trans hsa2
      have ok2 := ok.same hsa3
      clear a1 a3 a5 a6 a7 a8 a9 c1 b1
      have a1 := neN ok2.n1
      have a3 := neN ok2.n3
      have a5 := neN ok2.n5
      have a7 := ltN (lP (dx, _) (.tail _ (.head _)))
      have c2 := neN (off (dx, _) (.tail _ (.tail _ (.head _))))
      have b2 : ∀ p ∈ reg f2 n ++ rest, p.1 ≠ dx := fun p hp => (List.mem_append.mp hp).elim (ok2.od.all p) fun h => (ok2.orr p h).2.1
      iterate 10 ((try (first | with_reducible refine Mine.hide_execT fun Qh tkh hQh => ?_ | with_reducible refine Mine.hide_exec fun Qh hQh => ?_ | with_reducible refine Mine.hide_loop fun Qh hQh => ?_ | with_reducible refine Mine.hide_comp fun Qh hQh => ?_ | with_reducible refine Mine.hide_tok fun tkh => ?_)); (first | walk1 | (dsimp only; walk1) | (refine hQh _ _ ?_; clear hQh; try clear Qh)); try dsimp only)
      rename News _ _ _ _ => N5
      have e0 : (ns.take (kk + 1)).foldl (stepN sn) st = stepN sn st1 i := by
        rw [List.take_add_one, hik, List.foldl_append, hst]; rfl
      have e1 : (sn i).take (f' i).su.length = sn i := by
        rw [List.take_of_length_le]
        have := (hsn i hi).length
        rw [hsu i hi, this, List.length_map]; exact Nat.le_refl _
      rw [e1] at hnp2 hrv2
      have e2 : b + (kk : Int) + 1 = b + ((kk + 1 : Nat) : Int) := by lia
      rw [e2] at N5
      refine LEnd.intro _ (by k_asm) N5 ?_ (fun p hp => .tail _ hp) (.head _) ?_ ⟨f2, rv2, er2, _, hsa3, ?_, ?_, ?_, rfl⟩
      · repeat' (first | exact MapOff.base | refine MapOff.put (by decide) ?_ | refine MapOff.inner (by decide) ?_)
      · have := off_same (f := f') (pre := [_, _, _, _, _]) hsa2 off
        exact offR (pre := [_, _, _, _]) (offR (pre := [_, _]) this)
      · intro j hj; rw [e0]; exact hnp2 j hj
      · intro j hj; rw [(hse j hj).1, hsu j hj]
      · rw [e0]; exact hrv2
  · rintro u nx h tk ⟨f', rv', er', tb', hsa, hnp', hsu, hrv', rfl⟩ F N
    iterate 1 ((try (first | with_reducible refine Mine.hide_execT fun Qh tkh hQh => ?_ | with_reducible refine Mine.hide_exec fun Qh hQh => ?_ | with_reducible refine Mine.hide_loop fun Qh hQh => ?_ | with_reducible refine Mine.hide_comp fun Qh hQh => ?_ | with_reducible refine Mine.hide_tok fun tkh => ?_)); (first | walk1 | (dsimp only; walk1) | (refine hQh _ _ ?_; clear hQh; try clear Qh)); try dsimp only)
    have e1 : ns.take vs.length = ns := by rw [List.take_of_length_le]; rw [hv.length, List.length_map]; exact Nat.le_refl _
    rw [e1] at hnp' hrv'
    have e2 : vs.length = ns.length := by rw [hv.length, List.length_map]
    rw [e2] at N
    exact leaveK_ (by k_asm) (by k_asm) (fun kF kN => hQ f' _ _ _ _ _ hsa hnp' hsu hrv' kF (subN kN fun p hp => .tail _ hp))
end
end Mine

namespace Mine
open Calls
open Sem (wp)
abbrev mwObj (it : Addr) : Obj := { cls := .type "method-wrapper", data := .fields #[.builtin "list_iterator.__next__", .ref it] }
theorem slot_li_ga : Slot "list_iterator" "__getattribute__" "object.__getattribute__" :=
  .of (owner := "object") (n := "__getattribute__") (by rw [typeLookup_type, builtinLookup_eq_fast]; kernel_rfl) (by decide +kernel) (by decide +kernel) (by decide +kernel)
    (by first | exact .inl (by decide +kernel) | exact .inr (by decide +kernel)) (by rw [isSubtype_type]; kernel_rfl)
theorem entry_li_ga : entryFor table "object.__getattribute__" = some Builtin.«object.__getattribute__» := entryFor_of_tree (by kernel_rfl)
theorem args_li_ga (a b : Value) : argsOk "object.__getattribute__" ⟨[a, b], []⟩ := by unfold argsOk; kernel_rfl
theorem li_getattr_none : typeLookup (.type "list_iterator") "__getattr__" = pure none := by rw [typeLookup_type, builtinLookup_eq_fast]; kernel_rfl
theorem li_next : typeLookup (.type "list_iterator") (Str.ofString "__next__") = pure (some (.builtin "list_iterator.__next__")) := by rw [typeLookup_type, builtinLookup_eq_fast]; kernel_rfl
theorem type_li_next : typeOf (.builtin "list_iterator.__next__") = pure (.type "wrapper_descriptor") := by show builtinType _ = _; rw [builtinType_eq_fast]; kernel_rfl
theorem wd_get : typeLookup (.type "wrapper_descriptor") "__get__" = pure (some (.builtin "wrapper_descriptor.__get__")) := by rw [typeLookup_type, builtinLookup_eq_fast]; kernel_rfl
theorem wd_set : typeLookup (.type "wrapper_descriptor") "__set__" = pure none := by rw [typeLookup_type, builtinLookup_eq_fast]; kernel_rfl
theorem wd_del : typeLookup (.type "wrapper_descriptor") "__delete__" = pure none := by rw [typeLookup_type, builtinLookup_eq_fast]; kernel_rfl
theorem slot_wd_get : Slot "wrapper_descriptor" "__get__" "wrapper_descriptor.__get__" :=
  .of (owner := "wrapper_descriptor") (n := "__get__") (by rw [typeLookup_type, builtinLookup_eq_fast]; kernel_rfl) (by decide +kernel) (by decide +kernel) (by decide +kernel)
    (by first | exact .inl (by decide +kernel) | exact .inr (by decide +kernel)) (by rw [isSubtype_type]; kernel_rfl)
theorem entry_wd_get : entryFor table "wrapper_descriptor.__get__" = some Builtin.«wrapper_descriptor.__get__» := entryFor_of_tree (by kernel_rfl)
theorem args_wd_get (a b c : Value) : argsOk "wrapper_descriptor.__get__" ⟨[a, b, c], []⟩ := by unfold argsOk; kernel_rfl

theorem meets_ga_next (a : Addr) (vs : Array Value) (sl : Array (Option Value)) (u : Tok) :
    Meets (Builtin.«object.__getattribute__» ⟨[.ref a, .str (Str.ofString "__next__") u], []⟩) (fun A R s => s.heap.get? a = some { cls := .type "list_iterator", dict := none, data := .fields vs, slots := sl } ∧ R (.ok (.ret (.ref s.heap.objs.size))) { s with heap := s.heap.push (mwObj a) }) :=
  Meets.of_wp fun prog w A R s hs => by
    obtain ⟨hp, g, d, tk, os⟩ := s
    obtain ⟨hx, hs⟩ := hs
    have hT : (⟨hp, g, d, tk, os⟩ : Shared).TypeIs (.ref a) "list_iterator" := ⟨_, hx, rfl⟩
    have f1 := li_next
    have f2 := type_li_next
    have f3 := wd_get
    have f4 := wd_set
    have f5 := wd_del
    unfold Builtin.«object.__getattribute__»
    repeat (any_goals (first | assumption | wp_step))
    refine codeAny_call_builtin slot_wd_get.plain entry_wd_get (slot_wd_get.check _ _ _ _ _ _ _ _ type_li_next (args_wd_get _ _ _) ?_)
    have f6 : isSubtype (.type "list_iterator") (.type "list_iterator") = pure true := by rw [isSubtype_type]; kernel_rfl
    unfold Builtin.«wrapper_descriptor.__get__»
    repeat (any_goals (first | assumption | wp_step))
    have hcut : ".".intercalate ("list_iterator.__next__".cutAt '.').dropLast = "list_iterator" := by decide +kernel
    rw [hcut]
    repeat (any_goals (first | assumption | wp_step))
    exact ⟨_, rfl, hs⟩

theorem getAttr_next {prog : Program} {w : World} {A : Around} {E : Value → Shared → Prop} {s : Shared} {a l : Addr} {i : Nat} {Q : Value → Shared → Prop}
    (hx : s.heap.get? a = some { cls := .type "list_iterator", data := .fields #[.ref l, .int i 0] })
    (h : ∀ tk, Q (.ref s.heap.objs.size) { s with heap := s.heap.push (mwObj a), toks := tk }) :
    wpAny (model prog w) A (getAttr (.ref a) (Str.ofString "__next__") true) Q E s := by
  obtain ⟨hp, g, d, tk, os⟩ := s
  have hT : ∀ tk', (⟨hp, g, d, tk', os⟩ : Shared).TypeIs (.ref a) "list_iterator" := fun _ => ⟨_, hx, rfl⟩
  have f3 := slot_li_ga.lookup
  have f4 := slot_li_ga.bind (.ref a)
  have f5 := li_getattr_none
  unfold getAttr getAttrBy
  repeat (any_goals (first | assumption | exact hT _ | ((with_reducible show wpAny _ _ (call (Value.builtin "object.__getattribute__") _ _) _ _ _); refine call_meets slot_li_ga (hT _) entry_li_ga (args_li_ga _ _) (meets_ga_next a _ _ _) ⟨hx, ?_⟩) | wp_step))
  exact wpAny_pure (h _)

end Mine

namespace Mine
open Calls
open Sem (wp)
theorem li_bound_ok (a : Addr) : checkBoundCall "list_iterator.__next__" ⟨[.ref a], []⟩ = pure () := by kernel_rfl
section
variable {prog : Program} {w : World} {A : Around} {E : Value → Shared → Prop} {s : Shared}
theorem mw_call {mw it : Addr} {Q : Value → Shared → Prop} (hm : s.heap.get? mw = some (mwObj it))
    (h : codeAny (model prog w) A (.builtin "list_iterator.__next__" ⟨[.ref it], []⟩) (fun r s' => match r with | .ok (.ret v) => Q v s' | .ok _ => False | .error e => E e s') s) :
    wpAny (model prog w) A (call (.ref mw) []) Q E s := by
  refine wpAny_call (codeAny_of_tree ?_)
  show wpAny _ _ (callAny (.ref mw) ⟨[], []⟩) _ _ _
  simp only [callAny]
  refine wpAny_bind (wpAny_load hm ?_)
  simp only [show (Value.type "method-wrapper" == Value.type "method" || Value.type "method-wrapper" == Value.type "builtin_function_or_method" || Value.type "method-wrapper" == Value.type "method-wrapper") = true by decide, if_true]
  show wpAny _ _ (do checkBoundCall "list_iterator.__next__" ⟨[.ref it], []⟩; again (Code.builtin "list_iterator.__next__" ⟨[.ref it], []⟩)) _ _ _
  refine wpAny_bind (wpAny_of_eq (a := ()) (li_bound_ok it) (wpAny_pure ⟨Code.quiet_builtin _ (by decide +kernel), h⟩))
theorem next_item {it l : Addr} {i : Nat} {items : Array Value} {x : Value} {R : Result → Shared → Prop} (ho : s.heap.get? it = some { cls := .type "list_iterator", data := .fields #[.ref l, .int i 0] }) (hl : s.heap.IsList l items) (hx : items[i]? = some x)
    (hQ : ∀ h', h'.get? it = some { cls := .type "list_iterator", data := .fields #[.ref l, .int (i + 1 : Nat) 0] } → Heap.SameBut it s.heap h' → R (.ok (.ret x)) { s with heap := h' }) :
    codeAny (model prog w) A (.builtin "list_iterator.__next__" ⟨[.ref it], []⟩) R s := by
  obtain ⟨ol, hol, _, nl, hdl⟩ := hl
  refine codeAny_builtin entry_listiter_next ?_
  show wpAny _ _ (field (.ref it) 0 >>= _) _ _ s
  refine wpAny_bind (wpAny_field ho rfl (x := .ref l) rfl ?_)
  show wpAny _ _ (if (Value.ref l == Value.none) = true then _ else _) _ _ s
  rw [if_neg (show ¬ ((Value.ref l == Value.none) = true) from Bool.false_ne_true)]
  show wpAny _ _ (field (.ref it) 1 >>= _) _ _ s
  refine wpAny_bind (wpAny_field ho rfl (x := .int i 0) rfl ?_)
  show wpAny _ _ (seqItems? (.ref l) >>= _) _ _ s
  refine wpAny_bind (wpAny_seqItems hol hdl ?_)
  simp only [Int.toNat_natCast, hx]
  refine wpAny_bind (wpAny_setField ho rfl (by simp) (wpAny_pure (hQ _ ?_ (Heap.SameBut.update ..))))
  rw [Heap.get?_update_self _ ho rfl]
  simp [Obj.mapFields, rawInt]
theorem next_end {it l : Addr} {i : Nat} {items : Array Value} {R : Result → Shared → Prop} (hh : A.handled = none) (ho : s.heap.get? it = some { cls := .type "list_iterator", data := .fields #[.ref l, .int i 0] }) (hl : s.heap.IsList l items) (hx : items[i]? = none)
    (hQ : ∀ h₁ h' e, Heap.SameBut it s.heap h₁ → Heap.NewExc h₁ h' e "StopIteration" → R (.error (.ref e)) { s with heap := h' }) :
    codeAny (model prog w) A (.builtin "list_iterator.__next__" ⟨[.ref it], []⟩) R s := by
  obtain ⟨ol, hol, _, nl, hdl⟩ := hl
  refine codeAny_builtin entry_listiter_next ?_
  show wpAny _ _ (field (.ref it) 0 >>= _) _ _ s
  refine wpAny_bind (wpAny_field ho rfl (x := .ref l) rfl ?_)
  show wpAny _ _ (if (Value.ref l == Value.none) = true then _ else _) _ _ s
  rw [if_neg (show ¬ ((Value.ref l == Value.none) = true) from Bool.false_ne_true)]
  show wpAny _ _ (field (.ref it) 1 >>= _) _ _ s
  refine wpAny_bind (wpAny_field ho rfl (x := .int i 0) rfl ?_)
  show wpAny _ _ (seqItems? (.ref l) >>= _) _ _ s
  refine wpAny_bind (wpAny_seqItems hol hdl ?_)
  simp only [Int.toNat_natCast, hx]
  refine wpAny_bind (wpAny_rule (wpAny_bind (wpAny_setField ho rfl (by simp) ?_)))
  show wpAny _ _ (newExc (.type "StopIteration") [] >>= _) _ _ _
  refine wpAny_bind ?_
  simp only [newExc, newTuple]
  refine wpAny_bind (wpAny_newObj_type ?_ (by size_fits))
  refine wpAny_bind (m := firstArgMember _ _) (wpAny_of_eq (a := Value.none) (by first | rfl | (simp only [firstArgMember]; rfl)) ?_)
  refine wpAny_newObj_type ?_ (by size_fits)
  simp only [raiseNew]
  refine wpAny_bind (wpAny_handled ?_)
  rw [show (A.under (Code.builtin "list_iterator.__next__" ⟨[.ref it], []⟩)).handled = none from hh]
  refine wpAny_bind (wpAny_pure (wpAny_throw ?_))
  refine hQ _ _ _ (Heap.SameBut.update ..) ⟨fun b o hb => Heap.get?_push_of_some _ (Heap.get?_push_of_some _ hb), Heap.get?_none_of_le (by simp), ⟨_, _, Heap.get?_push_size _ rfl, rfl, rfl⟩⟩
theorem iter_list {l : Addr} {items : Array Value} {Q : Value → Shared → Prop} (hl : s.heap.IsList l items)
    (h : Q (.ref s.heap.objs.size) { s with heap := s.heap.push { cls := .type "list_iterator", data := .fields #[.ref l, .int 0 0] } }) : wpAny (model prog w) A (call (.builtin "iter") [.ref l]) Q E s := by
  refine call_function_entry (by decide +kernel) (by decide +kernel) kdk_entry_iter (kdk_args_iter _) ?_
  unfold Builtin.«iter»
  refine wpAny_bind (m := someArgs "iter" 1 2 _) (wpAny_of_eq (a := [Value.ref l]) (by first | rfl | kernel_rfl!) ?_)
  dsimp only
  exact wpAny_bind (wpAny_pyIter_list hl (wpAny_pure ⟨_, rfl, h⟩))
/-- call of a method-wrapper without arguments -/
theorem callWith_mw {pos : Pos} {u it : Addr} {Q : Value → Shared → Prop} (ho : s.heap.get? u = some (mwObj it))
    (h : wpAny (model prog w) A (call (.ref u) []) Q E s) : wpAny (model prog w) A (callWith pos (.ref u) [] [] []) Q E s := by
  unfold callWith
  refine wpAny_bind (wpAny_holding (evalArgs_nil3 (wpAny_bind (wpAny_standAt ?_))))
  refine wpAny_bind (m := keeperOf (.ref u)) ?_
  unfold keeperOf
  refine wpAny_bind (wpAny_load ho ?_)
  simp only [show (Value.type "method-wrapper" != Value.type "method") = true by decide, show (Value.type "method-wrapper" == Value.type "builtin_function_or_method" || Value.type "method-wrapper" == Value.type "method-wrapper") = true by decide, if_true]
  refine wpAny_pure ?_
  exact wpAny_bind (wpAny_mono h (fun r s₂ hr => wpAny_bind (wpAny_holding (wpAny_point (wpAny_pure hr)))) fun _ _ x => x)
end
end Mine

namespace Mine
open PyProof.Rows.TI (Frs SameUp)
/-- a room whose frames are known -/
abbrev lvF (l : List Env) (d u : Nat) : Around := { handled := none, depth := d, frames := some l, guards := some [], units := u }
theorem Below.lvF {Γ : Ctx} {A : Around} {l : List Env} {d u : Nat} (x : Γ.Below A) (hl : A.frames = some l) (hh : A.handled = none) (hg : A.guards = some []) (hd : A.depth ≤ d) (hu : A.units ≤ u) : Γ.Below (lvF l d u) := by
  obtain ⟨a, b, c, e, f⟩ := x
  refine ⟨a.trans hh, Nat.le_trans b hd, fun l' hl' => c l' (hl.trans hl'), fun g hg' => ?_, Nat.le_trans f hu⟩
  exact e g (hg.trans hg')
theorem In.lvF {Γ : Ctx} {A : Around} {l : List Env} {d u : Nat} (x : Γ.In A) (hl : A.frames = some l) (hh : A.handled = none) (hg : A.guards = some []) (hd : A.depth ≤ d) (hu : A.units ≤ u) : Γ.In (lvF l d u) := by
  obtain ⟨a, b, c, e, f⟩ := x
  refine ⟨a.trans hh, Nat.le_trans b hd, fun l' hl' => c l' (hl.trans hl'), fun g hg' => ?_, Nat.le_trans f hu⟩
  exact e g (hg.trans hg')
theorem codeAny_lvF {M : Model} {A : Around} {l : List Env} {d u : Nat} {c : Code} {R : Result → Shared → Prop} {s : Shared} (h : codeAny M (lvF l d u) c R s) (hl : A.frames = some l)
    (hh : A.handled = none) (hg : A.guards = some []) (hd : A.depth ≤ d) (hu : A.units ≤ u) : codeAny M A c R s :=
  fun Γ p hc hΓ => h Γ p hc (Below.lvF hΓ hl hh hg hd hu)
theorem wpAny_lvF {α : Type} {M : Model} {A : Around} {l : List Env} {d u : Nat} {t : Sem α} {Q : α → Shared → Prop} {E : Value → Shared → Prop} {s : Shared} (h : wpAny M (lvF l d u) t Q E s) (hl : A.frames = some l)
    (hh : A.handled = none) (hg : A.guards = some []) (hd : A.depth ≤ d) (hu : A.units ≤ u) : wpAny M A t Q E s :=
  fun Γ p hΓ => h Γ p (In.lvF hΓ hl hh hg hd hu)

/-- back to the caller, whose frame (and those below) may have new slots -/
noncomputable def LeaveF (h₀ : Heap) (L : Addr) (oL : Obj) (frs : List (Addr × Obj)) (m : Str → Option Value) (R : Result → Shared → Prop) (v : Value) (s' : Shared) : Prop :=
  ∃ L' m' news' frs', SameUp ((L, oL) :: frs) frs' ∧ Fr h₀ L' s'.heap m' ∧ News h₀ L' s'.heap (news' ++ frs') ∧ (∀ p ∈ news', p.1 ≠ L) ∧
    (∀ frs1, SameUp frs frs1 → Fr h₀ L s'.heap m → News h₀ L s'.heap (news' ++ frs1) → R (.ok (.ret v)) s')
theorem leaveF_ {h₀ : Heap} {L L' : Addr} {oL : Obj} {frs frs' : List (Addr × Obj)} {m m' : Str → Option Value} {R : Result → Shared → Prop} {v : Value} {s' : Shared} {news' : List (Addr × Obj)}
    (SU : SameUp ((L, oL) :: frs) frs') (F : Fr h₀ L' s'.heap m') (N : News h₀ L' s'.heap (news' ++ frs')) (off : ∀ p ∈ news', p.1 ≠ L)
    (k : ∀ frs1, SameUp frs frs1 → Fr h₀ L s'.heap m → News h₀ L s'.heap (news' ++ frs1) → R (.ok (.ret v)) s') : LeaveF h₀ L oL frs m R v s' := ⟨L', m', news', frs', SU, F, N, off, k⟩
theorem SameUp.fwd' : ∀ {a b : List (Addr × Obj)}, SameUp a b → ∀ q ∈ b, ∃ p ∈ a, p.1 = q.1 := by
  intro a
  induction a with
  | nil => intro b h q hq; cases b with | nil => cases hq | cons _ _ => exact False.elim h
  | cons p ps ih =>
    intro b h q hq
    cases b with
    | nil => cases hq
    | cons r rs =>
      obtain ⟨h1, _, h3⟩ := h
      rcases List.mem_cons.mp hq with rfl | hq
      · exact ⟨p, .head _, h1.symm⟩
      · obtain ⟨x, hx, e⟩ := ih h3 q hq
        exact ⟨x, .tail _ hx, e⟩

theorem enterF {w : World} {A : Around} {s : Shared} {K : Frag} {R : Result → Shared → Prop} {name qual : Str} {params : Arguments} {body : List Stmt} {scope : Scope} {dV kV doc pm cdv ct oc : Value} {an od : Option Addr} {osl : Array (Option Value)} {f : Addr} {args : Args} {binds : List (Str × Value)}
    {h₀ : Heap} {L : Addr} {m mg mb : Str → Option Value} {news frs : List (Addr × Obj)} {mean : ExcName → Option Value} {p : Program} {loose : List Str}
    (F : Fr h₀ L s.heap m) (N : News h₀ L s.heap (news ++ frs)) (X₀ : K.In h₀) (T : Top p loose mean mg mb h₀)
    (ho : K.lookup f = some ⟨oc, od, .func (fnOf name qual params body scope dV kV doc pm an cdv ct), osl⟩) (hcd : codeIn K cdv qual = true) (hroom : A.depth < recursionLimit)
    (hbind : BindsTo s (fnOf name qual params body scope dV kV doc pm an cdv ct) args binds) (hloc : ∀ y ∈ binds, scope.names.lookup y.1 = some .local)
    (h : ∀ oL L' h₁ tk, (∃ es ep, oL.data = .dict es ep) → Fr h₀ L' h₁ (fun y => binds.reverse.lookup y) → News h₀ L' h₁ (news ++ (L, oL) :: frs) → (∀ p ∈ news ++ frs, p.1 < L') → L < L' → (∀ p ∈ news ++ frs, p.1 ≠ L) →
      wpAny (model prg w) (A.deeper (envOf qual scope L' f cdv)) (execs body (envOf qual scope L' f cdv))
        (fun fl s' => LeaveF h₀ L oL frs m R (match fl with | .ret v => v | _ => .none) s') (fun _ _ => False) { s with heap := h₁, toks := tk })
    (hco : scope.isCoroutine = false) (hgen : scope.isGenerator = false) (hk : scope.kind = .function)
    (hcell : ∀ x ∈ scope.names, x.2 ≠ .cell) : codeAny (model prg w) A (.call (.ref f) args) R s := by
  have X := X₀.keeps F.keep
  refine codeAny_call_def (fd := fnOf name qual params body scope dV kV doc pm an cdv ct) (body := body) (binds := binds) hroom (X _ _ ho) rfl (T.nolimit.keeps F.keep) (codeRec_of X hcd) rfl hbind hcell hloc (fun h₁ hns hk₁ => ?_) hco hgen hk
  obtain ⟨oL, es, ep, hL, hLd, hLk, hLf⟩ := F.ns
  have hlt : L < s.heap.objs.size := Heap.lt_size hL
  have hL0 : h₀.get? L = none := by
    cases q : h₀.get? L with
    | none => rfl
    | some o => exact absurd (Nat.lt_of_lt_of_le (Heap.lt_size q) F.above) (Nat.lt_irrefl _)
  refine wpAny_mono (h oL s.heap.objs.size h₁ _ ⟨es, ep, hLd⟩ ⟨hns, fun b o e => hk₁ b o (F.keep b o e), Nat.le_of_lt (Nat.lt_of_le_of_lt F.above hlt)⟩
    (fun p hp => ?_) (fun p hp => Heap.lt_size (N p hp).1) hlt (fun p hp => (N p hp).2.1)) (fun fl s' hl => ?_) fun _ _ y => y.elim
  · rcases List.mem_append.mp hp with hp | hp
    · exact ⟨hk₁ _ _ (N p (List.mem_append_left _ hp)).1, Nat.ne_of_lt (Heap.lt_size (N p (List.mem_append_left _ hp)).1), (N p (List.mem_append_left _ hp)).2.2⟩
    · rcases List.mem_cons.mp hp with rfl | hp
      · exact ⟨hk₁ _ _ hL, Nat.ne_of_lt hlt, hL0⟩
      · exact ⟨hk₁ _ _ (N p (List.mem_append_right _ hp)).1, Nat.ne_of_lt (Heap.lt_size (N p (List.mem_append_right _ hp)).1), (N p (List.mem_append_right _ hp)).2.2⟩
  · obtain ⟨L', m', news', frs', SU, F', N', off, k⟩ := hl
    cases frs' with
    | nil => exact False.elim SU
    | cons q qs =>
      obtain ⟨h1, ⟨sl, h2⟩, h3⟩ := SU
      obtain ⟨qa, qo⟩ := q
      have h1 : qa = L := h1
      have h2 : qo = { oL with slots := sl } := h2
      subst h1; subst h2
      have hL' := (N' (qa, { oL with slots := sl }) (List.mem_append_right _ (.head _))).1
      refine k qs h3 ⟨⟨_, es, ep, hL', hLd, hLk, hLf⟩, F'.keep, F.above⟩ fun p hp => ?_
      rcases List.mem_append.mp hp with hp | hp
      · exact ⟨(N' p (List.mem_append_left _ hp)).1, off p hp, (N' p (List.mem_append_left _ hp)).2.2⟩
      · obtain ⟨x, hx, e⟩ := SameUp.fwd' h3 p hp
        exact ⟨(N' p (List.mem_append_right _ (.tail _ hp))).1, e ▸ (N x (List.mem_append_right _ hx)).2.1, (N' p (List.mem_append_right _ (.tail _ hp))).2.2⟩
end Mine

namespace Mine
open PyProof.Rows.TI (Frs SameUp)
theorem enterFC {w : World} {A : Around} {s : Shared} {K : Frag} {R : Result → Shared → Prop} {name qual : Str} {params : Arguments} {body : List Stmt} {scope : Scope} {dV kV doc pm cdv ct oc : Value} {an od : Option Addr} {osl : Array (Option Value)} {f : Addr} {args : Args} {binds : List (Str × Value)}
    {h₀ : Heap} {L : Addr} {m mg mb : Str → Option Value} {news frs : List (Addr × Obj)} {mean : ExcName → Option Value} {p : Program} {loose : List Str}
    (F : Fr h₀ L s.heap m) (N : News h₀ L s.heap (news ++ frs)) (X₀ : K.In h₀) (T : Top p loose mean mg mb h₀)
    (ho : K.lookup f = some ⟨oc, od, .func (fnOf name qual params body scope dV kV doc pm an cdv ct), osl⟩) (hcd : codeIn K cdv qual = true) (hroom : A.depth < recursionLimit)
    (hbind : BindsTo s (fnOf name qual params body scope dV kV doc pm an cdv ct) args binds) (hkind : (binds.all fun y => scope.names.lookup y.1 == some .local || scope.names.lookup y.1 == some .cell) = true)
    (hnd : ((cellsFrom 0 scope.names []).map (·.1)).Nodup)
    (h : ∀ oL L' h₁ tk cells, (∃ es ep, oL.data = .dict es ep) → Fr h₀ L' h₁ (bindL (envOfC qual scope L' f cdv).kindOf binds fun _ => none) → News h₀ L' h₁ (cells ++ (news ++ (L, oL) :: frs)) → CellsAre (bindC (envOfC qual scope L' f cdv).kindOf binds fun _ => none) (cellsFrom (L' + 1) scope.names []) cells → (∀ p ∈ news ++ frs, p.1 < L') → L < L' → (∀ p ∈ news ++ frs, p.1 ≠ L) →
      wpAny (model prg w) (A.deeper (envOfC qual scope L' f cdv)) (execs body (envOfC qual scope L' f cdv))
        (fun fl s' => LeaveF h₀ L oL frs m R (match fl with | .ret v => v | _ => .none) s') (fun _ _ => False) { s with heap := h₁, toks := tk })
    (hco : scope.isCoroutine = false) (hgen : scope.isGenerator = false) (hk : scope.kind = .function) : codeAny (model prg w) A (.call (.ref f) args) R s := by
  have X := X₀.keeps F.keep
  refine codeAny_call_function hroom (X _ _ ho) rfl hco hgen rfl (codeRec_of X hcd) (hbind _ _ _ _ ?_)
  refine wpAny_newFunctionEnv_cells hk (kindsX hkind _) fun env' he s' x => ?_
  subst he
  refine ⟨(T.nolimit.keeps F.keep).keeps x.toInCall.keep, codeAny_func ?_⟩
  obtain ⟨h₁, tk, rfl, _⟩ := x.done
  have hk₁ := x.toInCall.keep
  obtain ⟨cells, NC, Y⟩ := Cl.news (h₀ := s.heap) (Nat.le_refl _) fun n c hm => ⟨x.cell n c (lookup_of_mem_nodup (cellsFrom_names scope.names 0 (s.heap.objs.size + 1) [] [] rfl ▸ hnd) hm), x.above n c hm⟩
  obtain ⟨oL, es, ep, hL, hLd, hLk, hLf⟩ := F.ns
  have hlt : L < s.heap.objs.size := Heap.lt_size hL
  have hL0 : h₀.get? L = none := by
    cases q : h₀.get? L with
    | none => rfl
    | some o => exact absurd (Nat.lt_of_lt_of_le (Heap.lt_size q) F.above) (Nat.lt_irrefl _)
  have fresh : ∀ a, s.heap.get? a = none → h₀.get? a = none := fun a ha => by
    cases q : h₀.get? a with
    | none => rfl
    | some o => rw [F.keep a o q] at ha; cases ha
  refine wpAny_mono (h oL s.heap.objs.size h₁ tk cells ⟨es, ep, hLd⟩ ⟨x.toInCall.ns, fun b o e => hk₁ b o (F.keep b o e), Nat.le_of_lt (Nat.lt_of_le_of_lt F.above hlt)⟩
    (fun p hp => ?_) Y (fun p hp => Heap.lt_size (N p hp).1) hlt (fun p hp => (N p hp).2.1)) (fun fl s' hl => ?_) fun _ _ y => y.elim
  · rcases List.mem_append.mp hp with hp | hp
    · exact ⟨(NC p hp).1, (NC p hp).2.1, fresh _ (NC p hp).2.2⟩
    rcases List.mem_append.mp hp with hp | hp
    · exact ⟨hk₁ _ _ (N p (List.mem_append_left _ hp)).1, Nat.ne_of_lt (Heap.lt_size (N p (List.mem_append_left _ hp)).1), (N p (List.mem_append_left _ hp)).2.2⟩
    · rcases List.mem_cons.mp hp with rfl | hp
      · exact ⟨hk₁ _ _ hL, Nat.ne_of_lt hlt, hL0⟩
      · exact ⟨hk₁ _ _ (N p (List.mem_append_right _ hp)).1, Nat.ne_of_lt (Heap.lt_size (N p (List.mem_append_right _ hp)).1), (N p (List.mem_append_right _ hp)).2.2⟩
  · obtain ⟨L', m', news', frs', SU, F', N', off, k⟩ := hl
    cases frs' with
    | nil => exact False.elim SU
    | cons q qs =>
      obtain ⟨h1, ⟨sl, h2⟩, h3⟩ := SU
      obtain ⟨qa, qo⟩ := q
      have h1 : qa = L := h1
      have h2 : qo = { oL with slots := sl } := h2
      subst h1; subst h2
      have hL' := (N' (qa, { oL with slots := sl }) (List.mem_append_right _ (.head _))).1
      refine k qs h3 ⟨⟨_, es, ep, hL', hLd, hLk, hLf⟩, F'.keep, F.above⟩ fun p hp => ?_
      rcases List.mem_append.mp hp with hp | hp
      · exact ⟨(N' p (List.mem_append_left _ hp)).1, off p hp, (N' p (List.mem_append_left _ hp)).2.2⟩
      · obtain ⟨x, hx, e⟩ := SameUp.fwd' h3 p hp
        exact ⟨(N' p (List.mem_append_right _ (.tail _ hp))).1, e ▸ (N x (List.mem_append_right _ hx)).2.1, (N' p (List.mem_append_right _ (.tail _ hp))).2.2⟩
end Mine

namespace Mine
open PyProof.Rows.TI (Frs SameUp)
section
variable {prog : Program} {w : World} {A : Around} {E : Value → Shared → Prop} {s : Shared} {env : Env} {h₀ : Heap} {x : Str} {body : List Stmt} {Q : Flow → Shared → Prop}
/-- a loop over a dict's keys -/
theorem loopK {d : Addr} {od : Obj} {kvs : List (Int × Value)} {m₀ : Str → Option Value} {news : List (Addr × Obj)} (vars : List Str) (J : Nat → (Str → Option Value) → List (Addr × Obj) → Prop)
    (hh : A.handled = none) (F : Fr h₀ env.locals s.heap m₀) (N : News h₀ env.locals s.heap news) (hd : od.IsDictOf (PySem.intKind prog w) kvs) (lo : (d == sysModules) = false)
    (hJK : ∀ i m nx, J i m nx → (d, od) ∈ nx) (hj : J 0 m₀ news)
    (turn : ∀ (i : Nat) k t m₁ nx h tk I oI, (kvs.map (·.1))[i]? = some k → (∀ p ∈ news, p.1 < I) → (∀ p ∈ nx, p.1 ≠ I) → J i m₁ nx → Fr h₀ env.locals h (fun z => if z = x then some (.int k t) else if vars.contains z then m₁ z else m₀ z) → News h₀ env.locals h ((I, oI) :: nx) →
      wpAny (model prog w) A (execs body env) (LPost h₀ env.locals vars m₀ (J (i + 1)) I oI { s with heap := h, toks := tk } Q) E { s with heap := h, toks := tk })
    (done : ∀ m₁ nx h tk, J kvs.length m₁ nx → Fr h₀ env.locals h (fun z => if vars.contains z then m₁ z else m₀ z) → News h₀ env.locals h nx → Q .next { s with heap := h, toks := tk }) :
    wpAny (model prog w) A (pyIter (.ref d)) (fun it s₂ => LoopAtV prog w A h₀ env x body Q E it s₂) E s := by
  have hm := hJK _ _ _ hj
  have hax := N _ hm
  obtain ⟨ep, hat⟩ := (kda_dict N hm hd).dictAt
  have hne : d ≠ s.heap.objs.size := Nat.ne_of_lt hat.lt_size
  refine wpAny_pyIter_dict lo hat ?_
  refine loop_core vars J [(d, od)] (Walks.dictKeys (knd := PySem.intKind prog w) hh s.heap.objs.size d hne kvs ep) (fun b hb => ?_) (fun i m nx hJ p hp => by rw [List.mem_singleton.mp hp]; exact .inl (hJK i m nx hJ)) (fun i h st => ?_) ?_ (next_is_new F) (fun p hp => Nat.ne_of_lt (Heap.lt_size (N p hp).1))
    ⟨⟨_, Heap.get?_push_size _ rfl, rfl, rfl⟩, hat.push _⟩ (F.push _) (fun p hp => ⟨Heap.get?_push_of_some _ (N p hp).1, (N p hp).2⟩) hj ?_ done
  · have : b = s.heap.objs.size ∨ b = d := by simpa using hb
    exact this.imp id fun h => ⟨od, by simp [h]⟩
  · obtain ⟨⟨o, ho, _⟩, _⟩ := st
    exact ⟨o, ho⟩
  · intro hm
    have : env.locals = s.heap.objs.size ∨ env.locals = d := by simpa using hm
    rcases this with e | e
    · exact absurd F.ns.lt (e ▸ Nat.lt_irrefl _)
    · exact hax.2.1 e.symm
  · rintro i v m₁ nx h tk oI hi ⟨k, xx, hx, hk⟩ off hJ F₁ N₁
    obtain ⟨t, rfl⟩ : ∃ t, v = .int k t := by
      cases v <;> simp [intKind, Value.isInt] at hk
      rename_i a b
      first | exact ⟨b, by rw [hk]⟩ | exact ⟨b, by rw [← hk]⟩
    exact turn i k t m₁ nx h tk _ oI (by rw [List.getElem?_map, hx]; rfl) (fun p hp => Heap.lt_size (N p hp).1) off hJ F₁ N₁
variable {test : PySem.Expr} {orelse : List Stmt}
theorem while_ind (P : Nat → Shared → Prop) (step : ∀ μ s, (∀ μ', μ' < μ → ∀ s', P μ' s' → WhlRest prog w A E env test body orelse Q 0 s') → P μ s → WhlRest prog w A E env test body orelse Q 1 s) :
    ∀ μ s, P μ s → WhlRest prog w A E env test body orelse Q 0 s := by
  intro μ
  induction μ using Nat.strongRecOn with
  | ind μ ih => intro s h; exact step μ s (fun μ' hlt s' h' => ih μ' hlt s' h') h
end
theorem news_chg {h₀ h h' : Heap} {L a : Addr} {o' : Obj} {all all' : List (Addr × Obj)} (N : News h₀ L h all) (hs : Heap.SameBut a h h') (ho : h'.get? a = some o') (hL : a ≠ L) (h0 : h₀.get? a = none)
    (hm : ∀ p ∈ all', p = (a, o') ∨ (p ∈ all ∧ p.1 ≠ a)) : News h₀ L h' all' := fun p hp => by
  rcases hm p hp with rfl | ⟨h1, h2⟩
  · exact ⟨ho, hL, h0⟩
  · exact ⟨(hs.2 _ h2).trans (N p h1).1, (N p h1).2⟩
theorem put_put {a : Str} {x y : Option Value} {m : Str → Option Value} : (fun z => if z = a then x else if z = a then y else m z) = fun z => if z = a then x else m z := by
  funext z; by_cases h : z = a <;> simp [h]
/-- one frame of the search -/
structure Fe where
  v : Nat
  tv : Tok
  it : Addr
  mw : Addr
  pos : Nat
abbrev itObj (l : Addr) (i : Nat) : Obj := { cls := .type "list_iterator", data := .fields #[.ref l, .int i 0] }
noncomputable def itReg (f : Nat → Nd) (stk : List Fe) : List (Addr × Obj) := stk.flatMap fun e => [(e.it, itObj (f e.v).l e.pos), (e.mw, mwObj e.it)]
theorem itReg_cons {f : Nat → Nd} {a : Fe} {r : List Fe} : itReg f (a :: r) = (a.it, itObj (f a.v).l a.pos) :: (a.mw, mwObj a.it) :: itReg f r := rfl
theorem mem_itReg {f : Nat → Nd} {stk : List Fe} {p : Addr × Obj} : p ∈ itReg f stk ↔ ∃ e ∈ stk, p = (e.it, itObj (f e.v).l e.pos) ∨ p = (e.mw, mwObj e.it) := by simp [itReg, List.mem_flatMap]
/-- the frames' addresses lie above lim and rise -/
noncomputable def SG (lim : Addr) : List Fe → Prop
  | [] => True
  | a :: r => lim < a.it ∧ a.it < a.mw ∧ (∀ q ∈ r, q.mw < a.it) ∧ SG lim r
theorem SG.all {lim : Addr} : ∀ {stk : List Fe}, SG lim stk → ∀ e ∈ stk, lim < e.it ∧ e.it < e.mw := by
  intro stk
  induction stk with
  | nil => intro _ e he; cases he
  | cons a r ih =>
    intro h e he
    rcases List.mem_cons.mp he with rfl | he
    · exact ⟨h.1, h.2.1⟩
    · exact ih h.2.2.2 e he
theorem SG.above {lim a : Addr} {f : Nat → Nd} {stk : List Fe} (h : SG lim stk) (ha : a ≤ lim) : ∀ p ∈ itReg f stk, p.1 ≠ a := fun p hp => by
  obtain ⟨e, he, rfl | rfl⟩ := mem_itReg.mp hp
  · exact Nat.ne_of_gt (Nat.lt_of_le_of_lt ha (h.all e he).1)
  · exact Nat.ne_of_gt (Nat.lt_of_le_of_lt ha (Nat.lt_trans (h.all e he).1 (h.all e he).2))
/-- what is left to do -/
noncomputable def work (sn : Nat → List Nat) (n : Nat) (seen : List Nat) (stk : List Fe) : Nat :=
  (stk.map fun e => (sn e.v).length - e.pos).sum + (((List.range n).filter fun v => decide (v ∉ seen)).map fun v => (sn v).length + 1).sum
theorem unseen_sum {sn : Nat → List Nat} {seen : List Nat} {v : Nat} : ∀ l : List Nat, l.Nodup → v ∈ l → v ∉ seen →
    ((l.filter fun v => decide (v ∉ seen)).map fun v => (sn v).length + 1).sum = ((l.filter fun x => decide (x ∉ v :: seen)).map fun v => (sn v).length + 1).sum + ((sn v).length + 1) := by
  intro l
  induction l with
  | nil => intro _ h; cases h
  | cons a l ih =>
    intro hn hv hs
    rw [List.nodup_cons] at hn
    by_cases e : a = v
    · subst e
      have h1 : (l.filter fun x => decide (x ∉ a :: seen)) = l.filter fun x => decide (x ∉ seen) := by
        apply List.filter_congr
        intro x hx
        have : x ≠ a := fun e => hn.1 (e ▸ hx)
        simp [this]
      rw [List.filter_cons_of_pos (by simpa using hs), List.filter_cons_of_neg (by simp), h1]
      simp; lia
    · have hv' : v ∈ l := by rcases List.mem_cons.mp hv with rfl | h; exact absurd rfl e; exact h
      have := ih hn.2 hv' hs
      by_cases hc : a ∈ seen
      · rw [List.filter_cons_of_neg (by simpa using hc), List.filter_cons_of_neg (by simp [hc])]; exact this
      · rw [List.filter_cons_of_pos (by simpa using hc), List.filter_cons_of_pos (by simp [hc, e])]
        simp only [List.map_cons, List.sum_cons]; lia
theorem work_push {sn : Nat → List Nat} {n v : Nat} {seen : List Nat} {stk : List Fe} {e : Fe} (hv : v < n) (hs : v ∉ seen) (he : e.v = v) (hp : e.pos = 0) : work sn n (v :: seen) (e :: stk) + 1 = work sn n seen stk := by
  unfold work
  rw [unseen_sum (v := v) (List.range n) List.nodup_range (List.mem_range.mpr hv) hs]
  simp only [List.map_cons, List.sum_cons, he, hp]; lia
theorem work_take {sn : Nat → List Nat} {n : Nat} {seen : List Nat} {stk : List Fe} {a b : Fe} (hv : b.v = a.v) (hp : b.pos = a.pos + 1) (hlt : a.pos < (sn a.v).length) : work sn n seen (b :: stk) < work sn n seen (a :: stk) := by
  unfold work
  simp only [List.map_cons, List.sum_cons, hv, hp]; lia
theorem work_pop {sn : Nat → List Nat} {n : Nat} {seen : List Nat} {stk : List Fe} {a : Fe} : work sn n seen stk ≤ work sn n seen (a :: stk) := by
  unfold work
  simp only [List.map_cons, List.sum_cons]; lia
section
variable {prog : Program} {w : World} {A : Around} {E : Value → Shared → Prop} {s : Shared} {h₀ : Heap} {L : Addr} {m : Str → Option Value} {news : List (Addr × Obj)} {Q : Value → Shared → Prop}
theorem sub_last {value slice : PySem.Expr} {l : Addr} {vs : List Value} {u : Tok} {v : Value} (hl : s.heap.IsList l (vs ++ [v]).toArray) (h : Q v s)
    (hs : subscripted slice false (.ref l) (.int (-1) u) = operate [.ref l, .int (-1) u] (getItem (.ref l) (.int (-1) u)) := by with_unfolding_all rfl) :
    wpAny (model prog w) A (subscriptTail value slice (.ref l) (.int (-1) u)) Q E s :=
  tail_any hl.typeIs slot_list_getitem.lookup (wpAny_getItem_list_neg hl (by decide) (by simp; lia) (by decide) (by
    have : ((-1 : Int) + ((vs ++ [v]).toArray.size : Nat)).toNat = vs.length := by simp; lia
    rw [this]; simp) h) hs
theorem iter_N {l : Addr} {vs : Array Value} {e : Nat} (F : Fr h₀ L s.heap m) (N : News h₀ L s.heap news) (hm : (l, W.listOf vs e) ∈ news)
    (h : ∀ it h', Fr h₀ L h' m → News h₀ L h' ((it, itObj l 0) :: news) → (∀ p ∈ news, p.1 < it) → Q (.ref it) { s with heap := h' }) : wpAny (model prog w) A (call (.builtin "iter") [.ref l]) Q E s :=
  iter_list (N.isList hm) (h _ _ (F.push _) (News.push F N _ rfl) fun p hp => Heap.lt_size (N p hp).1)
theorem nextAttr_N {it l : Addr} {i : Nat} (F : Fr h₀ L s.heap m) (N : News h₀ L s.heap news) (hm : (it, itObj l i) ∈ news)
    (h : ∀ mw h' tk, Fr h₀ L h' m → News h₀ L h' ((mw, mwObj it) :: news) → (∀ p ∈ news, p.1 < mw) → Q (.ref mw) { s with heap := h', toks := tk }) : wpAny (model prog w) A (getAttr (.ref it) (Str.ofString "__next__") true) Q E s :=
  getAttr_next (N _ hm).1 fun tk => h _ _ tk (F.push _) (News.push F N _ rfl) fun p hp => Heap.lt_size (N p hp).1
end
end Mine

namespace Mine
open PyProof.Rows.TI (Frs SameUp)
/-- the search's state -/
structure DFS (sn : Nat → List Nat) (rank : Nat → Int) (n : Nat) (seen : List Nat) (stk : List Fe) (kvsN : List (Int × Value)) (S : Int → Bool) (cnt : Nat) : Prop where
  snd : seen.Nodup
  slt : ∀ v ∈ seen, v < n
  cnt : cnt = seen.length
  S : ∀ k : Int, S k = true ↔ ∃ v ∈ seen, k = (v : Int)
  lt : ∀ e ∈ stk, e.v < n ∧ e.v ∈ seen ∧ e.pos ≤ (sn e.v).length
  rk : stk.Pairwise fun a b => rank b.v < rank a.v
  keys : kvsN.map (·.1) = (stk.map fun e => (e.v : Int)).reverse
theorem DFS.push {sn : Nat → List Nat} {rank : Nat → Int} {n : Nat} {seen : List Nat} {stk : List Fe} {vN : List (Int × Value)} {S : Int → Bool} {cnt v : Nat} (h : DFS sn rank n seen stk vN S cnt) (hv : v < n) (hs : ¬ S (v : Int) = true) (hr : ∀ e ∈ stk, rank e.v < rank v) (tv : Tok) (it mw : Addr) (y : Value) :
    DFS sn rank n (v :: seen) (⟨v, tv, it, mw, 0⟩ :: stk) (vN ++ [((v : Int), y)]) (fun k' => S k' || decide (k' = (v : Int))) (if S (v : Int) then cnt else cnt + 1) := by
  have hns : v ∉ seen := fun hm => hs ((h.S _).mpr ⟨v, hm, rfl⟩)
  refine ⟨List.nodup_cons.mpr ⟨hns, h.snd⟩, fun x hx => ?_, ?_, fun k => ?_, fun e he => ?_, ?_, ?_⟩
  · rcases List.mem_cons.mp hx with rfl | hx
    · exact hv
    · exact h.slt x hx
  · rw [if_neg hs, h.cnt]; rfl
  · simp only [Bool.or_eq_true, decide_eq_true_eq, h.S, List.mem_cons]
    constructor
    · rintro (⟨x, hx, rfl⟩ | rfl)
      · exact ⟨x, .inr hx, rfl⟩
      · exact ⟨v, .inl rfl, rfl⟩
    · rintro ⟨x, rfl | hx, rfl⟩
      · exact .inr rfl
      · exact .inl ⟨x, hx, rfl⟩
  · rcases List.mem_cons.mp he with rfl | he
    · exact ⟨hv, .head _, Nat.zero_le _⟩
    · exact ⟨(h.lt e he).1, .tail _ (h.lt e he).2.1, (h.lt e he).2.2⟩
  · exact List.pairwise_cons.mpr ⟨fun e he => hr e he, h.rk⟩
  · rw [List.map_append, h.keys]; simp
theorem DFS.pop {sn : Nat → List Nat} {rank : Nat → Int} {n : Nat} {seen : List Nat} {top : Fe} {stk : List Fe} {vN : List (Int × Value)} {S : Int → Bool} {cnt : Nat} (h : DFS sn rank n seen (top :: stk) vN S cnt) :
    DFS sn rank n seen stk (without vN (top.v : Int)) S cnt := by
  refine ⟨h.snd, h.slt, h.cnt, h.S, fun e he => h.lt e (.tail _ he), (List.pairwise_cons.mp h.rk).2, ?_⟩
  have e1 : (without vN (top.v : Int)).map (·.1) = (vN.map (·.1)).filter fun k => decide (k ≠ (top.v : Int)) := by
    unfold without; rw [List.filter_map]; rfl
  rw [e1, h.keys, List.map_cons, List.reverse_cons, List.filter_append]
  rw [List.filter_eq_self.mpr]
  · simp
  · intro k hk
    obtain ⟨e, he, rfl⟩ := List.mem_map.mp (List.mem_reverse.mp hk)
    have := (List.pairwise_cons.mp h.rk).1 e he
    have h2 : e.v ≠ top.v := fun q => by rw [q] at this; lia
    simp; lia
theorem DFS.has {sn : Nat → List Nat} {rank : Nat → Int} {n : Nat} {seen : List Nat} {top : Fe} {stk : List Fe} {vN : List (Int × Value)} {S : Int → Bool} {cnt : Nat} (h : DFS sn rank n seen (top :: stk) vN S cnt) :
    (valueAt vN (top.v : Int)).isSome = true := by
  have hm : (top.v : Int) ∈ vN.map (·.1) := by rw [h.keys]; simp
  obtain ⟨p, hp, e⟩ := List.mem_map.mp hm
  unfold valueAt
  rw [Option.isSome_map, List.find?_isSome]
  exact ⟨p, hp, by simp [e]⟩
theorem news_drop {h₀ h h' : Heap} {L a : Addr} {all all' : List (Addr × Obj)} (N : News h₀ L h all) (hs : Heap.SameBut a h h') (hm : ∀ p ∈ all', p ∈ all ∧ p.1 ≠ a) : News h₀ L h' all' := fun p hp =>
  ⟨(hs.2 _ (hm p hp).2).trans (N p (hm p hp).1).1, (N p (hm p hp).1).2⟩
theorem stored_new {kvs : List (Int × Value)} {k : Int} {y : Value} (h : valueAt kvs k = none) : stored kvs k y = kvs ++ [(k, y)] := by
  unfold stored
  rw [if_neg]
  intro ha
  obtain ⟨p, hp, e⟩ := List.any_eq_true.mp ha
  unfold valueAt at h
  rw [Option.map_eq_none_iff, List.find?_eq_none] at h
  exact h p hp e
theorem memPush {α : Type} {a b q1 q2 q3 c1 c2 c3 c4 c5 c6 c7 c8 : α} {rg ir rr : List α} : ∀ p ∈ c1 :: c2 :: c3 :: c4 :: c5 :: c6 :: c7 :: c8 :: (rg ++ ((a :: b :: ir) ++ rr)), p ∈ b :: a :: q1 :: q2 :: q3 :: c1 :: c2 :: c3 :: c4 :: c5 :: c6 :: c7 :: c8 :: (rg ++ (ir ++ rr)) := by
  intro p hp
  simp only [List.mem_cons, List.mem_append] at hp ⊢
  grind
theorem memIt {α : Type} {a b c1 c2 c3 c4 c5 c6 c7 c8 : α} {rg ir rr : List α} : ∀ p ∈ c1 :: c2 :: c3 :: c4 :: c5 :: c6 :: c7 :: c8 :: (rg ++ ((a :: b :: ir) ++ rr)), p = a ∨ p = b ∨ p ∈ rg ++ (ir ++ rr) ∨ p ∈ [c1, c2, c3, c4, c5, c6, c7, c8] := by
  intro p hp
  simp only [List.mem_cons, List.mem_append] at hp ⊢
  grind
theorem memIt2 {f : Nat → Nd} {top : Fe} {r : List Fe} {c1 c2 c3 c4 c5 c6 c7 c8 : Addr × Obj} {rg rr : List (Addr × Obj)} : ∀ p ∈ rg ++ (itReg f r ++ rr), p ∈ c1 :: c2 :: c3 :: c4 :: c5 :: c6 :: c7 :: c8 :: (rg ++ (itReg f (top :: r) ++ rr)) := by
  intro p hp
  rw [itReg_cons]
  simp only [List.mem_cons, List.mem_append] at hp ⊢
  grind
theorem memIt3 {α : Type} {c1 c2 c3 c4 c5 c6 c7 c8 : α} {rr : List α} : ∀ p ∈ [c1, c2, c3, c4, c5, c6, c7, c8], p ∈ c1 :: c2 :: c3 :: c4 :: c5 :: c6 :: c7 :: c8 :: rr := by
  intro p hp
  simp only [List.mem_cons, List.not_mem_nil, or_false] at hp ⊢
  grind
theorem memIt4 {α : Type} {c1 c2 c3 c4 c5 c6 c7 c8 : α} {rr : List α} : ∀ p ∈ c1 :: c2 :: c3 :: c4 :: c5 :: c6 :: c7 :: c8 :: rr, p ∈ rr ∨ p ∈ [c1, c2, c3, c4, c5, c6, c7, c8] := by
  intro p hp
  simp only [List.mem_cons, List.not_mem_nil, or_false] at hp ⊢
  grind
theorem memIt5 {α : Type} {c1 c2 c3 c4 c5 c6 c7 c8 : α} {rg ir rr : List α} : ∀ p ∈ c1 :: c2 :: c3 :: c4 :: c5 :: c6 :: c7 :: c8 :: (rg ++ (ir ++ rr)), p ∈ [c1, c2, c3, c4, c5] ∨ p ∈ c6 :: c7 :: c8 :: (rg ++ rr) ∨ p ∈ ir := by
  intro p hp
  simp only [List.mem_cons, List.mem_append, List.not_mem_nil, or_false] at hp ⊢
  grind
theorem m8 {α : Type} {a b c d e f g h p : α} {r : List α} (hm : p ∈ r) : p ∈ a :: b :: c :: d :: e :: f :: g :: h :: r := by simp [hm]
theorem add3 {h₀ h : Heap} {L : Addr} {a b c : Addr × Obj} {r : List (Addr × Obj)} (h1 : a ∈ r) (h2 : b ∈ r) (h3 : c ∈ r) (N : News h₀ L h r) : News h₀ L h (a :: b :: c :: r) := subN N fun p hp => by
  rcases List.mem_cons.mp hp with rfl | hp
  · exact h1
  rcases List.mem_cons.mp hp with rfl | hp
  · exact h2
  rcases List.mem_cons.mp hp with rfl | hp
  · exact h3
  · exact hp
abbrev cmap (u : Str → Option Value) (NS SE IT S D x : Addr) (v : Nat) (tv : Tok) : Str → Option Value := fun z => if z = Str.ofString "node" then some (.int (v : Nat) tv) else if [Str.ofString "node"].contains z = true then u z else if z = Str.ofString "node2stacki" then some (.ref NS) else if z = Str.ofString "seen" then some (.ref SE) else if z = Str.ofString "itstack" then some (.ref IT) else if z = Str.ofString "stack" then some (.ref S) else if z = Str.ofString "n2i" then some (.ref D) else List.lookup z [(Str.ofString "self", Value.ref x)].reverse
theorem cmap_put {u : Str → Option Value} {NS SE IT S D x : Addr} {v j : Nat} {tv tj : Tok} : (fun z => if z = Str.ofString "node" then some (Value.int (j : Nat) tj) else cmap u NS SE IT S D x v tv z) = cmap u NS SE IT S D x j tj := by
  funext z; unfold cmap; by_cases h : z = Str.ofString "node" <;> simp only [h, if_true, if_false]
abbrev cled (I NS SE IT S x dx D : Addr) (oI oN oS oD : Obj) (e1 e2 : Nat) (es : List DictEntry) (stk : List Fe) (tl : List (Addr × Obj)) : List (Addr × Obj) :=
  (I, oI) :: (NS, oN) :: (SE, oS) :: (IT, W.listOf (stk.map fun e => Value.ref e.mw).reverse.toArray e1) :: (S, W.listOf (stk.map fun e => Value.int (e.v : Nat) e.tv).reverse.toArray e2) :: (x, instObj 158 dx) :: (dx, dictOf es 4) :: (D, oD) :: tl
section
variable {w : World} {h₀ : Heap} {L : Addr} {m mg mb : Str → Option Value} {s : Shared} {mean : ExcName → Option Value} {Q : Value → Shared → Prop} {E : Value → Shared → Prop}
theorem find_ok (KX : (heapK w.params).In h₀) (T : Top viewK loo mean mg mb h₀) (F : Fr h₀ L s.heap m) 
  {x dx D : Addr} {h1 h2 h3 h4 : Int} {t1 t2 t3 t4 : Tok} {a b c : Value} {oD : Obj} {f : Nat → Nd} {n : Nat} {sn : Nat → List Nat} {rank : Nat → Int} {rest frs : List (Addr × Obj)} {envP : Env} {l0 : List Env}
  (N : News h₀ L s.heap (((x, instObj 158 dx) :: (dx, dictOf (e4 h1 h2 h3 h4 t1 t2 t3 t4 (.ref D) a b c) 4) :: (D, oD) :: (reg f n ++ rest)) ++ frs)) (lo : (D == sysModules) = false) (hD : oD.IsDictOf (PySem.intKind prg w) (kvs f n))
  (hk : envP.scope.kind ≠ .module) (hf : envP.frame = some L) (hfr : Frs l0 frs) (hoff : ∀ p ∈ (x, instObj 158 dx) :: (dx, dictOf (e4 h1 h2 h3 h4 t1 t2 t3 t4 (.ref D) a b c) 4) :: (D, oD) :: (reg f n ++ rest), ∀ q ∈ frs, p.1 ≠ q.1)
  (hn : n ≤ 11)
  (hsn : ∀ j, j < n → IntsAre (f j).su ((sn j).map Int.ofNat)) (hsl : ∀ j, j < n → (sn j).length ≤ 11) (hsb : ∀ j, j < n → ∀ r ∈ sn j, r < n) (hrank : ∀ j, j < n → ∀ r ∈ sn j, rank j < rank r)
  (hQ : ∀ frs' h' tk, SameUp frs frs' → Fr h₀ L h' m → News h₀ L h' (((x, instObj 158 dx) :: (dx, dictOf (e4 h1 h2 h3 h4 t1 t2 t3 t4 (.ref D) a b c) 4) :: (D, oD) :: (reg f n ++ rest)) ++ frs') → Q .none { s with heap := h', toks := tk }) :
  wpAny (model prg w) (lvF (envP :: l0) 500 3000) (call (.ref 148) [.ref x] []) Q E s := by
  refine wpAny_call ?_
  refine' enterF (binds := [(Str.ofString "self", .ref x)]) F N KX T ?k6 ?k7 ?k8 ?k9 ?kB ?_ ?c2 ?c3 ?c4 ?c5
  case k6 => k_is
  case k7 => k_is
  case k8 => exact (show (500 : Nat) < recursionLimit by decide)
  case k9 => exact BindsTo.of_eq rfl
  case kB => exact locs rfl
  case c2 => exact rfl
  case c3 => exact rfl
  case c4 => exact rfl
  case c5 => decide
  dsimp only [fB, fS, fA, met, stm, PySem.Challenge.pw_mj0230_01, List.drop]
  intro oL L' h₁ tk hoL F N hlt hLL hneL
  (try dsimp only); (try k_fold)
  simp only [List.cons_append, List.append_assoc] at N
  iterate 40 ((try (first | with_reducible refine Mine.hide_execT fun Qh tkh hQh => ?_ | with_reducible refine Mine.hide_exec fun Qh hQh => ?_ | with_reducible refine Mine.hide_loop fun Qh hQh => ?_ | with_reducible refine Mine.hide_comp fun Qh hQh => ?_ | with_reducible refine Mine.hide_tok fun tkh => ?_)); (first | walk1 | (dsimp only; walk1) | (refine hQh _ _ ?_; clear hQh; try clear Qh)); try dsimp only)
  rename_i tk1 S h2' q1 h3' tk2 IT h4' q2 h5' tk3 SE h6' led' hSE hSEz q3 h7' tk4 NS h8' oNS loN hNSs fNSs hNS fNS q4 h9' F2 N2
  obtain ⟨q11, q12, q13, q14⟩ := q1
  replace q2 := q2.1
  replace q3 := q3.1
  replace q4 := q4.1
  clear hNSs fNSs fNS hSEz
  have hlow : ∀ frs', SameUp ((L, oL) :: frs) frs' → ∀ p ∈ reg f n ++ (rest ++ frs'), p.1 < S := by
    intro frs' hs p hp
    have h := allLt_lt q14
    simp only [List.mem_append] at hp h
    rcases hp with hp | hp | hp
    · exact h p (.inl hp)
    · exact h p (.inr (.inl hp))
    · obtain ⟨y, hy, e⟩ := SameUp.fwd' hs p hp
      exact e ▸ h y (.inr (.inr hy))
  refine For_invVF F2 rfl rfl ?_
  iterate 1 ((try (first | with_reducible refine Mine.hide_execT fun Qh tkh hQh => ?_ | with_reducible refine Mine.hide_exec fun Qh hQh => ?_ | with_reducible refine Mine.hide_loop fun Qh hQh => ?_ | with_reducible refine Mine.hide_comp fun Qh hQh => ?_ | with_reducible refine Mine.hide_tok fun tkh => ?_)); (first | walk1 | (dsimp only; walk1) | (refine hQh _ _ ?_; clear hQh; try clear Qh)); try dsimp only)
  refine loopK [Str.ofString "node"] (fun kk u nx => ∃ seen oS oN e1 e2 Sf cnt frs', DFS sn rank n seen [] [] Sf cnt ∧ oS.SetObjOf (PySem.intKind prg w) Sf cnt ∧ oN.IsDictOf (PySem.intKind prg w) [] ∧ SameUp ((L, oL) :: frs) frs' ∧
    nx = (NS, oN) :: (SE, oS) :: (IT, W.listOf ([] : List Value).toArray e1) :: (S, W.listOf ([] : List Value).toArray e2) :: (x, instObj 158 dx) :: (dx, dictOf (e4 h1 h2 h3 h4 t1 t2 t3 t4 (.ref D) a b c) 4) :: (D, oD) :: (reg f n ++ (rest ++ frs'))) rfl (by k_asm) N2 hD lo ?_ ?_ ?_ ?_
  · rintro _ _ _ ⟨seen, oS, oN, e1, e2, Sf, cnt, frs', _, _, _, _, rfl⟩
    k_mem
  · exact ⟨[], _, oNS, 0, 0, _, 0, _, ⟨List.nodup_nil, fun v hv => (by cases hv), rfl, fun k => by simp, fun e he => (by cases he), List.Pairwise.nil, rfl⟩, hSE, hNS, TI.SameUp.refl _, rfl⟩
  · rintro kk k t u nx h tk I oI hkk hI off ⟨seen, oS, oN, e1, e2, Sf, cnt, frs', hdfs, hoS, hoN, hsu, rfl⟩ F N
    replace F : Fr h₀ L' _ _ := F
    replace N : News h₀ L' _ _ := N
    clear F2 N2 hNS hSE
    obtain ⟨v, hv, rfl⟩ : ∃ v : Nat, v < n ∧ k = (v : Int) := by
      have hm := List.mem_of_getElem? hkk
      obtain ⟨p, hp, rfl⟩ := List.mem_map.mp hm
      obtain ⟨i, hi, rfl⟩ := List.mem_map.mp hp
      exact ⟨i, List.mem_range.mp hi, rfl⟩
    have hcnt : cnt ≤ 11 := by
      rw [hdfs.cnt]
      have := List.Nodup.length_le_of_subset hdfs.snd (fun j hj => List.mem_range.mpr (hdfs.slt j hj) : seen ⊆ List.range n)
      rw [List.length_range] at this; lia
    have g1 : NS < I := hI (NS, oNS) (.head _)
    replace g1 := ltN g1
    have b1 : ∀ p ∈ reg f n ++ (rest ++ frs'), p.1 ≠ SE := fun p hp => Nat.ne_of_lt (Nat.lt_trans (hlow _ hsu p hp) (Nat.lt_trans q2 q3))
    iterate 5 ((try (first | with_reducible refine Mine.hide_execT fun Qh tkh hQh => ?_ | with_reducible refine Mine.hide_exec fun Qh hQh => ?_ | with_reducible refine Mine.hide_loop fun Qh hQh => ?_ | with_reducible refine Mine.hide_comp fun Qh hQh => ?_ | with_reducible refine Mine.hide_tok fun tkh => ?_)); (first | walk1 | (dsimp only; walk1) | (refine hQh _ _ ?_; clear hQh; try clear Qh)); try dsimp only)
    refine kse_in (knd := PySem.intKind _ _) N (by k_updF) hoS (by unfold scanBound; lia) (intKind_is _ _ _ _) rfl ?_
    try dsimp only
    iterate 1 ((try (first | with_reducible refine Mine.hide_execT fun Qh tkh hQh => ?_ | with_reducible refine Mine.hide_exec fun Qh hQh => ?_ | with_reducible refine Mine.hide_loop fun Qh hQh => ?_ | with_reducible refine Mine.hide_comp fun Qh hQh => ?_ | with_reducible refine Mine.hide_tok fun tkh => ?_)); (first | walk1 | (dsimp only; walk1) | (refine hQh _ _ ?_; clear hQh; try clear Qh)); try dsimp only)
    by_cases hs0 : Sf (v : Int) = true
    · refine ite_pos hs0 ?_
      iterate 6 ((try (first | with_reducible refine Mine.hide_execT fun Qh tkh hQh => ?_ | with_reducible refine Mine.hide_exec fun Qh hQh => ?_ | with_reducible refine Mine.hide_loop fun Qh hQh => ?_ | with_reducible refine Mine.hide_comp fun Qh hQh => ?_ | with_reducible refine Mine.hide_tok fun tkh => ?_)); (first | walk1 | (dsimp only; walk1) | (refine hQh _ _ ?_; clear hQh; try clear Qh)); try dsimp only)
      refine LEnd.intro _ F N ?_ (fun p hp => .tail _ hp) (.head _) off ⟨seen, oS, oN, e1, e2, Sf, cnt, frs', hdfs, hoS, hoN, hsu, rfl⟩
      repeat' (first | exact MapOff.base | refine MapOff.put (by decide) ?_)
    refine ite_neg hs0 ?_
    iterate 4 ((try (first | with_reducible refine Mine.hide_execT fun Qh tkh hQh => ?_ | with_reducible refine Mine.hide_exec fun Qh hQh => ?_ | with_reducible refine Mine.hide_loop fun Qh hQh => ?_ | with_reducible refine Mine.hide_comp fun Qh hQh => ?_ | with_reducible refine Mine.hide_tok fun tkh => ?_)); (first | walk1 | (dsimp only; walk1) | (refine hQh _ _ ?_; clear hQh; try clear Qh)); try dsimp only)
    refine whl_start 0 ?_
    refine while_ind (fun μ s' => ∃ h tk v tv seen stk vN oS oN e1 e2 Sf cnt frs', s' = { s with heap := h, toks := tk } ∧ v < n ∧ (∀ e ∈ stk, rank e.v < rank v) ∧ work sn n seen stk = μ ∧ SG I stk ∧ DFS sn rank n seen stk vN Sf cnt ∧ oS.SetObjOf (PySem.intKind prg w) Sf cnt ∧ oN.IsDictOf (PySem.intKind prg w) vN ∧ SameUp ((L, oL) :: frs) frs' ∧
      Fr h₀ L' h (cmap u NS SE IT S D x v tv) ∧ News h₀ L' h (cled I NS SE IT S x dx D oI oN oS oD e1 e2 (e4 h1 h2 h3 h4 t1 t2 t3 t4 (.ref D) a b c) stk (reg f n ++ (itReg f stk ++ (rest ++ frs'))))) ?_ _ _
      ⟨_, _, v, t, seen, [], [], oS, oN, e1, e2, Sf, cnt, frs', rfl, hv, fun e he => (by cases he), rfl, trivial, hdfs, hoS, hoN, hsu, F, N⟩
    clear N F hoS hoN hdfs hs0 hcnt hsu b1 off
    rintro μ s' ih ⟨h, tk, v, tv, seen, stk, vN, oS, oN, e1, e2, Sf, cnt, frs', rfl, hv, hrv, hμ, hsg, hdfs, hoS, hoN, hsu, F, N⟩
    refine whl_turn (by passes_own) ?_
    iterate 5 ((try (first | with_reducible refine Mine.hide_execT fun Qh tkh hQh => ?_ | with_reducible refine Mine.hide_exec fun Qh hQh => ?_ | with_reducible refine Mine.hide_loop fun Qh hQh => ?_ | with_reducible refine Mine.hide_comp fun Qh hQh => ?_ | with_reducible refine Mine.hide_tok fun tkh => ?_)); (first | walk1 | (dsimp only; walk1) | (refine hQh _ _ ?_; clear hQh; try clear Qh)); try dsimp only)
    have tl : ∀ (stk : List Fe) (frs' : List (Addr × Obj)) (z : Addr), SG I stk → SameUp ((L, oL) :: frs) frs' → S ≤ z → z ≤ I → ∀ p ∈ reg f n ++ (itReg f stk ++ (rest ++ frs')), p.1 ≠ z := by
      intro stk frs' z hsg hsu h1 h2 p hp
      have hl := hlow frs' hsu
      simp only [List.mem_append] at hp hl
      rcases hp with hp | hp | hp | hp
      · exact Nat.ne_of_lt (Nat.lt_of_lt_of_le (hl p (.inl hp)) h1)
      · exact hsg.above h2 p hp
      · exact Nat.ne_of_lt (Nat.lt_of_lt_of_le (hl p (.inr (.inl hp))) h1)
      · exact Nat.ne_of_lt (Nat.lt_of_lt_of_le (hl p (.inr (.inr hp))) h1)
    refine wpAny_mono (Q := fun fl s' => fl = Flow.next ∧ ∃ h tk seen stk vN oS oN e1 e2 Sf cnt frs', s' = { s with heap := h, toks := tk } ∧ work sn n seen stk ≤ μ ∧ SG I stk ∧ DFS sn rank n seen stk vN Sf cnt ∧ oS.SetObjOf (PySem.intKind prg w) Sf cnt ∧ oN.IsDictOf (PySem.intKind prg w) vN ∧ SameUp ((L, oL) :: frs) frs' ∧
      Fr h₀ L' h (cmap u NS SE IT S D x v tv) ∧ News h₀ L' h (cled I NS SE IT S x dx D oI oN oS oD e1 e2 (e4 h1 h2 h3 h4 t1 t2 t3 t4 (.ref D) a b c) stk (reg f n ++ (itReg f stk ++ (rest ++ frs'))))) ?_ ?_ (fun _ _ e => e)
    · clear ih
      have b1 := tl stk frs' SE hsg hsu (by simp only [PySem.Addr] at *; lia) (by simp only [PySem.Addr] at *; lia)
      have b2 := tl stk frs' IT hsg hsu (by simp only [PySem.Addr] at *; lia) (by simp only [PySem.Addr] at *; lia)
      have b3 := tl stk frs' S hsg hsu (by simp only [PySem.Addr] at *; lia) (by simp only [PySem.Addr] at *; lia)
      have b4 := tl stk frs' NS hsg hsu (by simp only [PySem.Addr] at *; lia) (by simp only [PySem.Addr] at *; lia)
      have hcnt : cnt ≤ 11 := by
        rw [hdfs.cnt]
        have := List.Nodup.length_le_of_subset hdfs.snd (fun j hj => List.mem_range.mpr (hdfs.slt j hj) : seen ⊆ List.range n)
        rw [List.length_range] at this; lia
      have hno : valueAt vN (v : Int) = none := by
        unfold valueAt
        rw [Option.map_eq_none_iff, List.find?_eq_none]
        intro p hp he
        have hm : p.1 ∈ vN.map (·.1) := List.mem_map_of_mem hp
        rw [hdfs.keys] at hm
        obtain ⟨e, he', e2⟩ := List.mem_map.mp (List.mem_reverse.mp hm)
        have h3 := hrv e he'
        have h4 : e.v = v := by have := of_decide_eq_true he; rw [← e2] at this; exact Int.ofNat.inj this
        rw [h4] at h3; lia
      iterate 4 ((try (first | with_reducible refine Mine.hide_execT fun Qh tkh hQh => ?_ | with_reducible refine Mine.hide_exec fun Qh hQh => ?_ | with_reducible refine Mine.hide_loop fun Qh hQh => ?_ | with_reducible refine Mine.hide_comp fun Qh hQh => ?_ | with_reducible refine Mine.hide_tok fun tkh => ?_)); (first | walk1 | (dsimp only; walk1) | (refine hQh _ _ ?_; clear hQh; try clear Qh)); try dsimp only)
      refine kse_in (knd := PySem.intKind _ _) N (by k_updF) hoS (by unfold scanBound; lia) (intKind_is _ _ _ _) rfl ?_
      try dsimp only
      iterate 1 ((try (first | with_reducible refine Mine.hide_execT fun Qh tkh hQh => ?_ | with_reducible refine Mine.hide_exec fun Qh hQh => ?_ | with_reducible refine Mine.hide_loop fun Qh hQh => ?_ | with_reducible refine Mine.hide_comp fun Qh hQh => ?_ | with_reducible refine Mine.hide_tok fun tkh => ?_)); (first | walk1 | (dsimp only; walk1) | (refine hQh _ _ ?_; clear hQh; try clear Qh)); try dsimp only)
      by_cases hs0 : Sf (v : Int) = true
      · refine ite_pos hs0 ?_
        iterate 6 ((try (first | with_reducible refine Mine.hide_execT fun Qh tkh hQh => ?_ | with_reducible refine Mine.hide_exec fun Qh hQh => ?_ | with_reducible refine Mine.hide_loop fun Qh hQh => ?_ | with_reducible refine Mine.hide_comp fun Qh hQh => ?_ | with_reducible refine Mine.hide_tok fun tkh => ?_)); (first | walk1 | (dsimp only; walk1) | (refine hQh _ _ ?_; clear hQh; try clear Qh)); try dsimp only)
        refine kda_in (knd := PySem.intKind _ _) N (by k_mem) hoN loN (intKind_is _ _ _ _) false (by rw [hno]; rfl) ?_
        try dsimp only
        iterate 7 ((try (first | with_reducible refine Mine.hide_execT fun Qh tkh hQh => ?_ | with_reducible refine Mine.hide_exec fun Qh hQh => ?_ | with_reducible refine Mine.hide_loop fun Qh hQh => ?_ | with_reducible refine Mine.hide_comp fun Qh hQh => ?_ | with_reducible refine Mine.hide_tok fun tkh => ?_)); (first | walk1 | (dsimp only; walk1) | (refine hQh _ _ ?_; clear hQh; try clear Qh)); try dsimp only)
        exact ⟨rfl, _, _, seen, stk, vN, oS, oN, e1, e2, Sf, cnt, frs', rfl, Nat.le_of_eq hμ, hsg, hdfs, hoS, hoN, hsu, F, N⟩
      · refine ite_neg hs0 ?_
        iterate 29 ((try (first | with_reducible refine Mine.hide_execT fun Qh tkh hQh => ?_ | with_reducible refine Mine.hide_exec fun Qh hQh => ?_ | with_reducible refine Mine.hide_loop fun Qh hQh => ?_ | with_reducible refine Mine.hide_comp fun Qh hQh => ?_ | with_reducible refine Mine.hide_tok fun tkh => ?_)); (first | walk1 | (dsimp only; walk1) | (refine hQh _ _ ?_; clear hQh; try clear Qh)); try dsimp only)
        refine kda_item (knd := PySem.intKind _ _) (by k_asm) (by k_mem) hD (k := (v : Int)) (intKind_is _ _ _ _) (kvs_at hv) ?_
        (try dsimp only)
        rename News _ _ _ _ => N3
        have m1 : ((f v).x, (f v).ox v) ∈ reg f n ++ (itReg f stk ++ (rest ++ frs')) := List.mem_append_left _ (mem_reg.mpr ⟨v, hv, .inl rfl⟩)
        have m2 : ((f v).l, (f v).ol) ∈ reg f n ++ (itReg f stk ++ (rest ++ frs')) := List.mem_append_left _ (mem_reg.mpr ⟨v, hv, .inr (.inl rfl)⟩)
        have m3 : ((f v).d, dictOf [] 0) ∈ reg f n ++ (itReg f stk ++ (rest ++ frs')) := List.mem_append_left _ (mem_reg.mpr ⟨v, hv, .inr (.inr rfl)⟩)
        have N4 := add3 (m8 m1) (m8 m2) (m8 m3) N3
        clear N3
        simp only [Nd.ox, Nd.ol] at N4
        have d1 := ltN (hlow _ hsu _ (List.mem_append_left _ (mem_reg.mpr ⟨v, hv, .inl rfl⟩)) : (f v).x < S)
        have d2 := ltN (hlow _ hsu _ (List.mem_append_left _ (mem_reg.mpr ⟨v, hv, .inr (.inl rfl)⟩)) : (f v).l < S)
        have d3 := ltN (hlow _ hsu _ (List.mem_append_left _ (mem_reg.mpr ⟨v, hv, .inr (.inr rfl)⟩)) : (f v).d < S)
        iterate 2 ((try (first | with_reducible refine Mine.hide_execT fun Qh tkh hQh => ?_ | with_reducible refine Mine.hide_exec fun Qh hQh => ?_ | with_reducible refine Mine.hide_loop fun Qh hQh => ?_ | with_reducible refine Mine.hide_comp fun Qh hQh => ?_ | with_reducible refine Mine.hide_tok fun tkh => ?_)); (first | walk1 | (dsimp only; walk1) | (refine hQh _ _ ?_; clear hQh; try clear Qh)); try dsimp only)
        refine iter_N (by k_asm) N4 (by k_mem) ?_
        intro it h' F' N' lit
        clear N4
        try dsimp only
        refine nextAttr_N (by k_asm) N' (.head _) ?_
        intro mw h' tk' F' N'' lmw
        clear N'
        try dsimp only
        have g2 := ltN (lit (I, oI) (.tail _ (.tail _ (.tail _ (.head _)))))
        have g3 := ltN (lmw (it, _) (.head _))
        have hstl : stk.length ≤ 11 := by
          have hnd : (stk.map (·.v)).Nodup := by
            rw [List.nodup_iff_pairwise_ne, List.pairwise_map]
            exact hdfs.rk.imp (fun hab e => by rw [e] at hab; lia)
          have := List.Nodup.length_le_of_subset hnd (fun j hj => by obtain ⟨e, he, rfl⟩ := List.mem_map.mp hj; exact List.mem_range.mpr (hdfs.lt e he).1 : stk.map (·.v) ⊆ List.range n)
          rw [List.length_range, List.length_map] at this; lia
        iterate 1 ((try (first | with_reducible refine Mine.hide_execT fun Qh tkh hQh => ?_ | with_reducible refine Mine.hide_exec fun Qh hQh => ?_ | with_reducible refine Mine.hide_loop fun Qh hQh => ?_ | with_reducible refine Mine.hide_comp fun Qh hQh => ?_ | with_reducible refine Mine.hide_tok fun tkh => ?_)); (first | walk1 | (dsimp only; walk1) | (refine hQh _ _ ?_; clear hQh; try clear Qh)); try dsimp only)
        refine append_F (by k_asm) (by k_asm) (by k_updF) (by rw [List.length_reverse, List.length_map]; lia) ?_
        intro h' F' N5
        try dsimp only at N5
        try dsimp only
        iterate 9 ((try (first | with_reducible refine Mine.hide_execT fun Qh tkh hQh => ?_ | with_reducible refine Mine.hide_exec fun Qh hQh => ?_ | with_reducible refine Mine.hide_loop fun Qh hQh => ?_ | with_reducible refine Mine.hide_comp fun Qh hQh => ?_ | with_reducible refine Mine.hide_tok fun tkh => ?_)); (first | walk1 | (dsimp only; walk1) | (refine hQh _ _ ?_; clear hQh; try clear Qh)); try dsimp only)
        refine kun_lenL (News.isList (N := N5) (by k_mem)) (k := (stk.length : Int)) (by simp) (by lia) ?_
        try dsimp only
        iterate 2 ((try (first | with_reducible refine Mine.hide_execT fun Qh tkh hQh => ?_ | with_reducible refine Mine.hide_exec fun Qh hQh => ?_ | with_reducible refine Mine.hide_loop fun Qh hQh => ?_ | with_reducible refine Mine.hide_comp fun Qh hQh => ?_ | with_reducible refine Mine.hide_tok fun tkh => ?_)); (first | walk1 | (dsimp only; walk1) | (refine hQh _ _ ?_; clear hQh; try clear Qh)); try dsimp only)
        refine kda_set (by k_asm) (by k_asm) (by k_updF) hoN (k := (v : Int)) (intKind_is _ _ _ _) (by have := congrArg List.length hdfs.keys; simp only [List.length_map, List.length_reverse] at this; rw [sizeLine_eq]; lia) ?_
        intro h' oN' F' N6 hoN'
        (try dsimp only at N6)
        (try dsimp only)
        iterate 11 ((try (first | with_reducible refine Mine.hide_execT fun Qh tkh hQh => ?_ | with_reducible refine Mine.hide_exec fun Qh hQh => ?_ | with_reducible refine Mine.hide_loop fun Qh hQh => ?_ | with_reducible refine Mine.hide_comp fun Qh hQh => ?_ | with_reducible refine Mine.hide_tok fun tkh => ?_)); (first | walk1 | (dsimp only; walk1) | (refine hQh _ _ ?_; clear hQh; try clear Qh)); try dsimp only)
        refine append_F (by k_asm) (by k_asm) (by k_updF) (by rw [List.length_reverse, List.length_map]; lia) ?_
        intro h' F' N7
        try dsimp only at N7
        try dsimp only
        iterate 3 ((try (first | with_reducible refine Mine.hide_execT fun Qh tkh hQh => ?_ | with_reducible refine Mine.hide_exec fun Qh hQh => ?_ | with_reducible refine Mine.hide_loop fun Qh hQh => ?_ | with_reducible refine Mine.hide_comp fun Qh hQh => ?_ | with_reducible refine Mine.hide_tok fun tkh => ?_)); (first | walk1 | (dsimp only; walk1) | (refine hQh _ _ ?_; clear hQh; try clear Qh)); try dsimp only)
        rename Obj.SetObjOf (PySem.intKind _ _) _ _ _ => hoS'
        rw [stored_new hno] at hoN'
        have hns : v ∉ seen := fun hm => hs0 ((hdfs.S _).mpr ⟨v, hm, rfl⟩)
        refine ⟨rfl, _, _, v :: seen, ⟨v, tv, it, mw, 0⟩ :: stk, _, _, oN', e1 + 1, e2 + 1, _, _, frs', rfl, ?_, ⟨g2, g3, fun q hq => ?_, hsg⟩, hdfs.push hv hs0 hrv tv it mw _, hoS', hoN', hsu, by k_asm, ?_⟩
        · have := work_push (sn := sn) (stk := stk) (e := ⟨v, tv, it, mw, 0⟩) hv hns rfl rfl
          lia
        · exact lit (q.mw, mwObj q.it) (by simp only [List.mem_cons, List.mem_append]; exact .inr (.inr (.inr (.inr (.inr (.inr (.inr (.inr (.inr (.inr (.inr (.inr (.inl (mem_itReg.mpr ⟨q, hq, .inr rfl⟩))))))))))))))
        · simp only [cled, List.map_cons, List.reverse_cons, itReg_cons]
          exact subN N7 memPush
    · rintro fl s' ⟨rfl, h, tk, seen, stk, vN, oS, oN, e1, e2, Sf, cnt, frs', rfl, hw, hsg, hdfs, hoS, hoN, hsu, F, N⟩
      dsimp only
      iterate 1 ((try (first | with_reducible refine Mine.hide_execT fun Qh tkh hQh => ?_ | with_reducible refine Mine.hide_exec fun Qh hQh => ?_ | with_reducible refine Mine.hide_loop fun Qh hQh => ?_ | with_reducible refine Mine.hide_comp fun Qh hQh => ?_ | with_reducible refine Mine.hide_tok fun tkh => ?_)); (first | walk1 | (dsimp only; walk1) | (refine hQh _ _ ?_; clear hQh; try clear Qh)); try dsimp only)
      refine whl_start 0 ?_
      refine while_ind (fun k s' => ∃ h tk seen stk vN oS oN e1 e2 Sf cnt frs', s' = { s with heap := h, toks := tk } ∧ stk.length = k ∧ work sn n seen stk ≤ μ ∧ SG I stk ∧ DFS sn rank n seen stk vN Sf cnt ∧ oS.SetObjOf (PySem.intKind prg w) Sf cnt ∧ oN.IsDictOf (PySem.intKind prg w) vN ∧ SameUp ((L, oL) :: frs) frs' ∧
        Fr h₀ L' h (cmap u NS SE IT S D x v tv) ∧ News h₀ L' h (cled I NS SE IT S x dx D oI oN oS oD e1 e2 (e4 h1 h2 h3 h4 t1 t2 t3 t4 (.ref D) a b c) stk (reg f n ++ (itReg f stk ++ (rest ++ frs'))))) ?_ _ _
        ⟨_, _, seen, stk, vN, oS, oN, e1, e2, Sf, cnt, frs', rfl, rfl, hw, hsg, hdfs, hoS, hoN, hsu, F, N⟩
      clear N F hoS hoN hdfs hsu hsg hw
      rintro k s' ih2 ⟨h, tk, seen, stk, vN, oS, oN, e1, e2, Sf, cnt, frs', rfl, hk2, hw, hsg, hdfs, hoS, hoN, hsu, F, N⟩
      have hstl : stk.length ≤ 11 := by
        have hnd : (stk.map (·.v)).Nodup := by
          rw [List.nodup_iff_pairwise_ne, List.pairwise_map]
          exact hdfs.rk.imp (fun hab e => by rw [e] at hab; lia)
        have := List.Nodup.length_le_of_subset hnd (fun j hj => by obtain ⟨e, he, rfl⟩ := List.mem_map.mp hj; exact List.mem_range.mpr (hdfs.lt e he).1 : stk.map (·.v) ⊆ List.range n)
        rw [List.length_range, List.length_map] at this; lia
      refine whl_turn (by passes_own) ?_
      iterate 2 ((try (first | with_reducible refine Mine.hide_execT fun Qh tkh hQh => ?_ | with_reducible refine Mine.hide_exec fun Qh hQh => ?_ | with_reducible refine Mine.hide_loop fun Qh hQh => ?_ | with_reducible refine Mine.hide_comp fun Qh hQh => ?_ | with_reducible refine Mine.hide_tok fun tkh => ?_)); (first | walk1 | (dsimp only; walk1) | (refine hQh _ _ ?_; clear hQh; try clear Qh)); try dsimp only)
      refine wpAny_truthy_list (News.isList (N := N) (by k_mem)) (by simp; lia) ?_
      cases stk with
      | nil =>
        refine WhlIf.no rfl ?_
        iterate 7 ((try (first | with_reducible refine Mine.hide_execT fun Qh tkh hQh => ?_ | with_reducible refine Mine.hide_exec fun Qh hQh => ?_ | with_reducible refine Mine.hide_loop fun Qh hQh => ?_ | with_reducible refine Mine.hide_comp fun Qh hQh => ?_ | with_reducible refine Mine.hide_tok fun tkh => ?_)); (first | walk1 | (dsimp only; walk1) | (refine hQh _ _ ?_; clear hQh; try clear Qh)); try dsimp only)
        have hvN : vN = [] := by have := hdfs.keys; simpa using this
        subst hvN
        refine LEnd.intro _ F N ?_ (fun p hp => .tail _ hp) (.head _) (fun p hp => ?_) ⟨seen, oS, oN, e1, e2, Sf, cnt, frs', hdfs, hoS, hoN, hsu, rfl⟩
        · repeat' (first | exact MapOff.base | refine MapOff.put (by decide) ?_)
        · have b5 : ∀ p ∈ reg f n ++ (rest ++ frs'), p.1 ≠ I := tl [] frs' I hsg hsu (by simp only [PySem.Addr] at *; lia) (Nat.le_refl _)
          have w2 : NS ≠ I := Nat.ne_of_lt g1
          have w3 : SE ≠ I := Nat.ne_of_lt (by simp only [PySem.Addr] at *; lia)
          have w4 : IT ≠ I := Nat.ne_of_lt (by simp only [PySem.Addr] at *; lia)
          have w5 : S ≠ I := Nat.ne_of_lt (by simp only [PySem.Addr] at *; lia)
          have w6 : x ≠ I := Nat.ne_of_lt (by simp only [PySem.Addr] at *; lia)
          have w7 : dx ≠ I := Nat.ne_of_lt (by simp only [PySem.Addr] at *; lia)
          have w8 : D ≠ I := Nat.ne_of_lt (by simp only [PySem.Addr] at *; lia)
          rcases List.mem_cons.mp hp with rfl | hp
          · exact w2
          rcases List.mem_cons.mp hp with rfl | hp
          · exact w3
          rcases List.mem_cons.mp hp with rfl | hp
          · exact w4
          rcases List.mem_cons.mp hp with rfl | hp
          · exact w5
          rcases List.mem_cons.mp hp with rfl | hp
          · exact w6
          rcases List.mem_cons.mp hp with rfl | hp
          · exact w7
          rcases List.mem_cons.mp hp with rfl | hp
          · exact w8
          · exact b5 p hp
      | cons top r =>
        refine WhlIf.yes (by simp) ?_
        iterate 2 ((try (first | with_reducible refine Mine.hide_execT fun Qh tkh hQh => ?_ | with_reducible refine Mine.hide_exec fun Qh hQh => ?_ | with_reducible refine Mine.hide_loop fun Qh hQh => ?_ | with_reducible refine Mine.hide_comp fun Qh hQh => ?_ | with_reducible refine Mine.hide_tok fun tkh => ?_)); (first | walk1 | (dsimp only; walk1) | (refine hQh _ _ ?_; clear hQh; try clear Qh)); try dsimp only)
        refine wpAny_Try_except ?_
        iterate 8 ((try (first | with_reducible refine Mine.hide_execT fun Qh tkh hQh => ?_ | with_reducible refine Mine.hide_exec fun Qh hQh => ?_ | with_reducible refine Mine.hide_loop fun Qh hQh => ?_ | with_reducible refine Mine.hide_comp fun Qh hQh => ?_ | with_reducible refine Mine.hide_tok fun tkh => ?_)); (first | walk1 | (dsimp only; walk1) | (refine hQh _ _ ?_; clear hQh; try clear Qh)); try dsimp only)
        have hN' := N
        simp only [cled, List.map_cons, List.reverse_cons] at N
        refine sub_last (News.isList (N := N) (by k_mem)) ?_
        have tvn := (hdfs.lt top (.head _)).1
        have hmw : (top.mw, mwObj top.it) ∈ reg f n ++ (itReg f (top :: r) ++ (rest ++ frs')) := List.mem_append_right _ (List.mem_append_left _ (mem_itReg.mpr ⟨top, .head _, .inr rfl⟩))
        have hit : (top.it, itObj (f top.v).l top.pos) ∈ reg f n ++ (itReg f (top :: r) ++ (rest ++ frs')) := List.mem_append_right _ (List.mem_append_left _ (mem_itReg.mpr ⟨top, .head _, .inl rfl⟩))
        have hls : ((f top.v).l, (f top.v).ol) ∈ reg f n ++ (itReg f (top :: r) ++ (rest ++ frs')) := List.mem_append_left _ (mem_reg.mpr ⟨top.v, tvn, .inr (.inl rfl)⟩)
        refine callWith_mw (N _ (m8 hmw)).1 (mw_call (N _ (m8 hmw)).1 ?_)
        have hsgt := hsg.1
        have hoffi : ∀ p ∈ reg f n ++ (itReg f r ++ (rest ++ frs')), p.1 ≠ top.it := by
          intro p hp
          have hl := hlow frs' hsu
          have hSI : S < top.it := Nat.lt_trans (Nat.lt_trans (Nat.lt_trans q2 q3) (Nat.lt_trans q4 g1)) hsgt
          simp only [List.mem_append] at hp hl
          rcases hp with hp | hp | hp | hp
          · exact Nat.ne_of_lt (Nat.lt_trans (hl p (.inl hp)) hSI)
          · obtain ⟨e, he, rfl | rfl⟩ := mem_itReg.mp hp
            · exact Nat.ne_of_lt (Nat.lt_trans (hsg.2.2.2.all e he).2 (hsg.2.2.1 e he))
            · exact Nat.ne_of_lt (hsg.2.2.1 e he)
          · exact Nat.ne_of_lt (Nat.lt_trans (hl p (.inr (.inl hp))) hSI)
          · exact Nat.ne_of_lt (Nat.lt_trans (hl p (.inr (.inr hp))) hSI)
        have hchg : ∀ (h' : Heap) (o' : Obj), Heap.SameBut top.it h h' → h'.get? top.it = some o' → News h₀ L' h' ((I, oI) :: (NS, oN) :: (SE, oS) :: (IT, W.listOf ((r.map fun e => Value.ref e.mw).reverse ++ [Value.ref top.mw]).toArray e1) :: (S, W.listOf ((r.map fun e => Value.int (e.v : Nat) e.tv).reverse ++ [Value.int (top.v : Nat) top.tv]).toArray e2) ::
            (x, instObj 158 dx) :: (dx, dictOf (e4 h1 h2 h3 h4 t1 t2 t3 t4 (.ref D) a b c) 4) :: (D, oD) :: (reg f n ++ (((top.it, o') :: (top.mw, mwObj top.it) :: itReg f r) ++ (rest ++ frs')))) := by
          intro h' o' hs ho'
          refine news_chg N hs ho' (N _ (m8 hit)).2.1 (N _ (m8 hit)).2.2 ?_
          have cI : ∀ y, y ≤ I → y ≠ top.it := fun y hy => Nat.ne_of_lt (Nat.lt_of_le_of_lt hy hsgt)
          intro p hp
          have key : p = (top.it, o') ∨ p = (top.mw, mwObj top.it) ∨ p ∈ reg f n ++ (itReg f r ++ (rest ++ frs')) ∨ p ∈ [(I, oI), (NS, oN), (SE, oS), (IT, W.listOf ((r.map fun e => Value.ref e.mw).reverse ++ [Value.ref top.mw]).toArray e1), (S, W.listOf ((r.map fun e => Value.int (e.v : Nat) e.tv).reverse ++ [Value.int (top.v : Nat) top.tv]).toArray e2),
            (x, instObj 158 dx), (dx, dictOf (e4 h1 h2 h3 h4 t1 t2 t3 t4 (.ref D) a b c) 4), (D, oD)] := memIt p hp
          rcases key with h | h | h | h
          · exact .inl h
          · subst h
            exact .inr ⟨m8 hmw, Nat.ne_of_gt hsg.2.1⟩
          · exact .inr ⟨memIt2 p h, hoffi p h⟩
          · refine .inr ⟨memIt3 p h, ?_⟩
            have w1 := cI I (Nat.le_refl _)
            have w2 := cI NS (Nat.le_of_lt g1)
            have w3 := cI SE (by simp only [PySem.Addr] at *; lia)
            have w4 := cI IT (by simp only [PySem.Addr] at *; lia)
            have w5 := cI S (by simp only [PySem.Addr] at *; lia)
            have w6 := cI x (by simp only [PySem.Addr] at *; lia)
            have w7 := cI dx (by simp only [PySem.Addr] at *; lia)
            have w8 := cI D (by simp only [PySem.Addr] at *; lia)
            simp only [List.mem_cons, List.not_mem_nil, or_false] at h
            rcases h with rfl | rfl | rfl | rfl | rfl | rfl | rfl | rfl <;> assumption
        by_cases hpos : top.pos < (sn top.v).length
        · obtain ⟨j, tj, hxj, hjm⟩ : ∃ j tj, (f top.v).su.toArray[top.pos]? = some (.int (j : Nat) tj) ∧ j ∈ sn top.v := by
            have hq := hsn top.v tvn
            have hlen : top.pos < (f top.v).su.length := by rw [hq.length, List.length_map]; exact hpos
            have hg : (f top.v).su[top.pos]? = some (f top.v).su[top.pos] := List.getElem?_eq_getElem hlen
            obtain ⟨a, ta, e1, e2⟩ := hq.at _ _ hg
            rw [List.getElem?_map] at e2
            obtain ⟨j, hj, rfl⟩ := Option.map_eq_some_iff.mp e2
            exact ⟨j, ta, by rw [List.getElem?_toArray, hg, e1]; rfl, List.mem_of_getElem? hj⟩
          refine next_item (N _ (m8 hit)).1 (News.isList (N := N) (m8 hls)) hxj ?_
          intro h' ho' hs
          have N2 := hchg h' _ hs ho'
          have F2 := F.change hs (N _ (m8 hit)).2.1 (N _ (m8 hit)).2.2
          clear N F hN'
          try dsimp only
          iterate 9 ((try (first | with_reducible refine Mine.hide_execT fun Qh tkh hQh => ?_ | with_reducible refine Mine.hide_exec fun Qh hQh => ?_ | with_reducible refine Mine.hide_loop fun Qh hQh => ?_ | with_reducible refine Mine.hide_comp fun Qh hQh => ?_ | with_reducible refine Mine.hide_tok fun tkh => ?_)); (first | walk1 | (dsimp only; walk1) | (refine hQh _ _ ?_; clear hQh; try clear Qh)); try dsimp only)
          rename Fr _ _ _ _ => F3
          rename News _ _ _ _ => N3
          rw [cmap_put] at F3
          have hdfs' : DFS sn rank n seen ({ top with pos := top.pos + 1 } :: r) vN Sf cnt := ⟨hdfs.snd, hdfs.slt, hdfs.cnt, hdfs.S, fun e he => by
              rcases List.mem_cons.mp he with rfl | he
              · exact ⟨tvn, (hdfs.lt top (.head _)).2.1, hpos⟩
              · exact hdfs.lt e (.tail _ he), by have := hdfs.rk; rw [List.pairwise_cons] at this ⊢; exact this, hdfs.keys⟩
          refine ih _ (Nat.lt_of_lt_of_le (work_take (a := top) (b := { top with pos := top.pos + 1 }) rfl rfl hpos) hw) _ ⟨_, _, j, tj, seen, { top with pos := top.pos + 1 } :: r, vN, oS, oN, e1, e2, Sf, cnt, frs', rfl, hsb _ tvn j hjm, ?_, rfl, hsg, hdfs', hoS, hoN, hsu, F3, ?_⟩
          · intro e he
            have hr := hrank top.v tvn j hjm
            rcases List.mem_cons.mp he with rfl | he
            · exact hr
            · have := (List.pairwise_cons.mp hdfs.rk).1 e he
              lia
          · simp only [cled, List.map_cons, List.reverse_cons, itReg_cons]
            exact N3
        · refine next_end rfl (N _ (m8 hit)).1 (News.isList (N := N) (m8 hls)) ?_ ?_
          · have hq := hsn top.v tvn
            rw [List.getElem?_toArray, List.getElem?_eq_none]
            rw [hq.length, List.length_map]; lia
          intro h₁ h' e hs hx
          have F1 := F.change hs (N _ (m8 hit)).2.1 (N _ (m8 hit)).2.2
          have N1 : News h₀ L' h₁ (((I, oI) :: (NS, oN) :: (SE, oS) :: (IT, W.listOf ((r.map fun e => Value.ref e.mw).reverse ++ [Value.ref top.mw]).toArray e1) :: (S, W.listOf ((r.map fun e => Value.int (e.v : Nat) e.tv).reverse ++ [Value.int (top.v : Nat) top.tv]).toArray e2) ::
            (x, instObj 158 dx) :: (dx, dictOf (e4 h1 h2 h3 h4 t1 t2 t3 t4 (.ref D) a b c) 4) :: (D, oD) :: (reg f n ++ (itReg f r ++ rest))) ++ frs') := by
            refine news_drop N hs ?_
            intro p hp
            simp only [List.cons_append, List.append_assoc] at hp
            rcases memIt4 p hp with h | h
            · exact ⟨memIt2 p h, hoffi p h⟩
            · refine ⟨memIt3 p h, ?_⟩
              have cI : ∀ y, y ≤ I → y ≠ top.it := fun y hy => Nat.ne_of_lt (Nat.lt_of_le_of_lt hy hsgt)
              have w1 := cI I (Nat.le_refl _)
              have w2 := cI NS (Nat.le_of_lt g1)
              have w3 := cI SE (by simp only [PySem.Addr] at *; lia)
              have w4 := cI IT (by simp only [PySem.Addr] at *; lia)
              have w5 := cI S (by simp only [PySem.Addr] at *; lia)
              have w6 := cI x (by simp only [PySem.Addr] at *; lia)
              have w7 := cI dx (by simp only [PySem.Addr] at *; lia)
              have w8 := cI D (by simp only [PySem.Addr] at *; lia)
              simp only [List.mem_cons, List.not_mem_nil, or_false] at h
              rcases h with rfl | rfl | rfl | rfl | rfl | rfl | rfl | rfl <;> assumption
          have Fs : Frs (envP :: l0) frs' := TI.Frs.up (show Frs (envP :: l0) ((L, oL) :: frs) from ⟨hk, hf, hoL, hfr⟩) hsu
          refine TLg.noted_newA (l := envP :: l0) rfl Fs hx F1 N1 ?_ ?_ rfl
          · have hS' : ∀ q ∈ frs', q.1 < S := fun q hq => hlow frs' hsu q (List.mem_append_right _ (List.mem_append_right _ hq))
            intro p hp hm
            rcases List.mem_cons.mp hm with e | hm
            · exact (N1 p (List.mem_append_left _ hp)).2.1 e
            obtain ⟨q, hq, e⟩ := List.mem_map.mp hm
            have hqS := hS' q hq
            obtain ⟨q0, hq0, e0⟩ := SameUp.fwd' hsu q hq
            have big : S ≤ p.1 → False := fun hle => by rw [← e] at hle; exact absurd hqS (Nat.not_lt.mpr hle)
            have old : (∃ o, (p.1, o) ∈ (x, instObj 158 dx) :: (dx, dictOf (e4 h1 h2 h3 h4 t1 t2 t3 t4 (.ref D) a b c) 4) :: (D, oD) :: (reg f n ++ rest)) → False := fun ⟨o, ho⟩ => by
              rcases List.mem_cons.mp hq0 with rfl | hq0
              · exact hneL (p.1, o) (List.mem_append_left _ ho) (by rw [← e, ← e0])
              · exact hoff (p.1, o) ho q0 hq0 (by rw [← e, ← e0])
            rcases memIt5 p hp with h | h | h
            · simp only [List.mem_cons, List.not_mem_nil, or_false] at h
              rcases h with rfl | rfl | rfl | rfl | rfl <;> refine big (Nat.le_of_lt_succ ?_) <;> (simp only [PySem.Addr] at *; lia)
            · exact old ⟨p.2, h⟩
            · obtain ⟨fe, hfe, rfl | rfl⟩ := mem_itReg.mp h
              · have := (hsg.2.2.2.all fe hfe).1
                refine big (Nat.le_of_lt ?_)
                exact Nat.lt_trans (by simp only [PySem.Addr] at *; lia : S < I) this
              · have := (hsg.2.2.2.all fe hfe)
                refine big (Nat.le_of_lt ?_)
                exact Nat.lt_trans (by simp only [PySem.Addr] at *; lia : S < I) (Nat.lt_trans this.1 this.2)
          intro h'' frs'' su2 Fs2 H
          refine TT.HeldNA.land H fun hA H3 => ?_
          refine TT.clause_hitTN H3 T (k := ?_)
          intro hB F4 N4
          simp only [List.cons_append, List.append_assoc] at N4
          clear N F hN' N1 F1 H H3
          try dsimp only
          have hsu2 := hsu.trans su2
          have b2 := tl r frs'' IT hsg.2.2.2 hsu2 (by simp only [PySem.Addr] at *; lia) (by simp only [PySem.Addr] at *; lia)
          have b3 := tl r frs'' S hsg.2.2.2 hsu2 (by simp only [PySem.Addr] at *; lia) (by simp only [PySem.Addr] at *; lia)
          have b4 := tl r frs'' NS hsg.2.2.2 hsu2 (by simp only [PySem.Addr] at *; lia) (by simp only [PySem.Addr] at *; lia)
          iterate 9 ((try (first | with_reducible refine Mine.hide_execT fun Qh tkh hQh => ?_ | with_reducible refine Mine.hide_exec fun Qh hQh => ?_ | with_reducible refine Mine.hide_loop fun Qh hQh => ?_ | with_reducible refine Mine.hide_comp fun Qh hQh => ?_ | with_reducible refine Mine.hide_tok fun tkh => ?_)); (first | walk1 | (dsimp only; walk1) | (refine hQh _ _ ?_; clear hQh; try clear Qh)); try dsimp only)
          refine kl_pop (by k_asm) N4 (kpa_last _ _) (by k_upd) ?_ ?_
          · simp only [List.toList_toArray, List.length_append, List.length_reverse, List.length_map, List.length_cons, List.length_nil] at hstl ⊢
            rw [sizeLine_eq]; lia
          intro h' F' N5
          clear N4
          (try dsimp only)
          refine kob_del (by k_asm) N5 (by k_updF) hoN (k := (top.v : Int)) (intKind_is _ _ _ _) hdfs.has (by have := congrArg List.length hdfs.keys; simp only [List.length_map, List.length_reverse] at this; rw [sizeLine_eq]; lia) ?_
          intro h' oN' F' N6 hoN'
          (try dsimp only at N6)
          (try dsimp only)
          iterate 9 ((try (first | with_reducible refine Mine.hide_execT fun Qh tkh hQh => ?_ | with_reducible refine Mine.hide_exec fun Qh hQh => ?_ | with_reducible refine Mine.hide_loop fun Qh hQh => ?_ | with_reducible refine Mine.hide_comp fun Qh hQh => ?_ | with_reducible refine Mine.hide_tok fun tkh => ?_)); (first | walk1 | (dsimp only; walk1) | (refine hQh _ _ ?_; clear hQh; try clear Qh)); try dsimp only)
          refine kl_pop (by k_asm) N6 (kpa_last _ _) (by k_upd) ?_ ?_
          · simp only [List.toList_toArray, List.length_append, List.length_reverse, List.length_map, List.length_cons, List.length_nil] at hstl ⊢
            rw [sizeLine_eq]; lia
          intro h' F' N7
          clear N5 N6
          (try dsimp only)
          iterate 4 ((try (first | with_reducible refine Mine.hide_execT fun Qh tkh hQh => ?_ | with_reducible refine Mine.hide_exec fun Qh hQh => ?_ | with_reducible refine Mine.hide_loop fun Qh hQh => ?_ | with_reducible refine Mine.hide_comp fun Qh hQh => ?_ | with_reducible refine Mine.hide_tok fun tkh => ?_)); (first | walk1 | (dsimp only; walk1) | (refine hQh _ _ ?_; clear hQh; try clear Qh)); try dsimp only)
          refine ih2 r.length (by rw [← hk2]; simp) _ ⟨_, _, seen, r, _, oS, oN', _, _, Sf, cnt, frs'', rfl, rfl, Nat.le_trans work_pop hw, hsg.2.2.2, hdfs.pop, hoS, hoN', hsu2, by k_asm, N7⟩
  · rintro u nx h tk ⟨seen, oS, oN, e1, e2, Sf, cnt, frs', hdfs, hoS, hoN, hsu, rfl⟩ F N
    iterate 4 ((try (first | with_reducible refine Mine.hide_execT fun Qh tkh hQh => ?_ | with_reducible refine Mine.hide_exec fun Qh hQh => ?_ | with_reducible refine Mine.hide_loop fun Qh hQh => ?_ | with_reducible refine Mine.hide_comp fun Qh hQh => ?_ | with_reducible refine Mine.hide_tok fun tkh => ?_)); (first | walk1 | (dsimp only; walk1) | (refine hQh _ _ ?_; clear hQh; try clear Qh)); try dsimp only)
    refine leaveF_ (news' := (x, instObj 158 dx) :: (dx, dictOf (e4 h1 h2 h3 h4 t1 t2 t3 t4 (.ref D) a b c) 4) :: (D, oD) :: (reg f n ++ rest)) hsu (by k_asm) (subN N ?_) (fun p hp => hneL p (List.mem_append_left _ hp)) (fun frs1 su1 kF kN => hQ frs1 _ _ su1 kF kN)
    intro p hp
    simp only [List.cons_append, List.append_assoc] at hp
    exact .tail _ (.tail _ (.tail _ (.tail _ hp)))
end
end Mine

namespace Mine
open PyProof.Rows.TI (Frs SameUp)
open LCg LCt
theorem memPrep {α : Type} {r x d D : α} {rg rs fs : List α} : ∀ p ∈ (x :: d :: D :: (rg ++ r :: rs)) ++ fs, p ∈ r :: x :: d :: D :: (rg ++ (rs ++ fs)) := by
  intro p hp
  simp only [List.mem_cons, List.mem_append] at hp ⊢
  grind
theorem memPrep2 {α : Type} {r x d D : α} {rg rs fs : List α} : ∀ p ∈ (x :: d :: D :: r :: (rg ++ rs)) ++ fs, p ∈ (x :: d :: D :: (rg ++ r :: rs)) ++ fs := by
  intro p hp
  simp only [List.mem_cons, List.mem_append] at hp ⊢
  grind
theorem m6 {α : Type} {a b c d e f p : α} {r : List α} (hm : p ∈ r) : p ∈ a :: b :: c :: d :: e :: f :: r := by simp [hm]
section
variable {w : World} {h₀ : Heap} {L : Addr} {m mg mb : Str → Option Value} {s : Shared} {mean : ExcName → Option Value} {Q : Value → Shared → Prop} {E : Value → Shared → Prop}
theorem prepare_ok (KX : (heapK w.params).In h₀) (T : Top viewK loo mean mg mb h₀) (F : Fr h₀ L s.heap m) 
  {x dx D : Addr} {h1 h2 h3 h4 : Int} {t1 t2 t3 t4 : Tok} {b c : Value} {oD : Obj} {f : Nat → Nd} {n : Nat} {sn : Nat → List Nat} {rank : Nat → Int} {rest frs : List (Addr × Obj)} {envP : Env} {l0 : List Env}
  (N : News h₀ L s.heap (((x, instObj 158 dx) :: (dx, dictOf (e4 h1 h2 h3 h4 t1 t2 t3 t4 (.ref D) .none b c) 4) :: (D, oD) :: (reg f n ++ rest)) ++ frs)) (lo : (D == sysModules) = false) (hD : oD.IsDictOf (PySem.intKind prg w) (kvs f n))
  (od : Off f n dx) (n1 : x ≠ dx) (n3 : D ≠ dx) (ord : ∀ p ∈ rest, p.1 ≠ dx)
  (hk : envP.scope.kind ≠ .module) (hf : envP.frame = some L) (hfr : Frs l0 frs) (hoff : ∀ p ∈ (x, instObj 158 dx) :: (dx, dictOf (e4 h1 h2 h3 h4 t1 t2 t3 t4 (.ref D) .none b c) 4) :: (D, oD) :: (reg f n ++ rest), ∀ q ∈ frs, p.1 ≠ q.1)
  (hn : n ≤ 11)
  (hsn : ∀ j, j < n → IntsAre (f j).su ((sn j).map Int.ofNat)) (hsl : ∀ j, j < n → (sn j).length ≤ 11) (hsb : ∀ j, j < n → ∀ r ∈ sn j, r < n) (hrank : ∀ j, j < n → ∀ r ∈ sn j, rank j < rank r)
  (hQ : ∀ R rv er frs' h' tk, SameUp frs frs' → IntsAre rv (((List.range n).filter fun i => decide ((f i).np = 0)).map Int.ofNat) → (∀ p ∈ (x, instObj 158 dx) :: (dx, instObj 158 dx) :: (D, oD) :: (reg f n ++ rest), p.1 ≠ R) → (∀ p ∈ frs', p.1 ≠ R) → Fr h₀ L h' m →
    News h₀ L h' (((x, instObj 158 dx) :: (dx, dictOf (e4 h1 h2 h3 h4 t1 t2 t3 t4 (.ref D) (.ref R) b c) 4) :: (D, oD) :: (R, W.listOf rv.toArray er) :: (reg f n ++ rest)) ++ frs') → Q .none { s with heap := h', toks := tk }) :
  wpAny (model prg w) (lvF (envP :: l0) 400 2000) (call (.ref 113) [.ref x] []) Q E s := by
  refine wpAny_call ?_
  refine' enterF (binds := [(Str.ofString "self", .ref x)]) F N KX T ?k6 ?k7 ?k8 ?k9 ?kB ?_ ?c2 ?c3 ?c4 ?c5
  case k6 => k_is
  case k7 => k_is
  case k8 => exact (show (400 : Nat) < recursionLimit by decide)
  case k9 => exact BindsTo.of_eq rfl
  case kB => exact locs rfl
  case c2 => exact rfl
  case c3 => exact rfl
  case c4 => exact rfl
  case c5 => decide
  dsimp only [fB, fS, fA, met, stm, PySem.Challenge.pw_mj0230_01, List.drop]
  intro oL L' h₁ tk hoL F N hlt hLL hneL
  (try dsimp only); (try k_fold)
  simp only [List.cons_append, List.append_assoc] at N
  iterate 15 ((try (first | with_reducible refine Mine.hide_execT fun Qh tkh hQh => ?_ | with_reducible refine Mine.hide_exec fun Qh hQh => ?_ | with_reducible refine Mine.hide_loop fun Qh hQh => ?_ | with_reducible refine Mine.hide_comp fun Qh hQh => ?_ | with_reducible refine Mine.hide_tok fun tkh => ?_)); (first | walk1 | (dsimp only; walk1) | (refine hQh _ _ ?_; clear hQh; try clear Qh)); try dsimp only)
  refine ListComp_V (_F₀ := by k_asm) (by with_unfolding_all rfl) (by decide) (by rfl) (by decide) (by rfl) ?_
  iterate 6 ((try (first | with_reducible refine Mine.hide_execT fun Qh tkh hQh => ?_ | with_reducible refine Mine.hide_exec fun Qh hQh => ?_ | with_reducible refine Mine.hide_loop fun Qh hQh => ?_ | with_reducible refine Mine.hide_comp fun Qh hQh => ?_ | with_reducible refine Mine.hide_tok fun tkh => ?_)); (first | walk1 | (dsimp only; walk1) | (refine hQh _ _ ?_; clear hQh; try clear Qh)); try dsimp only)
  refine kta_callValues (by k_asm) N (by k_mem) hD lo ?_
  intro h' hv F' N'
  clear F N
  try dsimp only
  refine ⟨_, D, oD, kvs f n, _, rfl, rfl, F', N', hv, by k_mem, hD, by rw [kvs_len, sizeLine_eq]; lia, fun g => ?_⟩
  refine comp_invT (fun i ys nw => nw = (x, instObj 158 dx) :: (dx, dictOf (e4 h1 h2 h3 h4 t1 t2 t3 t4 (.ref D) .none b c) 4) :: (D, oD) :: (reg f n ++ (rest ++ (L, oL) :: frs)) ∧ IntsAre ys (((List.range i).filter fun i => decide ((f i).np = 0)).map Int.ofNat)) ?_ ?_ _ 0 [] _ (Nat.zero_add _) ⟨rfl, .nil⟩
  · rintro i ys news v I oI C oC D' m₂ h tk' E' hi ⟨rfl, hys⟩ ⟨k, hkv⟩ hC hx F N off ne
    rw [kvs_len] at hi
    obtain rfl : v = Value.ref (f i).x := by
      unfold kvs at hkv
      rw [List.getElem?_map, List.getElem?_range hi] at hkv
      simp only [Option.map_some, Option.some.injEq, Prod.mk.injEq] at hkv
      exact hkv.2.symm
    clear F' N'
    have m1 : ((f i).x, (f i).ox i) ∈ reg f n ++ (rest ++ (L, oL) :: frs) := List.mem_append_left _ (mem_reg.mpr ⟨i, hi, .inl rfl⟩)
    have m2 : ((f i).l, (f i).ol) ∈ reg f n ++ (rest ++ (L, oL) :: frs) := List.mem_append_left _ (mem_reg.mpr ⟨i, hi, .inr (.inl rfl)⟩)
    have m3 : ((f i).d, dictOf [] 0) ∈ reg f n ++ (rest ++ (L, oL) :: frs) := List.mem_append_left _ (mem_reg.mpr ⟨i, hi, .inr (.inr rfl)⟩)
    have N4 := add3 (m6 m1) (m6 m2) (m6 m3) N
    simp only [Nd.ox, Nd.ol] at N4
    iterate 7 ((try (first | with_reducible refine Mine.hide_execT fun Qh tkh hQh => ?_ | with_reducible refine Mine.hide_exec fun Qh hQh => ?_ | with_reducible refine Mine.hide_loop fun Qh hQh => ?_ | with_reducible refine Mine.hide_comp fun Qh hQh => ?_ | with_reducible refine Mine.hide_tok fun tkh => ?_)); (first | walk1 | (dsimp only; walk1) | (refine hQh _ _ ?_; clear hQh; try clear Qh)); try dsimp only)
    have e1 : ((List.range (i + 1)).filter fun i => decide ((f i).np = 0)) = ((List.range i).filter fun i => decide ((f i).np = 0)) ++ if (f i).np = 0 then [i] else [] := by
      rw [List.range_succ, List.filter_append]
      by_cases h0 : (f i).np = 0 <;> simp [h0]
    by_cases h0 : (f i).np = 0
    · refine ite_pos (beq_iff_eq.mpr h0) ?_
      iterate 4 ((try (first | with_reducible refine Mine.hide_execT fun Qh tkh hQh => ?_ | with_reducible refine Mine.hide_exec fun Qh hQh => ?_ | with_reducible refine Mine.hide_loop fun Qh hQh => ?_ | with_reducible refine Mine.hide_comp fun Qh hQh => ?_ | with_reducible refine Mine.hide_tok fun tkh => ?_)); (first | walk1 | (dsimp only; walk1) | (refine hQh _ _ ?_; clear hQh; try clear Qh)); try dsimp only)
      refine CompEnd.intro (by k_asm) N _ (fun p hp => hp) off (by k_mem) ⟨rfl, ?_⟩
      rw [e1, if_pos h0, List.map_append]
      exact hys.append (.cons _ _ .nil)
    · refine ite_neg (fun h => h0 (beq_iff_eq.mp h)) ?_
      refine CompEnd.intro (by k_asm) N _ (fun p hp => hp) off (by k_mem) ⟨rfl, ?_⟩
      rw [e1, if_neg h0, List.append_nil]
      exact hys
  rintro ys news ⟨rfl, hys⟩
  intro R h tk' F N offR
  rw [kvs_len] at hys
  clear F' N'
  have oR := Off1.all offR
  try dsimp only
  have a1 := neN (oR (x, _) (.head _))
  have a2 := neN (oR (dx, _) (.tail _ (.head _)))
  have a3 := neN n1
  have a4 := neN n3
  have hdxL : ∀ q ∈ (L, oL) :: frs, q.1 ≠ dx := fun q hq => by
    rcases List.mem_cons.mp hq with rfl | hq
    · exact Ne.symm (hneL (dx, _) (.tail _ (.head _)))
    · exact Ne.symm (hoff (dx, _) (.tail _ (.head _)) q hq)
  have b1 : ∀ p ∈ reg f n ++ (rest ++ (L, oL) :: frs), p.1 ≠ dx := fun p hp => by
    rcases List.mem_append.mp hp with hp | hp
    · exact od.all p hp
    · rcases List.mem_append.mp hp with hp | hp
      · exact ord p hp
      · exact hdxL p hp
  iterate 10 ((try (first | with_reducible refine Mine.hide_execT fun Qh tkh hQh => ?_ | with_reducible refine Mine.hide_exec fun Qh hQh => ?_ | with_reducible refine Mine.hide_loop fun Qh hQh => ?_ | with_reducible refine Mine.hide_comp fun Qh hQh => ?_ | with_reducible refine Mine.hide_tok fun tkh => ?_)); (first | walk1 | (dsimp only; walk1) | (refine hQh _ _ ?_; clear hQh; try clear Qh)); try dsimp only)
  rename News _ _ _ _ => N6
  have hneR : ∀ q ∈ (L, oL) :: frs, q.1 ≠ R := fun q hq => oR q (.tail _ (.tail _ (.tail _ (List.mem_append_right _ (List.mem_append_right _ hq)))))
  refine wpAny_lvF (l := envOf _ _ L' 113 _ :: envP :: l0) (d := 500) (u := 3000) (find_ok KX T (by k_asm) (rest := (R, lst ys) :: rest) (frs := (L, oL) :: frs) (subN N6 memPrep) lo hD (fun hq => ScopeKind.noConfusion hq) rfl (show Frs (envP :: l0) ((L, oL) :: frs) from ⟨hk, hf, hoL, hfr⟩) ?_ hn hsn hsl hsb hrank ?_) rfl rfl rfl (Nat.le_of_ble_eq_true rfl) (Nat.le_of_ble_eq_true rfl)
  · intro p hp q hq
    have key : (∃ o, (p.1, o) ∈ (x, instObj 158 dx) :: (dx, dictOf (e4 h1 h2 h3 h4 t1 t2 t3 t4 (.ref D) .none b c) 4) :: (D, oD) :: (reg f n ++ rest)) ∨ p.1 = R := by
      rcases List.mem_cons.mp hp with rfl | hp
      · exact .inl ⟨_, .head _⟩
      rcases List.mem_cons.mp hp with rfl | hp
      · exact .inl ⟨_, .tail _ (.head _)⟩
      rcases List.mem_cons.mp hp with rfl | hp
      · exact .inl ⟨_, .tail _ (.tail _ (.head _))⟩
      rcases List.mem_append.mp hp with hp | hp
      · exact .inl ⟨p.2, .tail _ (.tail _ (.tail _ (List.mem_append_left _ hp)))⟩
      rcases List.mem_cons.mp hp with rfl | hp
      · exact .inr rfl
      · exact .inl ⟨p.2, .tail _ (.tail _ (.tail _ (List.mem_append_right _ hp)))⟩
    rcases key with ⟨o, ho⟩ | e
    · rcases List.mem_cons.mp hq with rfl | hq
      · exact hneL (p.1, o) (List.mem_append_left _ ho)
      · exact hoff (p.1, o) ho q hq
    · rw [e]; exact Ne.symm (hneR q hq)
  intro frs' h2' tk2 su F2 N2
  clear N6
  try dsimp only
  iterate 12 ((try (first | with_reducible refine Mine.hide_execT fun Qh tkh hQh => ?_ | with_reducible refine Mine.hide_exec fun Qh hQh => ?_ | with_reducible refine Mine.hide_loop fun Qh hQh => ?_ | with_reducible refine Mine.hide_comp fun Qh hQh => ?_ | with_reducible refine Mine.hide_tok fun tkh => ?_)); (first | walk1 | (dsimp only; walk1) | (refine hQh _ _ ?_; clear hQh; try clear Qh)); try dsimp only)
  rename News _ _ _ _ => N2
  refine leaveF_ (news' := (x, instObj 158 dx) :: (dx, dictOf (e4 h1 h2 h3 h4 t1 t2 t3 t4 (.ref D) (.ref R) b c) 4) :: (D, oD) :: (R, W.listOf ys.toArray ys.length) :: (reg f n ++ rest)) su (by k_asm) (subN N2 memPrep2) ?_ (fun frs1 su1 kF kN => hQ R ys ys.length frs1 _ _ su1 hys ?_ ?_ kF kN)
  · intro p hp
    rcases List.mem_cons.mp hp with rfl | hp
    · exact hneL (x, _) (.head _)
    rcases List.mem_cons.mp hp with rfl | hp
    · have h := hneL (dx, _) (.tail _ (.head _)); exact h
    rcases List.mem_cons.mp hp with rfl | hp
    · exact hneL (D, _) (.tail _ (.tail _ (.head _)))
    rcases List.mem_cons.mp hp with rfl | hp
    · exact Ne.symm (hneR (L, oL) (.head _))
    · exact hneL p (List.mem_append_left _ (.tail _ (.tail _ (.tail _ hp))))
  · intro p hp
    rcases List.mem_cons.mp hp with rfl | hp
    · exact oR (x, _) (.head _)
    rcases List.mem_cons.mp hp with rfl | hp
    · have h := oR (dx, _) (.tail _ (.head _)); exact h
    rcases List.mem_cons.mp hp with rfl | hp
    · exact oR (D, _) (.tail _ (.tail _ (.head _)))
    rcases List.mem_append.mp hp with hp | hp
    · exact oR p (.tail _ (.tail _ (.tail _ (List.mem_append_left _ hp))))
    · exact oR p (.tail _ (.tail _ (.tail _ (List.mem_append_right _ (List.mem_append_left _ hp)))))
  · intro p hp
    obtain ⟨q, hq, e⟩ := SameUp.fwd' su1 p hp
    rw [← e]
    exact hneR q (.tail _ hq)
end
end Mine

namespace Mine
section
variable {prog : Program} {w : World} {A : Around} {E : Value → Shared → Prop} {s : Shared} {env : Env} {h₀ : Heap} {target : Expr} {body : List Stmt} {Q : Flow → Shared → Prop}
/-- what a turn leaves -/
noncomputable def IEnd (h₀ : Heap) (L : Addr) (J : (Str → Option Value) → List (Addr × Obj) → Prop) (I : Addr) (oI : Obj) (s₁ s₂ : Shared) : Prop :=
  ∃ h' tk m' all nx, s₂ = { s₁ with heap := h', toks := tk } ∧ Fr h₀ L h' m' ∧ News h₀ L h' all ∧ (∀ p ∈ nx, p ∈ all) ∧ (I, oI) ∈ all ∧ (∀ p ∈ nx, p.1 ≠ I) ∧ J m' nx
noncomputable def IPost (h₀ : Heap) (L : Addr) (J : (Str → Option Value) → List (Addr × Obj) → Prop) (I : Addr) (oI : Obj) (s₁ : Shared) (Q : Flow → Shared → Prop) (f : Flow) (s₂ : Shared) : Prop :=
  match f with
  | .ret v => Q (.ret v) s₂
  | .brk => Q .next s₂
  | _ => IEnd h₀ L J I oI s₁ s₂
theorem items_inv {I d : Addr} {od : Obj} {kvs : List (Int × Value)} {cn : String} (J : Nat → (Str → Option Value) → List (Addr × Obj) → Prop) (hJK : ∀ i m nx, J i m nx → (d, od) ∈ nx)
    (turn : ∀ (i : Nat) k v m nx T t h tk oI, kvs[i]? = some (k, v) → J i m nx → IsTup h T #[.int k t, v] → Fr h₀ env.locals h m → News h₀ env.locals h ((I, oI) :: nx) →
      wpAny (model prog w) A (assign target env (.ref T)) (fun _ s₂ => wpAny (model prog w) A (execs body env) (IPost h₀ env.locals (J (i + 1)) I oI { s with heap := h, toks := tk } Q) E s₂) E { s with heap := h, toks := tk })
    (done : ∀ m nx h tk, J kvs.length m nx → Fr h₀ env.locals h m → News h₀ env.locals h nx → Q .next { s with heap := h, toks := tk }) :
    ∀ (r : List (Int × Value)) (i : Nat) m nx, kvs.drop i = r → i ≤ kvs.length → J i m nx → ItemsRest prog w A E h₀ env target body Q s [(I, cn)] [(d, od)] (r.map fun p => Itm.pair (kyVal (PyData.int p.1)) p.2) m nx := by
  intro r
  induction r with
  | nil =>
    intro i m nx hd hi hJ
    have : i = kvs.length := by
      have := congrArg List.length hd
      rw [List.length_drop, List.length_nil] at this; lia
    subst this
    exact ItemsRest.zero fun h tk F N => done m nx h tk hJ F N
  | cons p r ih =>
    intro i m nx hd hi hJ
    obtain ⟨k, v⟩ := p
    have hlt : i < kvs.length := by
      have := congrArg List.length hd
      rw [List.length_drop, List.length_cons] at this; lia
    have hg : kvs[i]? = some (k, v) := by
      rw [List.drop_eq_getElem_cons hlt] at hd
      rw [List.getElem?_eq_getElem hlt]; exact congrArg some (List.cons.inj hd).1
    have hr : kvs.drop (i + 1) = r := by
      rw [List.drop_eq_getElem_cons hlt] at hd
      exact (List.cons.inj hd).2
    refine ItemsRest.pair fun T t h tk hT F => AllObj.cons fun oI _ => AllObj.nil fun N => ?_
    refine wpAny_mono (turn i k v m nx T t h tk oI hg hJ hT F N) (fun _ s₂ h₂ => wpAny_mono h₂ (fun f s₃ h₃ => ?_) fun _ _ e => e) fun _ _ e => e
    have fin : IEnd h₀ env.locals (J (i + 1)) I oI { s with heap := h, toks := tk } s₃ → UnrEndW h₀ env.locals { s with heap := h, toks := tk } [(I, oI)] (fun m' n' => SubL [(d, od)] n' ∧ ItemsRest prog w A E h₀ env target body Q s [(I, cn)] [(d, od)] (r.map fun p => Itm.pair (kyVal (PyData.int p.1)) p.2) m' n') s₃ := by
      rintro ⟨h', tk', m', all, nx', e, F', N', hm, hI, off, hJ'⟩
      refine ⟨h', tk', m', nx', e, F', fun p hp => ?_, fun p hp q hq => ?_, ⟨hJK _ _ _ hJ', trivial⟩, ih (i + 1) m' nx' hr hlt hJ'⟩
      · rcases List.mem_cons.mp hp with rfl | hp
        · exact N' _ hI
        · exact N' _ (hm p hp)
      · rw [List.mem_singleton.mp hq]; exact off p hp
    cases f with
    | ret v => exact h₃
    | brk => exact h₃
    | next => exact fin h₃
    | cont => exact fin h₃
end
theorem m5 {α : Type} {a b c d e p : α} {r : List α} (hm : p ∈ r) : p ∈ a :: b :: c :: d :: e :: r := by simp [hm]
theorem mvInit2 {α : Type} {q i x d D : α} {rg r : List α} : ∀ p ∈ x :: d :: D :: (rg ++ q :: i :: r), p ∈ q :: i :: x :: d :: D :: (rg ++ r) := by
  intro p hp
  simp only [List.mem_cons, List.mem_append] at hp ⊢
  grind
theorem memInit3 {α : Type} {q i x d D : α} {rg r : List α} : ∀ p ∈ x :: d :: D :: (rg ++ r), p ∈ x :: d :: D :: (rg ++ q :: i :: r) := by
  intro p hp
  simp only [List.mem_cons, List.mem_append] at hp ⊢
  grind
theorem memInit4 {α : Type} {q i x d D : α} {rg r : List α} : i ∈ x :: d :: D :: (rg ++ q :: i :: r) := by simp
theorem mvInit {α : Type} {a b c : α} {r : List α} : ∀ p ∈ a :: b :: c :: r, p ∈ c :: a :: b :: r := by grind
section
variable {w : World} {h₀ : Heap} {L : Addr} {m mg mb : Str → Option Value} {s : Shared} {mean : ExcName → Option Value} {Q : Value → Shared → Prop} {E : Value → Shared → Prop}
theorem sorter_make (KX : (heapK w.params).In h₀) (T : Top viewK loo mean mg mb h₀) (F : Fr h₀ L s.heap m) 
  {G : Addr} {oG : Obj} {le : Nat → Addr} {n : Nat} {rest : List (Addr × Obj)}
  (N : News h₀ L s.heap ((G, oG) :: rest)) (hG : oG.IsDictOf (PySem.intKind prg w) ((List.range n).map fun (i : Nat) => ((i : Int), Value.ref (le i)))) (hle : ∀ i, i < n → (le i, W.listOf #[] 0) ∈ rest) (loG : (G == sysModules) = false) (hn : n ≤ 11)
  (hQ : ∀ x dx D oD f h1 h2 h3 h4 t1 t2 t3 t4 ta tb h' tk, (∀ j, j < n → (f j).np = 0) → (∀ j, j < n → (f j).su = []) → Apart f n → Off f n x → Off f n dx → Off f n D → (∀ p ∈ (G, oG) :: rest, Off f n p.1) → (∀ p ∈ (G, oG) :: rest, p.1 < dx) → dx < x → x < D → (D == sysModules) = false → oD.IsDictOf (PySem.intKind prg w) (kvs f n) →
    Fr h₀ L h' m → News h₀ L h' ((x, instObj 158 dx) :: (dx, dictOf (e4 h1 h2 h3 h4 t1 t2 t3 t4 (.ref D) .none (.int 0 ta) (.int 0 tb)) 4) :: (D, oD) :: (reg f n ++ (G, oG) :: rest)) → Q (.ref x) { s with heap := h', toks := tk }) :
  wpAny (model prg w) (lv 320 1000) (call (.ref 158) [.ref G] []) Q E s := by
  refine' call_cls F KX N ?k4 ?k5 ?k6 ?_
  case k4 => k_is
  case k5 => k_is
  case k6 => k_is
  intro x d h' F N l1 l2
  refine' enterN (binds := [(Str.ofString "self", .ref x), (Str.ofString "graph", .ref G)]) F N KX T ?k6 ?k7 ?k8 ?k9 ?kB ?_ ?c2 ?c3 ?c4 ?c5
  case k6 => k_is
  case k7 => k_is
  case k8 => k_room
  case k9 => exact kp_binds (KX.keeps F.keep) (fun _ => rfl)
  case kB => exact locs rfl
  case c2 => exact rfl
  case c3 => exact rfl
  case c4 => exact rfl
  case c5 => decide
  dsimp only [fB, fS, fA, met, stm, PySem.Challenge.pw_mj0230_01, List.drop]
  intro g L' h₁ tk FG F N X' T' hst hlt
  clear KX T
  have hx : ∀ p ∈ rest, p.1 ≠ x := fun p hp => by have := l1 p (.tail _ hp); exact Nat.ne_of_lt (Nat.lt_trans this l2)
  have hdn : ∀ p ∈ rest, p.1 ≠ d := fun p hp => Nat.ne_of_lt (l1 p (.tail _ hp))
  have q1 := ltN l2
  have q2 := ltN (l1 (G, _) (.head _))
  (try dsimp only); (try k_fold)
  iterate 37 ((try (first | with_reducible refine Mine.hide_execT fun Qh tkh hQh => ?_ | with_reducible refine Mine.hide_exec fun Qh hQh => ?_ | with_reducible refine Mine.hide_loop fun Qh hQh => ?_ | with_reducible refine Mine.hide_comp fun Qh hQh => ?_ | with_reducible refine Mine.hide_tok fun tkh => ?_)); (first | walk1 | (dsimp only; walk1) | (refine hQh _ _ ?_; clear hQh; try clear Qh)); try dsimp only)
  rename_i tk1 D h2' oD0 lo hs' fs' hD0 fi' q3 h3' tk2 h4' tk3 h5' tk4 h6' F2 N2
  obtain ⟨q31, q32, q33, q34⟩ := q3
  clear hs' fs' fi'
  have hle' : ∀ i, i < n → (le i, W.listOf #[] 0) ∈ (G, oG) :: rest := fun i hi => .tail _ (hle i hi)
  refine For_turns F2 ?_
  iterate 4 ((try (first | with_reducible refine Mine.hide_execT fun Qh tkh hQh => ?_ | with_reducible refine Mine.hide_exec fun Qh hQh => ?_ | with_reducible refine Mine.hide_loop fun Qh hQh => ?_ | with_reducible refine Mine.hide_comp fun Qh hQh => ?_ | with_reducible refine Mine.hide_tok fun tkh => ?_)); (first | walk1 | (dsimp only; walk1) | (refine hQh _ _ ?_; clear hQh; try clear Qh)); try dsimp only)
  refine kta_callItems (by k_asm) (by k_asm) (by k_mem) hG loG ?_
  intro h' hvw F' N'
  clear F2 N2
  try dsimp only
  obtain ⟨h1, h2, h3, h4, t1, t2, t3, t4, N3⟩ : ∃ h1 h2 h3 h4 t1 t2 t3 t4, News g L' h' ((x, instObj 158 d) :: (d, dictOf (e4 h1 h2 h3 h4 t1 t2 t3 t4 (.ref D) .none (.int 0 tk3) (.int 0 tk4)) 4) :: (D, oD0) :: (reg (fun _ => ⟨0, 0, 0, 0, 0, 0, [], 0⟩) 0 ++ (G, oG) :: rest)) :=
    ⟨_, _, _, _, _, _, _, _, subN N' mvInit⟩
  clear N'
  refine kta_items (knd := PySem.intKind prg w) (enc := PyData.int) rfl F' N3 hvw (by k_mem) hG (fun k v hk => ?_) rfl (fun I hI => ?_)
  · cases v <;> simp [intKind, Value.isInt] at hk
    rename_i a b
    first | exact ⟨b, by rw [hk]; rfl⟩ | exact ⟨b, by rw [← hk]; rfl⟩
  refine items_inv (fun i m nx => MapOff [Str.ofString "node", Str.ofString "predecessors"] (fun y => List.lookup y [(Str.ofString "self", Value.ref x), (Str.ofString "graph", Value.ref G)].reverse) m ∧ (∀ p ∈ nx, p.1 ≠ I) ∧ ∃ f oD, (∀ j, j < i → (f j).np = 0) ∧ (∀ j, j < i → (f j).su = []) ∧ Apart f i ∧ Off f i x ∧ Off f i d ∧ Off f i D ∧ (∀ p ∈ (G, oG) :: rest, Off f i p.1) ∧ oD.IsDictOf (PySem.intKind prg w) (kvs f i) ∧
    nx = (x, instObj 158 d) :: (d, dictOf (e4 h1 h2 h3 h4 t1 t2 t3 t4 (.ref D) .none (.int 0 tk3) (.int 0 tk4)) 4) :: (D, oD) :: (reg f i ++ (G, oG) :: rest)) ?_ ?_ ?_ _ 0 _ _ rfl (Nat.zero_le _) ⟨MapOff.refl, fun p hp => Nat.ne_of_lt (hI p hp), _, oD0, fun j hj => absurd hj (Nat.not_lt_zero _), fun j hj => absurd hj (Nat.not_lt_zero _), ⟨fun i j hi => absurd hi (Nat.not_lt_zero _), fun i j hi => absurd hi (Nat.not_lt_zero _), fun i j hi => absurd hi (Nat.not_lt_zero _), fun i j hi => absurd hi (Nat.not_lt_zero _), fun i j hi => absurd hi (Nat.not_lt_zero _)⟩, fun j hj => absurd hj (Nat.not_lt_zero _), fun j hj => absurd hj (Nat.not_lt_zero _), fun j hj => absurd hj (Nat.not_lt_zero _), fun p hp j hj => absurd hj (Nat.not_lt_zero _), hD0, rfl⟩
  · rintro i m nx ⟨_, _, f, oD, _, _, _, _, _, _, _, _, rfl⟩
    exact .tail _ (.tail _ (.tail _ (List.mem_append_right _ (.head _))))
  · rintro i k v m' nx TT t h tk oI hkv ⟨hmo, hoff, f, oD, hnp, hsu, hap, ox, od, oDD, orr, hD, rfl⟩ hT F N
    clear F' N3 hD0
    have hi : i < n := by
      have := (List.getElem?_eq_some_iff.mp hkv).1
      simpa using this
    obtain ⟨rfl, rfl⟩ : k = (i : Int) ∧ v = .ref (le i) := by
      rw [List.getElem?_map, List.getElem?_range hi] at hkv
      simp only [Option.map_some, Option.some.injEq, Prod.mk.injEq] at hkv
      exact ⟨hkv.1.symm, hkv.2.symm⟩
    replace F := hmo.fr F
    replace F : Fr g L' _ _ := F
    replace N : News g L' _ _ := N
    iterate 11 ((try (first | with_reducible refine Mine.hide_execT fun Qh tkh hQh => ?_ | with_reducible refine Mine.hide_exec fun Qh hQh => ?_ | with_reducible refine Mine.hide_loop fun Qh hQh => ?_ | with_reducible refine Mine.hide_comp fun Qh hQh => ?_ | with_reducible refine Mine.hide_tok fun tkh => ?_)); (first | walk1 | (dsimp only; walk1) | (refine hQh _ _ ?_; clear hQh; try clear Qh)); try dsimp only)
    refine StarMethod_ ?_
    iterate 2 ((try (first | with_reducible refine Mine.hide_execT fun Qh tkh hQh => ?_ | with_reducible refine Mine.hide_exec fun Qh hQh => ?_ | with_reducible refine Mine.hide_loop fun Qh hQh => ?_ | with_reducible refine Mine.hide_comp fun Qh hQh => ?_ | with_reducible refine Mine.hide_tok fun tkh => ?_)); (first | walk1 | (dsimp only; walk1) | (refine hQh _ _ ?_; clear hQh; try clear Qh)); try dsimp only)
    refine callWith_S2M (K := heapK w.params) (g := 108) (self := .ref x) (by k_is) ?_
    iterate 4 ((try (first | with_reducible refine Mine.hide_execT fun Qh tkh hQh => ?_ | with_reducible refine Mine.hide_exec fun Qh hQh => ?_ | with_reducible refine Mine.hide_loop fun Qh hQh => ?_ | with_reducible refine Mine.hide_comp fun Qh hQh => ?_ | with_reducible refine Mine.hide_tok fun tkh => ?_)); (first | walk1 | (dsimp only; walk1) | (refine hQh _ _ ?_; clear hQh; try clear Qh)); try dsimp only)
    rename_i q hq' FF NN l1q
    have hmm : (le i, W.listOf #[] 0) ∈ reg f i ++ (G, oG) :: rest := List.mem_append_right _ (hle' i hi)
    refine star_seq (by k_asm) NN (m5 hmm) rfl rfl (.inl rfl) rfl (by decide) ?_
    intro h' F' N'
    clear NN FF
    try dsimp only
    iterate 3 ((try (first | with_reducible refine Mine.hide_execT fun Qh tkh hQh => ?_ | with_reducible refine Mine.hide_exec fun Qh hQh => ?_ | with_reducible refine Mine.hide_loop fun Qh hQh => ?_ | with_reducible refine Mine.hide_comp fun Qh hQh => ?_ | with_reducible refine Mine.hide_tok fun tkh => ?_)); (first | walk1 | (dsimp only; walk1) | (refine hQh _ _ ?_; clear hQh; try clear Qh)); try dsimp only)
    refine call_meth N' (.head _) ?_
    have hql : ∀ p ∈ reg f i ++ (G, oG) :: rest, p.1 < q := fun p hp => allLt_lt l1q.2.2.2.2 p hp
    have hqo : Off f i q := fun j hj => ⟨Nat.ne_of_gt (hql _ (List.mem_append_left _ (mem_reg.mpr ⟨j, hj, .inl rfl⟩))), Nat.ne_of_gt (hql _ (List.mem_append_left _ (mem_reg.mpr ⟨j, hj, .inr (.inl rfl)⟩))), Nat.ne_of_gt (hql _ (List.mem_append_left _ (mem_reg.mpr ⟨j, hj, .inr (.inr rfl)⟩)))⟩
    have hIo : Off f i I := fun j hj => ⟨Ne.symm (hoff _ (.tail _ (.tail _ (.tail _ (List.mem_append_left _ (mem_reg.mpr ⟨j, hj, .inl rfl⟩)))))), Ne.symm (hoff _ (.tail _ (.tail _ (.tail _ (List.mem_append_left _ (mem_reg.mpr ⟨j, hj, .inr (.inl rfl)⟩)))))), Ne.symm (hoff _ (.tail _ (.tail _ (.tail _ (List.mem_append_left _ (mem_reg.mpr ⟨j, hj, .inr (.inr rfl)⟩))))))⟩
    refine codeAny_lv (d := 400) (u := 2000) (add_new X' T' (by k_asm) (rest := (q, methodObj (.ref 108) (.ref x)) :: (I, oI) :: (G, oG) :: rest) (subN N' mvInit2) lo hD hap ox od oDD ?_ (Nat.ne_of_lt q31) (Nat.ne_of_lt q32) ?_ (by lia) ?_) rfl rfl (Nat.le_of_ble_eq_true rfl) (Nat.le_of_ble_eq_true rfl)
    · intro p hp
      rcases List.mem_cons.mp hp with rfl | hp
      · exact hqo
      rcases List.mem_cons.mp hp with rfl | hp
      · exact hIo
      · exact orr p hp
    · intro p hp
      rcases List.mem_cons.mp hp with rfl | hp
      · exact Nat.ne_of_gt l1q.2.2.2.1
      rcases List.mem_cons.mp hp with rfl | hp
      · exact Ne.symm (hoff (D, oD) (.tail _ (.tail _ (.head _))))
      rcases List.mem_cons.mp hp with rfl | hp
      · exact Nat.ne_of_lt q33
      · exact Nat.ne_of_lt (allLt_lt q34 p hp)
    intro qn oD1 hp2 tk2 hq1 hq2 ap2 ox2 od2 oD2 orr2 hD2 F2 N2
    try dsimp only
    clear N'
    iterate 2 ((try (first | with_reducible refine Mine.hide_execT fun Qh tkh hQh => ?_ | with_reducible refine Mine.hide_exec fun Qh hQh => ?_ | with_reducible refine Mine.hide_loop fun Qh hQh => ?_ | with_reducible refine Mine.hide_comp fun Qh hQh => ?_ | with_reducible refine Mine.hide_tok fun tkh => ?_)); (first | walk1 | (dsimp only; walk1) | (refine hQh _ _ ?_; clear hQh; try clear Qh)); try dsimp only)
    refine ⟨_, _, _, _, (x, instObj 158 d) :: (d, dictOf (e4 h1 h2 h3 h4 t1 t2 t3 t4 (.ref D) .none (.int 0 tk3) (.int 0 tk4)) 4) :: (D, oD1) :: (reg (upd f i qn) (i + 1) ++ (G, oG) :: rest), rfl, by k_asm, N2, memInit3, memInit4, ?_, ?_, ?_, upd f i qn, oD1, ?_, ?_, ap2, ox2, od2, oD2, fun p hp => orr2 p (.tail _ (.tail _ hp)), hD2, rfl⟩
    · have hI2 : Off (upd f i qn) (i + 1) I := orr2 (I, oI) (.tail _ (.head _))
      intro p hp
      rcases List.mem_cons.mp hp with rfl | hp
      · exact hoff (x, _) (.head _)
      rcases List.mem_cons.mp hp with rfl | hp
      · exact hoff (d, _) (.tail _ (.head _))
      rcases List.mem_cons.mp hp with rfl | hp
      · have h := hoff (D, _) (.tail _ (.tail _ (.head _))); exact h
      rcases List.mem_append.mp hp with hp | hp
      · exact hI2.all p hp
      · exact hoff p (.tail _ (.tail _ (.tail _ (List.mem_append_right _ hp))))
    · repeat' (first | exact MapOff.base | refine MapOff.put (by decide) ?_)
    · have hI2 : Off (upd f i qn) (i + 1) I := orr2 (I, oI) (.tail _ (.head _))
      intro p hp
      rcases List.mem_cons.mp hp with rfl | hp
      · exact hoff (x, _) (.head _)
      rcases List.mem_cons.mp hp with rfl | hp
      · exact hoff (d, _) (.tail _ (.head _))
      rcases List.mem_cons.mp hp with rfl | hp
      · have h := hoff (D, _) (.tail _ (.tail _ (.head _))); exact h
      rcases List.mem_append.mp hp with hp | hp
      · exact hI2.all p hp
      · exact hoff p (.tail _ (.tail _ (.tail _ (List.mem_append_right _ hp))))
    · intro j hj
      by_cases e : j = i
      · subst e; rw [upd_self]; exact hq1
      · rw [upd_ne e]; exact hnp j (by lia)
    · intro j hj
      by_cases e : j = i
      · subst e; rw [upd_self]; exact hq2
      · rw [upd_ne e]; exact hsu j (by lia)
  · rintro m' nx h tk ⟨hmo, hoff, f, oD, hnp, hsu, hap, ox, od, oDD, orr, hD, rfl⟩ F N
    rw [List.length_map, List.length_range] at *
    replace F : Fr g L' _ _ := F
    replace N : News g L' _ _ := N
    iterate 3 ((try (first | with_reducible refine Mine.hide_execT fun Qh tkh hQh => ?_ | with_reducible refine Mine.hide_exec fun Qh hQh => ?_ | with_reducible refine Mine.hide_loop fun Qh hQh => ?_ | with_reducible refine Mine.hide_comp fun Qh hQh => ?_ | with_reducible refine Mine.hide_tok fun tkh => ?_)); (first | walk1 | (dsimp only; walk1) | (refine hQh _ _ ?_; clear hQh; try clear Qh)); try dsimp only)
    exact leaveK_ (by k_asm) (by k_asm) (fun kF kN => ⟨rfl, hQ x d D oD f _ _ _ _ _ _ _ _ _ _ _ _ hnp hsu hap ox od oDD orr l1 l2 q31 lo hD kF kN⟩)
end
end Mine

namespace Mine
open PyProof.Rows.TI (Frs SameUp)
open LCg LCt
abbrev tupO (vs : List Value) : Obj := { cls := .type "tuple", data := .seq vs.toArray }
/-- a list of pairs of ints in the ledger -/
structure SpAt (led : List (Addr × Obj)) (SP : Addr) (n : Nat) (sp : Nat → Int × Int) (tv : List Value) (e : Nat) : Prop where
  list : (SP, W.listOf tv.toArray e) ∈ led
  len : tv.length = n
  tup : ∀ i, i < n → ∃ a t1 t2, tv[i]? = some (.ref a) ∧ (a, tupO [.int (sp i).1 t1, .int (sp i).2 t2]) ∈ led
theorem SpAt.mono {l l' : List (Addr × Obj)} {SP : Addr} {n : Nat} {sp : Nat → Int × Int} {tv : List Value} {e : Nat} (h : SpAt l SP n sp tv e) (hs : ∀ p ∈ l, p ∈ l') : SpAt l' SP n sp tv e :=
  ⟨hs _ h.list, h.len, fun i hi => by obtain ⟨a, t1, t2, h1, h2⟩ := h.tup i hi; exact ⟨a, t1, t2, h1, hs _ h2⟩⟩
/-- tuples of ints in the ledger -/
noncomputable def TupsAt (led : List (Addr × Obj)) : List Addr → List (List Nat) → Prop
  | [], [] => True
  | g :: gs, r :: rs => (∃ vs, (g, tupO vs) ∈ led ∧ IntsAre vs (r.map Int.ofNat)) ∧ TupsAt led gs rs
  | _, _ => False
theorem TupsAt.mono {l l' : List (Addr × Obj)} (hs : ∀ p ∈ l, p ∈ l') : ∀ {gs : List Addr} {rs : List (List Nat)}, TupsAt l gs rs → TupsAt l' gs rs := by
  intro gs
  induction gs with
  | nil => intro rs h; cases rs with | nil => trivial | cons _ _ => exact h.elim
  | cons g gs ih =>
    intro rs h
    cases rs with
    | nil => exact h.elim
    | cons r rs =>
      obtain ⟨⟨vs, h1, h2⟩, h3⟩ := h
      exact ⟨⟨vs, hs _ h1, h2⟩, ih h3⟩
theorem TupsAt.snoc {l : List (Addr × Obj)} {g : Addr} {r : List Nat} (hg : ∃ vs, (g, tupO vs) ∈ l ∧ IntsAre vs (r.map Int.ofNat)) : ∀ {gs : List Addr} {rs : List (List Nat)}, TupsAt l gs rs → TupsAt l (gs ++ [g]) (rs ++ [r]) := by
  intro gs
  induction gs with
  | nil => intro rs h; cases rs with | nil => exact ⟨hg, trivial⟩ | cons _ _ => exact h.elim
  | cons g gs ih =>
    intro rs h
    cases rs with
    | nil => exact h.elim
    | cons r rs => exact ⟨h.1, ih h.2⟩
/-- one round of the sorter -/
noncomputable def start (st : Sst) : Sst := ⟨fun j => if j ∈ st.R then -1 else st.np j, []⟩
noncomputable def rnd (sn : Nat → List Nat) (st : Sst) : Sst := st.R.foldl (stepN sn) (start st)
noncomputable def toldL (sn : Nat → List Nat) : Nat → Sst → List (List Nat)
  | 0, _ => []
  | k + 1, st => if st.R = [] then [] else st.R :: toldL sn k (rnd sn st)
noncomputable def iter (sn : Nat → List Nat) : Nat → Sst → Sst
  | 0, st => st
  | k + 1, st => rnd sn (iter sn k st)
noncomputable def succs (sp : Nat → Int × Int) (n j : Nat) : List Nat := (List.range n).filter fun i => decide ((sp j).2 < (sp i).1)
noncomputable def preds (sp : Nat → Int × Int) (n j : Nat) : List Nat := (List.range n).filter fun o => decide ((sp o).2 < (sp j).1)
noncomputable def st0 (sp : Nat → Int × Int) (n : Nat) : Sst := ⟨fun j => ((preds sp n j).length : Int), (List.range n).filter fun j => decide (((preds sp n j).length : Int) = 0)⟩
/-- what must be so before each round -/
noncomputable def GoodSt (sn : Nat → List Nat) (n : Nat) (st : Sst) : Prop := (∀ j ∈ st.R, j < n) ∧ st.R.length ≤ 11 ∧ ∀ (kk i : Nat), st.R[kk]? = some i → ((st.R.take kk).foldl (stepN sn) (start st)).np i = -1
theorem memDc {α : Type} {a b c d : α} {r r2 : List α} : ∀ p ∈ b :: c :: d :: ((r ++ [a]) ++ r2), p ∈ a :: b :: c :: d :: (r ++ r2) := by
  intro p hp
  simp only [List.mem_cons, List.mem_append, List.not_mem_nil, or_false] at hp ⊢
  grind
theorem memTold {α : Type} {a b c g : α} {rg ls r : List α} : ∀ p ∈ a :: b :: c :: (rg ++ r), p ∈ a :: b :: c :: (rg ++ g :: (ls ++ r)) := by
  intro p hp
  simp only [List.mem_cons, List.mem_append] at hp ⊢
  grind
theorem memTold2 {α : Type} {a b c d e : α} {rg r : List α} : ∀ p ∈ a :: b :: c :: d :: e :: (rg ++ r), p ∈ a :: b :: c :: (rg ++ d :: e :: r) := by
  intro p hp
  simp only [List.mem_cons, List.mem_append] at hp ⊢
  grind
theorem m7 {α : Type} {a b c d e f g p : α} {r : List α} (hm : p ∈ r) : p ∈ a :: b :: c :: d :: e :: f :: g :: r := by simp [hm]
theorem m10 {α : Type} {a b c d e f g h i j p : α} {r : List α} (hm : p ∈ r) : p ∈ a :: b :: c :: d :: e :: f :: g :: h :: i :: j :: r := by simp [hm]
theorem add2 {h₀ h : Heap} {L : Addr} {a b : Addr × Obj} {r : List (Addr × Obj)} (h1 : a ∈ r) (h2 : b ∈ r) (N : News h₀ L h r) : News h₀ L h (a :: b :: r) := subN N fun p hp => by
  rcases List.mem_cons.mp hp with rfl | hp
  · exact h1
  rcases List.mem_cons.mp hp with rfl | hp
  · exact h2
  · exact hp
theorem off_of_reg {f : Nat → Nd} {n : Nat} {a : Addr} (h : ∀ p ∈ reg f n, p.1 ≠ a) : Off f n a := fun j hj =>
  ⟨Ne.symm (h _ (mem_reg.mpr ⟨j, hj, .inl rfl⟩)), Ne.symm (h _ (mem_reg.mpr ⟨j, hj, .inr (.inl rfl)⟩)), Ne.symm (h _ (mem_reg.mpr ⟨j, hj, .inr (.inr rfl)⟩))⟩
theorem memAdd {α : Type} {l q i x d D c1 c2 : α} {rg r : List α} : ∀ p ∈ x :: d :: D :: (rg ++ l :: q :: i :: c1 :: c2 :: r), p ∈ l :: q :: i :: x :: d :: D :: c1 :: c2 :: (rg ++ r) := by
  intro p hp
  simp only [List.mem_cons, List.mem_append] at hp ⊢
  grind
theorem memAdd2 {α : Type} {l q i x d D c1 c2 : α} {rg r : List α} : ∀ p ∈ x :: d :: D :: c1 :: c2 :: (rg ++ r), p ∈ x :: d :: D :: (rg ++ l :: q :: i :: c1 :: c2 :: r) := by
  intro p hp
  simp only [List.mem_cons, List.mem_append] at hp ⊢
  grind
theorem memAdd3 {α : Type} {l q i x d D c1 c2 : α} {rg r : List α} : i ∈ x :: d :: D :: (rg ++ l :: q :: i :: c1 :: c2 :: r) := by simp
theorem memP1 {α : Type} {x d D c1 c2 : α} {rg r fs : List α} : ∀ p ∈ (x :: d :: D :: (rg ++ c1 :: c2 :: r)) ++ fs, p ∈ x :: d :: D :: c1 :: c2 :: (rg ++ (r ++ fs)) := by
  intro p hp
  simp only [List.mem_cons, List.mem_append] at hp ⊢
  grind
theorem memP2 {α : Type} {x d D R c1 c2 : α} {rg r fs : List α} : ∀ p ∈ x :: d :: D :: R :: c1 :: c2 :: (rg ++ (r ++ fs)), p ∈ (x :: d :: D :: R :: (rg ++ c1 :: c2 :: r)) ++ fs := by
  intro p hp
  simp only [List.mem_cons, List.mem_append] at hp ⊢
  grind
theorem memW1 {α : Type} {g x d D R c1 c2 : α} {rg r : List α} : ∀ p ∈ g :: x :: d :: D :: R :: (rg ++ c1 :: c2 :: ([] ++ r)), p ∈ g :: x :: d :: D :: R :: c1 :: c2 :: (rg ++ r) := by
  intro p hp
  simp only [List.mem_cons, List.mem_append, List.nil_append] at hp ⊢
  grind
theorem memI1 {α : Type} {g x d D R : α} {r : List α} : ∀ p ∈ x :: d :: R :: g :: D :: r, p ∈ g :: x :: d :: D :: R :: r := by
  intro p hp
  simp only [List.mem_cons] at hp ⊢
  grind
theorem memI2 {α : Type} {g x d D R : α} {r : List α} : ∀ p ∈ g :: x :: d :: D :: R :: r, p ∈ x :: d :: R :: g :: D :: r := by
  intro p hp
  simp only [List.mem_cons] at hp ⊢
  grind
theorem m2 {α : Type} {a b p : α} {r : List α} (hm : p ∈ r) : p ∈ a :: b :: r := by simp [hm]
theorem m3 {α : Type} {a b c p : α} {r : List α} (hm : p ∈ r) : p ∈ a :: b :: c :: r := by simp [hm]
theorem memL1 {α : Type} {g : α} {t r f : List α} : ∀ p ∈ (g :: (t ++ r)) ++ f, p ∈ g :: (t ++ (r ++ f)) := by
  intro p hp
  simp only [List.mem_cons, List.mem_append] at hp ⊢
  grind
theorem memL2 {α : Type} {g : α} {t r f : List α} : ∀ p ∈ (g :: t) ++ (r ++ f), p ∈ (g :: (t ++ r)) ++ f := by
  intro p hp
  simp only [List.mem_cons, List.mem_append] at hp ⊢
  grind
theorem memL3 {α : Type} {g x d D R c1 c2 : α} {rg t r : List α} : ∀ p ∈ g :: (t ++ r), p ∈ g :: x :: d :: D :: R :: (rg ++ c1 :: c2 :: (t ++ r)) := by
  intro p hp
  simp only [List.mem_cons, List.mem_append] at hp ⊢
  grind
theorem memG1 {α : Type} {g x d D R c1 c2 : α} {rg r : List α} : ∀ p ∈ x :: d :: D :: R :: (rg ++ g :: c1 :: c2 :: r), p ∈ g :: x :: d :: D :: R :: (rg ++ c1 :: c2 :: r) := by
  intro p hp
  simp only [List.mem_cons, List.mem_append] at hp ⊢
  grind
theorem m4 {α : Type} {a b c d p : α} {r : List α} (hm : p ∈ r) : p ∈ a :: b :: c :: d :: r := by simp [hm]
theorem memG2 {α : Type} {t g x d D R c1 c2 : α} {rg r : List α} : ∀ p ∈ t :: g :: x :: d :: D :: R :: (rg ++ c1 :: c2 :: r), p ∈ t :: x :: d :: D :: R :: (rg ++ g :: c1 :: c2 :: r) := by
  intro p hp
  simp only [List.mem_cons, List.mem_append] at hp ⊢
  grind
theorem SameA.ltr {n : Nat} {f f' : Nat → Nd} {a : Addr} (s : SameA n f f') (h : ∀ p ∈ reg f n, p.1 < a) : ∀ p ∈ reg f' n, p.1 < a := by
  intro p hp
  obtain ⟨j, hj, e⟩ := mem_reg.mp hp
  have h1 := h _ (mem_reg.mpr ⟨j, hj, .inl rfl⟩)
  have h2 := h _ (mem_reg.mpr ⟨j, hj, .inr (.inl rfl)⟩)
  have h3 := h _ (mem_reg.mpr ⟨j, hj, .inr (.inr rfl)⟩)
  obtain ⟨q1, q2, q3⟩ := s j hj
  rcases e with rfl | rfl | rfl
  · rw [← q1] at h1; exact h1
  · rw [← q2] at h2; exact h2
  · rw [← q3] at h3; exact h3
theorem memG3 {α : Type} {q t g x d D R c1 c2 : α} {rg r : List α} : ∀ p ∈ x :: d :: D :: R :: (rg ++ q :: t :: g :: c1 :: c2 :: r), p ∈ q :: t :: g :: x :: d :: D :: R :: (rg ++ c1 :: c2 :: r) := by
  intro p hp
  simp only [List.mem_cons, List.mem_append] at hp ⊢
  grind
theorem memG4 {α : Type} {q t g x d D R c1 c2 : α} {rg tt r : List α} : ∀ p ∈ g :: x :: d :: D :: R :: (rg ++ c1 :: c2 :: ((t :: tt) ++ r)), p ∈ x :: d :: D :: R :: (rg ++ q :: t :: g :: c1 :: c2 :: (tt ++ r)) := by
  intro p hp
  simp only [List.mem_cons, List.mem_append] at hp ⊢
  grind
theorem range_size (n : Nat) : Builtin.Range.rangeSize 0 (n : Int) 1 = (n : Int) := by
  unfold Builtin.Range.rangeSize; simp; lia
theorem range_small {n : Nat} (h : n ≤ 11) : Builtin.Range.small 0 (n : Int) 1 = true :=
  small_one (by lia) (by lia) (by lia) (by lia)
section
variable {w : World} {h₀ : Heap} {L : Addr} {m mg mb : Str → Option Value} {s : Shared} {mean : ExcName → Option Value} {Q : Value → Shared → Prop} {E : Value → Shared → Prop}
theorem told_ok (KX : (heapK w.params).In h₀) (T : Top viewK loo mean mg mb h₀) (F : Fr h₀ L s.heap m) 
  {SP : Addr} {n : Nat} {sp : Nat → Int × Int} {tv : List Value} {eS : Nat} {rest frs : List (Addr × Obj)} {envP : Env} {l0 : List Env}
  (N : News h₀ L s.heap (rest ++ frs)) (hsp : SpAt rest SP n sp tv eS)
  (hk : envP.scope.kind ≠ .module) (hf : envP.frame = some L) (hfr : Frs l0 frs) (hoff : ∀ p ∈ rest, ∀ q ∈ frs, p.1 ≠ q.1)
  (hn : n ≤ 11) (hle : ∀ j, j < n → (sp j).1 ≤ (sp j).2) (hgood : ∀ k, GoodSt (succs sp n) n (iter (succs sp n) k (st0 sp n)))
  (hQ : ∀ GV gs e frs' res h' tk, SameUp frs frs' → (GV, W.listOf (gs.map Value.ref).toArray e) ∈ res → TupsAt res gs (toldL (succs sp n) 18 (st0 sp n)) → (∀ p ∈ res, ∀ q ∈ rest ++ frs', p.1 ≠ q.1) → Fr h₀ L h' m → News h₀ L h' (res ++ (rest ++ frs')) → Q (.ref GV) { s with heap := h', toks := tk }) :
  wpAny (model prg w) (lvF (envP :: l0) 310 500) (call (.ref 177) [.ref SP] []) Q E s := by
  refine wpAny_call ?_
  refine' enterFC (binds := [(Str.ofString "spans", .ref SP)]) F N KX T ?k6 ?k7 ?k8 ?k9 ?kB ?kD ?_ ?c2 ?c3 ?c4
  case k6 => k_is
  case k7 => k_is
  case k8 => exact (show (310 : Nat) < recursionLimit by decide)
  case k9 => exact BindsTo.of_eq rfl
  case kB => exact rfl
  case kD => decide +kernel
  case c2 => exact rfl
  case c3 => exact rfl
  case c4 => exact rfl
  dsimp only [fB, fS, fA, met, stm, PySem.Challenge.pw_mj0230_01, List.drop]
  intro oL L' h₁ tk cells hoL F N Y hlt hLL hneL
  k_cells Y
  (try dsimp only); (try k_fold)
  simp only [List.cons_append, List.nil_append, List.append_assoc] at N
  rename_i oc1 oc2 d1 d2
  iterate 6 ((try (first | with_reducible refine Mine.hide_loop fun QhL hQhL => ?_ | with_reducible refine Mine.hide_comp fun QhC hQhC => ?_)); (first | walk1 | (dsimp only; walk1) | (refine hQhC _ _ ?_; clear hQhC; try clear QhC) | (refine hQhL _ _ ?_; clear hQhL; try clear QhL)); try dsimp only)
  refine DictComp_R (h₀ := h₀) (L := L') (fun i kv nw => ∃ le : Nat → Addr, kv = (List.range i).map (fun (k : Nat) => ((k : Int), Value.ref (le k))) ∧ nw = (List.range i).map (fun (k : Nat) => (le k, W.listOf #[] 0)) ++ (L' + 1 + 1, oc1) :: (L' + 1, oc2) :: (rest ++ (L, oL) :: frs)) F (by with_unfolding_all rfl) (by decide) (by rfl) (by decide) (by rfl) ?_ T.nolimit
  iterate 10 ((try (first | with_reducible refine Mine.hide_loop fun QhL hQhL => ?_ | with_reducible refine Mine.hide_comp fun QhC hQhC => ?_)); (first | walk1 | (dsimp only; walk1) | (refine hQhC _ _ ?_; clear hQhC; try clear QhC) | (refine hQhL _ _ ?_; clear hQhL; try clear QhL)); try dsimp only)
  have hmS : ∀ {tl : List (Addr × Obj)}, (SP, W.listOf tv.toArray eS) ∈ rest ++ tl := fun {tl} => List.mem_append_left _ hsp.list
  refine kun_lenL (News.isList (N := N) (.tail _ (.tail _ hmS))) (k := (n : Int)) (by simp [hsp.len]) (by lia) ?_
  try dsimp only
  iterate 2 ((try (first | with_reducible refine Mine.hide_loop fun QhL hQhL => ?_ | with_reducible refine Mine.hide_comp fun QhC hQhC => ?_)); (first | walk1 | (dsimp only; walk1) | (refine hQhC _ _ ?_; clear hQhC; try clear QhC) | (refine hQhL _ _ ?_; clear hQhL; try clear QhL)); try dsimp only)
  rename_i h2' tk2 t₁ u₁ v₁ hR F2 N2 xx
  clear N F
  refine ⟨_, 0, (n : Int), _, _, _, n, _, rfl, rfl, F2, N2, hR, range_small hn, range_size n, by rw [sizeLine_eq]; lia, ⟨fun _ => 0, rfl, rfl⟩, ?_, ?_, ?_⟩
  · rintro i kv nw ⟨le, rfl, _⟩
    simp
  · rintro i kv nw t I oI C oC Dd oDd m₂ h tk3 E' hi ⟨le, rfl, rfl⟩ hoD hC hx F N off ne
    clear F2 N2
    iterate 4 ((try (first | with_reducible refine Mine.hide_loop fun QhL hQhL => ?_ | with_reducible refine Mine.hide_comp fun QhC hQhC => ?_)); (first | walk1 | (dsimp only; walk1) | (refine hQhC _ _ ?_; clear hQhC; try clear QhC) | (refine hQhL _ _ ?_; clear hQhL; try clear QhL)); try dsimp only)
    rename_i a1 h4' F5 N5 l1
    refine ⟨0 + (i : Int), t, _, _, (List.range (i + 1)).map (fun (k : Nat) => (if k = i then a1 else le k, W.listOf #[] 0)) ++ (L' + 1 + 1, oc1) :: (L' + 1, oc2) :: (rest ++ (L, oL) :: frs), rfl, rfl, F5, subN N5 ?_, ?_, fun k => if k = i then a1 else le k, ?_, rfl⟩
    · intro p hp
      have e : (List.range (i + 1)).map (fun (k : Nat) => (if k = i then a1 else le k, W.listOf #[] 0)) = (List.range i).map (fun (k : Nat) => (le k, W.listOf #[] 0)) ++ [(a1, W.listOf #[] 0)] := by
        rw [List.range_succ, List.map_append]
        simp only [List.map_cons, List.map_nil, if_true]
        congr 1
        apply List.map_congr_left
        intro k hk
        have := List.mem_range.mp hk
        rw [if_neg (by lia)]
      rw [e] at hp
      exact memDc p hp
    · intro p hp
      rcases List.mem_append.mp hp with hp | hp
      · obtain ⟨k, hk, rfl⟩ := List.mem_map.mp hp
        have hk := List.mem_range.mp hk
        by_cases e : k = i
        · simp only [e, if_true]
          exact ⟨Nat.ne_of_gt l1.1, Nat.ne_of_gt l1.2.1, Nat.ne_of_gt l1.2.2.1⟩
        · simp only [e, if_false]
          exact off (le k, _) (List.mem_append_left _ (List.mem_map.mpr ⟨k, List.mem_range.mpr (by lia), rfl⟩))
      · exact off p (List.mem_append_right _ hp)
    · rw [Int.zero_add, stored_range]
      apply List.map_congr_left
      intro k hk
      by_cases e : k = i <;> simp [e]
  · rintro Gd oG kv nw h tk3 ⟨le, rfl, rfl⟩ hoG loG offG F N
    clear F2 N2
    iterate 2 ((try (first | with_reducible refine Mine.hide_loop fun QhL hQhL => ?_ | with_reducible refine Mine.hide_comp fun QhC hQhC => ?_)); (first | walk1 | (dsimp only; walk1) | (refine hQhC _ _ ?_; clear hQhC; try clear QhC) | (refine hQhL _ _ ?_; clear hQhL; try clear QhL)); try dsimp only)
    refine wpAny_lv (d := 320) (u := 1000) (sorter_make KX T (by k_asm) N hoG (fun i hi => ?_) loG hn ?_) rfl rfl (Nat.le_of_ble_eq_true rfl) (Nat.le_of_ble_eq_true rfl)
    · exact List.mem_append_left _ (List.mem_map.mpr ⟨i, List.mem_range.mpr hi, rfl⟩)
    intro x dx D oD f h1 h2 h3 h4 t1 t2 t3 t4 ta tb hp2 tk4 hnp hsu hap ox od oDD orr ltd lxd lxD loD hD F2 N2
    clear N F
    have N3 : News h₀ L' hp2 ((x, instObj 158 dx) :: (dx, dictOf (e4 h1 h2 h3 h4 t1 t2 t3 t4 (.ref D) .none (.int 0 ta) (.int 0 tb)) 4) :: (D, oD) :: (reg f n ++ (L' + 1 + 1, oc1) :: (L' + 1, oc2) :: (rest ++ (L, oL) :: frs))) := subN N2 memTold
    replace N3 := subN N3 memTold2
    clear N2
    have orr' : ∀ p ∈ (L' + 1 + 1, oc1) :: (L' + 1, oc2) :: (rest ++ (L, oL) :: frs), Off f n p.1 := fun p hp => orr p (.tail _ (List.mem_append_right _ hp))
    have ltd' : ∀ p ∈ (L' + 1 + 1, oc1) :: (L' + 1, oc2) :: (rest ++ (L, oL) :: frs), p.1 < dx := fun p hp => ltd p (.tail _ (List.mem_append_right _ hp))
    clear orr ltd hoG offG
    try dsimp only
    iterate 3 ((try (first | with_reducible refine Mine.hide_loop fun QhL hQhL => ?_ | with_reducible refine Mine.hide_comp fun QhC hQhC => ?_)); (first | walk1 | (dsimp only; walk1) | (refine hQhC _ _ ?_; clear hQhC; try clear QhC) | (refine hQhL _ _ ?_; clear hQhL; try clear QhL)); try dsimp only)
    rename Fr _ _ _ _ => lF'
    refine For_turns lF' ?_
    iterate 10 ((try (first | with_reducible refine Mine.hide_loop fun QhL hQhL => ?_ | with_reducible refine Mine.hide_comp fun QhC hQhC => ?_)); (first | walk1 | (dsimp only; walk1) | (refine hQhC _ _ ?_; clear hQhC; try clear QhC) | (refine hQhL _ _ ?_; clear hQhL; try clear QhL)); try dsimp only)
    refine kun_lenL (News.isList (N := by k_asm) (m5 (List.mem_append_right _ hmS))) (k := (n : Int)) (by simp [hsp.len]) (by lia) ?_
    try dsimp only
    iterate 2 ((try (first | with_reducible refine Mine.hide_loop fun QhL hQhL => ?_ | with_reducible refine Mine.hide_comp fun QhC hQhC => ?_)); (first | walk1 | (dsimp only; walk1) | (refine hQhC _ _ ?_; clear hQhC; try clear QhC) | (refine hQhL _ _ ?_; clear hQhL; try clear QhL)); try dsimp only)
    rename IsRange _ _ _ _ _ _ _ _ => hR2
    refine turnsR [] (fun i u nx => ∃ f' on, SameA n f f' ∧ (∃ v, on.data = .cell v) ∧ (∀ j, j < n → (f' j).np = if j < i then ((preds sp n j).length : Int) else 0) ∧ (∀ j, j < n → IntsAre (f' j).su (((List.range i).filter fun r => decide ((sp j).2 < (sp r).1)).map Int.ofNat)) ∧
      nx = (x, instObj 158 dx) :: (dx, dictOf (e4 h1 h2 h3 h4 t1 t2 t3 t4 (.ref D) .none (.int 0 ta) (.int 0 tb)) 4) :: (D, oD) :: (L' + 1 + 1, on) :: (L' + 1, oc2) :: (reg f' n ++ (rest ++ (L, oL) :: frs))) rfl hR2 (range_small hn) (range_size n) (by k_asm) (by k_asm) ?_ ?_ ?_
    · exact ⟨f, oc1, SameA.refl, ⟨_, d1⟩, fun j hj => by rw [hnp j hj, if_neg (Nat.not_lt_zero _)], fun j hj => by rw [hsu j hj]; exact .nil, rfl⟩
    · rintro i t u nx h tk I oI hi hI off ⟨f', on, hsa, ⟨von, hon⟩, hnp', hsu', rfl⟩ F N
      replace F : Fr h₀ L' _ _ := F
      replace N : News h₀ L' _ _ := N
      have hxL := ltN (ltd' (L' + 1 + 1, oc1) (.head _))
      have q1 := ltN lxd
      have q2 := ltN lxD
      have hIx := neN (off (L' + 1 + 1, on) (.tail _ (.tail _ (.tail _ (.head _)))))
      have bc : ∀ p ∈ reg f' n ++ (rest ++ (L, oL) :: frs), p.1 ≠ L' + 1 + 1 := fun p hp => by
        rcases List.mem_append.mp hp with hp | hp
        · exact ((hsa.off (orr' (L' + 1 + 1, oc1) (.head _))).all p hp)
        · rcases List.mem_append.mp hp with hp | hp
          · exact Nat.ne_of_lt (Nat.lt_trans (hlt p (List.mem_append_left _ hp)) (by lia))
          · rcases List.mem_cons.mp hp with rfl | hp
            · exact Nat.ne_of_lt (Nat.lt_trans hLL (by lia))
            · exact Nat.ne_of_lt (Nat.lt_trans (hlt p (List.mem_append_right _ hp)) (by lia))
      iterate 4 ((try (first | with_reducible refine Mine.hide_loop fun QhL hQhL => ?_ | with_reducible refine Mine.hide_comp fun QhC hQhC => ?_)); (first | walk1 | (dsimp only; walk1) | (refine hQhC _ _ ?_; clear hQhC; try clear QhC) | (refine hQhL _ _ ?_; clear hQhL; try clear QhL)); try dsimp only)
      refine StarMethod_ ?_
      iterate 2 ((try (first | with_reducible refine Mine.hide_loop fun QhL hQhL => ?_ | with_reducible refine Mine.hide_comp fun QhC hQhC => ?_)); (first | walk1 | (dsimp only; walk1) | (refine hQhC _ _ ?_; clear hQhC; try clear QhC) | (refine hQhL _ _ ?_; clear hQhL; try clear QhL)); try dsimp only)
      refine callWith_S2M (K := heapK w.params) (g := 108) (self := .ref x) (by k_is) ?_
      iterate 3 ((try (first | with_reducible refine Mine.hide_loop fun QhL hQhL => ?_ | with_reducible refine Mine.hide_comp fun QhC hQhC => ?_)); (first | walk1 | (dsimp only; walk1) | (refine hQhC _ _ ?_; clear hQhC; try clear QhC) | (refine hQhL _ _ ?_; clear hQhL; try clear QhL)); try dsimp only)
      rename_i on2 hon2 q hq5 F5 N5 l1q
      refine ListComp_T (F₀ := by k_asm) (by with_unfolding_all rfl) (by decide) (by rfl) (by decide) (by rfl) ?_
      iterate 10 ((try (first | with_reducible refine Mine.hide_loop fun QhL hQhL => ?_ | with_reducible refine Mine.hide_comp fun QhC hQhC => ?_)); (first | walk1 | (dsimp only; walk1) | (refine hQhC _ _ ?_; clear hQhC; try clear QhC) | (refine hQhL _ _ ?_; clear hQhL; try clear QhL)); try dsimp only)
      refine kun_lenL (News.isList (N := by k_asm) (m7 (List.mem_append_right _ hmS))) (k := (n : Int)) (by simp [hsp.len]) (by lia) ?_
      try dsimp only
      iterate 2 ((try (first | with_reducible refine Mine.hide_loop fun QhL hQhL => ?_ | with_reducible refine Mine.hide_comp fun QhC hQhC => ?_)); (first | walk1 | (dsimp only; walk1) | (refine hQhC _ _ ?_; clear hQhC; try clear QhC) | (refine hQhL _ _ ?_; clear hQhL; try clear QhL)); try dsimp only)
      rename IsRange _ _ _ _ _ _ _ _ => hR3
      rename Fr _ _ _ _ => F6
      rename News _ _ _ _ => N6
      refine CompSrcT.range rfl F6 N6 hR3 (range_small hn) (range_size n) (by rw [sizeLine_eq]; lia) (fun g => ?_)
      refine comp_invT (fun k ys nw => nw = (q, methodObj (Value.ref 108) (Value.ref x)) :: (I, oI) :: (x, instObj 158 dx) :: (dx, dictOf (e4 h1 h2 h3 h4 t1 t2 t3 t4 (.ref D) .none (.int 0 ta) (.int 0 tb)) 4) :: (D, oD) :: (L' + 1 + 1, on2) :: (L' + 1, oc2) :: (reg f' n ++ (rest ++ (L, oL) :: frs)) ∧
        IntsAre ys (((List.range k).filter fun o => decide ((sp o).2 < (sp i).1)).map Int.ofNat)) ?_ ?_ _ 0 [] _ (Nat.zero_add _) ⟨rfl, .nil⟩
      · rintro k ys nw v I2 oI2 C oC Dd m₂ h tk' E' hk ⟨rfl, hys⟩ ⟨t2', rfl⟩ hC hx F N off2 ne
        clear F6 N6
        obtain ⟨a1, ta1, tb1, g1, g2⟩ := hsp.tup k hk
        obtain ⟨a2, ta2, tb2, g3, g4⟩ := hsp.tup i hi
        have hm1 : (a1, tupO [.int (sp k).1 ta1, .int (sp k).2 tb1]) ∈ reg f' n ++ (rest ++ (L, oL) :: frs) := List.mem_append_right _ (List.mem_append_left _ g2)
        have hm2 : (a2, tupO [.int (sp i).1 ta2, .int (sp i).2 tb2]) ∈ reg f' n ++ (rest ++ (L, oL) :: frs) := List.mem_append_right _ (List.mem_append_left _ g4)
        have N4 := add2 (m10 hm1) (m10 hm2) N
        have ek : ((0 : Int) + (k : Int)).toNat = k := by lia
        have ei : ((0 : Int) + (i : Int)).toNat = i := by lia
        iterate 5 ((try (first | with_reducible refine Mine.hide_loop fun QhL hQhL => ?_ | with_reducible refine Mine.hide_comp fun QhC hQhC => ?_)); (first | walk1 | (dsimp only; walk1) | (refine hQhC _ _ ?_; clear hQhC; try clear QhC) | (refine hQhL _ _ ?_; clear hQhL; try clear QhL)); try dsimp only)
        refine sub_list (News.isList (N := N) (m10 (List.mem_append_right _ hmS))) (by lia) (by lia) (by rw [ek]; exact g1) ?_
        try dsimp only
        iterate 6 ((try (first | with_reducible refine Mine.hide_loop fun QhL hQhL => ?_ | with_reducible refine Mine.hide_comp fun QhC hQhC => ?_)); (first | walk1 | (dsimp only; walk1) | (refine hQhC _ _ ?_; clear hQhC; try clear QhC) | (refine hQhL _ _ ?_; clear hQhL; try clear QhL)); try dsimp only)
        refine sub_list (News.isList (N := N) (m10 (List.mem_append_right _ hmS))) (by lia) (by lia) (by rw [ei]; exact g3) ?_
        try dsimp only
        iterate 4 ((try (first | with_reducible refine Mine.hide_loop fun QhL hQhL => ?_ | with_reducible refine Mine.hide_comp fun QhC hQhC => ?_)); (first | walk1 | (dsimp only; walk1) | (refine hQhC _ _ ?_; clear hQhC; try clear QhC) | (refine hQhL _ _ ?_; clear hQhL; try clear QhL)); try dsimp only)
        have e1 : ((List.range (k + 1)).filter fun o => decide ((sp o).2 < (sp i).1)) = ((List.range k).filter fun o => decide ((sp o).2 < (sp i).1)) ++ if (sp k).2 < (sp i).1 then [k] else [] := by
          rw [List.range_succ, List.filter_append]
          by_cases h0 : (sp k).2 < (sp i).1 <;> simp [h0]
        by_cases h0 : (sp k).2 < (sp i).1
        · refine ite_pos (decide_eq_true h0) ?_
          iterate 2 ((try (first | with_reducible refine Mine.hide_loop fun QhL hQhL => ?_ | with_reducible refine Mine.hide_comp fun QhC hQhC => ?_)); (first | walk1 | (dsimp only; walk1) | (refine hQhC _ _ ?_; clear hQhC; try clear QhC) | (refine hQhL _ _ ?_; clear hQhL; try clear QhL)); try dsimp only)
          refine CompEnd.intro (by k_asm) N _ (fun p hp => hp) off2 trivial ⟨rfl, ?_⟩
          rw [e1, if_pos h0, List.map_append, Int.zero_add]
          exact hys.append (.cons _ _ .nil)
        · refine ite_neg (fun h => h0 (of_decide_eq_true h)) ?_
          refine CompEnd.intro (by k_asm) N _ (fun p hp => hp) off2 trivial ⟨rfl, ?_⟩
          rw [e1, if_neg h0, List.append_nil]
          exact hys
      · rintro ys nw ⟨rfl, hys⟩
        intro LC h tk' F N offL
        clear F6 N6
        have hyl : ys.length ≤ 11 := by
          rw [hys.length, List.length_map]
          have := List.length_filter_le (fun o => decide ((sp o).2 < (sp i).1)) (List.range n)
          rw [List.length_range] at this; lia
        refine star_seq (by k_asm) N (.head _) rfl rfl (.inl rfl) rfl (by rw [sizeLine_eq]; simp; lia) ?_
        intro h' F' N'
        clear N F
        try dsimp only
        iterate 3 ((try (first | with_reducible refine Mine.hide_loop fun QhL hQhL => ?_ | with_reducible refine Mine.hide_comp fun QhC hQhC => ?_)); (first | walk1 | (dsimp only; walk1) | (refine hQhC _ _ ?_; clear hQhC; try clear QhC) | (refine hQhL _ _ ?_; clear hQhL; try clear QhL)); try dsimp only)
        refine call_meth N' (.tail _ (.head _)) ?_
        rw [Int.zero_add, List.append_nil]
        have oL1 := Off1.all offL
        have hap' := hsa.apart hap
        have offr : ∀ p ∈ reg f' n, p.1 ≠ LC := fun p hp => oL1 p (m7 (List.mem_append_left _ hp))
        have offq : ∀ p ∈ reg f' n, p.1 ≠ q := fun p hp => Nat.ne_of_lt (allLt_lt l1q.2.2.2.2.2.2 p (List.mem_append_left _ hp))
        have offi : ∀ p ∈ reg f' n, p.1 ≠ I := fun p hp => off p (m5 (List.mem_append_left _ hp))
        refine codeAny_lv (d := 400) (u := 2000) (add_there KX T (by k_asm) (f := f') (ps := preds sp n i) (rest := (LC, lst ys) :: (q, methodObj (Value.ref 108) (Value.ref x)) :: (I, oI) :: (L' + 1 + 1, on2) :: (L' + 1, oc2) :: (rest ++ (L, oL) :: frs)) (subN N' memAdd) loD (kvs_same hsa ▸ hD) hap' (hsa.off ox) (hsa.off od) (hsa.off oDD) ?_ hi hn hys (fun j hj => List.mem_range.mp (List.mem_filter.mp hj).1) (List.Nodup.sublist List.filter_sublist List.nodup_range) ?_ ?_) rfl rfl (Nat.le_of_ble_eq_true rfl) (Nat.le_of_ble_eq_true rfl)
        · intro p hp
          rcases List.mem_cons.mp hp with rfl | hp
          · exact off_of_reg offr
          rcases List.mem_cons.mp hp with rfl | hp
          · exact off_of_reg offq
          rcases List.mem_cons.mp hp with rfl | hp
          · exact off_of_reg offi
          rcases List.mem_cons.mp hp with rfl | hp
          · exact hsa.off (orr' (L' + 1 + 1, oc1) (.head _))
          · exact hsa.off (orr' p (.tail _ hp))
        · intro j hj
          rw [(hsu' j hj).length, List.length_map]
          have := List.length_filter_le (fun r => decide ((sp j).2 < (sp r).1)) (List.range i)
          rw [List.length_range] at this; lia
        intro f2 h2' tk2' hsa2 hnp2 hsu2 F2 N2
        try dsimp only
        clear N'
        iterate 2 ((try (first | with_reducible refine Mine.hide_loop fun QhL hQhL => ?_ | with_reducible refine Mine.hide_comp fun QhC hQhC => ?_)); (first | walk1 | (dsimp only; walk1) | (refine hQhC _ _ ?_; clear hQhC; try clear QhC) | (refine hQhL _ _ ?_; clear hQhL; try clear QhL)); try dsimp only)
        have hs3 := hsa.trans hsa2
        refine LEnd.intro ((x, instObj 158 dx) :: (dx, dictOf (e4 h1 h2 h3 h4 t1 t2 t3 t4 (.ref D) .none (.int 0 ta) (.int 0 tb)) 4) :: (D, oD) :: (L' + 1 + 1, on2) :: (L' + 1, oc2) :: (reg f2 n ++ (rest ++ (L, oL) :: frs))) (by k_asm) N2 ?_ memAdd2 memAdd3 ?_ ⟨f2, on2, hs3, ⟨_, hon2⟩, ?_, ?_, rfl⟩
        · repeat' (first | exact MapOff.base | refine MapOff.put (by decide) ?_)
        · exact offR (pre := [_, _, _]) (off_same (pre := [_, _, _, _, _]) hsa2 off)
        · intro j hj
          rw [hnp2 j hj]
          by_cases e : j = i
          · subst e
            rw [if_pos rfl, hnp' j hj, if_neg (Nat.lt_irrefl _), if_pos (Nat.lt_succ_self _)]; lia
          · rw [if_neg e, hnp' j hj]
            by_cases e2 : j < i
            · rw [if_pos e2, if_pos (by lia)]
            · rw [if_neg e2, if_neg (by lia)]
        · intro j hj
          rw [hsu2 j hj, List.range_succ, List.filter_append, List.map_append]
          refine (hsu' j hj).append ?_
          have hiff : j ∈ preds sp n i ↔ (sp j).2 < (sp i).1 := by
            unfold preds
            rw [List.mem_filter, List.mem_range]
            simp [hj]
          by_cases h0 : (sp j).2 < (sp i).1
          · rw [if_pos (hiff.mpr h0)]
            simp only [List.filter_cons, h0, decide_true, if_true, List.filter_nil, List.map_cons, List.map_nil]
            exact .cons _ _ .nil
          · rw [if_neg (fun h => h0 (hiff.mp h))]
            simp only [List.filter_cons, h0, decide_false, Bool.false_eq_true, if_false, List.filter_nil, List.map_nil]
            exact .nil
    · rintro u nx h tk ⟨f', on, hsa, ⟨von, hon⟩, hnp', hsu', rfl⟩ F N
      replace F : Fr h₀ L' _ _ := F
      replace N : News h₀ L' _ _ := N
      have hap' := hsa.apart hap
      have ox' := hsa.off ox
      have od' := hsa.off od
      have oD' := hsa.off oDD
      have hD' : oD.IsDictOf (PySem.intKind prg w) (kvs f' n) := kvs_same hsa ▸ hD
      have orr2 : ∀ p ∈ (L' + 1 + 1, on) :: (L' + 1, oc2) :: (rest ++ (L, oL) :: frs), Off f' n p.1 := fun p hp => by
        rcases List.mem_cons.mp hp with rfl | hp
        · exact hsa.off (orr' (L' + 1 + 1, oc1) (.head _))
        · exact hsa.off (orr' p (.tail _ hp))
      have ltd2 : ∀ p ∈ (L' + 1 + 1, on) :: (L' + 1, oc2) :: (rest ++ (L, oL) :: frs), p.1 < dx := fun p hp => by
        rcases List.mem_cons.mp hp with rfl | hp
        · exact ltd' (L' + 1 + 1, oc1) (.head _)
        · exact ltd' p (.tail _ hp)
      have hnp2 : ∀ j, j < n → (f' j).np = ((preds sp n j).length : Int) := fun j hj => by rw [hnp' j hj, if_pos hj]
      have hsu2 : ∀ j, j < n → IntsAre (f' j).su ((succs sp n j).map Int.ofNat) := hsu'
      clear orr' ltd' hnp' hsu' hap ox od oDD hD hnp hsu
      iterate 6 ((try (first | with_reducible refine Mine.hide_loop fun QhL hQhL => ?_ | with_reducible refine Mine.hide_comp fun QhC hQhC => ?_)); (first | walk1 | (dsimp only; walk1) | (refine hQhC _ _ ?_; clear hQhC; try clear QhC) | (refine hQhL _ _ ?_; clear hQhL; try clear QhL)); try dsimp only)
      refine wpAny_lvF (l := envOfC _ _ L' 177 _ :: envP :: l0) (d := 400) (u := 2000) (prepare_ok KX T (by k_asm) (rest := (L' + 1 + 1, on) :: (L' + 1, oc2) :: rest) (frs := (L, oL) :: frs) (sn := succs sp n) (rank := fun j => (sp j).1) (subN N memP1) loD hD' od' (Nat.ne_of_gt lxd) (Nat.ne_of_gt (Nat.lt_trans lxd lxD)) ?_ (fun hq => ScopeKind.noConfusion hq) rfl (show Frs (envP :: l0) ((L, oL) :: frs) from ⟨hk, hf, hoL, hfr⟩) ?_ hn hsu2 ?_ ?_ ?_ ?_) rfl rfl rfl (Nat.le_of_ble_eq_true rfl) (Nat.le_of_ble_eq_true rfl)
      · intro p hp
        refine Nat.ne_of_lt (ltd2 p ?_)
        rcases List.mem_cons.mp hp with rfl | hp
        · exact .head _
        rcases List.mem_cons.mp hp with rfl | hp
        · exact .tail _ (.head _)
        · exact .tail _ (.tail _ (List.mem_append_left _ hp))
      · intro p hp z hz
        have hzd : z.1 < dx := ltd2 z (.tail _ (.tail _ (List.mem_append_right _ hz)))
        rcases List.mem_cons.mp hp with rfl | hp
        · exact Nat.ne_of_gt (Nat.lt_trans hzd lxd)
        rcases List.mem_cons.mp hp with rfl | hp
        · exact Nat.ne_of_gt hzd
        rcases List.mem_cons.mp hp with rfl | hp
        · exact Nat.ne_of_gt (Nat.lt_trans hzd (Nat.lt_trans lxd lxD))
        rcases List.mem_append.mp hp with hp | hp
        · exact (orr2 z (.tail _ (.tail _ (List.mem_append_right _ hz)))).all p hp
        have hzL : z.1 < L' := by
          rcases List.mem_cons.mp hz with rfl | hz
          · exact hLL
          · exact hlt z (List.mem_append_right _ hz)
        rcases List.mem_cons.mp hp with rfl | hp
        · exact Nat.ne_of_gt (Nat.lt_of_lt_of_le hzL (by lia))
        rcases List.mem_cons.mp hp with rfl | hp
        · exact Nat.ne_of_gt (Nat.lt_of_lt_of_le hzL (by lia))
        rcases List.mem_cons.mp hz with rfl | hz
        · exact hneL p (List.mem_append_left _ hp)
        · exact hoff p hp z hz
      · intro j hj
        have := List.length_filter_le (fun i => decide ((sp j).2 < (sp i).1)) (List.range n)
        rw [List.length_range] at this
        exact Nat.le_trans this hn
      · intro j hj r hr
        exact List.mem_range.mp (List.mem_filter.mp hr).1
      · intro j hj r hr
        have h1 := of_decide_eq_true (List.mem_filter.mp hr).2
        have h2 := hle j hj
        show (sp j).1 < (sp r).1
        lia
      intro R rv er frs' h2' tk2' su2 hrv oR1 oR2 F2 N2
      try dsimp only
      clear N F
      replace N2 := subN N2 memP2
      iterate 8 ((try (first | with_reducible refine Mine.hide_loop fun QhL hQhL => ?_ | with_reducible refine Mine.hide_comp fun QhC hQhC => ?_)); (first | walk1 | (dsimp only; walk1) | (refine hQhC _ _ ?_; clear hQhC; try clear QhC) | (refine hQhL _ _ ?_; clear hQhL; try clear QhL)); try dsimp only)
      rename_i GL hg l1g hg2 F3 N3
      have hbase : ∀ p ∈ (x, instObj 158 dx) :: (dx, instObj 158 dx) :: (D, oD) :: (R, oD) :: (L' + 1 + 1, on) :: (L' + 1, oc2) :: (reg f' n ++ (rest ++ frs')), p.1 < GL := by
        have hr := allLt_lt l1g.2.2.2.2.2.2
        intro p hp
        rcases List.mem_cons.mp hp with rfl | hp
        · exact l1g.1
        rcases List.mem_cons.mp hp with rfl | hp
        · exact l1g.2.1
        rcases List.mem_cons.mp hp with rfl | hp
        · exact l1g.2.2.1
        rcases List.mem_cons.mp hp with rfl | hp
        · exact l1g.2.2.2.1
        rcases List.mem_cons.mp hp with rfl | hp
        · exact l1g.2.2.2.2.1
        rcases List.mem_cons.mp hp with rfl | hp
        · exact l1g.2.2.2.2.2.1
        · exact hr p hp
      have frs_lt : ∀ p ∈ frs', p.1 < dx := fun p hp => by
        obtain ⟨z, hz, e⟩ := SameUp.fwd' su2 p hp
        rw [← e]
        exact ltd2 z (.tail _ (.tail _ (List.mem_append_right _ hz)))
      have frs_off : ∀ p ∈ frs', Off f' n p.1 := fun p hp => by
        obtain ⟨z, hz, e⟩ := SameUp.fwd' su2 p hp
        rw [← e]
        exact orr2 z (.tail _ (.tail _ (List.mem_append_right _ hz)))
      have hfin : ∀ {RR : Result → Shared → Prop} {h : Heap} {tk : Nat} (gs : List Addr) (eg : Nat) (rs : List (List Nat)) (tups : List (Addr × Obj)) {mm : Str → Option Value} {nn : List (Addr × Obj)}, (∀ v s', Q v s' → RR (.ok (.ret v)) s') → toldL (succs sp n) 18 (st0 sp n) = rs → TupsAt tups gs rs → (∀ p ∈ tups, GL < p.1) → Fr h₀ L' h mm → News h₀ L' h nn → (∀ p ∈ (GL, W.listOf (gs.map Value.ref).toArray eg) :: (tups ++ (rest ++ frs')), p ∈ nn) →
          LeaveF h₀ L oL frs m RR (.ref GL) { s with heap := h, toks := tk } := by
        intro RR h tk gs eg rs tups mm nn hRR htl htu htg kF kN hm
        have hLG : L < GL := Nat.lt_trans hLL (Nat.lt_of_succ_lt l1g.2.2.2.2.2.1)
        have hrest : ∀ p ∈ rest, p.1 < GL := fun p hp => Nat.lt_trans (hlt p (List.mem_append_left _ hp)) (Nat.lt_of_succ_lt l1g.2.2.2.2.2.1)
        refine leaveF_ (news' := (GL, W.listOf (gs.map Value.ref).toArray eg) :: (tups ++ rest)) su2 kF (subN kN fun p hp => hm p (memL1 p hp)) ?_ (fun frs1 su1 kF kN => hRR _ _ (hQ GL gs eg frs1 ((GL, W.listOf (gs.map Value.ref).toArray eg) :: tups) _ _ su1 (.head _) (htl ▸ htu.mono fun p hp => .tail _ hp) ?_ kF (subN kN memL2)))
        · intro p hp
          rcases List.mem_cons.mp hp with rfl | hp
          · exact Nat.ne_of_gt hLG
          rcases List.mem_append.mp hp with hp | hp
          · exact Nat.ne_of_gt (Nat.lt_trans hLG (htg p hp))
          · exact hneL p (List.mem_append_left _ hp)
        · intro p hp q hq
          have h1 : GL ≤ p.1 := by
            rcases List.mem_cons.mp hp with rfl | hp
            · exact Nat.le_refl _
            · exact Nat.le_of_lt (htg p hp)
          have h2 : q.1 < GL := by
            rcases List.mem_append.mp hq with hq | hq
            · exact hrest q hq
            · obtain ⟨z, hz, e⟩ := SameUp.fwd' su1 q hq
              rw [← e]
              exact Nat.lt_trans (hlt z (List.mem_append_right _ hz)) (Nat.lt_of_succ_lt l1g.2.2.2.2.2.1)
          exact Nat.ne_of_gt (Nat.lt_of_lt_of_le h2 h1)
      refine whl_start 0 ?_
      refine while_ind (fun μ s' => ∃ h tk f2 rv er gs eg rs tups a ta tb, s' = { s with heap := h, toks := tk } ∧ gs.length + μ = 18 ∧ rs.length = gs.length ∧ toldL (succs sp n) 18 (st0 sp n) = rs ++ toldL (succs sp n) μ (iter (succs sp n) gs.length (st0 sp n)) ∧ TupsAt tups gs rs ∧ (∀ p ∈ tups, GL < p.1) ∧ SameA n f' f2 ∧
        (∀ j, j < n → (f2 j).np = (iter (succs sp n) gs.length (st0 sp n)).np j) ∧ (∀ j, j < n → (f2 j).su = (f' j).su) ∧ IntsAre rv ((iter (succs sp n) gs.length (st0 sp n)).R.map Int.ofNat) ∧
        Fr h₀ L' h (fun y => if y = Str.ofString "given" then some (Value.ref GL) else if ([] : List Str).contains y = true then u y else if y = Str.ofString "sorter" then some (Value.ref x) else bindL (envOfC (Str.ofString "_law_told") _ L' 177 (Value.ref 176)).kindOf [(Str.ofString "spans", Value.ref SP)] (fun x => none) y) ∧
        News h₀ L' h ((GL, W.listOf (gs.map Value.ref).toArray eg) :: (x, instObj 158 dx) :: (dx, dictOf (e4 h1 h2 h3 h4 t1 t2 t3 t4 (.ref D) (.ref R) (.int a ta) (.int a tb)) 4) :: (D, oD) :: (R, W.listOf rv.toArray er) :: (reg f2 n ++ (L' + 1 + 1, on) :: (L' + 1, oc2) :: (tups ++ (rest ++ frs'))))) ?_ 18 _
        ⟨_, _, f', rv, er, [], 0, [], [], 0, ta, tb, rfl, rfl, rfl, rfl, trivial, fun p hp => (by cases hp), SameA.refl, hnp2, fun j hj => rfl, ?_, F3, subN N3 memW1⟩
      · clear N3 F3
        rintro μ s' ih ⟨h, tk, f2, rv, er, gs, eg, rs, tups, a, ta, tb, rfl, hμ, hrs, htl, htu, htg, hsa2, hnp3, hsu3, hrv2, F, N⟩
        refine whl_turn (by passes_own) ?_
        iterate 6 ((try (first | with_reducible refine Mine.hide_loop fun QhL hQhL => ?_ | with_reducible refine Mine.hide_comp fun QhC hQhC => ?_)); (first | walk1 | (dsimp only; walk1) | (refine hQhC _ _ ?_; clear hQhC; try clear QhC) | (refine hQhL _ _ ?_; clear hQhL; try clear QhL)); try dsimp only)
        have hst := hgood gs.length
        have hrvl : rv.length ≤ 11 := by rw [hrv2.length, List.length_map]; exact hst.2.1
        refine wpAny_lv (d := 400) (u := 2000) (is_active_ok KX T F (subN N memI1) rfl hrvl ?_) rfl rfl (Nat.le_of_ble_eq_true rfl) (Nat.le_of_ble_eq_true rfl)
        intro h tk F4 N4
        replace N4 := subN N4 memI2
        clear N F
        try dsimp only
        by_cases hR0 : (iter (succs sp n) gs.length (st0 sp n)).R = []
        · have e0 : rv = [] := by
            have := hrv2.length
            rw [hR0] at this
            exact List.length_eq_zero_iff.mp this
          subst e0
          iterate 2 ((try (first | with_reducible refine Mine.hide_loop fun QhL hQhL => ?_ | with_reducible refine Mine.hide_comp fun QhC hQhC => ?_)); (first | walk1 | (dsimp only; walk1) | (refine hQhC _ _ ?_; clear hQhC; try clear QhC) | (refine hQhL _ _ ?_; clear hQhL; try clear QhL)); try dsimp only)
          refine WhlIf.no rfl ?_
          iterate 4 ((try (first | with_reducible refine Mine.hide_loop fun QhL hQhL => ?_ | with_reducible refine Mine.hide_comp fun QhC hQhC => ?_)); (first | walk1 | (dsimp only; walk1) | (refine hQhC _ _ ?_; clear hQhC; try clear QhC) | (refine hQhL _ _ ?_; clear hQhL; try clear QhL)); try dsimp only)
          refine hfin gs eg rs tups (by exact fun v s' h => h) ?_ htu htg F4 N4 memL3
          rw [htl]
          cases μ with
          | zero => exact List.append_nil _
          | succ μ => show rs ++ (if _ then _ else _) = _; rw [if_pos hR0]; exact List.append_nil _
        · have e0 : rv ≠ [] := fun e => hR0 (by
            have := hrv2.length
            rw [e, List.length_map] at this
            exact List.length_eq_zero_iff.mp this.symm)
          rw [show decide (rv ≠ []) = true from decide_eq_true e0]
          iterate 10 ((try (first | with_reducible refine Mine.hide_loop fun QhL hQhL => ?_ | with_reducible refine Mine.hide_comp fun QhC hQhC => ?_)); (first | walk1 | (dsimp only; walk1) | (refine hQhC _ _ ?_; clear hQhC; try clear QhC) | (refine hQhL _ _ ?_; clear hQhL; try clear QhL)); try dsimp only)
          refine kun_lenL (News.isList (N := N4) (by k_mem)) (k := (gs.length : Int)) (by simp) (by lia) ?_
          try dsimp only
          iterate 5 ((try (first | with_reducible refine Mine.hide_loop fun QhL hQhL => ?_ | with_reducible refine Mine.hide_comp fun QhC hQhC => ?_)); (first | walk1 | (dsimp only; walk1) | (refine hQhC _ _ ?_; clear hQhC; try clear QhC) | (refine hQhL _ _ ?_; clear hQhL; try clear QhL)); try dsimp only)
          rotate_left 1
          · rename_i hb
            have hb : ¬ (gs.length : Int) < 18 := by simpa using hb
            have e : μ = 0 := by lia
            subst e
            refine WhlIf.no rfl ?_
            iterate 5 ((try (first | with_reducible refine Mine.hide_loop fun QhL hQhL => ?_ | with_reducible refine Mine.hide_comp fun QhC hQhC => ?_)); (first | walk1 | (dsimp only; walk1) | (refine hQhC _ _ ?_; clear hQhC; try clear QhC) | (refine hQhL _ _ ?_; clear hQhL; try clear QhL)); try dsimp only)
            refine hfin gs eg rs tups (by exact fun v s' h => h) ?_ htu htg F4 N4 memL3
            rw [htl]
            exact List.append_nil rs
          · rename_i hb
            have hb : (gs.length : Int) < 18 := by simpa using hb
            obtain ⟨μ, rfl⟩ : ∃ k, μ = k + 1 := ⟨μ - 1, by lia⟩
            refine WhlIf.yes rfl ?_
            have ap2 := hsa2.apart hap'
            have hglt : ∀ p ∈ reg f' n, p.1 < GL := fun p hp => hbase p (m6 (List.mem_append_left _ hp))
            have offG : ∀ a, GL ≤ a → Off f2 n a := fun a ha => hsa2.off (off_of_reg fun p hp => Nat.ne_of_lt (Nat.lt_of_lt_of_le (hglt p hp) ha))
            have oR3 : Off f2 n R := hsa2.off (off_of_reg fun p hp => oR1 p (m3 (List.mem_append_left _ hp)))
            have hrestO : ∀ p ∈ (L' + 1 + 1, on) :: (L' + 1, oc2) :: (rest ++ frs'), Off f2 n p.1 ∧ p.1 ≠ dx ∧ p.1 ≠ R := fun p hp => by
              rcases List.mem_cons.mp hp with rfl | hp
              · exact ⟨hsa2.off (orr2 _ (.head _)), Nat.ne_of_lt (ltd2 _ (.head _)), oR1 (L' + 1 + 1, on) (m3 (List.mem_append_right _ (.head _)))⟩
              rcases List.mem_cons.mp hp with rfl | hp
              · exact ⟨hsa2.off (orr2 _ (.tail _ (.head _))), Nat.ne_of_lt (ltd2 _ (.tail _ (.head _))), oR1 (L' + 1, oc2) (m3 (List.mem_append_right _ (.tail _ (.head _))))⟩
              rcases List.mem_append.mp hp with hp | hp
              · exact ⟨hsa2.off (orr2 p (.tail _ (.tail _ (List.mem_append_left _ hp)))), Nat.ne_of_lt (ltd2 p (.tail _ (.tail _ (List.mem_append_left _ hp)))), oR1 p (m3 (List.mem_append_right _ (.tail _ (.tail _ hp))))⟩
              · exact ⟨hsa2.off (frs_off p hp), Nat.ne_of_lt (frs_lt p hp), oR2 p hp⟩
            have hdG : dx < GL := l1g.2.1
            have hRG : R < GL := l1g.2.2.2.1
            have ok : ∀ o, SOK f2 n x dx D R ((GL, o) :: (L' + 1 + 1, on) :: (L' + 1, oc2) :: (tups ++ (rest ++ frs'))) := fun o => by
              refine ⟨ap2, hsa2.off ox', hsa2.off od', hsa2.off oD', oR3, Nat.ne_of_gt lxd, oR1 (x, _) (.head _), Nat.ne_of_gt (Nat.lt_trans lxd lxD), oR1 (D, _) (m2 (.head _)), oR1 (dx, _) (.tail _ (.head _)), ?_⟩
              intro p hp
              rcases List.mem_cons.mp hp with rfl | hp
              · exact ⟨offG _ (Nat.le_refl _), Nat.ne_of_gt hdG, Nat.ne_of_gt hRG⟩
              rcases List.mem_cons.mp hp with rfl | hp
              · exact hrestO _ (.head _)
              rcases List.mem_cons.mp hp with rfl | hp
              · exact hrestO _ (.tail _ (.head _))
              rcases List.mem_append.mp hp with hp | hp
              · exact ⟨offG _ (Nat.le_of_lt (htg p hp)), Nat.ne_of_gt (Nat.lt_trans hdG (htg p hp)), Nat.ne_of_gt (Nat.lt_trans hRG (htg p hp))⟩
              · exact hrestO p (.tail _ (.tail _ hp))
            iterate 11 ((try (first | with_reducible refine Mine.hide_loop fun QhL hQhL => ?_ | with_reducible refine Mine.hide_comp fun QhC hQhC => ?_)); (first | walk1 | (dsimp only; walk1) | (refine hQhC _ _ ?_; clear hQhC; try clear QhC) | (refine hQhL _ _ ?_; clear hQhL; try clear QhL)); try dsimp only)
            refine wpAny_lv (d := 400) (u := 2000) (get_ready_ok KX T F4 (subN N4 memG1) loD (kvs_same hsa2 ▸ hD') (ok _) hn hrv2 hst.1 hst.2.1 hR0 ?_) rfl rfl (Nat.le_of_ble_eq_true rfl) (Nat.le_of_ble_eq_true rfl)
            intro f3 Tu ta' er' h tk hsa3 hnp4 hsu4 F5 N5 ltu
            clear N4 F4
            try dsimp only
            have gTu : GL < Tu := ltu (GL, _) (m4 (List.mem_append_right _ (.head _)))
            have y1 := neN (Nat.ne_of_gt gTu)
            have y2 := ltN l1g.1
            have y3 := ltN hdG
            have y4 := ltN l1g.2.2.1
            have y5 := ltN hRG
            have hreg3 : ∀ p ∈ reg f3 n, p.1 < GL := (hsa2.trans hsa3).ltr hglt
            have bc : ∀ p ∈ reg f3 n ++ (L' + 1 + 1, on) :: (L' + 1, oc2) :: (tups ++ (rest ++ frs')), p.1 ≠ GL := fun p hp => by
              rcases List.mem_append.mp hp with hp | hp
              · exact Nat.ne_of_lt (hreg3 p hp)
              rcases List.mem_cons.mp hp with rfl | hp
              · exact Nat.ne_of_lt l1g.2.2.2.2.1
              rcases List.mem_cons.mp hp with rfl | hp
              · exact Nat.ne_of_lt l1g.2.2.2.2.2.1
              rcases List.mem_append.mp hp with hp | hp
              · exact Nat.ne_of_gt (htg p hp)
              · exact Nat.ne_of_lt (hbase p (m6 (List.mem_append_right _ hp)))
            replace N5 := subN N5 memG2
            iterate 4 ((try (first | with_reducible refine Mine.hide_loop fun QhL hQhL => ?_ | with_reducible refine Mine.hide_comp fun QhC hQhC => ?_)); (first | walk1 | (dsimp only; walk1) | (refine hQhC _ _ ?_; clear hQhC; try clear QhC) | (refine hQhL _ _ ?_; clear hQhL; try clear QhL)); try dsimp only)
            rename News _ _ _ _ => N5
            rename Fr _ _ _ _ => F5
            rw [show (gs.map Value.ref).toArray.push (Value.ref Tu) = ((gs ++ [Tu]).map Value.ref).toArray by simp] at N5
            refine StarMethod_ ?_
            iterate 2 ((try (first | with_reducible refine Mine.hide_loop fun QhL hQhL => ?_ | with_reducible refine Mine.hide_comp fun QhC hQhC => ?_)); (first | walk1 | (dsimp only; walk1) | (refine hQhC _ _ ?_; clear hQhC; try clear QhC) | (refine hQhL _ _ ?_; clear hQhL; try clear QhL)); try dsimp only)
            refine callWith_SM (K := heapK w.params) (g := 141) (self := .ref x) (by k_is) ?_
            iterate 5 ((try (first | with_reducible refine Mine.hide_loop fun QhL hQhL => ?_ | with_reducible refine Mine.hide_comp fun QhC hQhC => ?_)); (first | walk1 | (dsimp only; walk1) | (refine hQhC _ _ ?_; clear hQhC; try clear QhC) | (refine hQhL _ _ ?_; clear hQhL; try clear QhL)); try dsimp only)
            rename News _ _ _ _ => N6
            rename Fr _ _ _ _ => F6
            rename_i q' hq6 l1q
            refine sub_last (vs := gs.map Value.ref) (v := .ref Tu) (by have h := News.isList (N := N6) (.tail _ (.tail _ (.head _))); rw [List.map_append] at h; exact h) ?_
            refine star_seq (by k_asm) N6 (.tail _ (.head _)) rfl rfl (.inr rfl) rfl (by rw [sizeLine_eq]; simp; lia) ?_
            intro h' F' N'
            clear N6 F6
            try dsimp only
            iterate 2 ((try (first | with_reducible refine Mine.hide_loop fun QhL hQhL => ?_ | with_reducible refine Mine.hide_comp fun QhC hQhC => ?_)); (first | walk1 | (dsimp only; walk1) | (refine hQhC _ _ ?_; clear hQhC; try clear QhC) | (refine hQhL _ _ ?_; clear hQhL; try clear QhL)); try dsimp only)
            refine call_meth N' (.head _) ?_
            have ok3 := ((ok (W.listOf (List.map Value.ref gs).toArray eg)).same hsa3)
            have lr3 : ∀ p ∈ reg f3 n, p.1 < Tu := hsa3.ltr fun p hp => ltu p (m4 (List.mem_append_left _ hp))
            have lrq : ∀ p ∈ reg f3 n, p.1 < q' := fun p hp => allLt_lt l1q.2.2.2.2.2.2 p (List.mem_append_left _ hp)
            have ok4 : SOK f3 n x dx D R ((q', methodObj (Value.ref 141) (Value.ref x)) :: (Tu, tupO rv) :: (GL, W.listOf (List.map Value.ref (gs ++ [Tu])).toArray (eg + 1)) :: (L' + 1 + 1, on) :: (L' + 1, oc2) :: (tups ++ (rest ++ frs'))) := by
              refine ⟨ok3.ap, ok3.ox, ok3.od, ok3.oD, ok3.oR, ok3.n1, ok3.n2, ok3.n3, ok3.n4, ok3.n5, ?_⟩
              intro p hp
              rcases List.mem_cons.mp hp with rfl | hp
              · exact ⟨off_of_reg fun p hp => Nat.ne_of_lt (lrq p hp), Nat.ne_of_gt l1q.2.2.2.1, Nat.ne_of_gt l1q.2.2.2.2.2.1⟩
              rcases List.mem_cons.mp hp with rfl | hp
              · exact ⟨off_of_reg fun p hp => Nat.ne_of_lt (lr3 p hp), Nat.ne_of_gt (ltu (dx, _) (.tail _ (.head _))), Nat.ne_of_gt (ltu (R, _) (m3 (.head _)))⟩
              rcases List.mem_cons.mp hp with rfl | hp
              · exact ok3.orr (GL, W.listOf (List.map Value.ref gs).toArray eg) (.head _)
              · exact ok3.orr p (.tail _ hp)
            refine codeAny_lv (d := 400) (u := 2000) (done_ok KX T F' (st := start (iter (succs sp n) gs.length (st0 sp n))) (sn := succs sp n) (rv := []) (subN N' memG3) loD (kvs_same (hsa2.trans hsa3) ▸ hD') ok4 hrv2 hst.1 hst.2.1 ?_ .nil (Nat.zero_le _) ?_ ?_ ?_ hst.2.2 ?_) rfl rfl (Nat.le_of_ble_eq_true rfl) (Nat.le_of_ble_eq_true rfl)
            · intro j hj
              rw [hnp4 j hj, hnp3 j hj]; rfl
            · intro j hj
              rw [hsu4 j hj, hsu3 j hj]; exact hsu2 j hj
            · intro j hj
              have := List.length_filter_le (fun i => decide ((sp j).2 < (sp i).1)) (List.range n)
              rw [List.length_range] at this
              exact Nat.le_trans this hn
            · intro j hj r hr
              exact List.mem_range.mp (List.mem_filter.mp hr).1
            intro f4 rv' er4 tb' h5 tk5 hsa4 hnp5 hsu5 hrv5 F8 N8
            clear N'
            try dsimp only
            iterate 1 ((try (first | with_reducible refine Mine.hide_loop fun QhL hQhL => ?_ | with_reducible refine Mine.hide_comp fun QhC hQhC => ?_)); (first | walk1 | (dsimp only; walk1) | (refine hQhC _ _ ?_; clear hQhC; try clear QhC) | (refine hQhL _ _ ?_; clear hQhL; try clear QhL)); try dsimp only)
            have el : (gs ++ [Tu]).length = gs.length + 1 := by simp
            refine ih μ (Nat.lt_succ_self _) _ ⟨_, _, f4, rv', er4, gs ++ [Tu], eg + 1, rs ++ [(iter (succs sp n) gs.length (st0 sp n)).R], (Tu, tupO rv) :: tups, _, ta', tb', rfl, by rw [el]; lia, by simp [hrs], ?_, ?_, ?_, (hsa2.trans hsa3).trans hsa4, ?_, ?_, ?_, F8, subN N8 memG4⟩
            · rw [htl, el, List.append_assoc]
              congr 1
              show (if _ then _ else _) = _
              rw [if_neg hR0]
              rfl
            · exact TupsAt.snoc ⟨rv, .head _, hrv2⟩ (htu.mono fun p hp => .tail _ hp)
            · intro p hp
              rcases List.mem_cons.mp hp with rfl | hp
              · exact gTu
              · exact htg p hp
            · intro j hj
              rw [el]; exact hnp5 j hj
            · intro j hj
              rw [hsu5 j hj, hsu4 j hj, hsu3 j hj]
            · rw [el]; exact hrv5
      · have e : (st0 sp n).R = (List.range n).filter fun i => decide ((f' i).np = 0) := by
          unfold st0
          apply List.filter_congr
          intro j hj
          rw [hnp2 j (List.mem_range.mp hj)]
        show IntsAre rv ((st0 sp n).R.map Int.ofNat)
        rw [e]
        exact hrv
end
end Mine

namespace Mine
open LCg LCt
open PySem.Spec PySem.Calls
section
variable {prog : Program} {w : World} {A : Around} {E : Value → Shared → Prop} {s : Shared} {h₀ : Heap} {L : Addr} {m : Str → Option Value} {env : Env}
/-- `[elt for x, y in pairs if ct]`: the ledger stays as it is, what is gathered is told by J -/
theorem ListComp_PT {ct elt iter : Expr} {x x₂ : Str} {px px₂ tp : Pos} {tkk} {scope : Scope} {cl : List (Str × Addr)} {pos : Pos} {Q : Value → Shared → Prop} (J : Nat → List Value → Prop) (_F₀ : Fr h₀ L s.heap m)
    (hclos : closureFor scope env = pure cl) (hcell : ∀ y ∈ scope.names, y.2 ≠ .cell) (hkind : scope.kind = .function)
    (hnames : ∀ y ∈ scope.names, y.2 = .local → scope.names.lookup y.1 = some .local) (hx : scope.names.lookup x = some .local) (hx₂ : scope.names.lookup x₂ = some .local) (hxx : x ≠ x₂)
    (h : wpAny (model prog w) A (eval iter env) (fun xv s₁ => ∃ ax vs e n sp news, xv = .ref ax ∧ A.handled = none ∧ Fr h₀ L s₁.heap m ∧ News h₀ L s₁.heap news ∧ SpAt news ax n sp vs e ∧ n ≤ sizeLine ∧ J 0 [] ∧
      (∀ i ys t1 t2 I oI C oC D m₂ h tk (E' : Value → Shared → Prop), i < n → J i ys → NsObj oC m₂ → m₂ x = some (.int (sp i).1 t1) → m₂ x₂ = some (.int (sp i).2 t2) → Fr h₀ L h m → News h₀ L h ((I, oI) :: (C, oC) :: (D, lst ys) :: news) → Off3 I C D news → ((@Ne Nat I C) ∧ (@Ne Nat I D) ∧ (@Ne Nat C D)) →
        wpAny (model prog w) A (isTrue ct (compEnvC scope cl C env) (eval ct (compEnvC scope cl C env))) (fun ok s' => if ok = true then
          wpAny (model prog w) A (eval elt (compEnvC scope cl C env)) (CompEnd h₀ L m { s₁ with heap := h, toks := tk } I oI C oC D (lst ys) (fun nw => nw = news) (fun y _ => J (i + 1) (ys ++ [y]))) E' s'
          else CompEnd h₀ L m { s₁ with heap := h, toks := tk } I oI C oC D (lst ys) (fun nw => nw = news) (fun _ _ => J (i + 1) ys) Value.none s') E' { s₁ with heap := h, toks := tk }) ∧
      ∀ ys, J n ys → FinE h₀ L m s₁ Q ys news) E s)
    (hs : ∀ x, foldedSetIterable iter env x = pure x := by intro _; rfl) :
    wpAny (model prog w) A (eval (.ListComp elt [⟨.Tuple [.Name x px, .Name x₂ px₂] tkk tp, iter, [ct], 0⟩] scope pos) env) Q E s := by
  rw [eval_ListComp]
  refine wpAny_comprehension_free (use := none) rfl hs hclos hkind hnames (wpAny_mono h (fun xv s₁ h₁ => ?_) fun _ _ e => e)
  obtain ⟨ax, vs, ee, n, sp, news, rfl, hh, F, N, hsp, hsz, j0, turn, fin⟩ := h₁
  have hl : s₁.heap.IsList ax vs.toArray := News.isList (N := N) hsp.list
  have hlt : ax < s₁.heap.objs.size := by obtain ⟨_, e, _⟩ := hl; exact Heap.lt_size e
  refine wpAny_pyIter_list hl ?_
  generalize hI : s₁.heap.objs.size = I
  have W := Walks.list (prog := prog) (w := w) (A := A) hh I ax (by rw [← hI]; exact Nat.ne_of_lt hlt) vs.toArray
  have hvn : vs.toArray.size = n := by rw [List.size_toArray, hsp.len]
  rw [hvn] at W
  generalize hH1 : s₁.heap.push { cls := .type "list_iterator", data := .fields #[.ref ax, .int 0 0] } = H1
  have hH1s : H1.objs.size = I + 1 := by rw [← hH1, Heap.size_push, hI]
  have up : ∀ b o, s₁.heap.get? b = some o → H1.get? b = some o := fun b o e => hH1 ▸ Heap.get?_push_of_some _ e
  have hIo : H1.get? I = some { cls := .type "list_iterator", data := .fields #[.ref ax, .int 0 0] } := by rw [← hH1, ← hI]; exact Heap.get?_push_size _ rfl
  have F1 := F.keeps up
  have N1 : News h₀ L H1 news := N.grown up
  refine wpAny_newObj_type (wpAny_newFunctionEnv hcell (by intro y hy; simp at hy) (fun h₁ hns₁ hsb₁ => ?_) hkind)
  dsimp only at hns₁ hsb₁ ⊢
  generalize hH2 : H1.push { cls := .type "list", dict := none, data := .seq ([] : List Value).toArray } = H2 at hns₁ hsb₁ ⊢
  generalize hD : H1.objs.size = D at hns₁ hsb₁ ⊢
  generalize hC : H2.objs.size = C at hns₁ hsb₁ ⊢
  have hDv : D = I + 1 := by rw [← hD, hH1s]
  have hCv : C = I + 2 := by rw [← hC, ← hH2, Heap.size_push, hH1s]
  have hDI : I ≠ D := by rw [hDv]; exact Nat.ne_of_lt (Nat.lt_succ_self _)
  have hCI : I ≠ C := by rw [hCv]; exact Nat.ne_of_lt (Nat.lt_add_of_pos_right (by decide))
  have hDC : D ≠ C := by rw [hDv, hCv]; exact Nat.ne_of_lt (Nat.lt_succ_self _)
  have hLI : L < I := by rw [← hI]; exact F.ns.lt
  have hIL : L ≠ I := Nat.ne_of_lt hLI
  have hDL : D ≠ L := by rw [hDv]; exact Nat.ne_of_gt (Nat.lt_succ_of_lt hLI)
  have hCL : C ≠ L := by rw [hCv]; exact Nat.ne_of_gt (Nat.lt_trans hLI (Nat.lt_add_of_pos_right (by decide)))
  have fresh : ∀ a, I ≤ a → h₀.get? a = none := fun a ha => by
    cases e : h₀.get? a with
    | none => rfl
    | some o' => exact absurd (Heap.lt_size (F.keep a o' e)) (by rw [hI]; exact Nat.not_lt.mpr ha)
  have hI₀ := fresh I (Nat.le_refl _)
  have hD₀ := fresh D (by rw [hDv]; exact Nat.le_succ _)
  have hC₀ := fresh C (by rw [hCv]; exact Nat.le_add_right _ _)
  have hlow : ∀ p ∈ news, p.1 < I := fun p hp => hI ▸ Heap.lt_size (N p hp).1
  have off : Off3 I C D news := Off3.of fun p hp => ⟨Nat.ne_of_lt (hlow p hp), by rw [hCv]; exact Nat.ne_of_lt (Nat.lt_add_right _ (hlow p hp)), by rw [hDv]; exact Nat.ne_of_lt (Nat.lt_succ_of_lt (hlow p hp))⟩
  have off3 := off.mem
  have axm := off3 _ hsp.list
  have old : ∀ b o, b ≠ C → H1.get? b = some o → h₁.get? b = some o := fun b o hb e => hsb₁.extBut b o hb (Heap.get?_push_of_some _ (hH2 ▸ Heap.get?_push_of_some _ e))
  have hacc : h₁.get? D = some (lst []) := hsb₁.extBut _ _ hDC (Heap.get?_push_of_some _ (by rw [← hH2, ← hD]; exact Heap.get?_push_size _ rfl))
  have hax : ∀ {h : Heap} {nn}, News h₀ L h nn → (∀ p ∈ news, p ∈ nn) → h.IsList ax vs.toArray := fun N' hm => News.isList (N := N') (hm _ hsp.list)
  have N1' : News h₀ L h₁ ((D, lst []) :: news) := fun p hp => by
    rcases List.mem_cons.mp hp with rfl | hp
    · exact ⟨hacc, hDL, hD₀⟩
    · exact ⟨old _ _ (off3 p hp).2.1 (N1 p hp).1, (N1 p hp).2⟩
  have old₁ : ∀ b o, s₁.heap.get? b = some o → h₁.get? b = some o := fun b o e => old b o (by rw [hCv]; exact Nat.ne_of_lt (Nat.lt_add_right _ (hI ▸ Heap.lt_size e))) (up b o e)
  have fin' : ∀ h tk m' ys, Fr h₀ L h m → News h₀ L h ((D, lst ys) :: news) → h.Ns C m' → J n ys → compPost (model prog w) A E none Q (.ref D) C (.ok .next) { s₁ with heap := h, toks := tk } := by
    intro h tk m' ys F' N' hn hJ
    refine ⟨m', hn, fun h'' hs'' => fin ys hJ D h'' tk (F'.change hs'' hCL hC₀) (fun p hp => ?_) off.one⟩
    refine ⟨hs''.extBut _ _ ?_ (N' p hp).1, (N' p hp).2⟩
    rcases List.mem_cons.mp hp with rfl | hp
    · exact hDC
    · exact (off3 p hp).2.1
  have loop : codeAny (model prog w) A (.compLoop (.ListComp elt [⟨.Tuple [.Name x px, .Name x₂ px₂] tkk tp, iter, [ct], 0⟩] scope pos) 0 (.ref I) (.ref D) (compEnvC scope cl C env)) (compPost (model prog w) A E none Q (.ref D) C) { s₁ with heap := h₁, toks := s₁.toks + ([] : List (Str × Value)).length } := by
    refine kct_loop (fun k s' => ∃ h' tk i ys m', s' = { s₁ with heap := h', toks := tk } ∧ i ≤ n ∧ k = n + 1 - i ∧ ys.length ≤ i ∧ h'.IsListIter I ax i ∧ Fr h₀ L h' m ∧ h'.Ns C m' ∧ News h₀ L h' ((D, lst ys) :: news) ∧ J i ys) ?_ (n + 1)
      ⟨h₁, _, 0, [], _, rfl, Nat.zero_le _, rfl, Nat.le_refl _, ⟨_, old _ _ hCI hIo, rfl, rfl⟩, F.keeps old₁, hns₁, N1', j0⟩
    rintro k s' ⟨h', tk, i, ys, m', rfl, hi, rfl, hyl, hit, F', hn', N', hJ⟩
    have hst' : h'.IsListIter I ax i ∧ h'.IsList ax vs.toArray := ⟨hit, hax N' fun p hp => .tail _ hp⟩
    have offD : ∀ p ∈ (D, lst ys) :: news, p.1 ≠ I := fun p hp => by
      rcases List.mem_cons.mp hp with rfl | hp
      · exact Ne.symm hDI
      · exact (off3 p hp).1
    by_cases hlt : i < n
    · refine W.item i _ _ _ hlt hst' fun v h₂ tk₂ hPv hst₂ hk₂ => ?_
      obtain ⟨t, t1, t2, hv, hmt⟩ := hsp.tup i hlt
      have ev : v = .ref t := by
        have h1 : vs.toArray[i]? = some v := hPv
        rw [List.getElem?_toArray, hv] at h1
        exact (Option.some.inj h1).symm
      subst ev
      have N₂ : News h₀ L h₂ ((D, lst ys) :: news) := news_but N' hk₂ offD
      have ht : IsTup h₂ t #[.int (sp i).1 t1, .int (sp i).2 t2] := ⟨_, (N₂ _ (List.mem_cons_of_mem _ hmt)).1, rfl, _, rfl⟩
      refine wpAny_letOwnedTupleGo_listiter hst₂.1 ?_
      refine assign_Tuple_tuple hh ht rfl rfl fun h₅ he => ?_
      have he' : ∀ b o, h₂.get? b = some o → h₅.get? b = some o := fun b o e => he b o (Nat.ne_of_lt (Heap.lt_size e)) e
      refine assignInOrder_cons (wpAny_assign_Name (wpAny_storeName_local (lookup_relabel_local hx) ((hn'.at' fun o e => hk₂ _ o (by simpa using Ne.symm hCI) e).at' fun o e => he' _ o e) (fun h₆ hn₆ hs₆ => ?_) (by simp [compEnvC, relabel, hkind])))
      refine assignInOrder_cons (wpAny_assign_Name (wpAny_storeName_local (lookup_relabel_local hx₂) hn₆ (fun h₃ hn₃ hs₃ => ?_) (by simp [compEnvC, relabel, hkind])))
      refine assignInOrder_nil ?_
      have old3 : ∀ b o, b ≠ C → h₂.get? b = some o → h₃.get? b = some o := fun b o hb e => hs₃.extBut b o hb (hs₆.extBut b o hb (he' b o e))
      obtain ⟨oI, heI, hcI⟩ := hst₂.1
      have heI₃ := old3 _ _ hCI heI
      obtain ⟨oC, heC, hoC⟩ := ns_obj hn₃
      have F₃ : Fr h₀ L h₃ m := (((fr_but F' hk₂ hIL hI₀).keeps he').change hs₆ hCL hC₀).change hs₃ hCL hC₀
      have N₃ : News h₀ L h₃ ((I, oI) :: (C, oC) :: (D, lst ys) :: news) := fun p hp => by
        rcases List.mem_cons.mp hp with rfl | hp
        · exact ⟨heI₃, Ne.symm hIL, hI₀⟩
        · rcases List.mem_cons.mp hp with rfl | hp
          · exact ⟨heC, hCL, hC₀⟩
          · have z := N₂ p hp
            refine ⟨old3 _ _ ?_ z.1, z.2⟩
            rcases List.mem_cons.mp hp with rfl | hp
            · exact hDC
            · exact (off3 p hp).2.1
      refine wpAny_mono (turn i ys t1 t2 I oI C oC D _ h₃ _ _ hlt hJ hoC (by simp [hxx]) (by simp) F₃ N₃ off ⟨hCI, hDI, Ne.symm hDC⟩) (fun ok s₄ h₄ => ?_) fun _ _ e => e
      cases ok with
      | true =>
        simp only [if_true] at h₄ ⊢
        refine wpAny_mono h₄ (fun y s₅ h₅ => ?_) fun _ _ e => e
        obtain ⟨h₄, tk₄, _, rfl, F₄, N₄, _, rfl, R₄⟩ := h₅
        have zD := N₄ (D, lst ys) (.tail _ (.tail _ (.head _)))
        refine append_at (hsz := by show ys.toArray.size ≤ sizeLine; rw [List.size_toArray]; exact Nat.le_trans (Nat.le_trans hyl hi) hsz) zD.1 fun h₅ hs₅ hD₅ => ?_
        refine ⟨n + 1 - (i + 1), by lia, h₅, tk₄, i + 1, ys ++ [y], _, rfl, hlt, rfl, by rw [List.length_append, List.length_singleton]; exact Nat.succ_le_succ hyl, ⟨oI, hs₅.extBut _ _ hDI (N₄ (I, oI) (.head _)).1, hcI⟩, F₄.change hs₅ hDL hD₀,
          (hoC.ns (N₄ (C, oC) (.tail _ (.head _))).1).sameBut hs₅ (Ne.symm hDC), fun p hp => ?_, R₄⟩
        rcases List.mem_cons.mp hp with rfl | hp
        · exact ⟨hD₅.trans (congrArg some (lst_snoc ys y)), hDL, hD₀⟩
        · have z := N₄ p (.tail _ (.tail _ (.tail _ hp)))
          exact ⟨hs₅.extBut _ _ (off3 p hp).2.2 z.1, z.2⟩
      | false =>
        simp only [Bool.false_eq_true, if_false] at h₄ ⊢
        obtain ⟨h₅, tk₄, _, rfl, F₄, N₄, _, rfl, R₄⟩ := h₄
        exact ⟨n + 1 - (i + 1), by lia, h₅, tk₄, i + 1, ys, _, rfl, hlt, rfl, Nat.le_succ_of_le hyl, ⟨oI, (N₄ (I, oI) (.head _)).1, hcI⟩, F₄, hoC.ns (N₄ (C, oC) (.tail _ (.head _))).1, fun p hp => N₄ p (.tail _ (.tail _ hp)), R₄⟩
    · obtain rfl : i = n := Nat.le_antisymm hi (Nat.not_lt.mp hlt)
      refine W.done _ _ _ hst' fun h₂ tk₂ hk₂ => ?_
      exact fin' h₂ tk₂ _ ys (fr_but F' hk₂ hIL hI₀) (news_but N' hk₂ offD) (hn'.at' fun o e => hk₂ _ o (by simpa using Ne.symm hCI) e) hJ
  exact codeAny_compStart_list loop (W.self 0 _ _ _ ⟨⟨_, old _ _ hCI hIo, rfl, rfl⟩, hax N1' fun p hp => .tail _ hp⟩ loop)
theorem comp_invP {elt : Expr} {x x₂ : Str} {scope : Scope} {cl : List (Str × Addr)} {S : List (Addr × Obj) → Prop} {P : Nat → Value → Prop} {Fin : List Value → List (Addr × Obj) → Prop} {n : Nat} {news : List (Addr × Obj)}
    (J : Nat → List Value → Prop)
    (turn : ∀ i ys v, i < n → J i ys → P i v → ∃ (t : Addr) (ot : Obj) (v₁ v₂ : Value) (nt : Nat), v = .ref t ∧ (t, ot) ∈ news ∧ ot.cls = .type "tuple" ∧ ot.data = .seq #[v₁, v₂] nt ∧
      ∀ I oI C oC D m₂ h tk (E' : Value → Shared → Prop), NsObj oC m₂ → m₂ x = some v₁ → m₂ x₂ = some v₂ → Fr h₀ L h m → News h₀ L h ((I, oI) :: (C, oC) :: (D, lst ys) :: news) → Off3 I C D news → ((@Ne Nat I C) ∧ (@Ne Nat I D) ∧ (@Ne Nat C D)) →
      wpAny (model prog w) A (eval elt (compEnvC scope cl C env)) (CompEnd h₀ L m { s with heap := h, toks := tk } I oI C oC D (lst ys) S (fun y news' => news' = news ∧ J (i + 1) (ys ++ [y]))) E' { s with heap := h, toks := tk })
    (fin : ∀ ys, J n ys → Fin ys news) :
    ∀ k i ys, i + k = n → J i ys → LCp.CompRestP prog w A h₀ L m env elt x x₂ scope cl s S P Fin k i ys news := by
  intro k
  induction k with
  | zero => intro i ys hi hJ; obtain rfl : i = n := by lia
            exact LCp.CompRestP.zero (fin _ hJ)
  | succ k ih =>
    intro i ys hi hJ
    refine LCp.CompRestP.succ fun v hP => ?_
    obtain ⟨t, ot, v₁, v₂, nt, e1, e2, e3, e4, R⟩ := turn i ys v (by lia) hJ hP
    refine ⟨t, ot, v₁, v₂, nt, e1, e2, e3, e4, fun I oI C oC D m₂ h tk E' hC hx hx2 F N off ne => ?_⟩
    refine wpAny_mono (R I oI C oC D m₂ h tk E' hC hx hx2 F N off ne) (fun y s₂ q => ?_) fun _ _ e => e
    obtain ⟨h', tk', news', e, F', N', o', hS, rfl, r⟩ := q
    exact ⟨h', tk', news', e, F', N', o', hS, ih (i + 1) _ (by lia) r⟩
end
end Mine

namespace Mine
section
variable {prog : Program} {w : World} {A : Around} {E : Value → Shared → Prop} {s : Shared} {h₀ : Heap} {L : Addr} {m : Str → Option Value} {news : List (Addr × Obj)}
/-- less between two pairs of ints -/
theorem pair_lt {x y : Addr} {a b c d : Int} {ta tb tc td : Tok} {Q : Bool → Shared → Prop} (hx : s.heap.get? x = some (tupO [.int a ta, .int b tb])) (hy : s.heap.get? y = some (tupO [.int c tc, .int d td]))
    (hb : 0 ≤ b ∧ b < 16) (hd : 0 ≤ d ∧ d < 16) (h : Q (decide (a * 16 + b < c * 16 + d)) s) : wpAny (model prog w) A (keyLt' (tuples' true) (.ref x) (.ref y)) Q E s := by
  refine kat_lt hx rfl hy rfl ?_
  show KatLex prog w A true false Q [(.int a ta, .int c tc), (.int b tb, .int d td)] 0 s
  refine kat_cons (wpAny_eqBool_int ?_)
  by_cases e : a = c
  · subst e
    rw [beq_self_eq_true]
    refine kat_yes (kat_cons (wpAny_eqBool_int ?_))
    by_cases e2 : b = d
    · subst e2
      rw [beq_self_eq_true]
      refine kat_yes (kat_nil ?_)
      rw [decide_eq_false (by lia)] at h; exact h
    · rw [beq_eq_false_iff_ne.mpr e2]
      refine kat_no ?_
      show wpAny (model prog w) A (oneLt' false _ _) Q _ s
      refine kat_one _ _ (wpAny_lt_int ?_)
      show Q _ s
      rw [show decide (b < d) = decide (a * 16 + b < a * 16 + d) from by rw [decide_eq_decide]; lia]
      exact h
  · rw [beq_eq_false_iff_ne.mpr e]
    refine kat_no ?_
    show wpAny (model prog w) A (oneLt' true _ _) Q _ s
    refine oneLt_int ?_
    rw [show decide (a < c) = decide (a * 16 + b < c * 16 + d) from by rw [decide_eq_decide]; lia]
    exact h
theorem few_sort {a : Addr} {vs : List Value} {n : Nat} {P : PySem.Fin → Shared → Prop} (F : Fr h₀ L s.heap m) (N : News h₀ L s.heap news) (ho : s.heap.get? a = some (seqObj "list" vs.toArray n)) (haL : a ≠ L) (ha0 : h₀.get? a = none) (hna : ∀ p ∈ news, p.1 ≠ a)
    (h2 : vs.length < 2) (h : ∀ e1 h', Fr h₀ L h' m → News h₀ L h' ((a, seqObj "list" vs.toArray e1) :: news) → P (.done (.ret .none)) { s with heap := h' }) :
    wpAny (model prog w) A (Builtin.«list.sort» ⟨[.ref a], []⟩) P E s := by
  have s1 := Heap.SameBut.update s.heap a (Obj.mapSeq fun _ => (#[] : Array Value))
  obtain ⟨e1, ho1⟩ : ∃ e1, (s.heap.update a (Obj.mapSeq fun _ => (#[] : Array Value))).get? a = some (seqObj "list" #[] e1) := ⟨_, get?_update_seq ho fun _ => #[]⟩
  have F3 : Fr h₀ L (((s.heap.update a (Obj.mapSeq fun _ => (#[] : Array Value))).push (seqObj "tuple" vs.toArray 0)).push (seqObj "list" #[] 0)) m := ((kas_fr F s1 haL ha0).push _).push _
  have N2 : News h₀ L (((s.heap.update a (Obj.mapSeq fun _ => (#[] : Array Value))).push (seqObj "tuple" vs.toArray 0)).push (seqObj "list" #[] 0)) news :=
    (kas_news N s1 hna).grown fun b x e => Heap.get?_push_of_some _ (Heap.get?_push_of_some _ e)
  have N3 : News h₀ L (((s.heap.update a (Obj.mapSeq fun _ => (#[] : Array Value))).push (seqObj "tuple" vs.toArray 0)).push (seqObj "list" #[] 0)) ((a, seqObj "list" #[] e1) :: news) := fun p hp => by
    rcases List.mem_cons.mp hp with rfl | hp
    · exact ⟨Heap.get?_push_of_some _ (Heap.get?_push_of_some _ ho1), haL, ha0⟩
    · exact N2 p hp
  have na := N3 (a, seqObj "list" #[] e1) (.head _)
  rw [list_sort_plain]
  refine wpAny_bind (listItems_at ho rfl ?_)
  refine wpAny_bind (listUpdate_at ho rfl ?_ (by rw [List.size_toArray, sizeLine_eq]; lia) (Nat.zero_le _))
  refine wpAny_bind (seqEpoch_at ho1 rfl ?_)
  refine wpAny_bind (wpAny_newTuple ?_ (by show vs.length ≤ _; rw [sizeLine_eq]; lia))
  refine wpAny_bind (wpAny_newList ?_ (Nat.zero_le _))
  refine wpAny_holding ?_
  show wpAny (model prog w) A _ P E { s with heap := ((s.heap.update a (Obj.mapSeq fun _ => (#[] : Array Value))).push (seqObj "tuple" vs.toArray 0)).push (seqObj "list" #[] 0) }
  dsimp only
  have hn2 : vs.toArray.size < 2 := by rw [List.size_toArray]; lia
  rw [if_pos hn2, if_pos hn2]
  refine wpAny_bind (wpAny_pure ?_)
  rw [StateT.run_pure]
  refine wpAny_bind (wpAny_pure ?_)
  dsimp only
  have hout : (arrOf (SortSt.mk' general' (vs.toArray.zip vs.toArray) #[] 7 none)).map (·.2) = vs.toArray := by
    show (vs.toArray.zip vs.toArray).map (·.2) = _
    rw [Array.map_snd_zip (by simp)]
  rw [hout]
  have s2 := Heap.SameBut.update (((s.heap.update a (Obj.mapSeq fun _ => (#[] : Array Value))).push (seqObj "tuple" vs.toArray 0)).push (seqObj "list" #[] 0)) a (Obj.mapSeq fun _ => vs.toArray)
  obtain ⟨c2, hc2⟩ : ∃ c2, ((((s.heap.update a (Obj.mapSeq fun _ => (#[] : Array Value))).push (seqObj "tuple" vs.toArray 0)).push (seqObj "list" #[] 0)).update a (Obj.mapSeq fun _ => vs.toArray)).get? a = some (seqObj "list" vs.toArray c2) := ⟨_, get?_update_seq na.1 fun _ => vs.toArray⟩
  refine wpAny_bind (seqEpoch_at na.1 rfl ?_)
  refine wpAny_bind (listUpdate_at na.1 rfl ?_ (Nat.zero_le _) (by rw [List.size_toArray, sizeLine_eq]; lia))
  simp only [bne_self_eq_false, Bool.false_eq_true, if_false]
  refine wpAny_pure (h c2 _ (kas_fr F3 s2 na.2.1 na.2.2) ?_)
  intro p hp
  rcases List.mem_cons.mp hp with rfl | hp
  · exact ⟨hc2, haL, ha0⟩
  · exact kas_news N2 s2 hna p hp
theorem few_sorted {l : Addr} {vs : List Value} {Q : Value → Shared → Prop} (F : Fr h₀ L s.heap m) (N : News h₀ L s.heap news) (hl : s.heap.IsList l vs.toArray) (h2 : vs.length < 2)
    (h : ∀ D e1 h', Fr h₀ L h' m → News h₀ L h' ((D, seqObj "list" vs.toArray e1) :: news) → (∀ q ∈ news, q.1 < D) → Q (.ref D) { s with heap := h' }) :
    wpAny (model prog w) A (call (.builtin "sorted") [.ref l]) Q E s := by
  refine Calls.call_function_entry kind_sorted plain_sorted entry_sorted (args_sorted1 _) ?_
  unfold Builtin.«sorted»
  refine wpAny_bind (m := checkCount "sorted" 1 1 _) (wpAny_pure ?_)
  refine wpAny_bind (collect_list hl ?_ (by rw [sizeLine_eq]; lia))
  refine wpAny_bind (wpAny_newList ?_ (by rw [sizeLine_eq]; lia))
  have hsz : ((s.heap.push (seqObj "list" #[] 0)).update s.heap.objs.size (Obj.mapSeq (· ++ vs.toArray))).objs.size = s.heap.objs.size + 1 := by
    rw [Heap.size_update, size_push']
  have hoL : (((s.heap.push (seqObj "list" #[] 0)).update s.heap.objs.size (Obj.mapSeq (· ++ vs.toArray))).push (seqObj "list" vs.toArray 0)).get? (s.heap.objs.size + 1) = some (seqObj "list" vs.toArray 0) := by
    rw [← hsz]; exact Heap.get?_push_size _ rfl
  have keep : ∀ b o, s.heap.get? b = some o → (((s.heap.push (seqObj "list" #[] 0)).update s.heap.objs.size (Obj.mapSeq (· ++ vs.toArray))).push (seqObj "list" vs.toArray 0)).get? b = some o := fun b o q => by
    have hlt : b < s.heap.objs.size := Heap.lt_size q
    rw [Heap.get?_push_ne _ _ _ (by rw [hsz]; exact Nat.ne_of_lt (Nat.lt_succ_of_lt hlt)), Heap.get?_update_ne _ _ _ _ (Nat.ne_of_lt hlt), Heap.get?_push_ne _ _ _ (Nat.ne_of_lt hlt)]
    exact q
  have hL : L < s.heap.objs.size := F.ns.lt
  show wpAny _ _ _ _ _ { s with heap := ((s.heap.push (seqObj "list" #[] 0)).update s.heap.objs.size (Obj.mapSeq (· ++ vs.toArray))).push (seqObj "list" vs.toArray 0) }
  rw [hsz]
  refine wpAny_bind (wpAny_holding (wpAny_call_entry slot_list_sort ⟨_, hoL, rfl⟩ entry_list_sort ?body (args_list_sort _)))
  case body =>
    refine few_sort (s := { s with heap := ((s.heap.push (seqObj "list" #[] 0)).update s.heap.objs.size (Obj.mapSeq (· ++ vs.toArray))).push (seqObj "list" vs.toArray 0) })
      (F.kept keep) (N.grown keep) hoL (Nat.ne_of_gt (Nat.lt_succ_of_lt hL)) (Heap.get?_none_of_le (Nat.le_trans F.above (Nat.le_succ_of_le (Nat.le_of_lt hL))))
      (fun p hp => Nat.ne_of_lt (Nat.lt_succ_of_lt (Heap.lt_size (N p hp).1))) h2 fun e1 h' F' N' => ?_
    exact ⟨_, rfl, wpAny_pure ⟨_, rfl, h _ e1 h' F' N' fun q hq => Nat.lt_succ_of_lt (Heap.lt_size (N q hq).1)⟩⟩
theorem katTups_of {h : Heap} : ∀ {vs : List Value}, (∀ v ∈ vs, ∃ a i t u, v = .ref a ∧ h.get? a = some (tupO [.int i t, u])) → ∃ fs, KatTups h vs fs ∧ fs.length = vs.length ∧ ∀ v ∈ fs, ∃ i t, v = Value.int i t := by
  intro vs
  induction vs with
  | nil => intro _; exact ⟨[], trivial, rfl, fun v hv => by cases hv⟩
  | cons v vs ih =>
    intro hv
    obtain ⟨fs, h1, h2, h3⟩ := ih fun v h => hv v (.tail _ h)
    obtain ⟨a, i, t, u, rfl, h4⟩ := hv v (.head _)
    refine ⟨.int i t :: fs, KatTups.cons h4 rfl rfl rfl h1, by simp [h2], fun v hv => ?_⟩
    rcases List.mem_cons.mp hv with rfl | hv
    · exact ⟨i, t, rfl⟩
    · exact h3 v hv
theorem sorted_pairs {l : Addr} {vs : List Value} {e n : Nat} {pr : Nat → Int × Int} {Q : Value → Shared → Prop} (F : Fr h₀ L s.heap m) (N : News h₀ L s.heap news) (hs : SpAt news l n pr vs e) (hn : n < 64)
    (hb : ∀ i, i < n → 0 ≤ (pr i).2 ∧ (pr i).2 < 16) (hinj : ∀ i j, i < n → j < n → (pr i).1 * 16 + (pr i).2 = (pr j).1 * 16 + (pr j).2 → i = j)
    (h : ∀ D p e1 h', Fr h₀ L h' m → News h₀ L h' ((D, W.listOf (p.toList.map fun i => vs.getD i Value.none).toArray e1) :: news) → (∀ q ∈ news, q.1 < D) → PermN n p → Asc (fun i => (pr i).1 * 16 + (pr i).2) p n → Q (.ref D) { s with heap := h' }) :
    wpAny (model prog w) A (call (.builtin "sorted") [.ref l]) Q E s := by
  have hl := News.isList (N := N) hs.list
  by_cases h2 : vs.length < 2
  · refine few_sorted F N hl h2 fun D e1 h' F' N' lt => ?_
    have e0 : ((List.range n).toArray.toList.map fun i => vs.getD i Value.none) = vs := by
      have : n = vs.length := hs.len.symm
      subst this
      rw [List.toList_toArray]
      apply List.ext_getElem (by simp)
      intro i h1 h2
      simp [List.getD, h2]
    refine h D (List.range n).toArray e1 h' F' ?_ lt (Array.Perm.refl _) ?_
    · rw [e0]; exact N'
    · intro i j hij hj
      have := hs.len; lia
  · refine kat_sorted F N hl (by lia) (by rw [hs.len]; exact hn) fun D e1 h' F' N' lt => ?_
    have N0 : News h₀ L h' news := subN N' fun p hp => .tail _ hp
    have tups : ∀ i, i < n → ∃ a t1 t2, vs.getD i Value.none = .ref a ∧ (a, tupO [.int (pr i).1 t1, .int (pr i).2 t2]) ∈ news := fun i hi => by
      obtain ⟨a, t1, t2, h1, h2⟩ := hs.tup i hi
      exact ⟨a, t1, t2, by rw [List.getD_eq_getElem?_getD, h1]; rfl, h2⟩
    obtain ⟨fs, k1, k2, k3⟩ := katTups_of (h := h') (vs := vs) fun v hv => by
      obtain ⟨i, hi, rfl⟩ := List.mem_iff_getElem.mp hv
      obtain ⟨a, t1, t2, h1, h2⟩ := hs.tup i (by rw [← hs.len]; exact hi)
      rw [List.getElem?_eq_getElem hi] at h1
      exact ⟨a, _, t1, _, Option.some.inj h1, (N0 _ h2).1⟩
    refine kat_kind (T := .type "int") k1 (by lia) (fun v hv => by obtain ⟨i, t, rfl⟩ := k3 v hv; exact Looks.now) (by decide) ?_
    rw [show (Value.type "int" != Value.type "tuple") = true by decide, hs.len]
    refine kas_sorts (P := fun s' => s' = { s with heap := h' }) hinj ?_ (by have := hs.len; lia) rfl ?_
    · rintro i j Q' s' hi hj rfl hq
      obtain ⟨a, t1, t2, q1, q2⟩ := tups i hi
      obtain ⟨b, t3, t4, q3, q4⟩ := tups j hj
      unfold kas_ask
      rw [q1, q3]
      exact pair_lt (N0 _ q2).1 (N0 _ q4).1 (hb i hi) (hb j hj) (hq _ rfl)
    · rintro p s' hp ha rfl
      refine KasFin.intro F' N' (UpdF.head fun p hp => Nat.ne_of_lt (lt p hp)) fun h2 c F2 N2 => h D p c h2 F2 N2 lt hp ha
end
end Mine

namespace Mine
open PyProof.Rows.TI (Frs SameUp)
open LCg LCt
/-- the marks -/
noncomputable def mhit (sp : Nat → Int × Int) (mk : List Int) (top : Nat) (i : Nat) : Bool := decide ((sp i).2 = (top : Int) ∧ (mk = [] ∨ mk.getLastD 0 < (sp i).1))
noncomputable def mstep (sp : Nat → Int × Int) (n : Nat) (mk : List Int) (top : Nat) : List Int := if (List.range n).filter (mhit sp mk top) ≠ [] then mk ++ [(top : Int)] else mk
noncomputable def marksTo (sp : Nat → Int × Int) (n k : Nat) : List Int := (List.range k).foldl (mstep sp n) []
noncomputable def marks (sp : Nat → Int × Int) (n : Nat) : List Int := marksTo sp n 17
noncomputable def cnt (sp : Nat → Int × Int) (n i : Nat) : Nat := ((marks sp n).filter fun x => decide (x < (sp i).1)).length
noncomputable def waits (sp : Nat → Int × Int) (ah : List Nat) (i : Nat) : List Nat := (List.range ah.length).filter fun p => decide ((sp (ah.getD p 0)).2 < (sp i).1)
noncomputable def late (sp : Nat → Int × Int) (ah : List Nat) (i : Nat) : Int := ((waits sp ah i).map Int.ofNat).foldl max (-1)
noncomputable def key (sp : Nat → Int × Int) (ah : List Nat) (i : Nat) : Int := late sp ah i * 16 + (i : Int)
noncomputable def freshL (sp : Nat → Int × Int) (n k : Nat) : List Nat := (List.range n).filter fun i => decide (cnt sp n i = k)
noncomputable def DueFrom (sp : Nat → Int × Int) (n : Nat) : Nat → List Nat → List (List Nat) → Prop
  | _, _, [] => True
  | k, ah, r :: rs => r.Perm (freshL sp n k) ∧ r.Pairwise (fun a b => key sp ah a < key sp ah b) ∧ DueFrom sp n (k + 1) r rs
theorem DueFrom.snoc {sp : Nat → Int × Int} {n : Nat} {r : List Nat} : ∀ {rs : List (List Nat)} {k : Nat} {ah : List Nat}, DueFrom sp n k ah rs → r.Perm (freshL sp n (k + rs.length)) → r.Pairwise (fun a b => key sp (rs.getLastD ah) a < key sp (rs.getLastD ah) b) → DueFrom sp n k ah (rs ++ [r]) := by
  intro rs
  induction rs with
  | nil => intro k ah _ h1 h2; exact ⟨h1, h2, trivial⟩
  | cons q rs ih =>
    intro k ah h h1 h2
    refine ⟨h.1, h.2.1, ih h.2.2 ?_ ?_⟩
    · rw [List.length_cons] at h1; rw [show k + 1 + rs.length = k + (rs.length + 1) by lia]; exact h1
    · rw [List.getLastD_cons] at h2; exact h2
theorem ints_last : ∀ {vs : List Value} {ns : List Int}, IntsAre vs ns → ns ≠ [] → ∃ us t, vs = us ++ [Value.int (ns.getLastD 0) t] := by
  intro vs ns h
  induction h with
  | nil => intro h; exact absurd rfl h
  | @cons a t vs ns r ih =>
    intro _
    cases ns with
    | nil => cases r; exact ⟨[], t, rfl⟩
    | cons b ns =>
      obtain ⟨us, t', e⟩ := ih (by simp)
      exact ⟨.int a t :: us, t', by rw [e]; rfl⟩
theorem off_addr {l l' : List (Addr × Obj)} {I : Addr} (h : ∀ p ∈ l, p.1 ≠ I) (e : l.map (·.1) = l'.map (·.1)) : ∀ p ∈ l', p.1 ≠ I := by
  intro p hp
  have h1 : p.1 ∈ l'.map (·.1) := List.mem_map_of_mem hp
  rw [← e] at h1
  obtain ⟨q, hq, e2⟩ := List.mem_map.mp h1
  rw [← e2]; exact h q hq
theorem memU1 {α : Type} {a g M c5 c4 c3 c2 c1 : α} {r : List α} : ∀ p ∈ g :: M :: c5 :: c4 :: c3 :: c2 :: c1 :: ([a] ++ r), p ∈ a :: g :: M :: c5 :: c4 :: c3 :: c2 :: c1 :: r := by
  intro p hp
  simp only [List.mem_cons, List.mem_append, List.not_mem_nil, or_false] at hp ⊢
  grind
theorem m9 {α : Type} {a b c d e f g h i p : α} {r : List α} (hm : p ∈ r) : p ∈ a :: b :: c :: d :: e :: f :: g :: h :: i :: r := by simp [hm]
noncomputable def PrsAt (led : List (Addr × Obj)) : List Value → List (Int × Int) → Prop
  | [], [] => True
  | v :: vs, p :: ps => (∃ a t1 t2, v = .ref a ∧ (a, tupO [.int p.1 t1, .int p.2 t2]) ∈ led) ∧ PrsAt led vs ps
  | _, _ => False
theorem PrsAt.mono {l l' : List (Addr × Obj)} (hs : ∀ p ∈ l, p ∈ l') : ∀ {vs : List Value} {ps : List (Int × Int)}, PrsAt l vs ps → PrsAt l' vs ps := by
  intro vs
  induction vs with
  | nil => intro ps h; cases ps with | nil => trivial | cons _ _ => exact h.elim
  | cons v vs ih =>
    intro ps h
    cases ps with
    | nil => exact h.elim
    | cons p ps =>
      obtain ⟨⟨a, t1, t2, h1, h2⟩, h3⟩ := h
      exact ⟨⟨a, t1, t2, h1, hs _ h2⟩, ih h3⟩
theorem PrsAt.snoc {l : List (Addr × Obj)} {a : Addr} {p : Int × Int} {t1 t2 : Tok} (ha : (a, tupO [.int p.1 t1, .int p.2 t2]) ∈ l) : ∀ {vs : List Value} {ps : List (Int × Int)}, PrsAt l vs ps → PrsAt l (vs ++ [.ref a]) (ps ++ [p]) := by
  intro vs
  induction vs with
  | nil => intro ps h; cases ps with | nil => exact ⟨⟨a, t1, t2, rfl, ha⟩, trivial⟩ | cons _ _ => exact h.elim
  | cons v vs ih =>
    intro ps h
    cases ps with
    | nil => exact h.elim
    | cons p ps => exact ⟨h.1, ih h.2⟩
theorem PrsAt.spAt {l : List (Addr × Obj)} {FL : Addr} {ef : Nat} {fv : List Value} {ps : List (Int × Int)} (h : PrsAt l fv ps) (hm : (FL, W.listOf fv.toArray ef) ∈ l) : SpAt l FL ps.length (fun i => ps.getD i (0, 0)) fv ef := by
  have key : ∀ {vs : List Value} {ps : List (Int × Int)}, PrsAt l vs ps → vs.length = ps.length ∧ ∀ i, i < ps.length → ∃ a t1 t2, vs[i]? = some (.ref a) ∧ (a, tupO [.int (ps.getD i (0, 0)).1 t1, .int (ps.getD i (0, 0)).2 t2]) ∈ l := by
    intro vs
    induction vs with
    | nil => intro ps h; cases ps with | nil => exact ⟨rfl, fun i hi => absurd hi (Nat.not_lt_zero _)⟩ | cons _ _ => exact h.elim
    | cons v vs ih =>
      intro ps h
      cases ps with
      | nil => exact h.elim
      | cons p ps =>
        obtain ⟨⟨a, t1, t2, h1, h2⟩, h3⟩ := h
        obtain ⟨k1, k2⟩ := ih h3
        refine ⟨by simp [k1], fun i hi => ?_⟩
        cases i with
        | zero => exact ⟨a, t1, t2, by rw [h1]; rfl, h2⟩
        | succ i =>
          obtain ⟨a, t1, t2, q1, q2⟩ := k2 i (by simpa using hi)
          exact ⟨a, t1, t2, by simpa using q1, by simpa using q2⟩
  exact ⟨hm, (key h).1, (key h).2⟩
theorem m13 {α : Type} {a b c d e f g h i j k l q p : α} {r : List α} (hm : p ∈ r) : p ∈ a :: b :: c :: d :: e :: f :: g :: h :: i :: j :: k :: l :: q :: r := by simp [hm]
theorem add1 {h₀ h : Heap} {L : Addr} {a : Addr × Obj} {r : List (Addr × Obj)} (h1 : a ∈ r) (N : News h₀ L h r) : News h₀ L h (a :: r) := subN N fun p hp => by
  rcases List.mem_cons.mp hp with rfl | hp
  · exact h1
  · exact hp
theorem ints_get : ∀ {vs : List Value} {ns : List Int}, IntsAre vs ns → ∀ {k : Nat} {v : Value}, vs[k]? = some v → ∃ m t, ns[k]? = some m ∧ v = .int m t := by
  intro vs ns h
  induction h with
  | nil => intro k v hk; simp at hk
  | @cons a t vs ns r ih =>
    intro k v hk
    cases k with
    | zero => exact ⟨a, t, rfl, by simpa using hk.symm⟩
    | succ k => simpa using ih (by simpa using hk)
theorem take_snoc {α : Type} {l : List α} {k : Nat} {a : α} (h : l[k]? = some a) : l.take (k + 1) = l.take k ++ [a] := by
  rw [List.take_add_one, h]; rfl
theorem marksTo_succ (sp : Nat → Int × Int) (n k : Nat) : marksTo sp n (k + 1) = mstep sp n (marksTo sp n k) k := by
  unfold marksTo; rw [List.range_succ, List.foldl_append]; rfl
theorem marksTo_len (sp : Nat → Int × Int) (n : Nat) : ∀ k, (marksTo sp n k).length ≤ k := by
  intro k
  induction k with
  | zero => exact Nat.le_refl _
  | succ k ih =>
    rw [marksTo_succ, mstep]
    split
    · rw [List.length_append]; simp; lia
    · lia
theorem DueFrom.last {sp : Nat → Int × Int} {n : Nat} : ∀ {rs : List (List Nat)} {k : Nat} {ah : List Nat}, DueFrom sp n k ah rs → (∀ a ∈ ah, a < n) → ah.length ≤ n → (∀ a ∈ rs.getLastD ah, a < n) ∧ (rs.getLastD ah).length ≤ n := by
  intro rs
  induction rs with
  | nil => intro k ah _ h1 h2; exact ⟨h1, h2⟩
  | cons r rs ih =>
    intro k ah h h1 h2
    rw [List.getLastD_cons]
    refine ih h.2.2 (fun a ha => ?_) ?_
    · exact List.mem_range.mp (List.mem_filter.mp (h.1.mem_iff.mp ha)).1
    · rw [h.1.length_eq]
      have := List.length_filter_le (fun i => decide (cnt sp n i = k)) (List.range n)
      rwa [List.length_range] at this
theorem sub_tup {prog : Program} {w : World} {A : Around} {E : Value → Shared → Prop} {s : Shared} {value slice : PySem.Expr} {l : Addr} {vs : List Value} {k : Int} {u : Tok} {v : Value} {Q : Value → Shared → Prop}
    (hl : IsTup s.heap l vs.toArray) (h0 : 0 ≤ k) (hhi : k < 2 ^ 63) (hx : vs[k.toNat]? = some v) (h : Q v s)
    (hs : subscripted slice false (.ref l) (.int k u) = operate [.ref l, .int k u] (getItem (.ref l) (.int k u)) := by with_unfolding_all rfl) :
    wpAny (model prog w) A (subscriptTail value slice (.ref l) (.int k u)) Q E s := by
  have hn : k < ((vs.toArray.size : Nat) : Int) := by
    have : k.toNat < vs.length := by
      rcases Nat.lt_or_ge k.toNat vs.length with h | h
      · exact h
      · rw [List.getElem?_eq_none h] at hx; cases hx
    rw [List.size_toArray]; lia
  exact tail_any hl.typeIs F.slot_tuple_getitem.lookup (PyProof.Rows.getItem_tuple hl (by lia) hhi (seqIndex_of h0 hn) (by simpa using hx) h) hs
theorem frange (P : Nat → Prop) [DecidablePred P] (k : Nat) : (List.range (k + 1)).filter (fun i => decide (P i)) = ((List.range k).filter fun i => decide (P i)) ++ if P k then [k] else [] := by
  rw [List.range_succ, List.filter_append]
  by_cases h0 : P k <;> simp [h0]
theorem foldl_max_mem : ∀ (l : List Int) (a : Int), (l.foldl max a = a ∨ l.foldl max a ∈ l) ∧ a ≤ l.foldl max a ∧ ∀ x ∈ l, x ≤ l.foldl max a := by
  intro l
  induction l with
  | nil => intro a; exact ⟨.inl rfl, Int.le_refl _, fun x hx => by cases hx⟩
  | cons b l ih =>
    intro a
    obtain ⟨h1, h2, h3⟩ := ih (max a b)
    simp only [List.foldl_cons]
    refine ⟨?_, by lia, fun x hx => ?_⟩
    · rcases h1 with h1 | h1
      · by_cases q : a ≤ b
        · right; rw [h1, Int.max_eq_right q]; exact .head _
        · left; rw [h1, Int.max_eq_left (by lia)]
      · exact .inr (.tail _ h1)
    · rcases List.mem_cons.mp hx with rfl | hx
      · lia
      · exact h3 x hx
theorem late_eq {sp : Nat → Int × Int} {ah : List Nat} {i : Nat} {M : Int} (h1 : M ∈ [-1] ++ (waits sp ah i).map Int.ofNat) (h2 : ∀ a, a ∈ [-1] ++ (waits sp ah i).map Int.ofNat → a ≤ M) : M = late sp ah i := by
  obtain ⟨k1, k2, k3⟩ := foldl_max_mem ((waits sp ah i).map Int.ofNat) (-1)
  have a1 : late sp ah i ≤ M := by
    rcases k1 with k | k
    · unfold late; rw [k]; exact h2 _ (List.mem_append_left _ (.head _))
    · exact h2 _ (List.mem_append_right _ k)
  have a2 : M ≤ late sp ah i := by
    rcases List.mem_append.mp h1 with h | h
    · rw [List.mem_singleton.mp h]; exact k2
    · exact k3 _ h
  lia
theorem memV1 {α : Type} {t i a b c d e f g h k : α} {ft r : List α} : ∀ p ∈ a :: b :: c :: d :: e :: f :: g :: h :: k :: ((t :: ft) ++ r), p ∈ t :: i :: a :: b :: c :: d :: e :: f :: g :: h :: k :: (ft ++ r) := by
  intro p hp
  simp only [List.mem_cons, List.mem_append] at hp ⊢
  grind
theorem memV2 {α : Type} {t a b c d e f g h k : α} {ft r : List α} : ∀ p ∈ a :: b :: c :: d :: e :: f :: g :: h :: k :: ((t :: ft) ++ r), p = t ∨ p ∈ a :: b :: c :: d :: e :: f :: g :: h :: k :: (ft ++ r) := by
  intro p hp
  simp only [List.mem_cons, List.mem_append] at hp ⊢
  grind
theorem off_addr' {l l' : List (Addr × Obj)} {I : Addr} {p : Addr × Obj} (hp : p ∈ l') (h : ∀ p ∈ l, p.1 ≠ I) (e : l.map (·.1) = l'.map (·.1)) : p.1 ≠ I := off_addr h e p hp
theorem memX1 {α : Type} {d lr sd fl a b c e f g h k : α} {ft r : List α} : ∀ p ∈ d :: a :: b :: c :: e :: f :: g :: h :: k :: r, p ∈ d :: lr :: sd :: fl :: a :: b :: c :: e :: f :: g :: h :: k :: (ft ++ r) := by
  intro p hp
  simp only [List.mem_cons, List.mem_append] at hp ⊢
  grind
theorem map_getD (l : List Nat) : (List.range l.length).map (fun q => l.getD q 0) = l := by
  apply List.ext_getElem (by simp)
  intro i h1 h2
  simp [List.getD, h2]
theorem memX2 {α : Type} {t i a b c d e f g : α} {ft r : List α} : ∀ p ∈ a :: b :: c :: d :: e :: f :: g :: ((t :: ft) ++ r), p ∈ t :: i :: a :: b :: c :: d :: e :: f :: g :: (ft ++ r) := by
  intro p hp
  simp only [List.mem_cons, List.mem_append] at hp ⊢
  grind
theorem memX3 {α : Type} {t a b c d e f g : α} {ft r : List α} : ∀ p ∈ a :: b :: c :: d :: e :: f :: g :: ((t :: ft) ++ r), p = t ∨ p ∈ a :: b :: c :: d :: e :: f :: g :: (ft ++ r) := by
  intro p hp
  simp only [List.mem_cons, List.mem_append] at hp ⊢
  grind
theorem memX4 {α : Type} {a b c d e f g l : α} {ft r : List α} : ∀ p ∈ (a :: (ft ++ r)) ++ [l], p ∈ a :: b :: c :: d :: e :: f :: g :: (ft ++ (r ++ [l])) := by
  intro p hp
  simp only [List.mem_cons, List.mem_append] at hp ⊢
  grind
theorem memX5 {α : Type} {a : α} {ft r fs : List α} : ∀ p ∈ (a :: ft) ++ r, p ∈ (a :: (ft ++ r)) ++ fs := by
  intro p hp
  simp only [List.mem_cons, List.mem_append] at hp ⊢
  grind
theorem getD_mem {l : List Nat} {k : Nat} (h : k < l.length) : l.getD k 0 ∈ l := by
  rw [List.getD_eq_getElem?_getD, List.getElem?_eq_getElem h]; exact List.getElem_mem h
theorem nodup_getD {l : List Nat} (hn : l.Nodup) {a b : Nat} (ha : a < l.length) (hb : b < l.length) (e : l.getD a 0 = l.getD b 0) : a = b := by
  rw [List.getD_eq_getElem?_getD, List.getElem?_eq_getElem ha, List.getD_eq_getElem?_getD, List.getElem?_eq_getElem hb] at e
  exact (List.getElem_inj hn).mp e
section
variable {w : World} {h₀ : Heap} {L : Addr} {m mg mb : Str → Option Value} {s : Shared} {mean : ExcName → Option Value} {Q : Value → Shared → Prop} {E : Value → Shared → Prop}
theorem due_ok (KX : (heapK w.params).In h₀) (T : Top viewK loo mean mg mb h₀) (F : Fr h₀ L s.heap m) 
  {SP : Addr} {n : Nat} {sp : Nat → Int × Int} {tv : List Value} {eS : Nat} {rest : List (Addr × Obj)}
  (N : News h₀ L s.heap rest) (hsp : SpAt rest SP n sp tv eS) (hn : n ≤ 11)
  (hQ : ∀ GV gs e res rs h' tk, (GV, W.listOf (gs.map Value.ref).toArray e) ∈ res → rs.length = (marks sp n).length → DueFrom sp n 0 [] rs → TupsAt res gs rs → (∀ p ∈ res, ∀ q ∈ rest, p.1 ≠ q.1) → Fr h₀ L h' m → News h₀ L h' (res ++ rest) → Q (.ref GV) { s with heap := h', toks := tk }) :
  wpAny (model prg w) (lv 310 1000) (call (.ref 172) [.ref SP] []) Q E s := by
  refine wpAny_call ?_
  refine' enterFC (binds := [(Str.ofString "spans", .ref SP)]) (frs := []) F (by rw [List.append_nil]; exact N) KX T ?k6 ?k7 ?k8 ?k9 ?kB ?kD ?_ ?c2 ?c3 ?c4
  case k6 => k_is
  case k7 => k_is
  case k8 => exact (show (310 : Nat) < recursionLimit by decide)
  case k9 => exact BindsTo.of_eq rfl
  case kB => exact rfl
  case kD => decide +kernel
  case c2 => exact rfl
  case c3 => exact rfl
  case c4 => exact rfl
  dsimp only [fB, fS, fA, met, stm, PySem.Challenge.pw_mj0230_01, List.drop]
  intro oL L' h₁ tk cells hoL F N Y hlt hLL hneL
  k_cells Y
  (try dsimp only); (try k_fold)
  simp only [List.cons_append, List.nil_append, List.append_assoc] at N
  rename_i o1 o2 o3 o4 o5 d1 d2 d3 d4 d5
  have low : ∀ p ∈ rest ++ [(L, oL)], p.1 < L' := fun p hp => by
    rcases List.mem_append.mp hp with hp | hp
    · exact hlt p (List.mem_append_left _ hp)
    · rw [List.mem_singleton.mp hp]; exact hLL
  have b1 : ∀ p ∈ rest ++ [(L, oL)], p.1 ≠ L' + 1 := fun p hp => Nat.ne_of_lt (Nat.lt_succ_of_lt (low p hp))
  have b2 : ∀ p ∈ rest ++ [(L, oL)], p.1 ≠ L' + 1 + 1 := fun p hp => Nat.ne_of_lt (Nat.lt_succ_of_lt (Nat.lt_succ_of_lt (low p hp)))
  have b3 : ∀ p ∈ rest ++ [(L, oL)], p.1 ≠ L' + 1 + 1 + 1 := fun p hp => Nat.ne_of_lt (Nat.lt_succ_of_lt (Nat.lt_succ_of_lt (Nat.lt_succ_of_lt (low p hp))))
  have b4 : ∀ p ∈ rest ++ [(L, oL)], p.1 ≠ L' + 1 + 1 + 1 + 1 := fun p hp => Nat.ne_of_lt (Nat.lt_succ_of_lt (Nat.lt_succ_of_lt (Nat.lt_succ_of_lt (Nat.lt_succ_of_lt (low p hp)))))
  have b5 : ∀ p ∈ rest ++ [(L, oL)], p.1 ≠ L' + 1 + 1 + 1 + 1 + 1 := fun p hp => Nat.ne_of_lt (Nat.lt_succ_of_lt (Nat.lt_succ_of_lt (Nat.lt_succ_of_lt (Nat.lt_succ_of_lt (Nat.lt_succ_of_lt (low p hp))))))
  have rest_sub : ∀ {p : Addr × Obj}, p ∈ rest → p ∈ rest ++ [(L, oL)] := fun hp => List.mem_append_left _ hp
  have hsp' : SpAt (rest ++ [(L, oL)]) SP n sp tv eS := hsp.mono fun p hp => rest_sub hp
  iterate 7 ((try (first | with_reducible refine Mine.hide_loop fun QhL hQhL => ?_ | with_reducible refine Mine.hide_comp fun QhC hQhC => ?_)); (first | walk1 | (dsimp only; walk1) | (refine hQhC _ _ ?_; clear hQhC; try clear QhC) | (refine hQhL _ _ ?_; clear hQhL; try clear QhL)); try dsimp only)
  rename_i M hh1 l1M hh2 oM F2 N2 hoM
  have q1 := ltN l1M.1
  have bM : ∀ p ∈ rest ++ [(L, oL)], p.1 ≠ M := fun p hp => Nat.ne_of_lt (allLt_lt l1M.2.2.2.2.2 p hp)
  refine For_turns F2 ?_
  iterate 7 ((try (first | with_reducible refine Mine.hide_loop fun QhL hQhL => ?_ | with_reducible refine Mine.hide_comp fun QhC hQhC => ?_)); (first | walk1 | (dsimp only; walk1) | (refine hQhC _ _ ?_; clear hQhC; try clear QhC) | (refine hQhL _ _ ?_; clear hQhL; try clear QhL)); try dsimp only)
  rename IsRange _ _ _ _ _ _ _ _ => hR2
  refine turnsR (n := 17) [] (fun i u nx => ∃ oT mv e, (∃ v, oT.data = .cell v) ∧ IntsAre mv (marksTo sp n i) ∧
    nx = (M, W.listOf mv.toArray e) :: (L' + 1 + 1 + 1 + 1 + 1, o1) :: (L' + 1 + 1 + 1 + 1, o2) :: (L' + 1 + 1 + 1, oT) :: (L' + 1 + 1, oM) :: (L' + 1, o5) :: (rest ++ [(L, oL)])) rfl hR2 (by decide) (by decide) (by k_asm) (by k_asm) ?_ ?_ ?_
  · exact ⟨o3, [], 0, ⟨_, d3⟩, .nil, rfl⟩
  · rintro i t u nx h tk I oI hi hI off ⟨oT, mv, e, ⟨von, hon⟩, hmv, rfl⟩ F N
    replace F : Fr h₀ L' _ _ := F
    replace N : News h₀ L' _ _ := N
    have hIT := neN (off (L' + 1 + 1 + 1, oT) (.tail _ (.tail _ (.tail _ (.head _)))))
    have hIM := neN (off (M, W.listOf mv.toArray e) (.head _))
    iterate 5 ((try (first | with_reducible refine Mine.hide_loop fun QhL hQhL => ?_ | with_reducible refine Mine.hide_comp fun QhC hQhC => ?_)); (first | walk1 | (dsimp only; walk1) | (refine hQhC _ _ ?_; clear hQhC; try clear QhC) | (refine hQhL _ _ ?_; clear hQhL; try clear QhL)); try dsimp only)
    refine ListComp_PT (h₀ := h₀) (L := L') (fun k ys => IntsAre ys (((List.range k).filter (mhit sp (marksTo sp n i) i)).map fun j => (sp j).1)) (by k_asm) (by with_unfolding_all rfl) (by decide) (by rfl) (by decide) (by rfl) (by rfl) (by decide) ?_
    iterate 1 ((try (first | with_reducible refine Mine.hide_loop fun QhL hQhL => ?_ | with_reducible refine Mine.hide_comp fun QhC hQhC => ?_)); (first | walk1 | (dsimp only; walk1) | (refine hQhC _ _ ?_; clear hQhC; try clear QhC) | (refine hQhL _ _ ?_; clear hQhL; try clear QhL)); try dsimp only)
    rename News _ _ _ _ => N5
    rename Fr _ _ _ _ => F5
    refine ⟨SP, tv, eS, n, sp, _, rfl, rfl, F5, N5, hsp'.mono fun p hp => m7 hp, by rw [sizeLine_eq]; lia, .nil, ?_, ?_⟩
    · intro k ys t1 t2 I2 oI2 C oC Dd m₂ h tk' E' hk hys hC hx hx2 F N off2 ne
      clear F5 N5
      iterate 6 ((try (first | with_reducible refine Mine.hide_loop fun QhL hQhL => ?_ | with_reducible refine Mine.hide_comp fun QhC hQhC => ?_)); (first | walk1 | (dsimp only; walk1) | (refine hQhC _ _ ?_; clear hQhC; try clear QhC) | (refine hQhL _ _ ?_; clear hQhL; try clear QhL)); try dsimp only)
      have e1 : ((List.range (k + 1)).filter (mhit sp (marksTo sp n i) i)) = ((List.range k).filter (mhit sp (marksTo sp n i) i)) ++ if mhit sp (marksTo sp n i) i k = true then [k] else [] := by
        rw [List.range_succ, List.filter_append]
        by_cases h0 : mhit sp (marksTo sp n i) i k = true <;> simp [h0]
      by_cases hc : (sp k).2 = 0 + (i : Int)
      · refine ite_pos (beq_iff_eq.mpr hc) ?_
        iterate 7 ((try (first | with_reducible refine Mine.hide_loop fun QhL hQhL => ?_ | with_reducible refine Mine.hide_comp fun QhC hQhC => ?_)); (first | walk1 | (dsimp only; walk1) | (refine hQhC _ _ ?_; clear hQhC; try clear QhC) | (refine hQhL _ _ ?_; clear hQhL; try clear QhL)); try dsimp only)
        rename News _ _ _ _ => N6
        rename Fr _ _ _ _ => F6
        refine eq_intsK (News.isList (N := N6) (by k_mem)) hmv (News.isList (N := N6) (.head _)) .nil (Nat.le_of_ble_eq_true rfl) ?_
        try dsimp only
        by_cases hm0 : marksTo sp n i = []
        · rw [decide_eq_true hm0]
          iterate 7 ((try (first | with_reducible refine Mine.hide_loop fun QhL hQhL => ?_ | with_reducible refine Mine.hide_comp fun QhC hQhC => ?_)); (first | walk1 | (dsimp only; walk1) | (refine hQhC _ _ ?_; clear hQhC; try clear QhC) | (refine hQhL _ _ ?_; clear hQhL; try clear QhL)); try dsimp only)
          refine CompEnd.intro (by k_asm) N6 _ (fun p hp => .tail _ hp) off2 rfl ?_
          rw [e1, if_pos (by unfold mhit; rw [decide_eq_true_eq]; exact ⟨by lia, .inl hm0⟩), List.map_append]
          exact hys.append (.cons _ _ .nil)
        · rw [decide_eq_false hm0]
          iterate 10 ((try (first | with_reducible refine Mine.hide_loop fun QhL hQhL => ?_ | with_reducible refine Mine.hide_comp fun QhC hQhC => ?_)); (first | walk1 | (dsimp only; walk1) | (refine hQhC _ _ ?_; clear hQhC; try clear QhC) | (refine hQhL _ _ ?_; clear hQhL; try clear QhL)); try dsimp only)
          obtain ⟨us, tl, rfl⟩ := ints_last hmv hm0
          refine sub_last (vs := us) (News.isList (N := N6) (by k_mem)) ?_
          try dsimp only
          iterate 2 ((try (first | with_reducible refine Mine.hide_loop fun QhL hQhL => ?_ | with_reducible refine Mine.hide_comp fun QhC hQhC => ?_)); (first | walk1 | (dsimp only; walk1) | (refine hQhC _ _ ?_; clear hQhC; try clear QhC) | (refine hQhL _ _ ?_; clear hQhL; try clear QhL)); try dsimp only)
          by_cases hl : (marksTo sp n i).getLastD 0 < (sp k).1
          · refine ite_pos (by simpa using hl) ?_
            iterate 5 ((try (first | with_reducible refine Mine.hide_loop fun QhL hQhL => ?_ | with_reducible refine Mine.hide_comp fun QhC hQhC => ?_)); (first | walk1 | (dsimp only; walk1) | (refine hQhC _ _ ?_; clear hQhC; try clear QhC) | (refine hQhL _ _ ?_; clear hQhL; try clear QhL)); try dsimp only)
            refine CompEnd.intro (by k_asm) N6 _ (fun p hp => .tail _ hp) off2 rfl ?_
            rw [e1, if_pos (by unfold mhit; rw [decide_eq_true_eq]; exact ⟨by lia, .inr hl⟩), List.map_append]
            exact hys.append (.cons _ _ .nil)
          · refine ite_neg (by simpa using hl) ?_
            iterate 3 ((try (first | with_reducible refine Mine.hide_loop fun QhL hQhL => ?_ | with_reducible refine Mine.hide_comp fun QhC hQhC => ?_)); (first | walk1 | (dsimp only; walk1) | (refine hQhC _ _ ?_; clear hQhC; try clear QhC) | (refine hQhL _ _ ?_; clear hQhL; try clear QhL)); try dsimp only)
            refine CompEnd.intro (by k_asm) N6 _ (fun p hp => .tail _ hp) off2 rfl ?_
            rw [e1, if_neg (by unfold mhit; rw [decide_eq_true_eq]; rintro ⟨_, h⟩; exact h.elim hm0 hl), List.append_nil]
            exact hys
      · refine ite_neg (fun h => hc (beq_iff_eq.mp h)) ?_
        refine ite_neg (by decide) ?_
        refine CompEnd.intro F N _ (fun p hp => hp) off2 rfl ?_
        rw [e1, if_neg (by unfold mhit; simp only [decide_eq_true_eq]; rintro ⟨h, _⟩; exact hc (by lia)), List.append_nil]
        exact hys
    · intro ys hys
      intro LC h tk' F N offL
      clear F5 N5
      iterate 3 ((try (first | with_reducible refine Mine.hide_loop fun QhL hQhL => ?_ | with_reducible refine Mine.hide_comp fun QhC hQhC => ?_)); (first | walk1 | (dsimp only; walk1) | (refine hQhC _ _ ?_; clear hQhC; try clear QhC) | (refine hQhL _ _ ?_; clear hQhL; try clear QhL)); try dsimp only)
      rename News _ _ _ _ => N6
      refine ne_intsK (News.isList (N := N6) (.tail _ (.head _))) hys (News.isList (N := N6) (.head _)) .nil (Nat.le_of_ble_eq_true rfl) ?_
      try dsimp only
      by_cases hm0 : (((List.range n).filter (mhit sp (marksTo sp n i) i)).map fun j => (sp j).1) = []
      · rw [decide_eq_true hm0]
        iterate 5 ((try (first | with_reducible refine Mine.hide_loop fun QhL hQhL => ?_ | with_reducible refine Mine.hide_comp fun QhC hQhC => ?_)); (first | walk1 | (dsimp only; walk1) | (refine hQhC _ _ ?_; clear hQhC; try clear QhC) | (refine hQhL _ _ ?_; clear hQhL; try clear QhL)); try dsimp only)
        rename_i oT2 _ _ _ _ _
        refine LEnd.intro ((M, W.listOf mv.toArray e) :: (L' + 1 + 1 + 1 + 1 + 1, o1) :: (L' + 1 + 1 + 1 + 1, o2) :: (L' + 1 + 1 + 1, oT2) :: (L' + 1 + 1, oM) :: (L' + 1, o5) :: (rest ++ [(L, oL)])) (by k_asm) N6 MapOff.base (fun p hp => .tail _ (.tail _ (.tail _ hp))) (.tail _ (.tail _ (.head _))) ?_ ⟨oT2, mv, e, ⟨_, by assumption⟩, ?_, rfl⟩
        · exact off_addr off rfl
        · rw [marksTo_succ, mstep, if_neg (fun h => h (List.map_eq_nil_iff.mp hm0))]; exact hmv
      · rw [decide_eq_false hm0]
        iterate 11 ((try (first | with_reducible refine Mine.hide_loop fun QhL hQhL => ?_ | with_reducible refine Mine.hide_comp fun QhC hQhC => ?_)); (first | walk1 | (dsimp only; walk1) | (refine hQhC _ _ ?_; clear hQhC; try clear QhC) | (refine hQhL _ _ ?_; clear hQhL; try clear QhL)); try dsimp only)
        replace N6 := subN N6 fun p hp => .tail _ (.tail _ hp)
        refine append_F (by k_asm) N6 (by k_updF) ?_ ?_
        · have h1 := hmv.length
          have h2 := marksTo_len sp n i
          lia
        intro h' F7 N7
        clear N6
        iterate 4 ((try (first | with_reducible refine Mine.hide_loop fun QhL hQhL => ?_ | with_reducible refine Mine.hide_comp fun QhC hQhC => ?_)); (first | walk1 | (dsimp only; walk1) | (refine hQhC _ _ ?_; clear hQhC; try clear QhC) | (refine hQhL _ _ ?_; clear hQhL; try clear QhL)); try dsimp only)
        refine LEnd.intro _ (by k_asm) N7 MapOff.base (fun p hp => .tail _ hp) (.head _) ?_ ⟨_, _, _, ⟨_, by assumption⟩, ?_, rfl⟩
        · exact off_addr off rfl
        · rw [marksTo_succ, mstep, if_pos (fun h => hm0 (List.map_eq_nil_iff.mpr h))]
          exact hmv.append (by rw [Int.zero_add]; exact .cons _ _ .nil)
  · rintro u nx h tk ⟨oT, mv, e, ⟨von, hon⟩, hmv, rfl⟩ F N
    replace F : Fr h₀ L' _ _ := F
    replace N : News h₀ L' _ _ := N
    iterate 14 ((try (first | with_reducible refine Mine.hide_loop fun QhL hQhL => ?_ | with_reducible refine Mine.hide_comp fun QhC hQhC => ?_)); (first | walk1 | (dsimp only; walk1) | (refine hQhC _ _ ?_; clear hQhC; try clear QhC) | (refine hQhL _ _ ?_; clear hQhL; try clear QhL)); try dsimp only)
    rename_i RL _ l1R _ AH0 _ l1A _ oA0 F2 N2 dA0
    have q2 := ltN l1R.1
    have q3 := ltN l1A.1
    have bR : ∀ p ∈ rest ++ [(L, oL)], p.1 < RL := allLt_lt l1R.2.2.2.2.2.2
    have hml : mv.length = (marks sp n).length := hmv.length
    have hmk : (marks sp n).length ≤ 17 := marksTo_len sp n 17
    refine For_turns F2 ?_
    iterate 10 ((try (first | with_reducible refine Mine.hide_loop fun QhL hQhL => ?_ | with_reducible refine Mine.hide_comp fun QhC hQhC => ?_)); (first | walk1 | (dsimp only; walk1) | (refine hQhC _ _ ?_; clear hQhC; try clear QhC) | (refine hQhL _ _ ?_; clear hQhL; try clear QhL)); try dsimp only)
    refine kun_lenL (News.isList (N := by k_asm) (by k_mem)) (k := ((marks sp n).length : Int)) (by simp [hml]) (by lia) ?_
    try dsimp only
    iterate 2 ((try (first | with_reducible refine Mine.hide_loop fun QhL hQhL => ?_ | with_reducible refine Mine.hide_comp fun QhC hQhC => ?_)); (first | walk1 | (dsimp only; walk1) | (refine hQhC _ _ ?_; clear hQhC; try clear QhC) | (refine hQhL _ _ ?_; clear hQhL; try clear QhL)); try dsimp only)
    rename IsRange _ _ _ _ _ _ _ _ => hR3
    refine turnsR (n := (marks sp n).length) [Str.ofString "k", Str.ofString "fresh", Str.ofString "waits"] (fun i u nx => ∃ oN oA AH av gs eg rs tups, (∃ v, oN.data = .cell v) ∧ oA.data = .cell (some (.ref AH)) ∧ rs.length = i ∧ gs.length = i ∧ DueFrom sp n 0 [] rs ∧ TupsAt tups gs rs ∧ (∀ p ∈ tups, RL < p.1) ∧ (AH, tupO av) ∈ tups ∧ IntsAre av ((rs.getLastD []).map Int.ofNat) ∧
      nx = (RL, W.listOf (gs.map Value.ref).toArray eg) :: (M, W.listOf mv.toArray e) :: (L' + 1 + 1 + 1 + 1 + 1, oN) :: (L' + 1 + 1 + 1 + 1, oA) :: (L' + 1 + 1 + 1, oT) :: (L' + 1 + 1, oM) :: (L' + 1, o5) :: (tups ++ (rest ++ [(L, oL)]))) rfl hR3 (small_one (by lia) (by lia) (by lia) (by lia)) (range_size _) (by k_asm) (subN (by k_asm) memU1) ?_ ?_ ?_
    · exact ⟨o1, oA0, AH0, [], [], 0, [], [(AH0, tupO [])], ⟨_, d1⟩, dA0, rfl, rfl, trivial, trivial, fun p hp => by rw [List.mem_singleton.mp hp]; exact l1A.1, .head _, .nil, rfl⟩
    · rintro i t u nx h tk I oI hi hI off ⟨oN, oA, AH, av, gs, eg, rs, tups, ⟨vN, hN⟩, hA, hrs, hgs, hdf, htu, htg, hah, hav, rfl⟩ F N
      replace F : Fr h₀ L' _ _ := F
      replace N : News h₀ L' _ _ := N
      iterate 11 ((try (first | with_reducible refine Mine.hide_loop fun QhL hQhL => ?_ | with_reducible refine Mine.hide_comp fun QhC hQhC => ?_)); (first | walk1 | (dsimp only; walk1) | (refine hQhC _ _ ?_; clear hQhC; try clear QhC) | (refine hQhL _ _ ?_; clear hQhL; try clear QhL)); try dsimp only)
      rename_i FL _ l1F _ F3 N3
      have q4 := ltN l1F.1
      have q5 := ltN l1F.2.1
      have bF : ∀ p ∈ tups ++ (rest ++ [(L, oL)]), p.1 < FL := allLt_lt l1F.2.2.2.2.2.2.2.2
      have hspL : ∀ {l : List (Addr × Obj)}, (∀ p ∈ rest ++ [(L, oL)], p ∈ l) → SpAt l SP n sp tv eS := fun h => hsp'.mono h
      refine For_turns F3 ?_
      iterate 10 ((try (first | with_reducible refine Mine.hide_loop fun QhL hQhL => ?_ | with_reducible refine Mine.hide_comp fun QhC hQhC => ?_)); (first | walk1 | (dsimp only; walk1) | (refine hQhC _ _ ?_; clear hQhC; try clear QhC) | (refine hQhL _ _ ?_; clear hQhL; try clear QhL)); try dsimp only)
      refine kun_lenL (News.isList (N := by k_asm) (m9 (List.mem_append_right _ hsp'.list))) (k := (n : Int)) (by simp [hsp.len]) (by lia) ?_
      try dsimp only
      iterate 2 ((try (first | with_reducible refine Mine.hide_loop fun QhL hQhL => ?_ | with_reducible refine Mine.hide_comp fun QhC hQhC => ?_)); (first | walk1 | (dsimp only; walk1) | (refine hQhC _ _ ?_; clear hQhC; try clear QhC) | (refine hQhL _ _ ?_; clear hQhL; try clear QhL)); try dsimp only)
      rename IsRange _ _ _ _ _ _ _ _ => hR4
      refine turnsR (n := n) [Str.ofString "waits"] (fun j u nx => ∃ oN fv ef ft, (∃ v, oN.data = .cell v) ∧ PrsAt ft fv (((List.range j).filter fun x => decide (cnt sp n x = i)).map fun x => (late sp (rs.getLastD []) x, (x : Int))) ∧ (∀ p ∈ ft, FL < p.1) ∧
        nx = (FL, W.listOf fv.toArray ef) :: (I, oI) :: (RL, W.listOf (gs.map Value.ref).toArray eg) :: (M, W.listOf mv.toArray e) :: (L' + 1 + 1 + 1 + 1 + 1, oN) :: (L' + 1 + 1 + 1 + 1, oA) :: (L' + 1 + 1 + 1, oT) :: (L' + 1 + 1, oM) :: (L' + 1, o5) :: (ft ++ (tups ++ (rest ++ [(L, oL)])))) rfl hR4 (small_one (by lia) (by lia) (by lia) (by lia)) (range_size _) (by k_asm) (by k_asm) ?_ ?_ ?_
      · exact ⟨oN, [], 0, [], ⟨_, hN⟩, trivial, fun p hp => (by cases hp), rfl⟩
      · rintro j t2 u2 nx h tk I2 oI2 hj hI2 off2 ⟨oN2, fv, ef, ft, ⟨vN2, hN2⟩, hfv, hft, rfl⟩ F N
        replace F : Fr h₀ L' _ _ := F
        replace N : News h₀ L' _ _ := N
        have hIN := neN (off2 (L' + 1 + 1 + 1 + 1 + 1, oN2) (m4 (.head _)))
        have hIo := neN (off (L' + 1 + 1 + 1 + 1 + 1, oN) (.tail _ (.tail _ (.head _))))
        have hIR := neN (off (RL, W.listOf (gs.map Value.ref).toArray eg) (.head _))
        have hIF := neN (off2 (FL, W.listOf fv.toArray ef) (.head _))
        have b5' : ∀ p ∈ ft ++ (tups ++ (rest ++ [(L, oL)])), p.1 ≠ L' + 1 + 1 + 1 + 1 + 1 := fun p hp => by
          rcases List.mem_append.mp hp with hp | hp
          · exact Nat.ne_of_gt (Nat.lt_trans (show L' + 1 + 1 + 1 + 1 + 1 < FL from l1F.2.2.2.1) (hft p hp))
          · rcases List.mem_append.mp hp with hp | hp
            · exact Nat.ne_of_gt (Nat.lt_trans (Nat.lt_trans l1M.1 l1R.1) (htg p hp))
            · exact b5 p hp
        iterate 9 ((try (first | with_reducible refine Mine.hide_loop fun QhL hQhL => ?_ | with_reducible refine Mine.hide_comp fun QhC hQhC => ?_)); (first | walk1 | (dsimp only; walk1) | (refine hQhC _ _ ?_; clear hQhC; try clear QhC) | (refine hQhL _ _ ?_; clear hQhL; try clear QhL)); try dsimp only)
        rename_i oN3 _ _ hoN3
        refine ListComp_T (F₀ := by k_asm) (by with_unfolding_all rfl) (by decide) (by rfl) (by decide) (by rfl) ?_
        iterate 1 ((try (first | with_reducible refine Mine.hide_loop fun QhL hQhL => ?_ | with_reducible refine Mine.hide_comp fun QhC hQhC => ?_)); (first | walk1 | (dsimp only; walk1) | (refine hQhC _ _ ?_; clear hQhC; try clear QhC) | (refine hQhL _ _ ?_; clear hQhL; try clear QhL)); try dsimp only)
        rename News _ _ _ _ => N4
        rename Fr _ _ _ _ => F4
        refine CompSrcT.ledger rfl F4 N4 (m4 (.head _)) (by show mv.toArray.size ≤ sizeLine; rw [sizeLine_eq, List.size_toArray]; lia) (fun g => ?_)
        obtain ⟨aj, ta, tb, g1, g2⟩ := hsp'.tup j hj
        have ej : ((0 : Int) + (j : Int)).toNat = j := by lia
        have mem0 : ∀ {p : Addr × Obj}, p ∈ rest ++ [(L, oL)] → p ∈ ft ++ (tups ++ (rest ++ [(L, oL)])) := fun hp => List.mem_append_right _ (List.mem_append_right _ hp)
        refine comp_invT (n := mv.toArray.size) (fun k ys nw => nw = (I2, oI2) :: (FL, W.listOf fv.toArray ef) :: (I, oI) :: (RL, W.listOf (List.map Value.ref gs).toArray eg) :: (M, W.listOf mv.toArray e) :: (L' + 1 + 1 + 1 + 1 + 1, oN3) :: (L' + 1 + 1 + 1 + 1, oA) :: (L' + 1 + 1 + 1, oT) :: (L' + 1 + 1, oM) :: (L' + 1, o5) :: (ft ++ (tups ++ (rest ++ [(L, oL)]))) ∧
          IntsAre ys (((marks sp n).take k).filter fun x => decide (x < (sp j).1))) ?_ ?_ _ 0 [] _ (Nat.zero_add _) ⟨rfl, .nil⟩
        · rintro k ys nw v I3 oI3 C oC Dd m₂ h tk' E' hk ⟨rfl, hys⟩ hPv hC hx F N off3 ne
          clear F4 N4
          obtain ⟨mk, tm, k1, rfl⟩ := ints_get hmv (by simpa using hPv)
          have N5 := add1 (m13 (mem0 g2)) N
          iterate 6 ((try (first | with_reducible refine Mine.hide_loop fun QhL hQhL => ?_ | with_reducible refine Mine.hide_comp fun QhC hQhC => ?_)); (first | walk1 | (dsimp only; walk1) | (refine hQhC _ _ ?_; clear hQhC; try clear QhC) | (refine hQhL _ _ ?_; clear hQhL; try clear QhL)); try dsimp only)
          refine sub_list (News.isList (N := N) (m13 (mem0 hsp'.list))) (by lia) (by lia) (by rw [ej]; exact g1) ?_
          try dsimp only
          iterate 4 ((try (first | with_reducible refine Mine.hide_loop fun QhL hQhL => ?_ | with_reducible refine Mine.hide_comp fun QhC hQhC => ?_)); (first | walk1 | (dsimp only; walk1) | (refine hQhC _ _ ?_; clear hQhC; try clear QhC) | (refine hQhL _ _ ?_; clear hQhL; try clear QhL)); try dsimp only)
          have e1 : ((marks sp n).take (k + 1)).filter (fun x => decide (x < (sp j).1)) = (((marks sp n).take k).filter fun x => decide (x < (sp j).1)) ++ if mk < (sp j).1 then [mk] else [] := by
            rw [take_snoc (l := marks sp n) k1, List.filter_append]
            by_cases h0 : mk < (sp j).1 <;> simp [h0]
          by_cases h0 : mk < (sp j).1
          · refine ite_pos (decide_eq_true h0) ?_
            iterate 2 ((try (first | with_reducible refine Mine.hide_loop fun QhL hQhL => ?_ | with_reducible refine Mine.hide_comp fun QhC hQhC => ?_)); (first | walk1 | (dsimp only; walk1) | (refine hQhC _ _ ?_; clear hQhC; try clear QhC) | (refine hQhL _ _ ?_; clear hQhL; try clear QhL)); try dsimp only)
            refine CompEnd.intro (by k_asm) N _ (fun p hp => hp) off3 (.inr ⟨_, m4 (.head _), rfl, _, rfl⟩) ⟨rfl, ?_⟩
            rw [e1, if_pos h0]
            exact hys.append (.cons _ _ .nil)
          · refine ite_neg (fun h => h0 (of_decide_eq_true h)) ?_
            refine CompEnd.intro (by k_asm) N _ (fun p hp => hp) off3 (.inr ⟨_, m4 (.head _), rfl, _, rfl⟩) ⟨rfl, ?_⟩
            rw [e1, if_neg h0, List.append_nil]
            exact hys
        · rintro ys nw ⟨rfl, hys⟩
          intro LC h tk' F N offL
          clear F4 N4
          have hyl : ys.length = cnt sp n j := by
            rw [hys.length, List.size_toArray, hml, List.take_length]; rfl
          have hcl : cnt sp n j ≤ 17 := Nat.le_trans (List.length_filter_le _ _) hmk
          iterate 1 ((try (first | with_reducible refine Mine.hide_loop fun QhL hQhL => ?_ | with_reducible refine Mine.hide_comp fun QhC hQhC => ?_)); (first | walk1 | (dsimp only; walk1) | (refine hQhC _ _ ?_; clear hQhC; try clear QhC) | (refine hQhL _ _ ?_; clear hQhL; try clear QhL)); try dsimp only)
          refine kun_lenL (News.isList (N := N) (.head _)) (k := (cnt sp n j : Int)) (by simp [hyl]) (by lia) ?_
          try dsimp only
          replace N := subN N fun p hp => .tail _ hp
          have e2 : (List.range (j + 1)).filter (fun x => decide (cnt sp n x = i)) = ((List.range j).filter fun x => decide (cnt sp n x = i)) ++ if cnt sp n j = i then [j] else [] := by
            rw [List.range_succ, List.filter_append]
            by_cases h0 : cnt sp n j = i <;> simp [h0]
          iterate 4 ((try (first | with_reducible refine Mine.hide_loop fun QhL hQhL => ?_ | with_reducible refine Mine.hide_comp fun QhC hQhC => ?_)); (first | walk1 | (dsimp only; walk1) | (refine hQhC _ _ ?_; clear hQhC; try clear QhC) | (refine hQhL _ _ ?_; clear hQhL; try clear QhL)); try dsimp only)
          rotate_left 1
          · rename_i hc
            have hc : ¬ cnt sp n j = i := fun h => hc (by subst h; lia)
            iterate 4 ((try (first | with_reducible refine Mine.hide_loop fun QhL hQhL => ?_ | with_reducible refine Mine.hide_comp fun QhC hQhC => ?_)); (first | walk1 | (dsimp only; walk1) | (refine hQhC _ _ ?_; clear hQhC; try clear QhC) | (refine hQhL _ _ ?_; clear hQhL; try clear QhL)); try dsimp only)
            refine LEnd.intro _ F N ?_ (fun p hp => .tail _ hp) (.head _) (off_addr off2 rfl) ⟨oN3, fv, ef, ft, ⟨_, hoN3⟩, ?_, hft, rfl⟩
            · exact MapOff.base
            · rw [e2, if_neg hc, List.append_nil]; exact hfv
          · rename_i hc
            have hc : cnt sp n j = i := by lia
            iterate 1 ((try (first | with_reducible refine Mine.hide_loop fun QhL hQhL => ?_ | with_reducible refine Mine.hide_comp fun QhC hQhC => ?_)); (first | walk1 | (dsimp only; walk1) | (refine hQhC _ _ ?_; clear hQhC; try clear QhC) | (refine hQhL _ _ ?_; clear hQhL; try clear QhL)); try dsimp only)
            refine Assign_ListComp_T (F₀ := F) rfl (by with_unfolding_all rfl) (by with_unfolding_all rfl) (by decide) (by rfl) (by decide) (by rfl) (by rfl) (by rfl) ?_
            have hah' : (AH, tupO av) ∈ ft ++ (tups ++ (rest ++ [(L, oL)])) := List.mem_append_right _ (List.mem_append_left _ hah)
            have N5 := add1 (m10 hah') N
            clear N
            obtain ⟨hlb, hll⟩ := DueFrom.last hdf (fun a ha => by cases ha) (Nat.zero_le n)
            have hal : av.length = (rs.getLastD []).length := by rw [hav.length, List.length_map]
            iterate 10 ((try (first | with_reducible refine Mine.hide_loop fun QhL hQhL => ?_ | with_reducible refine Mine.hide_comp fun QhC hQhC => ?_)); (first | walk1 | (dsimp only; walk1) | (refine hQhC _ _ ?_; clear hQhC; try clear QhC) | (refine hQhL _ _ ?_; clear hQhL; try clear QhL)); try dsimp only)
            refine kun_lenT ⟨_, (N5 _ (.head _)).1, rfl, _, rfl⟩ (k := ((rs.getLastD []).length : Int)) (by simp [hal]) (by lia) ?_
            try dsimp only
            iterate 2 ((try (first | with_reducible refine Mine.hide_loop fun QhL hQhL => ?_ | with_reducible refine Mine.hide_comp fun QhC hQhC => ?_)); (first | walk1 | (dsimp only; walk1) | (refine hQhC _ _ ?_; clear hQhC; try clear QhC) | (refine hQhL _ _ ?_; clear hQhL; try clear QhL)); try dsimp only)
            rename IsRange _ _ _ _ _ _ _ _ => hR5
            rename Fr _ _ _ _ => F6
            rename News _ _ _ _ => N6
            refine CompSrcT.range rfl F6 (subN N6 fun p hp => .tail _ hp) hR5 (small_one (by lia) (by lia) (by lia) (by lia)) (range_size _) (by rw [sizeLine_eq]; lia) (fun g => ?_)
            refine comp_invT (fun k ys nw => nw = (I2, oI2) :: (FL, W.listOf fv.toArray ef) :: (I, oI) :: (RL, W.listOf (List.map Value.ref gs).toArray eg) :: (M, W.listOf mv.toArray e) :: (L' + 1 + 1 + 1 + 1 + 1, oN3) :: (L' + 1 + 1 + 1 + 1, oA) :: (L' + 1 + 1 + 1, oT) :: (L' + 1 + 1, oM) :: (L' + 1, o5) :: (ft ++ (tups ++ (rest ++ [(L, oL)]))) ∧
              IntsAre ys (((List.range k).filter fun p => decide ((sp ((rs.getLastD []).getD p 0)).2 < (sp j).1)).map Int.ofNat)) ?_ ?_ _ 0 [] _ (Nat.zero_add _) ⟨rfl, .nil⟩
            · rintro k ys nw v I3 oI3 C oC Dd m₂ h tk' E' hk ⟨rfl, hys⟩ ⟨tp, rfl⟩ hC hx F N off3 ne
              clear F6 N6
              obtain ⟨va, hva⟩ : ∃ v, av[k]? = some v := ⟨_, List.getElem?_eq_getElem (by lia)⟩
              obtain ⟨ma, tma, k1, rfl⟩ := ints_get hav hva
              have hgk : (rs.getLastD [])[k]? = some ((rs.getLastD []).getD k 0) := by rw [List.getD_eq_getElem?_getD, List.getElem?_eq_getElem hk]; rfl
              have k2 : ma = (((rs.getLastD []).getD k 0 : Nat) : Int) := by
                rw [List.getElem?_map, hgk] at k1
                exact (Option.some.inj k1).symm
              subst k2
              have hbk : (rs.getLastD []).getD k 0 < n := hlb _ (List.mem_of_getElem? hgk)
              obtain ⟨ak, tc, td, g3, g4⟩ := hsp'.tup _ hbk
              have N5 := add2 (m13 (mem0 g4)) (m13 (mem0 g2)) N
              iterate 7 ((try (first | with_reducible refine Mine.hide_loop fun QhL hQhL => ?_ | with_reducible refine Mine.hide_comp fun QhC hQhC => ?_)); (first | walk1 | (dsimp only; walk1) | (refine hQhC _ _ ?_; clear hQhC; try clear QhC) | (refine hQhL _ _ ?_; clear hQhL; try clear QhL)); try dsimp only)
              refine sub_tup ⟨_, (N _ (m13 hah')).1, rfl, _, rfl⟩ (by lia) (by lia) (by rw [show ((0 : Int) + (k : Int)).toNat = k by lia]; exact hva) ?_
              try dsimp only
              refine sub_list (News.isList (N := N) (m13 (mem0 hsp'.list))) (by lia) (by lia) (by rw [Int.toNat_natCast]; exact g3) ?_
              try dsimp only
              iterate 6 ((try (first | with_reducible refine Mine.hide_loop fun QhL hQhL => ?_ | with_reducible refine Mine.hide_comp fun QhC hQhC => ?_)); (first | walk1 | (dsimp only; walk1) | (refine hQhC _ _ ?_; clear hQhC; try clear QhC) | (refine hQhL _ _ ?_; clear hQhL; try clear QhL)); try dsimp only)
              refine sub_list (News.isList (N := N) (m13 (mem0 hsp'.list))) (by lia) (by lia) (by rw [ej]; exact g1) ?_
              try dsimp only
              iterate 4 ((try (first | with_reducible refine Mine.hide_loop fun QhL hQhL => ?_ | with_reducible refine Mine.hide_comp fun QhC hQhC => ?_)); (first | walk1 | (dsimp only; walk1) | (refine hQhC _ _ ?_; clear hQhC; try clear QhC) | (refine hQhL _ _ ?_; clear hQhL; try clear QhL)); try dsimp only)
              have e3 : ((List.range (k + 1)).filter fun p => decide ((sp ((rs.getLastD []).getD p 0)).2 < (sp j).1)) = ((List.range k).filter fun p => decide ((sp ((rs.getLastD []).getD p 0)).2 < (sp j).1)) ++ if (sp ((rs.getLastD []).getD k 0)).2 < (sp j).1 then [k] else [] := by
                exact frange (fun p => (sp ((rs.getLastD []).getD p 0)).2 < (sp j).1) k
              by_cases h0 : (sp ((rs.getLastD []).getD k 0)).2 < (sp j).1
              · refine ite_pos (decide_eq_true h0) ?_
                iterate 2 ((try (first | with_reducible refine Mine.hide_loop fun QhL hQhL => ?_ | with_reducible refine Mine.hide_comp fun QhC hQhC => ?_)); (first | walk1 | (dsimp only; walk1) | (refine hQhC _ _ ?_; clear hQhC; try clear QhC) | (refine hQhL _ _ ?_; clear hQhL; try clear QhL)); try dsimp only)
                refine CompEnd.intro (by k_asm) N _ (fun p hp => hp) off3 trivial ⟨rfl, ?_⟩
                rw [e3, if_pos h0, List.map_append, Int.zero_add]
                exact hys.append (.cons _ _ .nil)
              · refine ite_neg (fun h => h0 (of_decide_eq_true h)) ?_
                refine CompEnd.intro (by k_asm) N _ (fun p hp => hp) off3 trivial ⟨rfl, ?_⟩
                rw [e3, if_neg h0, List.append_nil]
                exact hys
            · rintro ys nw ⟨rfl, hys⟩
              intro LW h tk' F N offL
              clear F6 N6
              replace hys : IntsAre ys ((waits sp (rs.getLastD []) j).map Int.ofNat) := hys
              try dsimp only
              iterate 22 ((try (first | with_reducible refine Mine.hide_loop fun QhL hQhL => ?_ | with_reducible refine Mine.hide_comp fun QhC hQhC => ?_)); (first | walk1 | (dsimp only; walk1) | (refine hQhC _ _ ?_; clear hQhC; try clear QhC) | (refine hQhL _ _ ?_; clear hQhL; try clear QhL)); try dsimp only)
              rename News _ _ _ _ => N6
              rename Fr _ _ _ _ => F6
              have hwl : (waits sp (rs.getLastD []) j).length ≤ 11 := by
                have := List.length_filter_le (fun p => decide ((sp ((rs.getLastD []).getD p 0)).2 < (sp j).1)) (List.range (rs.getLastD []).length)
                rw [List.length_range] at this
                exact Nat.le_trans this (Nat.le_trans hll hn)
              refine kmk_add_ints F6 N6 (News.isList (N := N6) (.head _)) (News.isList (N := N6) (.tail _ (.head _))) (.cons _ _ .nil) hys ?_ (by simp only [List.length_cons, List.length_nil, List.length_map, sizeLine_eq]; lia)
              intro Dm us h' F7 N7 lDm hus
              clear N6 F6 N
              try dsimp only
              iterate 1 ((try (first | with_reducible refine Mine.hide_loop fun QhL hQhL => ?_ | with_reducible refine Mine.hide_comp fun QhC hQhC => ?_)); (first | walk1 | (dsimp only; walk1) | (refine hQhC _ _ ?_; clear hQhC; try clear QhC) | (refine hQhL _ _ ?_; clear hQhL; try clear QhL)); try dsimp only)
              refine kso_max F7 N7 (News.isList (N := N7) (.head _)) hus (by simp) rfl ?_
              intro h' Mx tM tk' F6 N6 hM1 hM2
              clear N7
              obtain rfl : Mx = late sp (rs.getLastD []) j := late_eq hM1 hM2
              replace N6 := subN N6 fun p hp => .tail _ (.tail _ (.tail _ hp))
              have b6 : ∀ p ∈ ft ++ (tups ++ (rest ++ [(L, oL)])), p.1 ≠ FL := fun p hp => by
                rcases List.mem_append.mp hp with hp | hp
                · exact Nat.ne_of_gt (hft p hp)
                · exact Nat.ne_of_lt (bF p hp)
              iterate 5 ((try (first | with_reducible refine Mine.hide_loop fun QhL hQhL => ?_ | with_reducible refine Mine.hide_comp fun QhC hQhC => ?_)); (first | walk1 | (dsimp only; walk1) | (refine hQhC _ _ ?_; clear hQhC; try clear QhC) | (refine hQhL _ _ ?_; clear hQhL; try clear QhL)); try dsimp only)
              rename_i TT _ F8 N8 l1T
              have y1 := ltN l1T.2.1
              have y2 := ltN l1T.1
              have fvl : fv.length ≤ 11 := by
                have h1 := (hfv.mono (l' := (FL, W.listOf fv.toArray ef) :: ft) fun p hp => .tail _ hp).spAt (ef := ef) (.head _)
                rw [h1.len, List.length_map]
                have := List.length_filter_le (fun x => decide (cnt sp n x = i)) (List.range j)
                rw [List.length_range] at this
                lia
              refine append_F (by k_asm) N8 (by k_updF) (by lia) ?_
              intro h' F9 N9
              clear N8 F8
              try dsimp only
              iterate 3 ((try (first | with_reducible refine Mine.hide_loop fun QhL hQhL => ?_ | with_reducible refine Mine.hide_comp fun QhC hQhC => ?_)); (first | walk1 | (dsimp only; walk1) | (refine hQhC _ _ ?_; clear hQhC; try clear QhC) | (refine hQhL _ _ ?_; clear hQhL; try clear QhL)); try dsimp only)
              refine LEnd.intro ((FL, W.listOf (fv ++ [Value.ref TT]).toArray (ef + 1)) :: (I, oI) :: (RL, W.listOf (List.map Value.ref gs).toArray eg) :: (M, W.listOf mv.toArray e) :: (L' + 1 + 1 + 1 + 1 + 1, oN3) :: (L' + 1 + 1 + 1 + 1, oA) :: (L' + 1 + 1 + 1, oT) :: (L' + 1 + 1, oM) :: (L' + 1, o5) :: (((TT, tupO [.int (late sp (rs.getLastD []) j) tM, .int (0 + (j : Int)) t2]) :: ft) ++ (tups ++ (rest ++ [(L, oL)])))) (by k_asm) N9 ?_ memV1 (.tail _ (.head _)) ?_ ⟨oN3, fv ++ [Value.ref TT], ef + 1, (TT, tupO [.int (late sp (rs.getLastD []) j) tM, .int (0 + (j : Int)) t2]) :: ft, ⟨_, hoN3⟩, ?_, ?_, rfl⟩
              · repeat' (first | exact MapOff.base | refine MapOff.put (by decide) ?_)
              · intro p hp
                rcases memV2 p hp with rfl | hp
                · exact Nat.ne_of_gt l1T.1
                · exact off_addr' hp off2 rfl
              · rw [e2, if_pos hc, List.map_append]
                refine PrsAt.snoc (t1 := tM) (t2 := t2) ?_ (hfv.mono fun p hp => .tail _ hp)
                rw [Int.zero_add]; exact .head _
              · intro p hp
                rcases List.mem_cons.mp hp with rfl | hp
                · exact l1T.2.1
                · exact hft p hp
      · rintro u2 nx h tk ⟨oN2, fv, ef, ft, ⟨vN2, hN2⟩, hfv, hft, rfl⟩ F N
        replace F : Fr h₀ L' _ _ := F
        replace N : News h₀ L' _ _ := N
        iterate 6 ((try (first | with_reducible refine Mine.hide_loop fun QhL hQhL => ?_ | with_reducible refine Mine.hide_comp fun QhC hQhC => ?_)); (first | walk1 | (dsimp only; walk1) | (refine hQhC _ _ ?_; clear hQhC; try clear QhC) | (refine hQhL _ _ ?_; clear hQhL; try clear QhL)); try dsimp only)
        generalize hfl : freshL sp n i = fl at *
        have hfl' : (List.range n).filter (fun x => decide (cnt sp n x = i)) = fl := hfl
        rw [hfl'] at hfv
        have flt : ∀ x ∈ fl, x < n := fun x hx => List.mem_range.mp (List.mem_filter.mp (hfl' ▸ hx)).1
        have fln : fl.Nodup := hfl' ▸ List.Nodup.sublist List.filter_sublist List.nodup_range
        have fll : fl.length ≤ 11 := by
          have := List.length_filter_le (fun x => decide (cnt sp n x = i)) (List.range n)
          rw [hfl', List.length_range] at this; lia
        generalize hps : fl.map (fun x => (late sp (rs.getLastD []) x, (x : Int))) = ps at hfv
        have psl : ps.length = fl.length := by rw [← hps, List.length_map]
        have psg : ∀ k, k < fl.length → ps.getD k (0, 0) = (late sp (rs.getLastD []) (fl.getD k 0), ((fl.getD k 0 : Nat) : Int)) := fun k hk => by
          rw [← hps, List.getD_eq_getElem?_getD, List.getElem?_map, List.getElem?_eq_getElem hk, List.getD_eq_getElem?_getD, List.getElem?_eq_getElem hk]; rfl
        have hfs : SpAt ((FL, W.listOf fv.toArray ef) :: (I, oI) :: (RL, W.listOf (List.map Value.ref gs).toArray eg) :: (M, W.listOf mv.toArray e) :: (L' + 1 + 1 + 1 + 1 + 1, oN2) :: (L' + 1 + 1 + 1 + 1, oA) :: (L' + 1 + 1 + 1, oT) :: (L' + 1 + 1, oM) :: (L' + 1, o5) :: (ft ++ (tups ++ (rest ++ [(L, oL)])))) FL ps.length (fun k => ps.getD k (0, 0)) fv ef := (hfv.mono fun p hp => m9 (List.mem_append_left _ hp)).spAt (.head _)
        refine LCp.ListComp_P (F₀ := F) (by with_unfolding_all rfl) (by decide) (by rfl) (by decide) (by rfl) (by rfl) (by decide) ?_
        iterate 6 ((try (first | with_reducible refine Mine.hide_loop fun QhL hQhL => ?_ | with_reducible refine Mine.hide_comp fun QhC hQhC => ?_)); (first | walk1 | (dsimp only; walk1) | (refine hQhC _ _ ?_; clear hQhC; try clear QhC) | (refine hQhL _ _ ?_; clear hQhL; try clear QhL)); try dsimp only)
        refine sorted_pairs (by k_asm) N hfs (by lia) (fun k hk => ?_) (fun a b ha hb he => ?_) ?_
        · try dsimp only
          rw [psg k (by lia)]
          have := flt _ (getD_mem (show k < fl.length by lia))
          exact ⟨by lia, by lia⟩
        · try dsimp only at he
          rw [psg a (by lia), psg b (by lia)] at he
          try dsimp only at he
          have h1 := flt _ (getD_mem (show a < fl.length by lia))
          have h2 := flt _ (getD_mem (show b < fl.length by lia))
          exact nodup_getD fln (by lia) (by lia) (by lia)
        intro SD p eD h' F5 N5 ltD hp ha
        clear N
        try dsimp only at ha
        refine LCp.SrcLP.ledger rfl F5 N5 (.head _) ?_ (fun g => ?_)
        · rw [List.size_toArray, List.length_map, Array.length_toList, hp.size, sizeLine_eq]; lia
        have hpl : p.toList.length = fl.length := by rw [Array.length_toList, hp.size, psl]
        have hpk : ∀ k, k < fl.length → ∃ q, p.toList[k]? = some q ∧ q < fl.length := fun k hk => by
          refine ⟨_, List.getElem?_eq_getElem (by lia), ?_⟩
          have h1 := hp.list.mem_iff.mp (List.getElem_mem (show k < p.toList.length by lia))
          rw [psl] at h1
          exact List.mem_range.mp h1
        refine comp_invP (n := (List.map (fun i => fv.getD i Value.none) p.toList).toArray.size) (fun k ys => IntsAre ys (((p.toList.map fun q => fl.getD q 0).take k).map Int.ofNat)) ?_ ?_ _ 0 [] (Nat.zero_add _) .nil
        · intro k ys v hk hys hv
          have hk' : k < fl.length := by rw [List.size_toArray, List.length_map, hpl] at hk; exact hk
          obtain ⟨q, hq, hql⟩ := hpk k hk'
          obtain ⟨a, t1, t3, g1, g2⟩ := hfs.tup q (by rw [psl]; exact hql)
          have hv' : v = .ref a := by
            rw [List.getElem?_toArray, List.getElem?_map, hq] at hv
            have := Option.some.inj hv
            rw [← this]
            show fv.getD q Value.none = _
            rw [List.getD_eq_getElem?_getD, g1]; rfl
          try dsimp only at g2
          rw [psg q hql] at g2
          refine ⟨a, _, _, _, _, hv', .tail _ g2, rfl, rfl, ?_⟩
          intro I3 oI3 C oC Dd m₂ h tk' E' hC hx hx2 F N off3 ne
          clear N5 F5
          iterate 2 ((try (first | with_reducible refine Mine.hide_loop fun QhL hQhL => ?_ | with_reducible refine Mine.hide_comp fun QhC hQhC => ?_)); (first | walk1 | (dsimp only; walk1) | (refine hQhC _ _ ?_; clear hQhC; try clear QhC) | (refine hQhL _ _ ?_; clear hQhL; try clear QhL)); try dsimp only)
          refine CompEnd.intro (by k_asm) N _ (fun p hp => hp) off3 (.inr ⟨_, .head _, rfl, _, rfl⟩) ⟨rfl, ?_⟩
          rw [take_snoc (l := p.toList.map fun q => fl.getD q 0) (a := fl.getD q 0) (by rw [List.getElem?_map, hq]; rfl), List.map_append]
          exact hys.append (.cons _ _ .nil)
        · intro ys hys
          intro LR h tk' F N offL
          clear N5 F5
          rw [List.size_toArray, List.length_map, ← List.length_map (as := p.toList) (f := fun q => fl.getD q 0), List.take_length] at hys
          generalize hr : p.toList.map (fun q => fl.getD q 0) = r at hys
          have hrl : r.length = fl.length := by rw [← hr, List.length_map, hpl]
          have hyl : ys.length = fl.length := by rw [hys.length, List.length_map, hrl]
          try dsimp only
          iterate 1 ((try (first | with_reducible refine Mine.hide_loop fun QhL hQhL => ?_ | with_reducible refine Mine.hide_comp fun QhC hQhC => ?_)); (first | walk1 | (dsimp only; walk1) | (refine hQhC _ _ ?_; clear hQhC; try clear QhC) | (refine hQhL _ _ ?_; clear hQhL; try clear QhL)); try dsimp only)
          refine kde_tupleOf (zs := ys) (by k_asm) N (News.isList (N := N) (.head _)) (by rw [List.size_toArray]; lia) rfl ?_
          intro AHn h' F6 N6 lAH
          clear N
          try dsimp only
          have lRA : RL < AHn := lAH (RL, W.listOf (List.map Value.ref gs).toArray eg) (m4 (.head _))
          have lIA : I < AHn := lAH (I, oI) (m3 (.head _))
          have y1 := ltN lRA
          have y2 := ltN lIA
          have y3 := neN (off (L' + 1 + 1 + 1 + 1, oA) (m3 (.head _)))
          have y4 := neN (off (RL, W.listOf (List.map Value.ref gs).toArray eg) (.head _))
          replace N6 := subN N6 memX1
          have b4' : ∀ p ∈ tups ++ (rest ++ [(L, oL)]), p.1 ≠ L' + 1 + 1 + 1 + 1 := fun p hp => by
            rcases List.mem_append.mp hp with hp | hp
            · exact Nat.ne_of_gt (Nat.lt_trans (Nat.lt_trans l1M.2.1 l1R.1) (htg p hp))
            · exact b4 p hp
          have bR' : ∀ p ∈ tups ++ (rest ++ [(L, oL)]), p.1 ≠ RL := fun p hp => by
            rcases List.mem_append.mp hp with hp | hp
            · exact Nat.ne_of_gt (htg p hp)
            · exact Nat.ne_of_lt (bR p hp)
          iterate 13 ((try (first | with_reducible refine Mine.hide_loop fun QhL hQhL => ?_ | with_reducible refine Mine.hide_comp fun QhC hQhC => ?_)); (first | walk1 | (dsimp only; walk1) | (refine hQhC _ _ ?_; clear hQhC; try clear QhC) | (refine hQhL _ _ ?_; clear hQhL; try clear QhL)); try dsimp only)
          rename_i oA2 hoA2 _ F7 N7
          have el : (gs.map Value.ref).toArray.push (Value.ref AHn) = ((gs ++ [AHn]).map Value.ref).toArray := by simp
          rw [el] at N7
          have hperm : r.Perm fl := by
            rw [← hr]
            have h1 := hp.list.map (fun q => fl.getD q 0)
            rw [psl] at h1
            refine h1.trans ?_
            rw [map_getD]
          have hpw : r.Pairwise (fun a b => key sp (rs.getLastD []) a < key sp (rs.getLastD []) b) := by
            rw [List.pairwise_iff_getElem]
            intro a b ha' hb' hab
            have h1 := ha a b hab (by lia)
            obtain ⟨qa, hqa, hqal⟩ := hpk a (by lia)
            obtain ⟨qb, hqb, hqbl⟩ := hpk b (by lia)
            unfold Rk at h1
            rw [getD_opt, getD_opt] at h1
            rw [← Array.getElem?_toList, ← Array.getElem?_toList, hqa, hqb] at h1
            simp only [Option.getD_some] at h1
            rw [psg qa hqal, psg qb hqbl] at h1
            have g1 : r[a]? = some (fl.getD qa 0) := by rw [← hr, List.getElem?_map, hqa]; rfl
            have g2 : r[b]? = some (fl.getD qb 0) := by rw [← hr, List.getElem?_map, hqb]; rfl
            rw [List.getElem?_eq_getElem ha'] at g1
            rw [List.getElem?_eq_getElem hb'] at g2
            rw [Option.some.inj g1, Option.some.inj g2]
            exact h1
          refine LEnd.intro ((RL, W.listOf ((gs ++ [AHn]).map Value.ref).toArray (eg + 1)) :: (M, W.listOf mv.toArray e) :: (L' + 1 + 1 + 1 + 1 + 1, oN2) :: (L' + 1 + 1 + 1 + 1, oA2) :: (L' + 1 + 1 + 1, oT) :: (L' + 1 + 1, oM) :: (L' + 1, o5) :: (((AHn, tupO ys) :: tups) ++ (rest ++ [(L, oL)]))) (by k_asm) N7 ?_ memX2 (.tail _ (.head _)) ?_ ⟨oN2, oA2, AHn, ys, gs ++ [AHn], eg + 1, rs ++ [r], (AHn, tupO ys) :: tups, ⟨_, hN2⟩, hoA2, by simp [hrs], by simp [hgs], ?_, ?_, ?_, .head _, ?_, rfl⟩
          · repeat' (first | exact MapOff.base | refine MapOff.put (by decide) ?_ | refine MapOff.inner (by decide) ?_)
          · intro p hp
            rcases memX3 p hp with rfl | hp
            · exact Nat.ne_of_gt lIA
            · exact off_addr' hp off rfl
          · refine DueFrom.snoc hdf ?_ hpw
            rw [Nat.zero_add, hrs, hfl]; exact hperm
          · exact TupsAt.snoc ⟨ys, .head _, hys⟩ (htu.mono fun p hp => .tail _ hp)
          · intro p hp
            rcases List.mem_cons.mp hp with rfl | hp
            · exact lRA
            · exact htg p hp
          · rw [List.getLastD_concat]; exact hys
    · rintro u2 nx h tk ⟨oN, oA, AH, av, gs, eg, rs, tups, ⟨vN, hN⟩, hA, hrs, hgs, hdf, htu, htg, hah, hav, rfl⟩ F N
      replace F : Fr h₀ L' _ _ := F
      replace N : News h₀ L' _ _ := N
      iterate 3 ((try (first | with_reducible refine Mine.hide_loop fun QhL hQhL => ?_ | with_reducible refine Mine.hide_comp fun QhC hQhC => ?_)); (first | walk1 | (dsimp only; walk1) | (refine hQhC _ _ ?_; clear hQhC; try clear QhC) | (refine hQhL _ _ ?_; clear hQhL; try clear QhL)); try dsimp only)
      refine leaveF_ (frs' := [(L, oL)]) (news' := (RL, W.listOf (gs.map Value.ref).toArray eg) :: (tups ++ rest)) ⟨rfl, ⟨oL.slots, rfl⟩, trivial⟩ (by k_asm) (subN N memX4) ?_ (fun frs1 su1 kF kN => hQ RL gs eg ((RL, W.listOf (gs.map Value.ref).toArray eg) :: tups) rs _ _ (.head _) hrs hdf (htu.mono fun p hp => .tail _ hp) ?_ kF (subN kN memX5))
      · intro p hp
        have hLR : L < RL := bR (L, oL) (List.mem_append_right _ (.head _))
        rcases List.mem_cons.mp hp with rfl | hp
        · exact Nat.ne_of_gt hLR
        rcases List.mem_append.mp hp with hp | hp
        · exact Nat.ne_of_gt (Nat.lt_trans hLR (htg p hp))
        · exact hneL p (List.mem_append_left _ hp)
      · intro p hp q hq
        have h2 : q.1 < RL := bR q (List.mem_append_left _ hq)
        rcases List.mem_cons.mp hp with rfl | hp
        · exact Nat.ne_of_gt h2
        · exact Nat.ne_of_gt (Nat.lt_trans h2 (htg p hp))
end
end Mine

namespace Mine
theorem filter_lt {α : Type} {l : List α} {P Q : α → Bool} (h : ∀ x ∈ l, P x = true → Q x = true) (he : ∃ x ∈ l, Q x = true ∧ P x = false) : (l.filter P).length < (l.filter Q).length := by
  induction l with
  | nil => obtain ⟨x, hx, _⟩ := he; cases hx
  | cons a l ih =>
    have hle : (l.filter P).length ≤ (l.filter Q).length := by
      clear he ih
      induction l with
      | nil => exact Nat.le_refl _
      | cons b l ih =>
        have h1 := ih fun x hx => h x (by rcases List.mem_cons.mp hx with rfl | hx; exact .head _; exact .tail _ (.tail _ hx))
        have h2 := h b (.tail _ (.head _))
        simp only [List.filter_cons]
        by_cases p : P b = true
        · rw [if_pos p, if_pos (h2 p)]; simpa using h1
        · rw [if_neg p]; split
          · simp only [List.length_cons]; lia
          · exact h1
    simp only [List.filter_cons]
    obtain ⟨x, hx, q, p⟩ := he
    rcases List.mem_cons.mp hx with rfl | hx
    · rw [if_neg (by rw [p]; decide), if_pos q]; simp only [List.length_cons]; lia
    · have h1 := ih (fun y hy => h y (.tail _ hy)) ⟨x, hx, q, p⟩
      by_cases pa : P a = true
      · rw [if_pos pa, if_pos (h a (.head _) pa)]; simpa using h1
      · rw [if_neg pa]; split
        · simp only [List.length_cons]; lia
        · exact h1
theorem filter_le_succ {l : List Int} {m : Int} (hn : l.Nodup) (hm : m ∈ l) : (l.filter fun x => decide (x ≤ m)).length = (l.filter fun x => decide (x < m)).length + 1 := by
  induction l with
  | nil => cases hm
  | cons a l ih =>
    rw [List.nodup_cons] at hn
    simp only [List.filter_cons]
    by_cases e : a = m
    · subst e
      rw [if_pos (by simp), if_neg (by simp)]
      have : l.filter (fun x => decide (x ≤ a)) = l.filter (fun x => decide (x < a)) := by
        apply List.filter_congr
        intro x hx
        rw [decide_eq_decide]
        have : x ≠ a := fun e => hn.1 (e ▸ hx)
        lia
      rw [this]; rfl
    · have hm' : m ∈ l := by
        rcases List.mem_cons.mp hm with rfl | h
        · exact absurd rfl e
        · exact h
      have h1 := ih hn.2 hm'
      by_cases q : a < m
      · rw [if_pos (by simp; lia), if_pos (by simp; lia)]; simp only [List.length_cons]; lia
      · rw [if_neg (by simp; lia), if_neg (by simp; lia)]; exact h1
/-- spans within 0..16 -/
structure SpOk (sp : Nat → Int × Int) (n : Nat) : Prop where
  le : ∀ i, i < n → (sp i).1 ≤ (sp i).2
  lo : ∀ i, i < n → 0 ≤ (sp i).1
  hi : ∀ i, i < n → (sp i).2 ≤ 16
structure MkInv (sp : Nat → Int × Int) (n k : Nat) (mk : List Int) : Prop where
  pw : mk.Pairwise (· < ·)
  lt : ∀ m ∈ mk, m < (k : Int)
  src : ∀ m ∈ mk, ∃ i, i < n ∧ (sp i).2 = m ∧ ∀ m' ∈ mk, m' < m → m' < (sp i).1
  cov : ∀ i, i < n → (sp i).2 < (k : Int) → ∃ m ∈ mk, (sp i).1 ≤ m ∧ m ≤ (sp i).2
theorem split_last {mk : List Int} (h : mk ≠ []) : ∃ us, mk = us ++ [mk.getLastD 0] := by
  rcases List.eq_nil_or_concat mk with e | ⟨us, b, e⟩
  · exact absurd e h
  · rw [List.concat_eq_append] at e; exact ⟨us, by rw [e, List.getLastD_concat]⟩
theorem last_mem {mk : List Int} (h : mk ≠ []) : mk.getLastD 0 ∈ mk := by
  obtain ⟨us, e⟩ := split_last h
  rw [e, List.getLastD_concat]; simp
theorem last_le {mk : List Int} (pw : mk.Pairwise (· < ·)) : ∀ m ∈ mk, m ≤ mk.getLastD 0 := by
  intro m hm
  have hne : mk ≠ [] := fun e => by rw [e] at hm; cases hm
  obtain ⟨us, e⟩ := split_last hne
  generalize mk.getLastD 0 = x at e ⊢
  subst e
  rcases List.mem_append.mp hm with h | h
  · exact Int.le_of_lt ((List.pairwise_append.mp pw).2.2 m h x (.head _))
  · rw [List.mem_singleton.mp h]; exact Int.le_refl _
theorem mkInv {sp : Nat → Int × Int} {n : Nat} (ok : SpOk sp n) : ∀ k, MkInv sp n k (marksTo sp n k) := by
  intro k
  induction k with
  | zero => exact ⟨.nil, fun m hm => (by cases hm), fun m hm => (by cases hm), fun i hi h => absurd h (by have := ok.lo i hi; have := ok.le i hi; lia)⟩
  | succ k ih =>
    rw [marksTo_succ, mstep]
    generalize marksTo sp n k = mk at ih ⊢
    by_cases hf : (List.range n).filter (mhit sp mk k) ≠ []
    · rw [if_pos hf]
      obtain ⟨i, hi⟩ := List.exists_mem_of_ne_nil _ hf
      obtain ⟨hin, hit⟩ := List.mem_filter.mp hi
      have hin := List.mem_range.mp hin
      obtain ⟨h1, h2⟩ := of_decide_eq_true hit
      have hall : ∀ m ∈ mk, m < (sp i).1 := fun m hm => by
        rcases h2 with h2 | h2
        · rw [h2] at hm; cases hm
        · have := last_le ih.pw m hm; lia
      refine ⟨List.pairwise_append.mpr ⟨ih.pw, List.pairwise_singleton _ _, fun a ha b hb => ?_⟩, fun m hm => ?_, fun m hm => ?_, fun j hj hlt => ?_⟩
      · rw [List.mem_singleton.mp hb]; exact ih.lt a ha
      · rcases List.mem_append.mp hm with h | h
        · have := ih.lt m h; lia
        · rw [List.mem_singleton.mp h]; lia
      · rcases List.mem_append.mp hm with h | h
        · obtain ⟨j, hj, e, hall'⟩ := ih.src m h
          refine ⟨j, hj, e, fun m' hm' hlt => ?_⟩
          rcases List.mem_append.mp hm' with h' | h'
          · exact hall' m' h' hlt
          · have := ih.lt m h; rw [List.mem_singleton.mp h'] at hlt; lia
        · rw [List.mem_singleton.mp h]
          refine ⟨i, hin, h1, fun m' hm' hlt => ?_⟩
          rcases List.mem_append.mp hm' with h' | h'
          · exact hall m' h'
          · rw [List.mem_singleton.mp h'] at hlt; lia
      · by_cases e : (sp j).2 = (k : Int)
        · exact ⟨k, List.mem_append_right _ (.head _), by have := ok.le j hj; lia, by lia⟩
        · obtain ⟨m, hm, q⟩ := ih.cov j hj (by lia)
          exact ⟨m, List.mem_append_left _ hm, q⟩
    · rw [if_neg hf]
      have hf : (List.range n).filter (mhit sp mk k) = [] := Classical.byContradiction hf
      refine ⟨ih.pw, fun m hm => by have := ih.lt m hm; lia, ih.src, fun j hj hlt => ?_⟩
      by_cases e : (sp j).2 = (k : Int)
      · have h1 := List.filter_eq_nil_iff.mp hf j (List.mem_range.mpr hj)
        unfold mhit at h1
        rw [decide_eq_true_eq] at h1
        have hne : mk ≠ [] := fun h => h1 ⟨e, .inl h⟩
        have hl : ¬ mk.getLastD 0 < (sp j).1 := fun h => h1 ⟨e, .inr h⟩
        exact ⟨mk.getLastD 0, last_mem hne, by lia, by have := ih.lt _ (last_mem hne); lia⟩
      · exact ih.cov j hj (by lia)
section
variable {sp : Nat → Int × Int} {n : Nat}
theorem marksNd (ok : SpOk sp n) : (marks sp n).Nodup := (mkInv ok 17).pw.imp fun h => Int.ne_of_lt h
theorem cnt_lt {p j : Nat} (ok : SpOk sp n) (hp : p < n) (h : (sp p).2 < (sp j).1) : cnt sp n p < cnt sp n j := by
  obtain ⟨m, hm, h1, h2⟩ := (mkInv ok 17).cov p hp (by have := ok.hi p hp; lia)
  refine filter_lt (fun x hx hP => ?_) ⟨m, hm, decide_eq_true (by lia), decide_eq_false (by lia)⟩
  have h3 := of_decide_eq_true hP
  have h4 := ok.le p hp
  exact decide_eq_true (by lia)
/-- the span that set a mark -/
theorem mark_src (ok : SpOk sp n) {m : Int} (hm : m ∈ marks sp n) : ∃ p, p < n ∧ (sp p).2 = m ∧ cnt sp n p + 1 = ((marks sp n).filter fun x => decide (x ≤ m)).length := by
  obtain ⟨p, hp, e, h⟩ := (mkInv ok 17).src m hm
  refine ⟨p, hp, e, ?_⟩
  rw [filter_le_succ (marksNd ok) hm]
  congr 1
  unfold cnt
  congr 1
  apply List.filter_congr
  intro x hx
  rw [decide_eq_decide]
  have h1 := ok.le p hp
  constructor
  · intro h2; lia
  · intro h2; exact h x hx h2
theorem cnt_pred (ok : SpOk sp n) {j k : Nat} (hc : cnt sp n j = k + 1) : ∃ p, p < n ∧ (sp p).2 < (sp j).1 ∧ cnt sp n p = k := by
  have hne : (marks sp n).filter (fun x => decide (x < (sp j).1)) ≠ [] := fun e => by
    unfold cnt at hc; rw [e] at hc; cases hc
  have hm := last_mem hne
  have hpw : ((marks sp n).filter fun x => decide (x < (sp j).1)).Pairwise (· < ·) := (mkInv ok 17).pw.sublist List.filter_sublist
  generalize hx : ((marks sp n).filter fun x => decide (x < (sp j).1)).getLastD 0 = m at hm
  have hle := last_le hpw
  rw [hx] at hle
  obtain ⟨hmm, hml⟩ := List.mem_filter.mp hm
  have hml := of_decide_eq_true hml
  obtain ⟨p, hp, e, h⟩ := mark_src ok hmm
  refine ⟨p, hp, by lia, ?_⟩
  have e2 : (marks sp n).filter (fun x => decide (x ≤ m)) = (marks sp n).filter (fun x => decide (x < (sp j).1)) := by
    apply List.filter_congr
    intro x hx
    rw [decide_eq_decide]
    constructor
    · intro h; lia
    · intro h; exact hle x (List.mem_filter.mpr ⟨hx, decide_eq_true h⟩)
  rw [e2] at h
  unfold cnt at hc
  lia
theorem cnt_max (ok : SpOk sp n) {j : Nat} (hj : j < n) : cnt sp n j < (marks sp n).length := by
  obtain ⟨m, hm, h1, h2⟩ := (mkInv ok 17).cov j hj (by have := ok.hi j hj; lia)
  have h := filter_lt (l := marks sp n) (P := fun x => decide (x < (sp j).1)) (Q := fun _ => true) (fun _ _ _ => rfl) ⟨m, hm, rfl, decide_eq_false (by lia)⟩
  rw [List.filter_eq_self.mpr (fun _ _ => rfl)] at h
  exact h
theorem cnt_all (ok : SpOk sp n) {k : Nat} (hk : k < (marks sp n).length) : ∃ p, p < n ∧ cnt sp n p = k := by
  have hne : marks sp n ≠ [] := fun e => by rw [e] at hk; cases hk
  obtain ⟨p, hp, e, h⟩ := mark_src ok (last_mem hne)
  have pw : (marks sp n).Pairwise (· < ·) := (mkInv ok 17).pw
  rw [List.filter_eq_self.mpr (fun x hx => decide_eq_true (last_le pw x hx))] at h
  have go : ∀ d p, p < n → cnt sp n p = k + d → ∃ p, p < n ∧ cnt sp n p = k := by
    intro d
    induction d with
    | zero => intro p hp h; exact ⟨p, hp, h⟩
    | succ d ih =>
      intro p hp h
      obtain ⟨q, hq, _, hc⟩ := cnt_pred ok (j := p) (k := k + d) h
      exact ih q hq hc
  exact go ((marks sp n).length - 1 - k) p hp (by lia)
end
end Mine

namespace Mine
theorem stepS_fold : ∀ (l : List Nat) (st : Sst), l.Nodup → l.foldl stepS st = ⟨fun r => if r ∈ l then st.np r - 1 else st.np r, st.R ++ l.filter fun j => decide (st.np j - 1 = 0)⟩ := by
  intro l
  induction l with
  | nil => intro st _; simp
  | cons a l ih =>
    intro st hn
    rw [List.nodup_cons] at hn
    rw [List.foldl_cons, ih _ hn.2]
    congr 1
    · funext r
      show (if r ∈ l then (stepS st a).np r - 1 else (stepS st a).np r) = _
      unfold stepS
      dsimp only
      by_cases e : r = a
      · subst e; rw [if_neg hn.1, if_pos rfl, if_pos (.head _)]
      · rw [if_neg e]; simp [e]
    · have h1 : l.filter (fun j => decide ((stepS st a).np j - 1 = 0)) = l.filter fun j => decide (st.np j - 1 = 0) := by
        apply List.filter_congr
        intro j hj
        have : j ≠ a := fun e => hn.1 (e ▸ hj)
        have e : (stepS st a).np j = st.np j := by unfold stepS; dsimp only; rw [if_neg this]
        simp only [e]
      rw [h1, List.filter_cons]
      unfold stepS; dsimp only
      by_cases e : st.np a - 1 = 0
      · rw [if_pos e, if_pos (decide_eq_true e)]; simp
      · rw [if_neg e, if_neg (by simpa using e)]
section
variable {sp : Nat → Int × Int} {n : Nat}
noncomputable def rem (sp : Nat → Int × Int) (n k : Nat) (d : List Nat) (j : Nat) : List Nat := (preds sp n j).filter fun p => decide (k ≤ cnt sp n p ∧ p ∉ d)
theorem mem_preds {p j : Nat} : p ∈ preds sp n j ↔ p < n ∧ (sp p).2 < (sp j).1 := by unfold preds; rw [List.mem_filter, List.mem_range, decide_eq_true_eq]
theorem mem_succs {i j : Nat} : j ∈ succs sp n i ↔ j < n ∧ (sp i).2 < (sp j).1 := by unfold succs; rw [List.mem_filter, List.mem_range, decide_eq_true_eq]
theorem mem_fresh {k j : Nat} : j ∈ freshL sp n k ↔ j < n ∧ cnt sp n j = k := by unfold freshL; rw [List.mem_filter, List.mem_range, decide_eq_true_eq]
theorem preds_nd (j : Nat) : (preds sp n j).Nodup := List.Nodup.sublist List.filter_sublist List.nodup_range
theorem succs_nd (j : Nat) : (succs sp n j).Nodup := List.Nodup.sublist List.filter_sublist List.nodup_range
theorem fresh_nd (k : Nat) : (freshL sp n k).Nodup := List.Nodup.sublist List.filter_sublist List.nodup_range
theorem mem_rem {k j p : Nat} {d : List Nat} : p ∈ rem sp n k d j ↔ (p < n ∧ (sp p).2 < (sp j).1) ∧ k ≤ cnt sp n p ∧ p ∉ d := by unfold rem; rw [List.mem_filter, mem_preds, decide_eq_true_eq]
theorem rem_nd {k j : Nat} {d : List Nat} : (rem sp n k d j).Nodup := List.Nodup.sublist List.filter_sublist (preds_nd j)
theorem mem_waits {ah : List Nat} {i q : Nat} : q ∈ waits sp ah i ↔ q < ah.length ∧ (sp (ah.getD q 0)).2 < (sp i).1 := by unfold waits; rw [List.mem_filter, List.mem_range, decide_eq_true_eq]
theorem late_facts {ah : List Nat} {i : Nat} : (late sp ah i = -1 ∨ ∃ q ∈ waits sp ah i, late sp ah i = (q : Int)) ∧ -1 ≤ late sp ah i ∧ ∀ q ∈ waits sp ah i, (q : Int) ≤ late sp ah i := by
  obtain ⟨h1, h2, h3⟩ := foldl_max_mem ((waits sp ah i).map Int.ofNat) (-1)
  refine ⟨?_, h2, fun q hq => h3 _ (List.mem_map.mpr ⟨q, hq, rfl⟩)⟩
  rcases h1 with h1 | h1
  · exact .inl h1
  · obtain ⟨q, hq, e⟩ := List.mem_map.mp h1
    exact .inr ⟨q, hq, e.symm⟩
theorem rem_snoc {k i j : Nat} {d : List Nat} (hi : i ∈ rem sp n k d j) : ((rem sp n k (d ++ [i]) j).length : Int) = ((rem sp n k d j).length : Int) - 1 := by
  have e : rem sp n k (d ++ [i]) j = (rem sp n k d j).erase i := by
    rw [rem_nd.erase_eq_filter]
    unfold rem
    rw [List.filter_filter]
    apply List.filter_congr
    intro p hp
    rw [Bool.eq_iff_iff]
    simp only [decide_eq_true_eq, List.mem_append, List.mem_singleton, not_or, Bool.and_eq_true, bne_iff_ne, ne_eq]
    constructor
    · rintro ⟨a, b, c⟩; exact ⟨c, a, b⟩
    · rintro ⟨c, a, b⟩; exact ⟨a, b, c⟩
  rw [e, List.length_erase_of_mem hi]
  have : 0 < (rem sp n k d j).length := List.length_pos_of_mem hi
  lia
theorem rem_same {k i j : Nat} {d : List Nat} (hi : i ∉ preds sp n j) : rem sp n k (d ++ [i]) j = rem sp n k d j := by
  unfold rem
  apply List.filter_congr
  intro p hp
  rw [decide_eq_decide, List.mem_append, List.mem_singleton, not_or]
  have : p ≠ i := fun e => hi (e ▸ hp)
  constructor
  · rintro ⟨a, b, _⟩; exact ⟨a, b⟩
  · rintro ⟨a, b⟩; exact ⟨a, b, this⟩
theorem one_iff {l : List Nat} (hn : l.Nodup) {i : Nat} (hi : i ∈ l) : l.length = 1 ↔ ∀ p ∈ l, p = i := by
  constructor
  · intro h p hp
    obtain ⟨x, rfl⟩ := List.length_eq_one_iff.mp h
    rw [List.mem_singleton.mp hp, List.mem_singleton.mp hi]
  · intro h
    match l, hn, hi, h with
    | [a], _, _, _ => rfl
    | a :: b :: l, hn, _, h =>
      have h1 := h a (.head _)
      have h2 := h b (.tail _ (.head _))
      rw [List.nodup_cons] at hn
      exact absurd (show a ∈ b :: l by rw [h1, ← h2]; exact .head _) hn.1
/-- when the count of those still awaited is one -/
theorem rem_one (ok : SpOk sp n) {k m j : Nat} {l : List Nat} (hl : l.Perm (freshL sp n k)) (hm : m < l.length) (hj : j < n) (hij : (sp (l.getD m 0)).2 < (sp j).1) :
    (rem sp n k (l.take m) j).length = 1 ↔ cnt sp n j = k + 1 ∧ late sp l j = (m : Int) := by
  have nd : l.Nodup := hl.nodup_iff.mpr (fresh_nd k)
  have inl : ∀ q, q < l.length → l.getD q 0 < n ∧ cnt sp n (l.getD q 0) = k := fun q hq => mem_fresh.mp (hl.mem_iff.mp (getD_mem hq))
  have ntk : ∀ q, q < l.length → m ≤ q → l.getD q 0 ∉ l.take m := fun q hq hmq hin => by
    obtain ⟨r, hr, e⟩ := List.mem_iff_getElem.mp hin
    rw [List.length_take] at hr
    rw [List.getElem_take] at e
    have e2 : l.getD r 0 = l.getD q 0 := by rw [← e, List.getD_eq_getElem?_getD, List.getElem?_eq_getElem (by lia)]; rfl
    have := nodup_getD nd (by lia) hq e2
    lia
  have hi : l.getD m 0 ∈ rem sp n k (l.take m) j := mem_rem.mpr ⟨⟨(inl m hm).1, hij⟩, by rw [(inl m hm).2]; exact Nat.le_refl _, ntk m hm (Nat.le_refl _)⟩
  rw [one_iff rem_nd hi]
  obtain ⟨f1, f2, f3⟩ := late_facts (sp := sp) (ah := l) (i := j)
  have hmw : m ∈ waits sp l j := mem_waits.mpr ⟨hm, hij⟩
  constructor
  · intro h
    have hc : cnt sp n j = k + 1 := by
      have h1 := cnt_lt ok (inl m hm).1 hij
      rw [(inl m hm).2] at h1
      obtain ⟨k', hk'⟩ : ∃ k', cnt sp n j = k' + 1 := ⟨cnt sp n j - 1, by lia⟩
      obtain ⟨p, hp, hpj, hc⟩ := cnt_pred ok hk'
      by_cases e : k' = k
      · rw [hk', e]
      · have hpm : p ∈ rem sp n k (l.take m) j := mem_rem.mpr ⟨⟨hp, hpj⟩, by lia, fun hin => by
          have := mem_fresh.mp (hl.mem_iff.mp (List.mem_of_mem_take hin)); lia⟩
        have := h p hpm
        rw [this, (inl m hm).2] at hc; lia
    refine ⟨hc, ?_⟩
    have h3 := f3 m hmw
    rcases f1 with f1 | ⟨q, hq, f1⟩
    · lia
    · obtain ⟨hql, hqj⟩ := mem_waits.mp hq
      by_cases e : q ≤ m
      · lia
      · have := h _ (mem_rem.mpr ⟨⟨(inl q hql).1, hqj⟩, by rw [(inl q hql).2]; exact Nat.le_refl _, ntk q hql (by lia)⟩)
        have := nodup_getD nd hql hm this
        lia
  · rintro ⟨hc, hla⟩ p hp
    obtain ⟨⟨hpn, hpj⟩, hk, hd⟩ := mem_rem.mp hp
    have h1 := cnt_lt ok hpn hpj
    have hpl : p ∈ l := hl.mem_iff.mpr (mem_fresh.mpr ⟨hpn, by lia⟩)
    obtain ⟨q, hq, e⟩ := List.mem_iff_getElem.mp hpl
    have e2 : l.getD q 0 = p := by rw [← e, List.getD_eq_getElem?_getD, List.getElem?_eq_getElem hq]; rfl
    have h2 := f3 q (mem_waits.mpr ⟨hq, by rw [e2]; exact hpj⟩)
    have h3 : ¬ q < m := fun hlt => hd (by rw [← e]; exact List.mem_take_iff_getElem.mpr ⟨q, by lia, rfl⟩)
    have : q = m := by lia
    rw [← this, e2]
end
end Mine

namespace Mine
section
variable {sp : Nat → Int × Int} {n : Nat}
/-- the sorter's state before round k -/
structure Rd (sp : Nat → Int × Int) (n k : Nat) (ah : List Nat) (st : Sst) : Prop where
  perm : st.R.Perm (freshL sp n k)
  pw : st.R.Pairwise (fun a b => key sp ah a < key sp ah b)
  np : ∀ j, j < n → st.np j = if cnt sp n j < k then -2 else ((rem sp n k [] j).length : Int)
noncomputable def pick (sp : Nat → Int × Int) (n k : Nat) (l : List Nat) (p : Nat) : List Nat := (succs sp n (l.getD p 0)).filter fun j => decide (cnt sp n j = k + 1 ∧ late sp l j = (p : Int))
theorem mem_pick {k p j : Nat} {l : List Nat} : j ∈ pick sp n k l p ↔ (j < n ∧ (sp (l.getD p 0)).2 < (sp j).1) ∧ cnt sp n j = k + 1 ∧ late sp l j = (p : Int) := by
  unfold pick; rw [List.mem_filter, mem_succs, decide_eq_true_eq]
structure Mid (sp : Nat → Int × Int) (n k : Nat) (l : List Nat) (m : Nat) (S : Sst) : Prop where
  np : ∀ j, j < n → S.np j = if cnt sp n j < k then -2 else if cnt sp n j = k then (if j ∈ l.take m then -2 else -1) else ((rem sp n k (l.take m) j).length : Int)
  R : S.R = (List.range m).flatMap (pick sp n k l)
theorem take_notin {l : List Nat} (nd : l.Nodup) {m : Nat} (hm : m < l.length) : l.getD m 0 ∉ l.take m := fun hin => by
  obtain ⟨r, hr, e⟩ := List.mem_iff_getElem.mp hin
  rw [List.length_take] at hr
  rw [List.getElem_take] at e
  have e2 : l.getD r 0 = l.getD m 0 := by rw [← e, List.getD_eq_getElem?_getD, List.getElem?_eq_getElem (by lia)]; rfl
  have := nodup_getD nd (by lia) hm e2
  lia
theorem getD_some {l : List Nat} {m : Nat} (hm : m < l.length) : l[m]? = some (l.getD m 0) := by
  rw [List.getD_eq_getElem?_getD, List.getElem?_eq_getElem hm]; rfl
theorem mid_zero {k : Nat} {ah : List Nat} {st : Sst} (h : Rd sp n k ah st) : Mid sp n k st.R 0 (start st) := by
  refine ⟨fun j hj => ?_, by simp [start]⟩
  show (if j ∈ st.R then (-1 : Int) else st.np j) = _
  rw [List.take_zero]
  have hm : j ∈ st.R ↔ cnt sp n j = k := by rw [h.perm.mem_iff, mem_fresh]; exact ⟨fun x => x.2, fun x => ⟨hj, x⟩⟩
  by_cases e : cnt sp n j = k
  · rw [if_pos (hm.mpr e), if_neg (by lia), if_pos e, if_neg (by simp)]
  · rw [if_neg (fun x => e (hm.mp x)), h.np j hj, if_neg e]
theorem mid_succ (ok : SpOk sp n) {k m : Nat} {l : List Nat} {S : Sst} (hl : l.Perm (freshL sp n k)) (hm : m < l.length) (h : Mid sp n k l m S) :
    Mid sp n k l (m + 1) (stepN (succs sp n) S (l.getD m 0)) := by
  have nd : l.Nodup := hl.nodup_iff.mpr (fresh_nd k)
  obtain ⟨hin, hic⟩ := mem_fresh.mp (hl.mem_iff.mp (getD_mem hm))
  have hnt := take_notin nd hm
  have htk : l.take (m + 1) = l.take m ++ [l.getD m 0] := take_snoc (getD_some hm)
  unfold stepN
  rw [stepS_fold _ _ (succs_nd _)]
  have one := fun j (hj : j < n) (hij : (sp (l.getD m 0)).2 < (sp j).1) => rem_one ok hl hm hj hij
  generalize hi : l.getD m 0 = i at *
  refine ⟨fun j hj => ?_, ?_⟩
  · dsimp only
    rw [htk]
    by_cases hs : j ∈ succs sp n i
    · have hij := (mem_succs.mp hs).2
      have hc := cnt_lt ok hin hij
      have hne : j ≠ i := fun e => by rw [e] at hc; lia
      rw [if_pos hs, if_neg hne, h.np j hj, if_neg (by lia), if_neg (by lia), if_neg (by lia), if_neg (by lia)]
      exact (rem_snoc (mem_rem.mpr ⟨⟨hin, hij⟩, by lia, hnt⟩)).symm
    · rw [if_neg hs]
      by_cases e : j = i
      · rw [if_pos e, e, hic, if_neg (by lia), if_pos rfl, if_pos (by simp)]
      · rw [if_neg e, h.np j hj]
        by_cases h1 : cnt sp n j < k
        · rw [if_pos h1, if_pos h1]
        · rw [if_neg h1, if_neg h1]
          by_cases h2 : cnt sp n j = k
          · rw [if_pos h2, if_pos h2]; simp [e]
          · rw [if_neg h2, if_neg h2, rem_same (fun hp => hs (mem_succs.mpr ⟨hj, (mem_preds.mp hp).2⟩))]
  · dsimp only
    rw [h.R, List.range_succ, List.flatMap_append, List.flatMap_singleton]
    congr 1
    unfold pick
    rw [hi]
    apply List.filter_congr
    intro j hj
    obtain ⟨hjn, hij⟩ := mem_succs.mp hj
    have hc := cnt_lt ok hin hij
    have hne : j ≠ i := fun e => by rw [e] at hc; lia
    have hv : S.np j = ((rem sp n k (l.take m) j).length : Int) := by rw [h.np j hjn, if_neg (by lia), if_neg (by lia)]
    rw [decide_eq_decide, ← one j hjn hij]
    show (if j = i then (-2 : Int) else S.np j) - 1 = 0 ↔ _
    rw [if_neg hne, hv]
    lia
theorem mid_all (ok : SpOk sp n) {k : Nat} {ah : List Nat} {st : Sst} (h : Rd sp n k ah st) : ∀ m, m ≤ st.R.length → Mid sp n k st.R m ((st.R.take m).foldl (stepN (succs sp n)) (start st)) := by
  intro m
  induction m with
  | zero => intro _; exact mid_zero h
  | succ m ih =>
    intro hm
    rw [take_snoc (getD_some (show m < st.R.length by lia)), List.foldl_append]
    exact mid_succ ok h.perm (by lia) (ih (by lia))
theorem late_of_pick {k p j : Nat} {l : List Nat} (h : j ∈ pick sp n k l p) : late sp l j = (p : Int) := (mem_pick.mp h).2.2
theorem picks_pw (hn : n ≤ 16) {k : Nat} {l : List Nat} : ∀ m, ((List.range m).flatMap (pick sp n k l)).Pairwise (fun a b => key sp l a < key sp l b) := by
  intro m
  induction m with
  | zero => exact .nil
  | succ m ih =>
    rw [List.range_succ, List.flatMap_append, List.flatMap_singleton]
    refine List.pairwise_append.mpr ⟨ih, ?_, fun a ha b hb => ?_⟩
    · have h1 : (pick sp n k l m).Pairwise (· < ·) := by
        unfold pick succs
        exact (List.pairwise_lt_range (n := n)).sublist (List.filter_sublist.trans List.filter_sublist)
      refine h1.imp_of_mem fun ha hb hlt => ?_
      unfold key
      rw [late_of_pick ha, late_of_pick hb]
      lia
    · obtain ⟨p, hp, ha⟩ := List.mem_flatMap.mp ha
      have hp := List.mem_range.mp hp
      unfold key
      rw [late_of_pick ha, late_of_pick hb]
      have := (mem_pick.mp ha).1.1
      lia
theorem pw_nd {ah l : List Nat} (h : l.Pairwise (fun a b => key sp ah a < key sp ah b)) : l.Nodup := h.imp fun h e => by rw [e] at h; lia
theorem rd_succ (ok : SpOk sp n) (hn : n ≤ 16) {k : Nat} {ah : List Nat} {st : Sst} (h : Rd sp n k ah st) : Rd sp n (k + 1) st.R (rnd (succs sp n) st) := by
  have hM := mid_all ok h st.R.length (Nat.le_refl _)
  rw [List.take_length] at hM
  have hR : (rnd (succs sp n) st).R = (List.range st.R.length).flatMap (pick sp n k st.R) := hM.R
  have hp : (rnd (succs sp n) st).R.Pairwise (fun a b => key sp st.R a < key sp st.R b) := by rw [hR]; exact picks_pw hn _
  refine ⟨?_, hp, fun j hj => ?_⟩
  · refine (List.perm_ext_iff_of_nodup (pw_nd hp) (fresh_nd _)).mpr fun j => ?_
    rw [hR, List.mem_flatMap, mem_fresh]
    constructor
    · rintro ⟨p, _, hj⟩
      obtain ⟨⟨h1, _⟩, h2, _⟩ := mem_pick.mp hj
      exact ⟨h1, h2⟩
    · rintro ⟨hj, hc⟩
      obtain ⟨p, hp, hpj, hcp⟩ := cnt_pred ok hc
      have hpl : p ∈ st.R := h.perm.mem_iff.mpr (mem_fresh.mpr ⟨hp, hcp⟩)
      obtain ⟨q, hq, e⟩ := List.mem_iff_getElem.mp hpl
      have e2 : st.R.getD q 0 = p := by rw [← e, List.getD_eq_getElem?_getD, List.getElem?_eq_getElem hq]; rfl
      obtain ⟨f1, f2, f3⟩ := late_facts (sp := sp) (ah := st.R) (i := j)
      have h2 := f3 q (mem_waits.mpr ⟨hq, by rw [e2]; exact hpj⟩)
      rcases f1 with f1 | ⟨r, hr, f1⟩
      · lia
      · obtain ⟨hrl, hrj⟩ := mem_waits.mp hr
        exact ⟨r, List.mem_range.mpr hrl, mem_pick.mpr ⟨⟨hj, hrj⟩, hc, f1⟩⟩
  · have := hM.np j hj
    rw [List.take_length] at this
    show (st.R.foldl (stepN (succs sp n)) (start st)).np j = _
    rw [this]
    by_cases h1 : cnt sp n j < k
    · rw [if_pos h1, if_pos (by lia)]
    · rw [if_neg h1]
      by_cases h2 : cnt sp n j = k
      · rw [if_pos h2, if_pos (h.perm.mem_iff.mpr (mem_fresh.mpr ⟨hj, h2⟩)), if_pos (by lia)]
      · rw [if_neg h2, if_neg (by lia)]
        congr 2
        unfold rem
        apply List.filter_congr
        intro p hp
        have hpn := (mem_preds.mp hp).1
        rw [decide_eq_decide, h.perm.mem_iff, mem_fresh]
        constructor
        · rintro ⟨a, b⟩
          have hq : cnt sp n p ≠ k := fun e => b ⟨hpn, e⟩
          exact ⟨by lia, by simp⟩
        · rintro ⟨a, b⟩; exact ⟨by lia, fun e => by lia⟩
theorem rd_zero (ok : SpOk sp n) : Rd sp n 0 [] (st0 sp n) := by
  have e : (st0 sp n).R = freshL sp n 0 := by
    unfold st0 freshL
    apply List.filter_congr
    intro j hj
    have hj := List.mem_range.mp hj
    rw [decide_eq_decide]
    constructor
    · intro h
      have hnil : preds sp n j = [] := List.eq_nil_of_length_eq_zero (by lia)
      apply Classical.byContradiction
      intro hc
      obtain ⟨k, hk⟩ : ∃ k, cnt sp n j = k + 1 := ⟨cnt sp n j - 1, by lia⟩
      obtain ⟨p, hp, hpj, _⟩ := cnt_pred ok hk
      have : p ∈ preds sp n j := mem_preds.mpr ⟨hp, hpj⟩
      rw [hnil] at this; cases this
    · intro h
      rcases hq : preds sp n j with _ | ⟨p, r⟩
      · rfl
      · have : p ∈ preds sp n j := by rw [hq]; exact .head _
        obtain ⟨hp, hpj⟩ := mem_preds.mp this
        have := cnt_lt ok hp hpj
        lia
  refine ⟨e ▸ .refl _, ?_, fun j hj => ?_⟩
  · rw [e]
    have h1 : (freshL sp n 0).Pairwise (· < ·) := (List.pairwise_lt_range (n := n)).sublist List.filter_sublist
    refine h1.imp fun hlt => ?_
    have e0 : ∀ i, late sp [] i = -1 := fun i => by simp [late, waits]
    unfold key
    rw [e0, e0]
    lia
  · rw [if_neg (by lia)]
    show ((preds sp n j).length : Int) = _
    congr 2
    unfold rem
    rw [List.filter_eq_self.mpr]
    intro p hp
    simp
theorem rd_iter (ok : SpOk sp n) (hn : n ≤ 16) : ∀ k, ∃ ah, Rd sp n k ah (iter (succs sp n) k (st0 sp n)) := by
  intro k
  induction k with
  | zero => exact ⟨[], rd_zero ok⟩
  | succ k ih => obtain ⟨ah, h⟩ := ih; exact ⟨_, rd_succ ok hn h⟩
theorem good_all (ok : SpOk sp n) (hn : n ≤ 11) : ∀ k, GoodSt (succs sp n) n (iter (succs sp n) k (st0 sp n)) := by
  intro k
  obtain ⟨ah, h⟩ := rd_iter ok (by lia) k
  generalize iter (succs sp n) k (st0 sp n) = st at h
  refine ⟨fun j hj => (mem_fresh.mp (h.perm.mem_iff.mp hj)).1, ?_, fun kk i hk => ?_⟩
  · have h1 := h.perm.length_eq
    have h2 : (freshL sp n k).length ≤ (List.range n).length := List.length_filter_le _ _
    rw [List.length_range] at h2
    lia
  · have hkl : kk < st.R.length := (List.getElem?_eq_some_iff.mp hk).1
    have hi : st.R.getD kk 0 = i := by rw [List.getD_eq_getElem?_getD, hk]; rfl
    have hm := mem_fresh.mp (h.perm.mem_iff.mp (getD_mem hkl))
    have := (mid_all ok h kk (by lia)).np i (by rw [← hi]; exact hm.1)
    rw [this, if_neg (by rw [← hi]; lia), if_pos (by rw [← hi]; exact hm.2), if_neg (by rw [← hi]; exact take_notin (pw_nd h.pw) hkl)]
theorem pw_unique {r : Nat → Int} : ∀ {l l' : List Nat}, l.Perm l' → l.Pairwise (fun a b => r a < r b) → l'.Pairwise (fun a b => r a < r b) → l = l' := by
  intro l
  induction l with
  | nil => intro l' h _ _; exact (List.Perm.nil_eq h)
  | cons a l ih =>
    intro l' h h1 h2
    cases l' with
    | nil => exact absurd h.length_eq (by simp)
    | cons b l' =>
      rw [List.pairwise_cons] at h1 h2
      have e : a = b := by
        have ha : a ∈ b :: l' := h.mem_iff.mp (.head _)
        have hb : b ∈ a :: l := h.mem_iff.mpr (.head _)
        rcases List.mem_cons.mp ha with e | ha
        · exact e
        rcases List.mem_cons.mp hb with e | hb
        · exact e.symm
        have := h1.1 b hb
        have := h2.1 a ha
        lia
      subst e
      rw [ih (List.perm_cons a |>.mp h) h1.2 h2.2]
theorem told_due (ok : SpOk sp n) (hn : n ≤ 16) : ∀ (f k : Nat) (ah : List Nat) (st : Sst) (rs : List (List Nat)), Rd sp n k ah st → DueFrom sp n k ah rs → k + rs.length = (marks sp n).length → rs.length < f → toldL (succs sp n) f st = rs := by
  intro f
  induction f with
  | zero => intro k ah st rs _ _ _ h; lia
  | succ f ih =>
    intro k ah st rs h hd hl hf
    rw [toldL]
    cases rs with
    | nil =>
      rw [if_pos]
      have : freshL sp n k = [] := by
        apply List.eq_nil_iff_forall_not_mem.mpr
        intro j hj
        obtain ⟨hj, hc⟩ := mem_fresh.mp hj
        have := cnt_max ok hj
        simp at hl; lia
      have h1 := h.perm
      rw [this] at h1
      exact h1.eq_nil
    | cons r rs =>
      simp only [List.length_cons] at hl hf
      have e : st.R = r := pw_unique (h.perm.trans hd.1.symm) h.pw hd.2.1
      have hne : st.R ≠ [] := fun e0 => by
        obtain ⟨p, hp, hc⟩ := cnt_all ok (k := k) (by lia)
        have : p ∈ st.R := h.perm.mem_iff.mpr (mem_fresh.mpr ⟨hp, hc⟩)
        rw [e0] at this; cases this
      rw [if_neg hne, ih (k + 1) st.R _ rs (rd_succ ok hn h) (e ▸ hd.2.2) (by lia) (by lia), e]
theorem told_is_due (ok : SpOk sp n) (hn : n ≤ 11) {rs : List (List Nat)} (hl : rs.length = (marks sp n).length) (hd : DueFrom sp n 0 [] rs) : toldL (succs sp n) 18 (st0 sp n) = rs :=
  told_due ok (by lia) 18 0 [] _ rs (rd_zero ok) hd (by lia) (by have := marksTo_len sp n 17; unfold marks at hl; lia)
end
end Mine

namespace Mine
open PySem.Flt
noncomputable def fl (x y : UInt64) : Bool := Float64.cmp x y == some .lt
noncomputable def fmax2 (x y : UInt64) : UInt64 := if fl x y then y else x
noncomputable def fmin2 (x y : UInt64) : UInt64 := if fl y x then y else x
section
variable {prog : Program} {w : World} {A : Around} {E : Value → Shared → Prop} {s : Shared} {Q : Value → Shared → Prop}
theorem max_three_num {a b c : Value} (hh : A.handled = none) (ha : NumV a) (hb : NumV b) (hc : NumV c)
    (h : ∀ h' tk, (∀ c o, s.heap.get? c = some o → h'.get? c = some o) → Q (if ltV (if ltV a b then b else a) c then c else (if ltV a b then b else a)) { s with heap := h', toks := tk }) :
    wpAny (model prog w) A (call (.builtin "max") [a, b, c]) Q E s := by
  have hT : (s.heap.push { cls := .type "tuple", data := .seq #[a, b, c] }).IsTuple s.heap.objs.size #[a, b, c] := ⟨_, Heap.get?_push_size _ rfl, rfl, 0, rfl⟩
  refine call_max_three (wpAny_pyIter_tuple hT ?_)
  have hsz : (s.heap.push { cls := .type "tuple", data := .seq #[a, b, c] }).objs.size = s.heap.objs.size + 1 := Heap.size_push ..
  refine ⟨_, [_, s.heap.objs.size], [_], _, _, _, _, rfl, Walks.tuple (A := A.in1) hh _ s.heap.objs.size (by rw [hsz]; exact Nat.ne_of_lt (Nat.lt_succ_self _)) #[a, b, c],
    ⟨⟨_, Heap.get?_push_size _ rfl, rfl, rfl⟩, hT.push _⟩, fun d hd => ?_, by simp, cmpOf_gt #[a, b, c] (by simp [ha, hb, hc]), fun v h' tk hP hk => ?_⟩
  · show d < ((s.heap.push _).push _).objs.size
    rw [Heap.size_push, hsz]
    rcases List.mem_cons.mp hd with rfl | hd
    · rw [hsz]; exact Nat.lt_succ_self _
    · rcases List.mem_cons.mp hd with rfl | hd
      · exact Nat.lt_succ_of_lt (Nat.lt_succ_self _)
      · cases hd
  · have hold : ∀ c o, s.heap.get? c = some o → h'.get? c = some o := fun d o e => by
      refine hk d o (fun hm => ?_) (Heap.get?_push_of_some _ (Heap.get?_push_of_some _ e))
      rcases List.mem_cons.mp hm with e1 | hm
      · have := Heap.lt_size e; rw [e1, hsz] at this; exact Nat.lt_irrefl _ (Nat.lt_of_succ_lt this)
      · cases hm
    have := h h' tk hold
    have hv : v = if ltV (if ltV a b then b else a) c then c else (if ltV a b then b else a) := by
      cases h1 : ltV a b
      · cases h2 : ltV a c <;> simp [argBest, h1, h2] at hP <;> subst hP <;> simp [h2]
      · cases h2 : ltV b c <;> simp [argBest, h1, h2] at hP <;> subst hP <;> simp [h2]
    rw [hv]; exact this
theorem min_three_num {a b c : Value} (hh : A.handled = none) (ha : NumV a) (hb : NumV b) (hc : NumV c)
    (h : ∀ h' tk, (∀ c o, s.heap.get? c = some o → h'.get? c = some o) → Q (if ltV c (if ltV b a then b else a) then c else (if ltV b a then b else a)) { s with heap := h', toks := tk }) :
    wpAny (model prog w) A (call (.builtin "min") [a, b, c]) Q E s := by
  have hT : (s.heap.push { cls := .type "tuple", data := .seq #[a, b, c] }).IsTuple s.heap.objs.size #[a, b, c] := ⟨_, Heap.get?_push_size _ rfl, rfl, 0, rfl⟩
  refine call_min_three (wpAny_pyIter_tuple hT ?_)
  have hsz : (s.heap.push { cls := .type "tuple", data := .seq #[a, b, c] }).objs.size = s.heap.objs.size + 1 := Heap.size_push ..
  refine ⟨_, [_, s.heap.objs.size], [_], _, _, _, _, rfl, Walks.tuple (A := A.in1) hh _ s.heap.objs.size (by rw [hsz]; exact Nat.ne_of_lt (Nat.lt_succ_self _)) #[a, b, c],
    ⟨⟨_, Heap.get?_push_size _ rfl, rfl, rfl⟩, hT.push _⟩, fun d hd => ?_, by simp, cmpOf_lt #[a, b, c] (by simp [ha, hb, hc]), fun v h' tk hP hk => ?_⟩
  · show d < ((s.heap.push _).push _).objs.size
    rw [Heap.size_push, hsz]
    rcases List.mem_cons.mp hd with rfl | hd
    · rw [hsz]; exact Nat.lt_succ_self _
    · rcases List.mem_cons.mp hd with rfl | hd
      · exact Nat.lt_succ_of_lt (Nat.lt_succ_self _)
      · cases hd
  · have hold : ∀ c o, s.heap.get? c = some o → h'.get? c = some o := fun d o e => by
      refine hk d o (fun hm => ?_) (Heap.get?_push_of_some _ (Heap.get?_push_of_some _ e))
      rcases List.mem_cons.mp hm with e1 | hm
      · have := Heap.lt_size e; rw [e1, hsz] at this; exact Nat.lt_irrefl _ (Nat.lt_of_succ_lt this)
      · cases hm
    have := h h' tk hold
    have hv : v = if ltV c (if ltV b a then b else a) then c else (if ltV b a then b else a) := by
      cases h1 : ltV b a
      · cases h2 : ltV c a <;> simp [argBest, h1, h2] at hP <;> subst hP <;> simp [h2]
      · cases h2 : ltV c b <;> simp [argBest, h1, h2] at hP <;> subst hP <;> simp [h2]
    rw [hv]; exact this
variable {h₀ : Heap} {L : Addr} {m : Str → Option Value} {news : List (Addr × Obj)}
theorem pickx {x y : UInt64} {t u : Tok} : (if ltV (.float x t) (.float y u) = true then Value.float y u else .float x t) = .float (fmax2 x y) (if fl x y = true then u else t) := by
  unfold fmax2
  show (if fl x y = true then _ else _) = _
  by_cases c : fl x y = true
  · simp only [if_pos c]
  · simp only [if_neg c]
theorem pickn {x y : UInt64} {t u : Tok} : (if ltV (.float y u) (.float x t) = true then Value.float y u else .float x t) = .float (fmin2 x y) (if fl y x = true then u else t) := by
  unfold fmin2
  show (if fl y x = true then _ else _) = _
  by_cases c : fl y x = true
  · simp only [if_pos c]
  · simp only [if_neg c]
theorem max3f {x y z : UInt64} {t u v : Tok} (hh : A.handled = none) (F : Fr h₀ L s.heap m) (N : News h₀ L s.heap news)
    (h : ∀ h' tk v, Fr h₀ L h' m → News h₀ L h' news → Q (.float (fmax2 (fmax2 x y) z) v) { s with heap := h', toks := tk }) :
    wpAny (model prog w) A (call (.builtin "max") [.float x t, .float y u, .float z v]) Q E s := by
  refine max_three_num hh (.float x t) (.float y u) (.float z v) fun h' tk kp => ?_
  rw [pickx, pickx]
  exact h h' tk _ (F.grownK kp) (N.grown kp)
theorem min3f {x y z : UInt64} {t u v : Tok} (hh : A.handled = none) (F : Fr h₀ L s.heap m) (N : News h₀ L s.heap news)
    (h : ∀ h' tk v, Fr h₀ L h' m → News h₀ L h' news → Q (.float (fmin2 (fmin2 x y) z) v) { s with heap := h', toks := tk }) :
    wpAny (model prog w) A (call (.builtin "min") [.float x t, .float y u, .float z v]) Q E s := by
  refine min_three_num hh (.float x t) (.float y u) (.float z v) fun h' tk kp => ?_
  rw [pickn, pickn]
  exact h h' tk _ (F.grownK kp) (N.grown kp)
theorem min2f {x y : UInt64} {t u : Tok} (hh : A.handled = none) (F : Fr h₀ L s.heap m) (N : News h₀ L s.heap news)
    (h : ∀ h' tk v, Fr h₀ L h' m → News h₀ L h' news → Q (.float (fmin2 x y) v) { s with heap := h', toks := tk }) :
    wpAny (model prog w) A (call (.builtin "min") [.float x t, .float y u]) Q E s := min_two_ff hh F N h
end
end Mine

namespace Mine
abbrev f1 : UInt64 := 4607182418800017408
abbrev f2 : UInt64 := 4611686018427387904
abbrev f4 : UInt64 := 4616189618054758400
abbrev f6 : UInt64 := 4618441417868443648
abbrev fh : UInt64 := 4602678819172646912
abbrev fsix : UInt64 := 4595172819793696085
abbrev fthr : UInt64 := 4599676419421066581
abbrev ftwo : UInt64 := 4604180019048437077
noncomputable def vP (x y z : UInt64) : UInt64 :=
  if fl (Float64.divmod z f1).snd fsix = true then Float64.add x (Float64.mul (Float64.mul (Float64.sub y x) (Float64.divmod z f1).snd) f6)
  else if fl (Float64.divmod z f1).snd fh = true then y
  else if fl (Float64.divmod z f1).snd ftwo = true then Float64.add x (Float64.mul (Float64.mul (Float64.sub y x) (Float64.sub ftwo (Float64.divmod z f1).snd)) f6)
  else x
theorem v_call {w : World} {s : Shared} {mg mb : Str → Option Value} {mean : ExcName → Option Value} (KX : (heapK w.params).In s.heap) (T : Top viewK loo mean mg mb s.heap)
   (x y z : UInt64) (t u v : Tok) : codeAny (model prg w) (lv 500 3000) (.call (.ref 42) ⟨[.float x t, .float y u, .float z v], []⟩) (fun r s' => ∃ t, r = .ok (.ret (.float (vP x y z) t)) ∧ Keeps s s') s := by
  refine' enter0 (binds := [(Str.ofString "m1", .float x t), (Str.ofString "m2", .float y u), (Str.ofString "hue", .float z v)]) KX ?k6 ?k7 T.nolimit ?k8 ?k9 ?kB ?_ ?c2 ?c3 ?c4 ?c5
  case k6 => k_is
  case k7 => k_is
  case k8 => decide
  case k9 => exact BindsTo.of_eq rfl
  case kB => exact locs rfl
  case c2 => exact rfl
  case c3 => exact rfl
  case c4 => exact rfl
  case c5 => decide
  dsimp only [fB, fS, fA, met, stm, PySem.Challenge.pw_mj0230_01, List.drop]
  intro L h₁ tk F
  have N : News s.heap L h₁ [] := fun p hp => by cases hp
  (try dsimp only); (try k_fold)
  iterate 16 ((try (first | with_reducible refine Mine.hide_execT fun Qh tkh hQh => ?_ | with_reducible refine Mine.hide_exec fun Qh hQh => ?_ | with_reducible refine Mine.hide_comp fun Qh hQh => ?_ | with_reducible refine Mine.hide_tok fun tkh => ?_)); (first | walk1 | (dsimp only; walk1) | (refine hQh _ _ ?_; clear hQh; try clear Qh)); try dsimp only)
  walk1
  · iterate 17 ((try (first | with_reducible refine Mine.hide_execT fun Qh tkh hQh => ?_ | with_reducible refine Mine.hide_exec fun Qh hQh => ?_ | with_reducible refine Mine.hide_comp fun Qh hQh => ?_ | with_reducible refine Mine.hide_tok fun tkh => ?_)); (first | walk1 | (dsimp only; walk1) | (refine hQh _ _ ?_; clear hQh; try clear Qh)); try dsimp only)
    rename Fr _ _ _ _ => F
    rename (_ = true) => e1
    refine ⟨_, by unfold vP; rw [if_pos (show fl _ _ = true from e1)], ⟨_, _, rfl, F.keep⟩⟩
  rename (_ = false) => e1
  iterate 9 ((try (first | with_reducible refine Mine.hide_execT fun Qh tkh hQh => ?_ | with_reducible refine Mine.hide_exec fun Qh hQh => ?_ | with_reducible refine Mine.hide_comp fun Qh hQh => ?_ | with_reducible refine Mine.hide_tok fun tkh => ?_)); (first | walk1 | (dsimp only; walk1) | (refine hQh _ _ ?_; clear hQh; try clear Qh)); try dsimp only)
  walk1
  · iterate 6 ((try (first | with_reducible refine Mine.hide_execT fun Qh tkh hQh => ?_ | with_reducible refine Mine.hide_exec fun Qh hQh => ?_ | with_reducible refine Mine.hide_comp fun Qh hQh => ?_ | with_reducible refine Mine.hide_tok fun tkh => ?_)); (first | walk1 | (dsimp only; walk1) | (refine hQh _ _ ?_; clear hQh; try clear Qh)); try dsimp only)
    rename Fr _ _ _ _ => F
    rename (_ = true) => e2
    refine ⟨_, by unfold vP; rw [if_neg (show ¬ fl _ _ = true from Bool.not_eq_true _ ▸ e1), if_pos (show fl _ _ = true from e2)], ⟨_, _, rfl, F.keep⟩⟩
  rename (_ = false) => e2
  iterate 10 ((try (first | with_reducible refine Mine.hide_execT fun Qh tkh hQh => ?_ | with_reducible refine Mine.hide_exec fun Qh hQh => ?_ | with_reducible refine Mine.hide_comp fun Qh hQh => ?_ | with_reducible refine Mine.hide_tok fun tkh => ?_)); (first | walk1 | (dsimp only; walk1) | (refine hQh _ _ ?_; clear hQh; try clear Qh)); try dsimp only)
  walk1
  · iterate 20 ((try (first | with_reducible refine Mine.hide_execT fun Qh tkh hQh => ?_ | with_reducible refine Mine.hide_exec fun Qh hQh => ?_ | with_reducible refine Mine.hide_comp fun Qh hQh => ?_ | with_reducible refine Mine.hide_tok fun tkh => ?_)); (first | walk1 | (dsimp only; walk1) | (refine hQh _ _ ?_; clear hQh; try clear Qh)); try dsimp only)
    rename Fr _ _ _ _ => F
    rename (_ = true) => e3
    refine ⟨_, by unfold vP; rw [if_neg (show ¬ fl _ _ = true from Bool.not_eq_true _ ▸ e1), if_neg (show ¬ fl _ _ = true from Bool.not_eq_true _ ▸ e2), if_pos (show fl _ _ = true from e3)], ⟨_, _, rfl, F.keep⟩⟩
  rename (_ = false) => e3
  iterate 6 ((try (first | with_reducible refine Mine.hide_execT fun Qh tkh hQh => ?_ | with_reducible refine Mine.hide_exec fun Qh hQh => ?_ | with_reducible refine Mine.hide_comp fun Qh hQh => ?_ | with_reducible refine Mine.hide_tok fun tkh => ?_)); (first | walk1 | (dsimp only; walk1) | (refine hQh _ _ ?_; clear hQh; try clear Qh)); try dsimp only)
  rename Fr _ _ _ _ => F
  refine ⟨_, by unfold vP; rw [if_neg (show ¬ fl _ _ = true from Bool.not_eq_true _ ▸ e1), if_neg (show ¬ fl _ _ = true from Bool.not_eq_true _ ▸ e2), if_neg (show ¬ fl _ _ = true from Bool.not_eq_true _ ▸ e3)], ⟨_, _, rfl, F.keep⟩⟩
end Mine

namespace Mine
noncomputable def feq (x y : UInt64) : Bool := Float64.cmp x y == some .eq
noncomputable def fle (x y : UInt64) : Bool := Float64.cmp x y == some .lt || Float64.cmp x y == some .eq
noncomputable def lP (mx mn : UInt64) : UInt64 := Float64.div (Float64.add mx mn) f2
noncomputable def sP (mx mn : UInt64) : UInt64 := if feq mn mx = true then 0 else if fle (lP mx mn) fh = true then Float64.div (Float64.sub mx mn) (Float64.add mx mn) else Float64.div (Float64.sub mx mn) (Float64.sub (Float64.sub f2 mx) mn)
noncomputable def cP (a mx mn : UInt64) : UInt64 := Float64.div (Float64.sub mx a) (Float64.sub mx mn)
noncomputable def hP (x y z mx mn : UInt64) : UInt64 := if feq mn mx = true then 0 else
  (Float64.divmod (Float64.div (if feq x mx = true then Float64.sub (cP z mx mn) (cP y mx mn) else if feq y mx = true then Float64.sub (Float64.add f2 (cP x mx mn)) (cP z mx mn) else Float64.sub (Float64.add f4 (cP y mx mn)) (cP x mx mn)) f6) f1).snd
theorem ff {b : Bool} (h : b = false) : ¬ b = true := by simp [h]
abbrev fTup (vs : List Value) : Obj := { cls := .type "tuple", data := .seq vs.toArray }
theorem tup_of {h₀ h : Heap} {L p : Addr} {vs : Array Value} {r : List (Addr × Obj)} (N : News h₀ L h ((p, { cls := .type "tuple", data := .seq vs }) :: r)) : h.IsTuple p vs := ⟨_, (N _ (.head _)).1, rfl, 0, rfl⟩
theorem hls_call {w : World} {s : Shared} {mg mb : Str → Option Value} {mean : ExcName → Option Value} (KX : (heapK w.params).In s.heap) (T : Top viewK loo mean mg mb s.heap)
   (x y z mx mn : UInt64) (t u v : Tok) (hmx : fmax2 (fmax2 x y) z = mx) (hmn : fmin2 (fmin2 x y) z = mn) (hz : feq mn mx = false → Float64.isZero (Float64.sub mx mn) = false) (hz2 : feq mn mx = false → Float64.isZero (Float64.add mx mn) = false)  (hz3 : feq mn mx = false → Float64.isZero (Float64.sub (Float64.sub f2 mx) mn) = false) :
   codeAny (model prg w) (lv 500 3000) (.call (.ref 28) ⟨[.float x t, .float y u, .float z v], []⟩) (fun r s' => ∃ p t1 t2 t3, r = .ok (.ret (.ref p)) ∧ Keeps s s' ∧ s.heap.get? p = none ∧ s'.heap.get? p = some (fTup [.float (hP x y z mx mn) t1, .float (lP mx mn) t2, .float (sP mx mn) t3])) s := by
  refine' enter0 (binds := [(Str.ofString "r", .float x t), (Str.ofString "g", .float y u), (Str.ofString "b", .float z v)]) KX ?k6 ?k7 T.nolimit ?k8 ?k9 ?kB ?_ ?c2 ?c3 ?c4 ?c5
  case k6 => k_is
  case k7 => k_is
  case k8 => decide
  case k9 => exact BindsTo.of_eq rfl
  case kB => exact locs rfl
  case c2 => exact rfl
  case c3 => exact rfl
  case c4 => exact rfl
  case c5 => decide
  dsimp only [fB, fS, fA, met, stm, PySem.Challenge.pw_mj0230_01, List.drop]
  intro L h₁ tk F
  have N : News s.heap L h₁ [] := fun p hp => by cases hp
  (try dsimp only); (try k_fold)
  iterate 12 ((first | walk1 | (dsimp only; walk1)); try dsimp only)
  refine max3f rfl F N fun h' tk v F N => ?_
  rw [hmx]
  iterate 14 ((first | walk1 | (dsimp only; walk1)); try dsimp only)
  refine min3f rfl (by k_asm) (by k_asm) fun h' tk v F N => ?_
  rw [hmn]
  iterate 33 ((first | walk1 | (dsimp only; walk1)); try dsimp only)
  walk1
  · iterate 11 ((first | walk1 | (dsimp only; walk1)); try dsimp only)
    rename Fr _ _ _ _ => F
    rename News _ _ _ _ => N
    rename (_ = true) => e1
    replace e1 : feq mn mx = true := e1
    have r1 : hP x y z mx mn = 0 := by unfold hP; rw [if_pos e1]
    have r2 : sP mx mn = 0 := by unfold sP; rw [if_pos e1]
    exact ⟨_, _, _, _, rfl, ⟨_, _, rfl, F.keep⟩, (N _ (.head _)).2.2, by rw [r1, r2]; exact (N _ (.head _)).1⟩
  rename (_ = false) => e1
  have hz := hz e1
  have hz2 := hz2 e1
  have hz3 := hz3 e1
  replace e1 : feq mn mx = false := e1
  have fin : ∀ {h' : Heap} {tk : Nat} {D : Addr} {mm : Str → Option Value} {H S : UInt64} {t1 t2 t3 : Tok}, Fr s.heap L h' mm → News s.heap L h' [(D, { cls := .type "tuple", data := .seq #[.float H t1, .float (lP mx mn) t2, .float S t3] })] → hP x y z mx mn = H → sP mx mn = S →
      ∃ p t1 t2 t3, (Except.ok (Flow.ret (Value.ref D)) : Result) = Except.ok (Flow.ret (Value.ref p)) ∧ Keeps s { s with heap := h', toks := tk } ∧ s.heap.get? p = none ∧ h'.get? p = some (fTup [.float (hP x y z mx mn) t1, .float (lP mx mn) t2, .float (sP mx mn) t3]) :=
    fun {h' tk D mm H S t1 t2 t3} F N r1 r2 => ⟨_, t1, t2, t3, rfl, ⟨_, _, rfl, F.keep⟩, (N _ (.head _)).2.2, by rw [r1, r2]; exact (N _ (.head _)).1⟩
  iterate 8 ((first | walk1 | (dsimp only; walk1)); try dsimp only)
  walk1
  · rename (_ = true) => e2
    replace e2 : fle (lP mx mn) fh = true := e2
    have r2 : sP mx mn = Float64.div (Float64.sub mx mn) (Float64.add mx mn) := by unfold sP; rw [if_neg (ff e1), if_pos e2]
    iterate 49 ((first | walk1 | (dsimp only; walk1)); try dsimp only)
    walk1
    · rename (_ = true) => e3
      iterate 31 ((first | walk1 | (dsimp only; walk1)); try dsimp only)
      exact fin (by k_asm) (by k_asm) (by unfold hP; rw [if_neg (ff e1), if_pos (show feq x mx = true from e3)]; rfl) r2
    rename (_ = false) => e3
    iterate 7 ((first | walk1 | (dsimp only; walk1)); try dsimp only)
    walk1
    · rename (_ = true) => e4
      iterate 35 ((first | walk1 | (dsimp only; walk1)); try dsimp only)
      exact fin (by k_asm) (by k_asm) (by unfold hP; rw [if_neg (ff e1), if_neg (ff (show feq x mx = false from e3)), if_pos (show feq y mx = true from e4)]; rfl) r2
    rename (_ = false) => e4
    iterate 35 ((first | walk1 | (dsimp only; walk1)); try dsimp only)
    exact fin (by k_asm) (by k_asm) (by unfold hP; rw [if_neg (ff e1), if_neg (ff (show feq x mx = false from e3)), if_neg (ff (show feq y mx = false from e4))]; rfl) r2
  · rename (_ = false) => e2
    replace e2 : fle (lP mx mn) fh = false := e2
    have r2 : sP mx mn = Float64.div (Float64.sub mx mn) (Float64.sub (Float64.sub f2 mx) mn) := by unfold sP; rw [if_neg (ff e1), if_neg (ff e2)]
    iterate 55 ((first | walk1 | (dsimp only; walk1)); try dsimp only)
    walk1
    · rename (_ = true) => e3
      iterate 31 ((first | walk1 | (dsimp only; walk1)); try dsimp only)
      exact fin (by k_asm) (by k_asm) (by unfold hP; rw [if_neg (ff e1), if_pos (show feq x mx = true from e3)]; rfl) r2
    rename (_ = false) => e3
    iterate 7 ((first | walk1 | (dsimp only; walk1)); try dsimp only)
    walk1
    · rename (_ = true) => e4
      iterate 35 ((first | walk1 | (dsimp only; walk1)); try dsimp only)
      exact fin (by k_asm) (by k_asm) (by unfold hP; rw [if_neg (ff e1), if_neg (ff (show feq x mx = false from e3)), if_pos (show feq y mx = true from e4)]; rfl) r2
    rename (_ = false) => e4
    iterate 35 ((first | walk1 | (dsimp only; walk1)); try dsimp only)
    exact fin (by k_asm) (by k_asm) (by unfold hP; rw [if_neg (ff e1), if_neg (ff (show feq x mx = false from e3)), if_neg (ff (show feq y mx = false from e4))]; rfl) r2
end Mine

namespace Mine
section
variable {w : World} {A : Around} {h₀ : Heap} {L : Addr} {m mg mb : Str → Option Value} {s : Shared} {mean : ExcName → Option Value} {Q : Value → Shared → Prop} {E : Value → Shared → Prop} {news : List (Addr × Obj)}
theorem v_at (KX : (heapK w.params).In h₀) (T : Top viewK loo mean mg mb h₀) (F : Fr h₀ L s.heap m) (N : News h₀ L s.heap news) {x y z : UInt64} {t u v : Tok}
    (hQ : ∀ t h' tk, Fr h₀ L h' m → News h₀ L h' news → Q (.float (vP x y z) t) { s with heap := h', toks := tk })
    (hh : A.handled = none) (hg : A.guards = some []) (hd : A.depth ≤ 500) (hu : A.units ≤ 3000) :
    wpAny (model prg w) A (call (.ref 42) [.float x t, .float y u, .float z v] []) Q E s := by
  refine wpAny_call (codeAny_mono (codeAny_lv (v_call (KX.keeps F.keep) (T.keeps F.keep) x y z t u v) hh hg hd hu) fun r s' h => ?_)
  obtain ⟨t, rfl, h', tk, rfl, kp⟩ := h
  exact hQ _ _ _ (F.grownK kp) (N.grown kp)
end
noncomputable def m2P (l s : UInt64) : UInt64 := if fle l fh = true then Float64.mul l (Float64.add f1 s) else Float64.sub (Float64.add l s) (Float64.mul l s)
noncomputable def m1P (l s : UInt64) : UInt64 := Float64.sub (Float64.mul f2 l) (m2P l s)
noncomputable def rP (l s hue : UInt64) : UInt64 := if feq s 0 = true then l else vP (m1P l s) (m2P l s) hue
theorem rgb_call {w : World} {s : Shared} {mg mb : Str → Option Value} {mean : ExcName → Option Value} (KX : (heapK w.params).In s.heap) (T : Top viewK loo mean mg mb s.heap)
   (x y z : UInt64) (t u v : Tok) :
   codeAny (model prg w) (lv 400 2500) (.call (.ref 35) ⟨[.float x t, .float y u, .float z v], []⟩) (fun r s' => ∃ p t1 t2 t3, r = .ok (.ret (.ref p)) ∧ Keeps s s' ∧ s.heap.get? p = none ∧ s'.heap.get? p = some (fTup [.float (rP y z (Float64.add x fthr)) t1, .float (rP y z x) t2, .float (rP y z (Float64.sub x fthr)) t3])) s := by
  refine' enter0 (binds := [(Str.ofString "h", .float x t), (Str.ofString "l", .float y u), (Str.ofString "s", .float z v)]) KX ?k6 ?k7 T.nolimit ?k8 ?k9 ?kB ?_ ?c2 ?c3 ?c4 ?c5
  case k6 => k_is
  case k7 => k_is
  case k8 => decide
  case k9 => exact BindsTo.of_eq rfl
  case kB => exact locs rfl
  case c2 => exact rfl
  case c3 => exact rfl
  case c4 => exact rfl
  case c5 => decide
  dsimp only [fB, fS, fA, met, stm, PySem.Challenge.pw_mj0230_01, List.drop]
  intro L h₁ tk F
  have N : News s.heap L h₁ [] := fun p hp => by cases hp
  (try dsimp only); (try k_fold)
  iterate 7 ((try (first | with_reducible refine Mine.hide_execT fun Qh tkh hQh => ?_ | with_reducible refine Mine.hide_exec fun Qh hQh => ?_ | with_reducible refine Mine.hide_comp fun Qh hQh => ?_ | with_reducible refine Mine.hide_tok fun tkh => ?_)); (first | walk1 | (dsimp only; walk1) | (refine hQh _ _ ?_; clear hQh; try clear Qh)); try dsimp only)
  walk1
  · iterate 14 ((try (first | with_reducible refine Mine.hide_execT fun Qh tkh hQh => ?_ | with_reducible refine Mine.hide_exec fun Qh hQh => ?_ | with_reducible refine Mine.hide_comp fun Qh hQh => ?_ | with_reducible refine Mine.hide_tok fun tkh => ?_)); (first | walk1 | (dsimp only; walk1) | (refine hQh _ _ ?_; clear hQh; try clear Qh)); try dsimp only)
    rename Fr _ _ _ _ => F
    rename News _ _ _ _ => N
    rename (_ = true) => e1
    replace e1 : feq z 0 = true := e1
    have r1 : ∀ q, rP y z q = y := fun q => by unfold rP; rw [if_pos e1]
    exact ⟨_, _, _, _, rfl, ⟨_, _, rfl, F.keep⟩, (N _ (.head _)).2.2, by rw [r1, r1, r1]; exact (N _ (.head _)).1⟩
  rename (_ = false) => e1
  replace e1 : feq z 0 = false := e1
  have r1 : ∀ q, rP y z q = vP (m1P y z) (m2P y z) q := fun q => by unfold rP; rw [if_neg (ff e1)]
  have fin : ∀ {h' : Heap} {tk : Nat} {D : Addr} {mm : Str → Option Value} {M : UInt64} {t1 t2 t3 : Tok}, m2P y z = M → Fr s.heap L h' mm → News s.heap L h' [(D, { cls := .type "tuple", data := .seq #[.float (vP (Float64.sub (Float64.mul f2 y) M) M (Float64.add x fthr)) t1, .float (vP (Float64.sub (Float64.mul f2 y) M) M x) t2, .float (vP (Float64.sub (Float64.mul f2 y) M) M (Float64.sub x fthr)) t3] })] →
      ∃ p t1 t2 t3, (Except.ok (Flow.ret (Value.ref D)) : Result) = Except.ok (Flow.ret (Value.ref p)) ∧ Keeps s { s with heap := h', toks := tk } ∧ s.heap.get? p = none ∧ h'.get? p = some (fTup [.float (rP y z (Float64.add x fthr)) t1, .float (rP y z x) t2, .float (rP y z (Float64.sub x fthr)) t3]) :=
    fun {h' tk D mm M t1 t2 t3} e F N => ⟨_, t1, t2, t3, rfl, ⟨_, _, rfl, F.keep⟩, (N _ (.head _)).2.2, by rw [r1, r1, r1]; unfold m1P; rw [e]; exact (N _ (.head _)).1⟩
  iterate 10 ((try (first | with_reducible refine Mine.hide_execT fun Qh tkh hQh => ?_ | with_reducible refine Mine.hide_exec fun Qh hQh => ?_ | with_reducible refine Mine.hide_comp fun Qh hQh => ?_ | with_reducible refine Mine.hide_tok fun tkh => ?_)); (first | walk1 | (dsimp only; walk1) | (refine hQh _ _ ?_; clear hQh; try clear Qh)); try dsimp only)
  walk1
  · rename (_ = true) => e2
    replace e2 : fle y fh = true := e2
    have r2 : m2P y z = Float64.mul y (Float64.add f1 z) := by unfold m2P; rw [if_pos e2]
    iterate 42 ((try (first | with_reducible refine Mine.hide_execT fun Qh tkh hQh => ?_ | with_reducible refine Mine.hide_exec fun Qh hQh => ?_ | with_reducible refine Mine.hide_comp fun Qh hQh => ?_ | with_reducible refine Mine.hide_tok fun tkh => ?_)); (first | walk1 | (dsimp only; walk1) | (refine hQh _ _ ?_; clear hQh; try clear Qh)); try dsimp only)
    refine v_at KX T (by k_asm) (by k_asm) (fun t1 h' tk F N => ?_) rfl rfl (Nat.le_of_ble_eq_true rfl) (Nat.le_of_ble_eq_true rfl)
    iterate 12 ((try (first | with_reducible refine Mine.hide_execT fun Qh tkh hQh => ?_ | with_reducible refine Mine.hide_exec fun Qh hQh => ?_ | with_reducible refine Mine.hide_comp fun Qh hQh => ?_ | with_reducible refine Mine.hide_tok fun tkh => ?_)); (first | walk1 | (dsimp only; walk1) | (refine hQh _ _ ?_; clear hQh; try clear Qh)); try dsimp only)
    refine v_at KX T (by k_asm) (by k_asm) (fun t1 h' tk F N => ?_) rfl rfl (Nat.le_of_ble_eq_true rfl) (Nat.le_of_ble_eq_true rfl)
    iterate 15 ((try (first | with_reducible refine Mine.hide_execT fun Qh tkh hQh => ?_ | with_reducible refine Mine.hide_exec fun Qh hQh => ?_ | with_reducible refine Mine.hide_comp fun Qh hQh => ?_ | with_reducible refine Mine.hide_tok fun tkh => ?_)); (first | walk1 | (dsimp only; walk1) | (refine hQh _ _ ?_; clear hQh; try clear Qh)); try dsimp only)
    refine v_at KX T (by k_asm) (by k_asm) (fun t1 h' tk F N => ?_) rfl rfl (Nat.le_of_ble_eq_true rfl) (Nat.le_of_ble_eq_true rfl)
    iterate 3 ((try (first | with_reducible refine Mine.hide_execT fun Qh tkh hQh => ?_ | with_reducible refine Mine.hide_exec fun Qh hQh => ?_ | with_reducible refine Mine.hide_comp fun Qh hQh => ?_ | with_reducible refine Mine.hide_tok fun tkh => ?_)); (first | walk1 | (dsimp only; walk1) | (refine hQh _ _ ?_; clear hQh; try clear Qh)); try dsimp only)
    exact fin r2 (by k_asm) (by k_asm)
  · rename (_ = false) => e2
    replace e2 : fle y fh = false := e2
    have r2 : m2P y z = Float64.sub (Float64.add y z) (Float64.mul y z) := by unfold m2P; rw [if_neg (ff e2)]
    iterate 45 ((try (first | with_reducible refine Mine.hide_execT fun Qh tkh hQh => ?_ | with_reducible refine Mine.hide_exec fun Qh hQh => ?_ | with_reducible refine Mine.hide_comp fun Qh hQh => ?_ | with_reducible refine Mine.hide_tok fun tkh => ?_)); (first | walk1 | (dsimp only; walk1) | (refine hQh _ _ ?_; clear hQh; try clear Qh)); try dsimp only)
    refine v_at KX T (by k_asm) (by k_asm) (fun t1 h' tk F N => ?_) rfl rfl (Nat.le_of_ble_eq_true rfl) (Nat.le_of_ble_eq_true rfl)
    iterate 12 ((try (first | with_reducible refine Mine.hide_execT fun Qh tkh hQh => ?_ | with_reducible refine Mine.hide_exec fun Qh hQh => ?_ | with_reducible refine Mine.hide_comp fun Qh hQh => ?_ | with_reducible refine Mine.hide_tok fun tkh => ?_)); (first | walk1 | (dsimp only; walk1) | (refine hQh _ _ ?_; clear hQh; try clear Qh)); try dsimp only)
    refine v_at KX T (by k_asm) (by k_asm) (fun t1 h' tk F N => ?_) rfl rfl (Nat.le_of_ble_eq_true rfl) (Nat.le_of_ble_eq_true rfl)
    iterate 15 ((try (first | with_reducible refine Mine.hide_execT fun Qh tkh hQh => ?_ | with_reducible refine Mine.hide_exec fun Qh hQh => ?_ | with_reducible refine Mine.hide_comp fun Qh hQh => ?_ | with_reducible refine Mine.hide_tok fun tkh => ?_)); (first | walk1 | (dsimp only; walk1) | (refine hQh _ _ ?_; clear hQh; try clear Qh)); try dsimp only)
    refine v_at KX T (by k_asm) (by k_asm) (fun t1 h' tk F N => ?_) rfl rfl (Nat.le_of_ble_eq_true rfl) (Nat.le_of_ble_eq_true rfl)
    iterate 3 ((try (first | with_reducible refine Mine.hide_execT fun Qh tkh hQh => ?_ | with_reducible refine Mine.hide_exec fun Qh hQh => ?_ | with_reducible refine Mine.hide_comp fun Qh hQh => ?_ | with_reducible refine Mine.hide_tok fun tkh => ?_)); (first | walk1 | (dsimp only; walk1) | (refine hQh _ _ ?_; clear hQh; try clear Qh)); try dsimp only)
    exact fin r2 (by k_asm) (by k_asm)
section
variable {w : World} {A : Around} {h₀ : Heap} {L : Addr} {m mg mb : Str → Option Value} {s : Shared} {mean : ExcName → Option Value} {Q : Value → Shared → Prop} {E : Value → Shared → Prop} {news : List (Addr × Obj)}
theorem hls_at (KX : (heapK w.params).In h₀) (T : Top viewK loo mean mg mb h₀) (F : Fr h₀ L s.heap m) (N : News h₀ L s.heap news) {x y z mx mn : UInt64} {t u v : Tok}
    (hmx : fmax2 (fmax2 x y) z = mx) (hmn : fmin2 (fmin2 x y) z = mn) (hz : feq mn mx = false → Float64.isZero (Float64.sub mx mn) = false ∧ Float64.isZero (Float64.add mx mn) = false ∧ Float64.isZero (Float64.sub (Float64.sub f2 mx) mn) = false)
    (hQ : ∀ p t1 t2 t3 h' tk, Fr h₀ L h' m → News h₀ L h' ((p, fTup [.float (hP x y z mx mn) t1, .float (lP mx mn) t2, .float (sP mx mn) t3]) :: news) → (∀ q ∈ news, q.1 ≠ p) → p ≠ L → Q (.ref p) { s with heap := h', toks := tk })
    (hh : A.handled = none) (hg : A.guards = some []) (hd : A.depth ≤ 500) (hu : A.units ≤ 3000) :
    wpAny (model prg w) A (call (.ref 28) [.float x t, .float y u, .float z v] []) Q E s := by
  refine wpAny_call (codeAny_mono (codeAny_lv (hls_call (KX.keeps F.keep) (T.keeps F.keep) x y z mx mn t u v hmx hmn (fun h => (hz h).1) (fun h => (hz h).2.1) (fun h => (hz h).2.2)) hh hg hd hu) fun r s' h => ?_)
  obtain ⟨l, ta, tb, tc, rfl, ⟨h', tk, rfl, kp⟩, h0, h1⟩ := h
  obtain ⟨N', hn, hl⟩ := news_put F N kp h0 h1
  exact hQ _ _ _ _ _ _ (F.grownK kp) N' hn hl
theorem rgb_at (KX : (heapK w.params).In h₀) (T : Top viewK loo mean mg mb h₀) (F : Fr h₀ L s.heap m) (N : News h₀ L s.heap news) {x y z : UInt64} {t u v : Tok}
    (hQ : ∀ p t1 t2 t3 h' tk, Fr h₀ L h' m → News h₀ L h' ((p, fTup [.float (rP y z (Float64.add x fthr)) t1, .float (rP y z x) t2, .float (rP y z (Float64.sub x fthr)) t3]) :: news) → (∀ q ∈ news, q.1 ≠ p) → p ≠ L → Q (.ref p) { s with heap := h', toks := tk })
    (hh : A.handled = none) (hg : A.guards = some []) (hd : A.depth ≤ 400) (hu : A.units ≤ 2500) :
    wpAny (model prg w) A (call (.ref 35) [.float x t, .float y u, .float z v] []) Q E s := by
  refine wpAny_call (codeAny_mono (codeAny_lv (rgb_call (KX.keeps F.keep) (T.keeps F.keep) x y z t u v) hh hg hd hu) fun r s' h => ?_)
  obtain ⟨l, ta, tb, tc, rfl, ⟨h', tk, rfl, kp⟩, h0, h1⟩ := h
  obtain ⟨N', hn, hl⟩ := news_put F N kp h0 h1
  exact hQ _ _ _ _ _ _ (F.grownK kp) N' hn hl
end
end Mine

namespace Mine
noncomputable def minC (c : Int × Int × Int) : Int := min c.1 (min c.2.1 c.2.2)
noncomputable def maxC (c : Int × Int × Int) : Int := max c.1 (max c.2.1 c.2.2)
noncomputable def spanC (c : Int × Int × Int) : Int × Int := (minC c, maxC c)
noncomputable def turnC (c : Int × Int × Int) : Int × Int := (16 - maxC c, 16 - minC c)
/-- k sixteenths, as / makes them -/
noncomputable def r16 (a : Int) : UInt64 := Float64.ofFrac (decide (a < 0) != decide ((16 : Int) < 0)) a.natAbs (16 : Int).natAbs
noncomputable def t16 (x : UInt64) : UInt64 := Float64.add (Float64.mul x (Float64.ofInt 16)) fh
/-- int(x), where it ends -/
noncomputable def tr (x : UInt64) : Option Int := match Float64.decode x with
  | .fin n m e => some (Float64.truncOf n m e)
  | _ => none
noncomputable def mxC (c : Int × Int × Int) : UInt64 := fmax2 (fmax2 (r16 c.1) (r16 c.2.1)) (r16 c.2.2)
noncomputable def mnC (c : Int × Int × Int) : UInt64 := fmin2 (fmin2 (r16 c.1) (r16 c.2.1)) (r16 c.2.2)
noncomputable def ltC (c : Int × Int × Int) : UInt64 := lP (mxC c) (mnC c)
noncomputable def shC (c : Int × Int × Int) : UInt64 := sP (mxC c) (mnC c)
noncomputable def huC (c : Int × Int × Int) : UInt64 := hP (r16 c.1) (r16 c.2.1) (r16 c.2.2) (mxC c) (mnC c)
noncomputable def tlC (c : Int × Int × Int) : UInt64 := Float64.sub (Float64.ofInt 1) (ltC c)
noncomputable def hfC (c : Int × Int × Int) : UInt64 := Float64.mul (shC c) (fmin2 (ltC c) (tlC c))
/-- what the reckoning in floats says of a colour -/
structure ColOk (c : Int × Int × Int) : Prop where
  hz : feq (mnC c) (mxC c) = false → Float64.isZero (Float64.sub (mxC c) (mnC c)) = false ∧ Float64.isZero (Float64.add (mxC c) (mnC c)) = false ∧ Float64.isZero (Float64.sub (Float64.sub f2 (mxC c)) (mnC c)) = false
  lo : tr (t16 (Float64.sub (ltC c) (hfC c))) = some (minC c)
  hi : tr (t16 (Float64.add (ltC c) (hfC c))) = some (maxC c)
  o1 : tr (t16 (rP (tlC c) (shC c) (Float64.add (huC c) fthr))) = some (c.1 + 16 - minC c - maxC c)
  o2 : tr (t16 (rP (tlC c) (shC c) (huC c))) = some (c.2.1 + 16 - minC c - maxC c)
  o3 : tr (t16 (rP (tlC c) (shC c) (Float64.sub (huC c) fthr))) = some (c.2.2 + 16 - minC c - maxC c)

/-- the value, reckoned out before it goes on -/
noncomputable def fo {α : Type} (x : UInt64) (k : UInt64 → α) : α := Nat.rec (motive := fun _ => α) (k (UInt64.ofNat 0)) (fun m _ => k (UInt64.ofNat (m + 1))) x.toNat
theorem fo_eq {α : Type} (x : UInt64) (k : UInt64 → α) : fo x k = k x := by
  have h : UInt64.ofNat x.toNat = x := UInt64.ofNat_toNat
  unfold fo
  cases e : x.toNat with
  | zero => rw [e] at h; show k (UInt64.ofNat 0) = k x; rw [h]
  | succ n => rw [e] at h; show k (UInt64.ofNat (n + 1)) = k x; rw [h]
open Float64 in
noncomputable def cK {α : Type} (a mx rg : UInt64) (k : UInt64 → α) : α := fo (sub mx a) fun d => fo (div d rg) k
open Float64 in
noncomputable def hlsK {α : Type} (x y z mx mn : UInt64) (k : UInt64 → UInt64 → UInt64 → α) : α :=
  fo (add mx mn) fun su => fo (div su f2) fun l =>
  if feq mn mx = true then k 0 l 0 else
  fo (sub mx mn) fun rg =>
  fo (if fle l fh = true then div rg su else div rg (sub (sub f2 mx) mn)) fun s =>
  cK x mx rg fun rc => cK y mx rg fun gc => cK z mx rg fun bc =>
  fo (if feq x mx = true then sub bc gc else if feq y mx = true then sub (add f2 rc) bc else sub (add f4 gc) rc) fun h =>
  fo (div h f6) fun h => fo (divmod h f1).2 fun h => k h l s
theorem hlsK_eq {α : Type} (x y z mx mn : UInt64) (k : UInt64 → UInt64 → UInt64 → α) : hlsK x y z mx mn k = k (hP x y z mx mn) (lP mx mn) (sP mx mn) := by
  unfold hlsK cK hP sP cP lP
  simp only [fo_eq]
  by_cases h : feq mn mx = true
  · simp only [h, if_true]
  · simp only [h, if_false, Bool.false_eq_true]
open Float64 in
noncomputable def vK {α : Type} (m1 m2 hue : UInt64) (k : UInt64 → α) : α :=
  fo (divmod hue f1).2 fun hue =>
  if fl hue fsix = true then fo (sub m2 m1) fun d => fo (mul d hue) fun d => fo (mul d f6) fun d => fo (add m1 d) k
  else if fl hue fh = true then k m2
  else if fl hue ftwo = true then fo (sub m2 m1) fun d => fo (sub ftwo hue) fun e => fo (mul d e) fun d => fo (mul d f6) fun d => fo (add m1 d) k
  else k m1
theorem vK_eq {α : Type} (m1 m2 hue : UInt64) (k : UInt64 → α) : vK m1 m2 hue k = k (vP m1 m2 hue) := by
  unfold vK vP
  simp only [fo_eq]
  split
  · rfl
  split
  · rfl
  split <;> rfl
open Float64 in
noncomputable def rgbK {α : Type} (h l s : UInt64) (k : UInt64 → UInt64 → UInt64 → α) : α :=
  if feq s 0 = true then k l l l else
  fo (if fle l fh = true then mul l (add f1 s) else sub (add l s) (mul l s)) fun m2 => fo (mul f2 l) fun l2 => fo (sub l2 m2) fun m1 =>
  fo (add h fthr) fun h1 => fo (sub h fthr) fun h3 => vK m1 m2 h1 fun x => vK m1 m2 h fun y => vK m1 m2 h3 fun z => k x y z
theorem rgbK_eq {α : Type} (h l s : UInt64) (k : UInt64 → UInt64 → UInt64 → α) : rgbK h l s k = k (rP l s (Float64.add h fthr)) (rP l s h) (rP l s (Float64.sub h fthr)) := by
  unfold rgbK rP
  simp only [fo_eq, vK_eq]
  by_cases e : feq s 0 = true
  · simp only [e, if_true]
  · simp only [e, if_false, Bool.false_eq_true]
    rfl
open Float64 in
noncomputable def trK (x : UInt64) : Option Int := fo (Float64.ofInt 16) fun q => fo (mul x q) fun y => fo (add y fh) tr
theorem trK_eq (x : UInt64) : trK x = tr (t16 x) := by unfold trK t16; simp only [fo_eq]
open Float64 in
noncomputable def okK (r g b : Int) : Bool :=
  fo (r16 r) fun x => fo (r16 g) fun y => fo (r16 b) fun z =>
  fo (fmax2 (fmax2 x y) z) fun mx => fo (fmin2 (fmin2 x y) z) fun mn =>
  hlsK x y z mx mn fun h l s => fo (Float64.ofInt 1) fun o => fo (sub o l) fun l' => fo (fmin2 l l') fun m => fo (mul s m) fun hf =>
  fo (sub l hf) fun lo => fo (add l hf) fun hi =>
  (feq mn mx || (!isZero (sub mx mn) && !isZero (add mx mn) && !isZero (sub (sub f2 mx) mn))) &&
  trK lo == some (min r (min g b)) && trK hi == some (max r (max g b)) && rgbK h l' s fun x y z =>
    trK x == some (r + 16 - min r (min g b) - max r (max g b)) && trK y == some (g + 16 - min r (min g b) - max r (max g b)) && trK z == some (b + 16 - min r (min g b) - max r (max g b))
theorem okK_ok {r g b : Int} (h : okK r g b = true) : ColOk (r, g, b) := by
  unfold okK at h
  simp only [fo_eq, hlsK_eq, rgbK_eq, trK_eq, Bool.and_eq_true, beq_iff_eq, Bool.or_eq_true, Bool.not_eq_true'] at h
  obtain ⟨⟨⟨h1, h2⟩, h3⟩, ⟨h4, h5⟩, h6⟩ := h
  refine ⟨fun e => ?_, h2, h3, h4, h5, h6⟩
  rcases h1 with h1 | h1
  · exact absurd (h1.symm.trans e) (by decide)
  · exact ⟨h1.1.1, h1.1.2, h1.2⟩
noncomputable def okAt (lo a b c : Nat) : Bool := (a != 0 && b != 0 && c != 0) || decide (16 < lo + a) || decide (16 < lo + b) || decide (16 < lo + c) || okK ((lo + a : Nat) : Int) ((lo + b : Nat) : Int) ((lo + c : Nat) : Int)
noncomputable def okAll (lo : Nat) : Bool := (List.range 6).all fun a => (List.range 6).all fun b => (List.range 6).all fun c => okAt lo a b c
theorem okA : ([0, 1, 2, 3, 4].all okAll) = true := by decide +kernel
theorem okB : ([5, 6, 7, 8].all okAll) = true := by decide +kernel
theorem okC : ([9, 10, 11, 12].all okAll) = true := by decide +kernel
theorem okD : ([13, 14, 15, 16].all okAll) = true := by decide +kernel
theorem okN {lo : Nat} (h : lo ≤ 16) : okAll lo = true := by
  have a := List.all_eq_true.mp okA lo
  have b := List.all_eq_true.mp okB lo
  have c := List.all_eq_true.mp okC lo
  have d := List.all_eq_true.mp okD lo
  simp only [List.mem_cons, List.not_mem_nil, or_false] at a b c d
  have : (lo = 0 ∨ lo = 1 ∨ lo = 2 ∨ lo = 3 ∨ lo = 4) ∨ (lo = 5 ∨ lo = 6 ∨ lo = 7 ∨ lo = 8) ∨ (lo = 9 ∨ lo = 10 ∨ lo = 11 ∨ lo = 12) ∨ (lo = 13 ∨ lo = 14 ∨ lo = 15 ∨ lo = 16) := by lia
  rcases this with h | h | h | h
  · exact a h
  · exact b h
  · exact c h
  · exact d h
theorem okN3 {lo a b c : Nat} (hl : lo ≤ 16) (ha : a < 6) (hb : b < 6) (hc : c < 6) : okAt lo a b c = true :=
  List.all_eq_true.mp (List.all_eq_true.mp (List.all_eq_true.mp (okN hl) a (List.mem_range.mpr ha)) b (List.mem_range.mpr hb)) c (List.mem_range.mpr hc)
theorem col_nat {lo a b c : Nat} (hl : lo ≤ 16) (ha : a < 6) (hb : b < 6) (hc : c < 6) (h0 : a = 0 ∨ b = 0 ∨ c = 0) (h1 : lo + a ≤ 16) (h2 : lo + b ≤ 16) (h3 : lo + c ≤ 16) : ColOk (((lo + a : Nat) : Int), ((lo + b : Nat) : Int), ((lo + c : Nat) : Int)) := by
  have k := okN3 hl ha hb hc
  unfold okAt at k
  rw [decide_eq_false (Nat.not_lt.mpr h1), decide_eq_false (Nat.not_lt.mpr h2), decide_eq_false (Nat.not_lt.mpr h3), Bool.or_false, Bool.or_false, Bool.or_false] at k
  have z : (a != 0 && b != 0 && c != 0) = false := by
    rcases h0 with rfl | rfl | rfl
    · rfl
    · rw [show ((0 : Nat) != 0) = false from rfl, Bool.and_false, Bool.false_and]
    · rw [show ((0 : Nat) != 0) = false from rfl, Bool.and_false]
  rw [z, Bool.false_or] at k
  exact okK_ok k
theorem col_ok {c : Int × Int × Int} (h0 : 0 ≤ minC c) (h1 : maxC c ≤ 16) (h2 : maxC c - minC c ≤ 5) : ColOk c := by
  obtain ⟨r, g, b⟩ := c
  have e : ∃ lo x y z : Nat, r = ((lo + x : Nat) : Int) ∧ g = ((lo + y : Nat) : Int) ∧ b = ((lo + z : Nat) : Int) ∧ (x = 0 ∨ y = 0 ∨ z = 0) ∧ lo ≤ 16 ∧ x < 6 ∧ y < 6 ∧ z < 6 ∧ lo + x ≤ 16 ∧ lo + y ≤ 16 ∧ lo + z ≤ 16 := by
    have b1 : minC (r, g, b) ≤ r := Int.min_le_left ..
    have b2 : minC (r, g, b) ≤ g := Int.le_trans (Int.min_le_right ..) (Int.min_le_left ..)
    have b3 : minC (r, g, b) ≤ b := Int.le_trans (Int.min_le_right ..) (Int.min_le_right ..)
    have c1 : r ≤ maxC (r, g, b) := Int.le_max_left ..
    have c2 : g ≤ maxC (r, g, b) := Int.le_trans (Int.le_max_left ..) (Int.le_max_right ..)
    have c3 : b ≤ maxC (r, g, b) := Int.le_trans (Int.le_max_right ..) (Int.le_max_right ..)
    have d : minC (r, g, b) = r ∨ minC (r, g, b) = g ∨ minC (r, g, b) = b := by
      unfold minC; rcases Int.min_def r (min g b) ▸ (by split; exact .inl rfl; exact .inr rfl : (if r ≤ min g b then r else min g b) = r ∨ (if r ≤ min g b then r else min g b) = min g b) with q | q
      · exact .inl q
      · rcases Int.min_def g b ▸ (by split; exact .inl rfl; exact .inr rfl : (if g ≤ b then g else b) = g ∨ (if g ≤ b then g else b) = b) with q' | q'
        · exact .inr (.inl (q.trans q'))
        · exact .inr (.inr (q.trans q'))
    generalize minC (r, g, b) = lo at *
    generalize maxC (r, g, b) = hi at *
    refine ⟨lo.toNat, (r - lo).toNat, (g - lo).toNat, (b - lo).toNat, ?_⟩
    omega
  obtain ⟨lo, x, y, z, rfl, rfl, rfl, h0, hl, hx, hy, hz, k1, k2, k3⟩ := e
  exact col_nat hl hx hy hz h0 k1 k2 k3
theorem at3_bd {a b c p lo hi : Int} (ha : lo ≤ a ∧ a ≤ hi) (hb : lo ≤ b ∧ b ≤ hi) (hc : lo ≤ c ∧ c ≤ hi) : lo ≤ at3 a b c p ∧ at3 a b c p ≤ hi := by
  unfold at3
  split
  · exact ha
  split
  · exact hb
  · exact hc
theorem colour_rng (n : Int) : 0 ≤ minC (colour n) ∧ maxC (colour n) ≤ 16 ∧ maxC (colour n) - minC (colour n) ≤ 5 := by
  have l0 : 0 ≤ Int.fmod n 17 := Int.fmod_nonneg_of_pos _ (by decide)
  have l1 : Int.fmod n 17 < 17 := Int.fmod_lt_of_pos _ (by decide)
  have s0 : 0 ≤ Int.fmod (Int.fdiv n 17) 6 := Int.fmod_nonneg_of_pos _ (by decide)
  have s1 : Int.fmod (Int.fdiv n 17) 6 < 6 := Int.fmod_lt_of_pos _ (by decide)
  have hH : n.fmod 17 ≤ cHigh n ∧ cHigh n ≤ 16 ∧ cHigh n ≤ n.fmod 17 + 5 := by unfold cHigh; split <;> lia
  have a1 : 0 ≤ ((n.fdiv 102).fmod (cHigh n - n.fmod 17 + 1)) := Int.fmod_nonneg_of_pos _ (by lia)
  have a2 : ((n.fdiv 102).fmod (cHigh n - n.fmod 17 + 1)) < (cHigh n - n.fmod 17 + 1) := Int.fmod_lt_of_pos _ (by lia)
  have hM : n.fmod 17 ≤ cMid n ∧ cMid n ≤ cHigh n := by unfold cMid; lia
  have ba : n.fmod 17 ≤ n.fmod 17 ∧ n.fmod 17 ≤ cHigh n := ⟨Int.le_refl _, hH.1⟩
  have bc : n.fmod 17 ≤ cHigh n ∧ cHigh n ≤ cHigh n := ⟨hH.1, Int.le_refl _⟩
  have x1 := at3_bd (p := (perm6 ((n.fdiv 612).fmod 6)).1) ba hM bc
  have x2 := at3_bd (p := (perm6 ((n.fdiv 612).fmod 6)).2.1) ba hM bc
  have x3 := at3_bd (p := (perm6 ((n.fdiv 612).fmod 6)).2.2) ba hM bc
  have hmin : n.fmod 17 ≤ minC (colour n) := Int.le_min.mpr ⟨x1.1, Int.le_min.mpr ⟨x2.1, x3.1⟩⟩
  have hmax : maxC (colour n) ≤ cHigh n := Int.max_le.mpr ⟨x1.2, Int.max_le.mpr ⟨x2.2, x3.2⟩⟩
  refine ⟨Int.le_trans l0 hmin, Int.le_trans hmax hH.2.1, ?_⟩
  generalize minC (colour n) = mi at *
  generalize maxC (colour n) = ma at *
  clear x1 x2 x3 ba bc hM a1 a2
  lia
theorem colN_ok (n : Int) : ColOk (colour n) := let h := colour_rng n; col_ok h.1 h.2.1 h.2.2
section
variable {w : World} {A : Around} {h₀ : Heap} {L : Addr} {m mg mb : Str → Option Value} {s : Shared} {mean : ExcName → Option Value} {Q : Value → Shared → Prop} {E : Value → Shared → Prop} {news : List (Addr × Obj)}
theorem div16 {a : Int} {t u : Tok} (hA : A.handled = none) (h0 : 0 ≤ a) (h1 : a ≤ 16) (h : Q (.float (r16 a) s.toks) { s with toks := s.toks + 1 }) : wpAny (model prg w) A (binaryOp .Div (.int a t) (.int 16 u)) Q E s :=
  PySem.Flt.div_ii_fits hA (Nat.lt_of_le_of_lt (show a.natAbs ≤ 16 by lia) (by decide +kernel)) (fun e => absurd e (by decide)) fun _ _ => h
theorem int_tr {x : UInt64} {u : Tok} {k : Int} (hk : tr x = some k) (h : Q (.int k s.toks) { s with toks := s.toks + 1 }) : wpAny (model prg w) A (call (.type "int") [.float x u]) Q E s := by
  unfold tr at hk
  split at hk
  · rename_i n m e hd
    refine call_int_float hd ?_
    rw [Option.some.inj hk]; exact h
  · cases hk
end
end Mine

namespace Mine
open LCg
section
variable {prog : Program} {w : World} {A : Around} {E : Value → Shared → Prop} {s : Shared} {h₀ : Heap} {L : Addr} {m : Str → Option Value} {env : Env}
/-- y = [elt for x in a tuple of the ledger] -/
theorem Assign_ListComp_Tp {elt iter : Expr} {x y : Str} {px py : Pos} {scope : Scope} {cl : List (Str × Addr)} {pos spos : Pos} {Q : Flow → Shared → Prop} (_F₀ : Fr h₀ L s.heap m) (hLe : env.locals = L)
    (hsw : swapsWith (.ListComp elt [⟨.Name x px, iter, [], 0⟩] scope pos) (some (.Name y py)) spos.line env = pure true)
    (hclos : closureFor scope env = pure cl) (hcell : ∀ z ∈ scope.names, z.2 ≠ .cell) (hkind : scope.kind = .function)
    (hnames : ∀ z ∈ scope.names, z.2 = .local → scope.names.lookup z.1 = some .local) (hx : scope.names.lookup x = some .local)
    (hy : env.kindOf y = some .local) (hp : (env.scope.kind == .class || (env.scope.kind == .module && env.locals != env.globals)) = false)
    (h : wpAny (model prog w) A (eval iter env) (fun xv s₁ => ∃ ax, ∃ (vs : List Value), ∃ news, xv = .ref ax ∧ A.handled = none ∧ Fr h₀ L s₁.heap m ∧ News h₀ L s₁.heap news ∧ (ax, fTup vs) ∈ news ∧ vs.length ≤ sizeLine ∧
      ∀ g, CompRest prog w A h₀ L m env elt x scope cl { s₁ with heap := g } (fun nw => (ax, fTup vs) ∈ nw) (fun i v => vs[i]? = some v) (FinA h₀ L m { s₁ with heap := g } y Q) vs.length 0 [] news) E s)
    (hs : ∀ x, foldedSetIterable iter env x = pure x := by intro _; rfl) :
    wpAny (model prog w) A (exec (.Assign [.Name y py] (.ListComp elt [⟨.Name x px, iter, [], 0⟩] scope pos) spos) env) Q E s := by
  subst hLe
  rw [exec_Assign_Name_used _ _ _ _ hsw]
  refine wpAny_bind (wpAny_standAt (wpAny_bind ?_))
  show wpAny _ A (do let _ ← comprehension (.ListComp elt [⟨.Name x px, iter, [], 0⟩] scope pos) scope env _ (newList []) false (eval iter env) (some (assign (.Name y py) env))) _ _ s
  refine wpAny_bind (wpAny_mono (wpAny_comprehension_free (use := some (assign (.Name y py) env)) (Q := fun _ s' => Q .next s') rfl hs hclos hkind hnames
    (wpAny_mono h (fun xv s₁ h₁ => ?_) fun _ _ e => e)) (fun _ s' hq => wpAny_pure (wpAny_pure hq)) fun _ _ e => e)
  obtain ⟨ax, vs, news, rfl, hh, F, N, hm, hsz, R⟩ := h₁
  have ht : s₁.heap.IsTuple ax vs.toArray := ⟨_, (N _ hm).1, rfl, 0, rfl⟩
  have hlt : ax < s₁.heap.objs.size := Heap.lt_size (N _ hm).1
  refine wpAny_pyIter_tuple ht ?_
  have up : ∀ b o, s₁.heap.get? b = some o → (s₁.heap.push { cls := .type "tuple_iterator", data := .fields #[.ref ax, .int 0 0] }).get? b = some o := fun b o e => Heap.get?_push_of_some _ e
  have W := Walks.tuple (prog := prog) (w := w) hh s₁.heap.objs.size ax (Nat.ne_of_lt hlt) vs.toArray
  have hlen : vs.toArray.size = vs.length := by simp
  rw [hlen] at W
  refine block_U (S := fun nw => (ax, fTup vs) ∈ nw) W hsz (fun i h st => by obtain ⟨o, e, _⟩ := st.1; exact ⟨o, e⟩) (fun i h h' o nw st e e' _ Nw hS => ?_) hcell hkind hx ⟨⟨_, Heap.get?_push_size _ rfl, rfl, rfl⟩, ht.push _⟩ (fun b hb => ?_)
    (F.keeps up) (N.grown up) (Nat.ne_of_lt F.ns.lt) (next_is_new F) (fun p hp => Nat.ne_of_lt (Heap.lt_size (N p hp).1)) hm (by simpa using R _) ?_
  · exact ⟨by obtain ⟨o', q, r⟩ := st.1; rw [e] at q; cases q; exact ⟨o, e', r⟩, ⟨_, (Nw _ hS).1, rfl, 0, rfl⟩⟩
  · show b < (s₁.heap.push _).objs.size
    rw [Heap.size_push]
    rcases List.mem_cons.mp hb with rfl | hb
    · exact Nat.lt_succ_self _
    · rw [List.mem_singleton.mp hb]; exact Nat.lt_succ_of_lt hlt
  · intro D C h' tk m' ys news' F' N' o1 hn hC₀ hD₀ hCL hDL hCD offC fin
    show wpAny _ A (assign (.Name y py) env (.ref D)) _ _ _
    refine wpAny_assign_Name (wpAny_storeName_local hy F'.ns (fun h₂ hn₂ hs₂ => ?_) hp)
    have hL₀ : h₀.get? env.locals = none := Heap.get?_none_of_le F'.above
    have F₂ : Fr h₀ env.locals h₂ (fun z => if z = y then some (.ref D) else m z) := ⟨hn₂, fun b o e => hs₂.extBut b o (fun q => by rw [q, hL₀] at e; cases e) (F'.keep b o e), F'.above⟩
    have keepN : ∀ p ∈ (D, lst ys) :: news', p.1 ≠ C ∧ h₂.get? p.1 = some p.2 := fun p hp =>
      ⟨(List.mem_cons.mp hp).elim (fun e => e ▸ Ne.symm hCD) (offC p), hs₂.extBut _ _ (N' p hp).2.1 (N' p hp).1⟩
    exact ⟨m', hn.sameBut hs₂ hCL, fun h'' hs'' => fin D h'' _ (F₂.change hs'' hCL hC₀) (fun p hp => ⟨hs''.extBut _ _ (keepN p hp).1 (keepN p hp).2, (N' p hp).2⟩) o1⟩
end
end Mine

namespace Mine
open LCg LCt
section
variable {prog : Program} {w : World} {A : Around} {E : Value → Shared → Prop} {s : Shared} {h₀ : Heap} {L : Addr} {m : Str → Option Value} {env : Env}
/-- a comprehension over pairs whose ledger grows -/
theorem comp_invPG {elt : Expr} {x x₂ : Str} {scope : Scope} {cl : List (Str × Addr)} {S : List (Addr × Obj) → Prop} {P : Nat → Value → Prop} {Fin : List Value → List (Addr × Obj) → Prop} {n : Nat}
    (J : Nat → List Value → List (Addr × Obj) → Prop)
    (turn : ∀ i ys nw v, i < n → J i ys nw → P i v → ∃ (t : Addr) (ot : Obj) (v₁ v₂ : Value) (nt : Nat), v = .ref t ∧ (t, ot) ∈ nw ∧ ot.cls = .type "tuple" ∧ ot.data = .seq #[v₁, v₂] nt ∧
      ∀ I oI C oC D m₂ h tk (E' : Value → Shared → Prop), NsObj oC m₂ → m₂ x = some v₁ → m₂ x₂ = some v₂ → Fr h₀ L h m → News h₀ L h ((I, oI) :: (C, oC) :: (D, lst ys) :: nw) → Off3 I C D nw → ((@Ne Nat I C) ∧ (@Ne Nat I D) ∧ (@Ne Nat C D)) →
      wpAny (model prog w) A (eval elt (compEnvC scope cl C env)) (CompEnd h₀ L m { s with heap := h, toks := tk } I oI C oC D (lst ys) S (fun y nw' => J (i + 1) (ys ++ [y]) nw')) E' { s with heap := h, toks := tk })
    (fin : ∀ ys nw, J n ys nw → Fin ys nw) :
    ∀ k i ys nw, i + k = n → J i ys nw → LCp.CompRestP prog w A h₀ L m env elt x x₂ scope cl s S P Fin k i ys nw := by
  intro k
  induction k with
  | zero => intro i ys nw hi hJ; obtain rfl : i = n := by lia
            exact LCp.CompRestP.zero (fin _ _ hJ)
  | succ k ih =>
    intro i ys nw hi hJ
    refine LCp.CompRestP.succ fun v hP => ?_
    obtain ⟨t, ot, v₁, v₂, nt, e1, e2, e3, e4, R⟩ := turn i ys nw v (by lia) hJ hP
    refine ⟨t, ot, v₁, v₂, nt, e1, e2, e3, e4, fun I oI C oC D m₂ h tk E' hC hx hx2 F N off ne => ?_⟩
    refine wpAny_mono (R I oI C oC D m₂ h tk E' hC hx hx2 F N off ne) (fun y s₂ q => ?_) fun _ _ e => e
    obtain ⟨h', tk', nw', e, F', N', o', hS, r⟩ := q
    exact ⟨h', tk', nw', e, F', N', o', hS, ih (i + 1) _ _ (by lia) r⟩
end
/-- rounds, as data -/
noncomputable def tupD (r : List Nat) : PyData := .tuple ((r.map Int.ofNat).map PyData.int)
theorem tups_reads {h : Heap} {led : List (Addr × Obj)} (hN : ∀ p ∈ led, h.get? p.1 = some p.2) : ∀ {gs : List Addr} {rs : List (List Nat)}, TupsAt led gs rs → ∃ as, ReadsAll h (gs.map Value.ref) (rs.map tupD) as := by
  intro gs
  induction gs with
  | nil => intro rs ht; cases rs with | nil => exact ⟨[], .nil⟩ | cons _ _ => exact ht.elim
  | cons g gs ih =>
    intro rs ht
    cases rs with
    | nil => exact ht.elim
    | cons r rs =>
      obtain ⟨⟨vs, h1, h2⟩, h3⟩ := ht
      obtain ⟨as, h4⟩ := ih h3
      have h5 : Reads h (.ref g) (tupD r) [] := Reads.tuple (vs := vs.toArray) (n := 0) (hN _ h1) rfl rfl (by simpa using readsAll_of_ints h2)
      exact ⟨_, ReadsAll.cons h5 h4⟩
theorem tups_list {h : Heap} {led : List (Addr × Obj)} (hN : ∀ p ∈ led, h.get? p.1 = some p.2) {gs : List Addr} {rs : List (List Nat)} (ht : TupsAt led gs rs) {G : Addr} {e : Nat} (hG : (G, W.listOf (gs.map Value.ref).toArray e) ∈ led) :
    ∃ as, Reads h (.ref G) (.list (rs.map tupD)) as := by
  obtain ⟨as, h1⟩ := tups_reads hN ht
  exact ⟨_, Reads.list (vs := (gs.map Value.ref).toArray) (n := e) (hN _ hG) rfl rfl (by simpa using h1)⟩
theorem canLayAll0_tups : ∀ rs : List (List Nat), PyData.canLayAll0 (rs.map tupD) = true
  | [] => by simp [PyData.canLayAll0]
  | r :: rs => by
    simp only [List.map_cons, PyData.canLayAll0, canLayAll0_tups rs, Bool.and_true, tupD, PyData.canLay0]
    exact canLayAll0_ints _
theorem depthAll_tups : ∀ rs : List (List Nat), PyData.depthAll (rs.map tupD) ≤ 4
  | [] => by simp [PyData.depthAll]
  | r :: rs => by
    have h1 := depthAll_tups rs
    have h2 := W.depthAll_ints (r.map Int.ofNat)
    simp only [List.map_cons, PyData.depthAll, tupD, PyData.depth]
    lia
theorem shaped_tups (rs : List (List Nat)) : SeqAt.shaped (.list (rs.map tupD)) = true := by
  have h1 := depthAll_tups rs
  have h2 : PyData.depth (.list (rs.map tupD)) ≤ 64 := by simp only [PyData.depth]; lia
  show (PyData.canLay0 (.list (rs.map tupD)) && decide (PyData.depth (.list (rs.map tupD)) ≤ 64)) = true
  rw [Bool.and_eq_true]
  exact ⟨by simp only [PyData.canLay0]; exact canLayAll0_tups rs, decide_eq_true h2⟩
theorem noMix_tups : ∀ rs : List (List Nat), SeqAt.noMixAll (rs.map tupD) (rs.map tupD) = true
  | [] => by simp [SeqAt.noMixAll]
  | r :: rs => by
    simp only [List.map_cons, SeqAt.noMixAll, noMix_tups rs, Bool.and_true, tupD, SeqAt.noMix]
    exact noMix_ints _ _
section
variable {prog : Program} {w : World} {A : Around} {E : Value → Shared → Prop} {s : Shared} {Q : Value → Shared → Prop}
theorem eq_tups {led : List (Addr × Obj)} (hN : ∀ p ∈ led, s.heap.get? p.1 = some p.2) {gs gs' : List Addr} {rs : List (List Nat)} (ht : TupsAt led gs rs) (ht' : TupsAt led gs' rs) {G G' : Addr} {e e' : Nat} (hG : (G, W.listOf (gs.map Value.ref).toArray e) ∈ led) (hG' : (G', W.listOf (gs'.map Value.ref).toArray e') ∈ led)
    (hu : A.units + 64 < cLine) (h : Q (.bool true) s) : wpAny (model prog w) A (compareOp .Eq (.ref G) (.ref G')) Q E s := by
  obtain ⟨as, r1⟩ := tups_list hN ht hG
  obtain ⟨bs, r2⟩ := tups_list hN ht' hG'
  refine eq_dataH_same r1 r2 (shaped_tups rs) (shaped_tups rs) hu (by simp only [SeqAt.noMix]; exact noMix_tups rs) ?_
  rw [PySem.Spec.same_self]; exact h
theorem ne_tups {led : List (Addr × Obj)} (hN : ∀ p ∈ led, s.heap.get? p.1 = some p.2) {gs gs' : List Addr} {rs : List (List Nat)} (ht : TupsAt led gs rs) (ht' : TupsAt led gs' rs) {G G' : Addr} {e e' : Nat} (hG : (G, W.listOf (gs.map Value.ref).toArray e) ∈ led) (hG' : (G', W.listOf (gs'.map Value.ref).toArray e') ∈ led)
    (hu : A.units + 64 < cLine) (h : Q (.bool false) s) : wpAny (model prog w) A (compareOp .NotEq (.ref G) (.ref G')) Q E s := by
  obtain ⟨as, r1⟩ := tups_list hN ht hG
  obtain ⟨bs, r2⟩ := tups_list hN ht' hG'
  refine ne_dataH_same r1 r2 (shaped_tups rs) (shaped_tups rs) hu (by simp only [SeqAt.noMix]; exact noMix_tups rs) ?_
  rw [PySem.Spec.same_self]; exact h
end
theorem getD_map {α β : Type} (f : α → β) {l : List α} {i : Nat} {d : β} (h : i < l.length) : (l.map f).getD i d = f l[i] := by
  rw [List.getD_eq_getElem?_getD, List.getElem?_map, List.getElem?_eq_getElem h]; rfl
theorem spok_span {cs : List (Int × Int × Int)} (h : ∀ c ∈ cs, 0 ≤ minC c ∧ maxC c ≤ 16) : SpOk (fun i => (cs.map spanC).getD i (0, 0)) (cs.map spanC).length := by
  constructor <;> intro i hi <;> rw [List.length_map] at hi <;> have hc := h _ (List.getElem_mem hi) <;> simp only [getD_map spanC hi] <;> simp only [spanC, minC, maxC] at * <;> lia
theorem spok_turn {cs : List (Int × Int × Int)} (h : ∀ c ∈ cs, 0 ≤ minC c ∧ maxC c ≤ 16) : SpOk (fun i => (cs.map turnC).getD i (0, 0)) (cs.map turnC).length := by
  constructor <;> intro i hi <;> rw [List.length_map] at hi <;> have hc := h _ (List.getElem_mem hi) <;> simp only [getD_map turnC hi] <;> simp only [turnC, minC, maxC] at * <;> lia
end Mine

namespace Mine
open PyProof.Rows.TI (Frs SameUp)
open LCg LCt
/-- a list of lists of three ints in the ledger -/
noncomputable def ColsAt (led : List (Addr × Obj)) : List Value → List (Int × Int × Int) → Prop
  | [], [] => True
  | v :: vs, c :: cs => (∃ a t1 t2 t3, v = .ref a ∧ (a, lst [.int c.1 t1, .int c.2.1 t2, .int c.2.2 t3]) ∈ led) ∧ ColsAt led vs cs
  | _, _ => False
theorem ColsAt.mono {l l' : List (Addr × Obj)} (hs : ∀ p ∈ l, p ∈ l') : ∀ {vs : List Value} {cs : List (Int × Int × Int)}, ColsAt l vs cs → ColsAt l' vs cs := by
  intro vs
  induction vs with
  | nil => intro cs h; cases cs with | nil => trivial | cons _ _ => exact h.elim
  | cons v vs ih =>
    intro cs h
    cases cs with
    | nil => exact h.elim
    | cons p cs =>
      obtain ⟨⟨a, t1, t2, t3, h1, h2⟩, h3⟩ := h
      exact ⟨⟨a, t1, t2, t3, h1, hs _ h2⟩, ih h3⟩
theorem ColsAt.snoc {l : List (Addr × Obj)} {a : Addr} {c : Int × Int × Int} {t1 t2 t3 : Tok} (ha : (a, lst [.int c.1 t1, .int c.2.1 t2, .int c.2.2 t3]) ∈ l) : ∀ {vs : List Value} {cs : List (Int × Int × Int)}, ColsAt l vs cs → ColsAt l (vs ++ [.ref a]) (cs ++ [c]) := by
  intro vs
  induction vs with
  | nil => intro cs h; cases cs with | nil => exact ⟨⟨a, t1, t2, t3, rfl, ha⟩, trivial⟩ | cons _ _ => exact h.elim
  | cons v vs ih =>
    intro cs h
    cases cs with
    | nil => exact h.elim
    | cons p cs => exact ⟨h.1, ih h.2⟩
theorem ColsAt.length {l : List (Addr × Obj)} : ∀ {vs : List Value} {cs : List (Int × Int × Int)}, ColsAt l vs cs → vs.length = cs.length := by
  intro vs
  induction vs with
  | nil => intro cs h; cases cs with | nil => rfl | cons _ _ => exact h.elim
  | cons v vs ih =>
    intro cs h
    cases cs with
    | nil => exact h.elim
    | cons p cs => simp [ih h.2]
theorem ColsAt.get {l : List (Addr × Obj)} : ∀ {vs : List Value} {cs : List (Int × Int × Int)}, ColsAt l vs cs → ∀ {k : Nat} {v : Value}, vs[k]? = some v → ∃ c a t1 t2 t3, cs[k]? = some c ∧ v = .ref a ∧ (a, lst [.int c.1 t1, .int c.2.1 t2, .int c.2.2 t3]) ∈ l := by
  intro vs
  induction vs with
  | nil => intro cs h k v hk; simp at hk
  | cons v vs ih =>
    intro cs h k u hk
    cases cs with
    | nil => exact h.elim
    | cons p cs =>
      cases k with
      | zero =>
        obtain ⟨a, t1, t2, t3, h1, h2⟩ := h.1
        obtain rfl : v = u := by simpa using hk
        exact ⟨p, a, t1, t2, t3, rfl, h1, h2⟩
      | succ k => simpa using ih h.2 (by simpa using hk)
/-- the colour of a number of the script -/
noncomputable def colN (n : Int) : Int × Int × Int := colour (n.fmod 3672 * 1205)
theorem lawP1 {α : Type} {l i c d : α} {cs r : List α} : ∀ p ∈ i :: c :: d :: ((l :: cs) ++ r), p ∈ l :: i :: c :: d :: (cs ++ r) := by
  intro p hp
  simp only [List.mem_cons, List.mem_append] at hp ⊢
  grind
theorem PrsAt.length {l : List (Addr × Obj)} : ∀ {vs : List Value} {ps : List (Int × Int)}, PrsAt l vs ps → vs.length = ps.length := by
  intro vs
  induction vs with
  | nil => intro ps h; cases ps with | nil => rfl | cons _ _ => exact h.elim
  | cons v vs ih =>
    intro ps h
    cases ps with
    | nil => exact h.elim
    | cons p ps => simp [ih h.2]
theorem minC_eq {c : Int × Int × Int} {M : Int} (h1 : M ∈ [c.1, c.2.1, c.2.2]) (h2 : ∀ a, a ∈ [c.1, c.2.1, c.2.2] → M ≤ a) : M = minC c := by
  have a := h2 c.1 (by simp)
  have b := h2 c.2.1 (by simp)
  have d := h2 c.2.2 (by simp)
  simp only [List.mem_cons, List.not_mem_nil, or_false] at h1
  simp only [minC]; lia
theorem maxC_eq {c : Int × Int × Int} {M : Int} (h1 : M ∈ [c.1, c.2.1, c.2.2]) (h2 : ∀ a, a ∈ [c.1, c.2.1, c.2.2] → a ≤ M) : M = maxC c := by
  have a := h2 c.1 (by simp)
  have b := h2 c.2.1 (by simp)
  have d := h2 c.2.2 (by simp)
  simp only [List.mem_cons, List.not_mem_nil, or_false] at h1
  simp only [maxC]; lia
theorem minT_eq {c : Int × Int × Int} {M : Int} (h1 : M ∈ [c.1 + 16 - minC c - maxC c, c.2.1 + 16 - minC c - maxC c, c.2.2 + 16 - minC c - maxC c]) (h2 : ∀ a, a ∈ [c.1 + 16 - minC c - maxC c, c.2.1 + 16 - minC c - maxC c, c.2.2 + 16 - minC c - maxC c] → M ≤ a) : M = 16 - maxC c := by
  have a := h2 _ (.head _)
  have b := h2 _ (.tail _ (.head _))
  have d := h2 _ (.tail _ (.tail _ (.head _)))
  simp only [List.mem_cons, List.not_mem_nil, or_false] at h1
  simp only [minC, maxC] at *; lia
theorem maxT_eq {c : Int × Int × Int} {M : Int} (h1 : M ∈ [c.1 + 16 - minC c - maxC c, c.2.1 + 16 - minC c - maxC c, c.2.2 + 16 - minC c - maxC c]) (h2 : ∀ a, a ∈ [c.1 + 16 - minC c - maxC c, c.2.1 + 16 - minC c - maxC c, c.2.2 + 16 - minC c - maxC c] → a ≤ M) : M = 16 - minC c := by
  have a := h2 _ (.head _)
  have b := h2 _ (.tail _ (.head _))
  have d := h2 _ (.tail _ (.tail _ (.head _)))
  simp only [List.mem_cons, List.not_mem_nil, or_false] at h1
  simp only [minC, maxC] at *; lia
theorem memLw {α : Type} {d2 d1 i tu se dr p0 p : α} {tp B : List α} (hp : p ∈ tu :: se :: dr :: p0 :: ((d2 :: d1 :: tp) ++ B)) : p ∈ d2 :: d1 :: i :: tu :: se :: dr :: p0 :: (tp ++ B) := by
  simp only [List.mem_cons, List.mem_append] at hp ⊢
  grind
theorem law_ok {w : World} {s : Shared} {mg mb : Str → Option Value} {mean : ExcName → Option Value} (KX : (heapK w.params).In s.heap) (T : Top viewK loo mean mg mb s.heap)
   {SC : Addr} {vs : List Value} {ns : List Int} (hL : s.heap.IsList SC vs.toArray) (hI : IntsAre vs ns) (hn : ns.length ≤ 63) :
   codeAny (model prg w) callerA (.call (.ref 182) ⟨[.ref SC], []⟩) (fun r s' => r = .ok (.ret (.bool true)) ∧ Keeps s s') s := by
  refine' enterC0 (binds := [(Str.ofString "script", .ref SC)]) KX ?k6 ?k7 T.nolimit ?k8 ?k9 ?kB ?kD ?_ ?c2 ?c3 ?c4
  case k6 => k_is
  case k7 => k_is
  case k8 => decide
  case k9 => exact BindsTo.of_eq rfl
  case kB => exact rfl
  case kD => decide +kernel
  case c2 => exact rfl
  case c3 => exact rfl
  case c4 => exact rfl
  dsimp only [fB, fS, fA, met, stm, PySem.Challenge.pw_mj0230_01, List.drop]
  intro L h₁ tk0 cells F N Y
  k_cells Y
  rename_i o' d1'
  (try dsimp only); (try k_fold)
  iterate 1 ((try (first | with_reducible refine Mine.hide_loop fun QhL hQhL => ?_ | with_reducible refine Mine.hide_comp fun QhC hQhC => ?_)); (first | walk1 | (dsimp only; walk1) | (refine hQhC _ _ ?_; clear hQhC; try clear QhC) | (refine hQhL _ _ ?_; clear hQhL; try clear QhL)); try dsimp only)
  refine' LCg.Assign_ListComp_U (F₀ := F) ?a1 ?a2 ?a3 ?a4 ?a5 ?a6 ?a7 ?a8 ?a9 ?b1 ?b2
  case a1 => rfl
  case a2 => with_unfolding_all rfl
  case a3 => rfl
  case a4 => decide
  case a5 => rfl
  case a6 => decide
  case a7 => rfl
  case a8 => rfl
  case a9 => rfl
  case b2 => intro _; rfl
  iterate 8 ((try (first | with_reducible refine Mine.hide_loop fun QhL hQhL => ?_ | with_reducible refine Mine.hide_comp fun QhC hQhC => ?_)); (first | walk1 | (dsimp only; walk1) | (refine hQhC _ _ ?_; clear hQhC; try clear QhC) | (refine hQhL _ _ ?_; clear hQhL; try clear QhL)); try dsimp only)
  refine' kmk_slice_ints (s := { s with heap := h₁, toks := tk0 + 1 }) F N ?l ?p ?q hI ?m ?c ?_ ?s ?t ?z
  case l => exact Fr.lst F hL
  case p => kmk_part
  case q => kmk_part
  case m => exact kmk_upto hI (by decide)
  case c => exact List.length_take ..
  case s => with_unfolding_all rfl
  case t => kmk_pure
  case z => exact kmk_sz hI (by rw [sizeLine_eq]; lia)
  intro D' ws' h' F' N' l1 hI' hC' hL'
  iterate 8 ((try (first | with_reducible refine Mine.hide_loop fun QhL hQhL => ?_ | with_reducible refine Mine.hide_comp fun QhC hQhC => ?_)); (first | walk1 | (dsimp only; walk1) | (refine hQhC _ _ ?_; clear hQhC; try clear QhC) | (refine hQhL _ _ ?_; clear hQhL; try clear QhL)); try dsimp only)
  rename_i lT hT l1T DN ws h2 F2 N2 hI2 l1D
  refine LCg.CompSrc.ledger rfl F2 N2 (.head _) (kmk_sz hI2 (by rw [sizeLine_eq, List.length_append]; simp; lia)) (fun g => ?_)
  refine' comp_inv (n := ws.toArray.size) (fun k ys nw => ∃ cols, nw = cols ++ [(DN, W.listOf ws.toArray 0), (lT, W.listOf #[Value.int 2 (tk0 + 1), Value.int 5 (tk0 + 1 + 1)] 0), (D', W.listOf ws'.toArray 0), (L + 1, o')] ∧
     ColsAt cols ys (((ns.take 9 ++ [2, 5]).take k).map colN) ∧ (∀ p ∈ cols, p.1 ≠ L + 1)) ?_ ?_ _ 0 [] _ (Nat.zero_add _) ⟨[], rfl, ?e0, fun p hp => (by cases hp)⟩
  case e0 => exact True.intro
  · rintro k ys nw v I oI C oC Dd m₂ h tk' E' hk ⟨cols, rfl, hc, hcl⟩ hPv hC hx F N off ne
    obtain ⟨nk, tn, k1, rfl⟩ := ints_get hI2 (by simpa using hPv)
    iterate 14 ((try (first | with_reducible refine Mine.hide_loop fun QhL hQhL => ?_ | with_reducible refine Mine.hide_comp fun QhC hQhC => ?_)); (first | walk1 | (dsimp only; walk1) | (refine hQhC _ _ ?_; clear hQhC; try clear QhC) | (refine hQhL _ _ ?_; clear hQhL; try clear QhL)); try dsimp only)
    refine colour_at KX T (by k_asm) (by k_asm) (fun l ta tb tc h' tk2 F N hne hl => ?_) rfl rfl (Nat.le_of_ble_eq_true rfl) (Nat.le_of_ble_eq_true rfl)
    iterate 1 ((try (first | with_reducible refine Mine.hide_loop fun QhL hQhL => ?_ | with_reducible refine Mine.hide_comp fun QhC hQhC => ?_)); (first | walk1 | (dsimp only; walk1) | (refine hQhC _ _ ?_; clear hQhC; try clear QhC) | (refine hQhL _ _ ?_; clear hQhL; try clear QhL)); try dsimp only)
    refine CompEnd.intro F N ((l, _) :: (cols ++ _)) (lawP1 (cs := cols)) ⟨⟨Ne.symm (hne _ (.head _)), Ne.symm (hne _ (.tail _ (.head _))), Ne.symm (hne _ (.tail _ (.tail _ (.head _))))⟩, off⟩ (.inr ⟨W.listOf ws.toArray 0, .tail _ (List.mem_append_right _ (.head _)), rfl, _, rfl⟩) ⟨(l, _) :: cols, rfl, ?_, ?_⟩
    · replace k1 : (ns.take 9 ++ [2, 5])[k]? = some nk := k1
      rw [take_snoc k1, List.map_append]
      exact ColsAt.snoc (.head _) (hc.mono fun p hp => .tail _ hp)
    · intro p hp
      rcases List.mem_cons.mp hp with rfl | hp
      · exact Ne.symm (hne (L + 1, o') (.tail _ (.tail _ (.tail _ (List.mem_append_right _ (.tail _ (.tail _ (.tail _ (.head _)))))))))
      · exact hcl p hp
  · rintro ys nw ⟨cols, rfl, hc, hcl⟩
    intro DR h3 tk3 F N offD
    clear F2 N2
    have oD := Off1.all offD
    (try dsimp only); (try k_fold)
    iterate 14 ((try (first | with_reducible refine Mine.hide_loop fun QhL hQhL => ?_ | with_reducible refine Mine.hide_comp fun QhC hQhC => ?_)); (first | walk1 | (dsimp only; walk1) | (refine hQhC _ _ ?_; clear hQhC; try clear QhC) | (refine hQhL _ _ ?_; clear hQhL; try clear QhL)); try dsimp only)
    rename Fr _ _ _ _ => F5
    refine For_turns F5 ?_
    iterate 1 ((try (first | with_reducible refine Mine.hide_loop fun QhL hQhL => ?_ | with_reducible refine Mine.hide_comp fun QhC hQhC => ?_)); (first | walk1 | (dsimp only; walk1) | (refine hQhC _ _ ?_; clear hQhC; try clear QhC) | (refine hQhL _ _ ?_; clear hQhL; try clear QhL)); try dsimp only)
    rename_i SE h4 l1S h5 TU h6 l1T h7 N7
    have hlen : ws.toArray.size = (ns.take 9 ++ [2, 5]).length := by rw [List.size_toArray]; exact hI2.length
    have hn11 : (ns.take 9 ++ [2, 5]).length ≤ 11 := by rw [List.length_append, List.length_take]; simp; lia
    rw [hlen, List.take_length] at hc
    generalize hcs : (ns.take 9 ++ [2, 5]).map colN = cs at hc
    have hcn : cs.length ≤ 11 := by rw [← hcs, List.length_map]; exact hn11
    have hyl := hc.length
    have q1 := ltN l1S.1
    have q2 := ltN l1T.1
    have q3 := ltN l1T.2.1
    obtain ⟨B, hBN, hBc, hB1, hB2⟩ : ∃ B, News s.heap L h7 ((TU, W.listOf #[] 0) :: (SE, W.listOf #[] 0) :: (DR, lst ys) :: (L + 1, o') :: B) ∧ ColsAt B ys cs ∧ (∀ p ∈ B, p.1 < SE) ∧ (∀ p ∈ B, p.1 ≠ L + 1) := by
      refine ⟨cols, subN N7 (fun p hp => ?_), hc, fun p hp => ?_, hcl⟩
      · simp only [List.mem_cons, List.mem_append] at hp ⊢
        grind
      · exact allLt_lt l1S.2 p (List.mem_append_left _ hp)
    have q4 : L + 1 < SE := allLt_lt l1S.2 (L + 1, o') (List.mem_append_right _ (.tail _ (.tail _ (.tail _ (.head _)))))
    have q4 := ltN q4
    have q5 : L + 1 ≠ DR := oD (L + 1, o') (List.mem_append_right _ (.tail _ (.tail _ (.tail _ (.head _)))))
    have q5 := neN q5
    clear N7 l1S l1T hcl oD
    have hB3 : ∀ p ∈ B, p.1 ≠ SE := fun p hp => Nat.ne_of_lt (hB1 p hp)
    have hB4 : ∀ p ∈ B, p.1 ≠ TU := fun p hp => Nat.ne_of_lt (Nat.lt_trans (hB1 p hp) q2)
    refine turnsL (l := DR) (ol := lst ys) (vs := ys) [Str.ofString "hue", Str.ofString "light", Str.ofString "share", Str.ofString "half", Str.ofString "over"] (fun i u nx => ∃ oP sv tv es et tp, (∃ v, oP.data = .cell v) ∧ PrsAt tp sv ((cs.take i).map spanC) ∧ PrsAt tp tv ((cs.take i).map turnC) ∧ (∀ p ∈ tp, TU < p.1) ∧
      nx = (TU, W.listOf tv.toArray et) :: (SE, W.listOf sv.toArray es) :: (DR, lst ys) :: (L + 1, oP) :: (tp ++ B)) rfl F5 hBN rfl rfl ?_ ?_ ?_ ?_ ?_
    · exact (hBN _ (.tail _ (.tail _ (.head _)))).2.1
    · rintro i u nx ⟨oP, sv, tv, es, et, tp, _, _, _, _, rfl⟩
      exact .inl (.tail _ (.tail _ (.head _)))
    · exact ⟨o', [], [], 0, 0, [], ⟨_, d1'⟩, trivial, trivial, fun p hp => (by cases hp), rfl⟩
    · rintro i v u nx h tk I oI hv hI off ⟨oP, sv, tv, es, et, tp, ⟨vP, hP⟩, hsv, htv, htp, rfl⟩ F N
      replace F : Fr s.heap L _ _ := F
      replace N : News s.heap L _ _ := N
      clear F5 hBN
      have hIP := neN (off (L + 1, oP) (m3 (.head _)))
      have hIT := neN (off (TU, W.listOf tv.toArray et) (.head _))
      have hIS := neN (off (SE, W.listOf sv.toArray es) (.tail _ (.head _)))
      have hT1 : ∀ p ∈ tp ++ B, p.1 ≠ L + 1 := fun p hp => (List.mem_append.mp hp).elim (fun hp => Nat.ne_of_gt (Nat.lt_trans (Nat.lt_trans q4 q2) (htp p hp))) (hB2 p)
      have hT2 : ∀ p ∈ tp ++ B, p.1 ≠ SE := fun p hp => (List.mem_append.mp hp).elim (fun hp => Nat.ne_of_gt (Nat.lt_trans q2 (htp p hp))) (hB3 p)
      have hT3 : ∀ p ∈ tp ++ B, p.1 ≠ TU := fun p hp => (List.mem_append.mp hp).elim (fun hp => Nat.ne_of_gt (htp p hp)) (hB4 p)
      obtain ⟨c, ca, t1, t2, t3, hci, rfl, hcm⟩ := hBc.get hv
      have hck : ColOk c ∧ (0 ≤ minC c ∧ maxC c ≤ 16 ∧ maxC c - minC c ≤ 5) := by
        rw [← hcs, List.getElem?_map] at hci
        obtain ⟨nn, _, rfl⟩ := Option.map_eq_some_iff.mp hci
        exact ⟨colN_ok _, colour_rng _⟩
      obtain ⟨hok, hr1, hr2, _⟩ := hck
      have hb : (0 ≤ c.1 ∧ c.1 ≤ 16) ∧ (0 ≤ c.2.1 ∧ c.2.1 ≤ 16) ∧ (0 ≤ c.2.2 ∧ c.2.2 ≤ 16) := by simp only [minC, maxC] at hr1 hr2; lia
      iterate 12 ((try (first | with_reducible refine Mine.hide_loop fun QhL hQhL => ?_ | with_reducible refine Mine.hide_comp fun QhC hQhC => ?_)); (first | walk1 | (dsimp only; walk1) | (refine hQhC _ _ ?_; clear hQhC; try clear QhC) | (refine hQhL _ _ ?_; clear hQhL; try clear QhL)); try dsimp only)
      rename News _ _ _ _ => N8
      have hsub : ∀ {h : Heap} {o : Obj}, News s.heap L h ((I, oI) :: (TU, W.listOf tv.toArray et) :: (SE, W.listOf sv.toArray es) :: (DR, lst ys) :: (L + 1, o) :: (tp ++ B)) → h.IsList ca [Value.int c.1 t1, .int c.2.1 t2, .int c.2.2 t3].toArray := fun N => News.isList (N := N) (m5 (List.mem_append_right _ hcm))
      refine sub_list (hsub N8) (by decide) (by decide) (show [Value.int c.1 t1, .int c.2.1 t2, .int c.2.2 t3][(0 : Int).toNat]? = _ from rfl) ?_
      try dsimp only
      iterate 1 ((try (first | with_reducible refine Mine.hide_loop fun QhL hQhL => ?_ | with_reducible refine Mine.hide_comp fun QhC hQhC => ?_)); (first | walk1 | (dsimp only; walk1) | (refine hQhC _ _ ?_; clear hQhC; try clear QhC) | (refine hQhL _ _ ?_; clear hQhL; try clear QhL)); try dsimp only)
      refine div16 rfl hb.1.1 hb.1.2 ?_
      try dsimp only
      iterate 5 ((try (first | with_reducible refine Mine.hide_loop fun QhL hQhL => ?_ | with_reducible refine Mine.hide_comp fun QhC hQhC => ?_)); (first | walk1 | (dsimp only; walk1) | (refine hQhC _ _ ?_; clear hQhC; try clear QhC) | (refine hQhL _ _ ?_; clear hQhL; try clear QhL)); try dsimp only)
      refine sub_list (hsub N8) (by decide) (by decide) (show [Value.int c.1 t1, .int c.2.1 t2, .int c.2.2 t3][(1 : Int).toNat]? = _ from rfl) ?_
      try dsimp only
      iterate 1 ((try (first | with_reducible refine Mine.hide_loop fun QhL hQhL => ?_ | with_reducible refine Mine.hide_comp fun QhC hQhC => ?_)); (first | walk1 | (dsimp only; walk1) | (refine hQhC _ _ ?_; clear hQhC; try clear QhC) | (refine hQhL _ _ ?_; clear hQhL; try clear QhL)); try dsimp only)
      refine div16 rfl hb.2.1.1 hb.2.1.2 ?_
      try dsimp only
      iterate 5 ((try (first | with_reducible refine Mine.hide_loop fun QhL hQhL => ?_ | with_reducible refine Mine.hide_comp fun QhC hQhC => ?_)); (first | walk1 | (dsimp only; walk1) | (refine hQhC _ _ ?_; clear hQhC; try clear QhC) | (refine hQhL _ _ ?_; clear hQhL; try clear QhL)); try dsimp only)
      refine sub_list (hsub N8) (by decide) (by decide) (show [Value.int c.1 t1, .int c.2.1 t2, .int c.2.2 t3][(2 : Int).toNat]? = _ from rfl) ?_
      try dsimp only
      iterate 1 ((try (first | with_reducible refine Mine.hide_loop fun QhL hQhL => ?_ | with_reducible refine Mine.hide_comp fun QhC hQhC => ?_)); (first | walk1 | (dsimp only; walk1) | (refine hQhC _ _ ?_; clear hQhC; try clear QhC) | (refine hQhL _ _ ?_; clear hQhL; try clear QhL)); try dsimp only)
      refine div16 rfl hb.2.2.1 hb.2.2.2 ?_
      try dsimp only
      iterate 2 ((try (first | with_reducible refine Mine.hide_loop fun QhL hQhL => ?_ | with_reducible refine Mine.hide_comp fun QhC hQhC => ?_)); (first | walk1 | (dsimp only; walk1) | (refine hQhC _ _ ?_; clear hQhC; try clear QhC) | (refine hQhL _ _ ?_; clear hQhL; try clear QhL)); try dsimp only)
      refine hls_at KX T (by k_asm) N8 (mx := mxC c) (mn := mnC c) rfl rfl hok.hz (fun HT u1 u2 u3 h' tk2 F N9 hne hHL => ?_) rfl rfl (Nat.le_of_ble_eq_true rfl) (Nat.le_of_ble_eq_true rfl)
      iterate 27 ((try (first | with_reducible refine Mine.hide_loop fun QhL hQhL => ?_ | with_reducible refine Mine.hide_comp fun QhC hQhC => ?_)); (first | walk1 | (dsimp only; walk1) | (refine hQhC _ _ ?_; clear hQhC; try clear QhC) | (refine hQhL _ _ ?_; clear hQhL; try clear QhL)); try dsimp only)
      rename News _ _ _ _ => N10
      rename Fr _ _ _ _ => F10
      refine min2f rfl F10 (subN N10 fun p hp => .tail _ hp) fun h' tk3 v4 F N => ?_
      try dsimp only
      clear F10 N10
      iterate 27 ((try (first | with_reducible refine Mine.hide_loop fun QhL hQhL => ?_ | with_reducible refine Mine.hide_comp fun QhC hQhC => ?_)); (first | walk1 | (dsimp only; walk1) | (refine hQhC _ _ ?_; clear hQhC; try clear QhC) | (refine hQhL _ _ ?_; clear hQhL; try clear QhL)); try dsimp only)
      refine int_tr hok.lo ?_
      try dsimp only
      iterate 16 ((try (first | with_reducible refine Mine.hide_loop fun QhL hQhL => ?_ | with_reducible refine Mine.hide_comp fun QhC hQhC => ?_)); (first | walk1 | (dsimp only; walk1) | (refine hQhC _ _ ?_; clear hQhC; try clear QhC) | (refine hQhL _ _ ?_; clear hQhL; try clear QhL)); try dsimp only)
      refine int_tr hok.hi ?_
      try dsimp only
      iterate 3 ((try (first | with_reducible refine Mine.hide_loop fun QhL hQhL => ?_ | with_reducible refine Mine.hide_comp fun QhC hQhC => ?_)); (first | walk1 | (dsimp only; walk1) | (refine hQhC _ _ ?_; clear hQhC; try clear QhC) | (refine hQhL _ _ ?_; clear hQhL; try clear QhL)); try dsimp only)
      rename News _ _ _ _ => N11
      rename_i D1 _ _ l1D1
      have q6 := ltN l1D1.2.1
      refine append_F (by k_asm) N11 (by k_updF) ?_ ?_
      · rw [hsv.length, List.length_map, List.length_take]; lia
      intro h' F12 N12
      clear N11
      iterate 2 ((try (first | with_reducible refine Mine.hide_loop fun QhL hQhL => ?_ | with_reducible refine Mine.hide_comp fun QhC hQhC => ?_)); (first | walk1 | (dsimp only; walk1) | (refine hQhC _ _ ?_; clear hQhC; try clear QhC) | (refine hQhL _ _ ?_; clear hQhL; try clear QhL)); try dsimp only)
      rename Fr _ _ _ _ => F13
      rename News _ _ _ _ => N13
      refine' Assign_ListComp_Tp F13 ?p1 ?p2 ?p3 ?p4 ?p5 ?p6 ?p7 ?p8 ?p9 ?pa ?pb
      case p1 => rfl
      case p2 => with_unfolding_all rfl
      case p3 => rfl
      case p4 => decide
      case p5 => rfl
      case p6 => decide
      case p7 => rfl
      case p8 => rfl
      case p9 => rfl
      case pb => intro _; rfl
      iterate 14 ((try (first | with_reducible refine Mine.hide_loop fun QhL hQhL => ?_ | with_reducible refine Mine.hide_comp fun QhC hQhC => ?_)); (first | walk1 | (dsimp only; walk1) | (refine hQhC _ _ ?_; clear hQhC; try clear QhC) | (refine hQhL _ _ ?_; clear hQhL; try clear QhL)); try dsimp only)
      refine rgb_at KX T (by k_asm) N13 (fun RT w1 w2 w3 h' tk2 F N14 hnR hRL => ?_) rfl rfl (Nat.le_of_ble_eq_true rfl) (Nat.le_of_ble_eq_true rfl)
      refine ⟨RT, _, _, rfl, rfl, F, N14, .head _, Nat.le_of_ble_eq_true rfl, fun g => ?_⟩
      show LCg.CompRest _ _ _ _ _ _ _ _ _ _ _ _ _ _ _ 3 0 [] _
      clear F13 N13
      refine LCg.CompRest.succ fun v I2 oI2 C oC Dd m₂ h tk E' hP hC hx F N off2 ne => ?_
      obtain rfl := (Option.some.inj hP).symm
      iterate 12 ((try (first | with_reducible refine Mine.hide_loop fun QhL hQhL => ?_ | with_reducible refine Mine.hide_comp fun QhC hQhC => ?_)); (first | walk1 | (dsimp only; walk1) | (refine hQhC _ _ ?_; clear hQhC; try clear QhC) | (refine hQhL _ _ ?_; clear hQhL; try clear QhL)); try dsimp only)
      refine int_tr hok.o1 ?_
      try dsimp only
      iterate 1 ((try (first | with_reducible refine Mine.hide_loop fun QhL hQhL => ?_ | with_reducible refine Mine.hide_comp fun QhC hQhC => ?_)); (first | walk1 | (dsimp only; walk1) | (refine hQhC _ _ ?_; clear hQhC; try clear QhC) | (refine hQhL _ _ ?_; clear hQhL; try clear QhL)); try dsimp only)
      refine CompEnd.intro (by k_asm) N _ (fun p hp => hp) off2 (.head _) ?_
      clear N F off2 ne hP hC hx
      refine LCg.CompRest.succ fun v I2 oI2 C oC Dd m₂ h tk E' hP hC hx F N off2 ne => ?_
      obtain rfl := (Option.some.inj hP).symm
      iterate 12 ((try (first | with_reducible refine Mine.hide_loop fun QhL hQhL => ?_ | with_reducible refine Mine.hide_comp fun QhC hQhC => ?_)); (first | walk1 | (dsimp only; walk1) | (refine hQhC _ _ ?_; clear hQhC; try clear QhC) | (refine hQhL _ _ ?_; clear hQhL; try clear QhL)); try dsimp only)
      refine int_tr hok.o2 ?_
      try dsimp only
      iterate 1 ((try (first | with_reducible refine Mine.hide_loop fun QhL hQhL => ?_ | with_reducible refine Mine.hide_comp fun QhC hQhC => ?_)); (first | walk1 | (dsimp only; walk1) | (refine hQhC _ _ ?_; clear hQhC; try clear QhC) | (refine hQhL _ _ ?_; clear hQhL; try clear QhL)); try dsimp only)
      refine CompEnd.intro (by k_asm) N _ (fun p hp => hp) off2 (.head _) ?_
      clear N F off2 ne hP hC hx
      refine LCg.CompRest.succ fun v I2 oI2 C oC Dd m₂ h tk E' hP hC hx F N off2 ne => ?_
      obtain rfl := (Option.some.inj hP).symm
      iterate 12 ((try (first | with_reducible refine Mine.hide_loop fun QhL hQhL => ?_ | with_reducible refine Mine.hide_comp fun QhC hQhC => ?_)); (first | walk1 | (dsimp only; walk1) | (refine hQhC _ _ ?_; clear hQhC; try clear QhC) | (refine hQhL _ _ ?_; clear hQhL; try clear QhL)); try dsimp only)
      refine int_tr hok.o3 ?_
      try dsimp only
      iterate 1 ((try (first | with_reducible refine Mine.hide_loop fun QhL hQhL => ?_ | with_reducible refine Mine.hide_comp fun QhC hQhC => ?_)); (first | walk1 | (dsimp only; walk1) | (refine hQhC _ _ ?_; clear hQhC; try clear QhC) | (refine hQhL _ _ ?_; clear hQhL; try clear QhL)); try dsimp only)
      refine CompEnd.intro (by k_asm) N _ (fun p hp => hp) off2 (.head _) ?_
      clear N F off2 ne hP hC hx
      refine LCg.CompRest.zero ?_
      intro OV h tk F N offO
      replace N := subN N fun p hp => (List.mem_cons.mp hp).elim (fun e => e ▸ .head _) (fun hp => .tail _ (.tail _ hp))
      (try dsimp only); (try k_fold)
      iterate 4 ((try (first | with_reducible refine Mine.hide_loop fun QhL hQhL => ?_ | with_reducible refine Mine.hide_comp fun QhC hQhC => ?_)); (first | walk1 | (dsimp only; walk1) | (refine hQhC _ _ ?_; clear hQhC; try clear QhC) | (refine hQhL _ _ ?_; clear hQhL; try clear QhL)); try dsimp only)
      rename Fr _ _ _ _ => F15
      rename News _ _ _ _ => N15
      refine' LCg.ListComp_U (F₀ := F15) ?n1 ?n2 ?n3 ?n4 ?n5 ?_
      case n1 => with_unfolding_all rfl
      case n2 => decide
      case n3 => rfl
      case n4 => decide
      case n5 => rfl
      iterate 1 ((try (first | with_reducible refine Mine.hide_loop fun QhL hQhL => ?_ | with_reducible refine Mine.hide_comp fun QhC hQhC => ?_)); (first | walk1 | (dsimp only; walk1) | (refine hQhC _ _ ?_; clear hQhC; try clear QhC) | (refine hQhL _ _ ?_; clear hQhL; try clear QhL)); try dsimp only)
      refine LCg.CompSrc.ledger rfl F15 N15 (m7 (List.mem_append_right _ hcm)) (Nat.le_of_ble_eq_true rfl) (fun g => ?_)
      show LCg.CompRest _ _ _ _ _ _ _ _ _ _ _ _ _ _ _ 3 0 [] _
      clear F15
      have ints3 : IntsAre [Value.int c.1 t1, .int c.2.1 t2, .int c.2.2 t3] [c.1, c.2.1, c.2.2] := .cons _ _ (.cons _ _ (.cons _ _ .nil))
      refine LCg.CompRest.succ fun v I3 oI3 C oC Dd m₂ h tk E' hP hC hx F N off2 ne => ?_
      obtain rfl : v = Value.int c.1 t1 := (Option.some.inj hP).symm
      iterate 12 ((try (first | with_reducible refine Mine.hide_loop fun QhL hQhL => ?_ | with_reducible refine Mine.hide_comp fun QhC hQhC => ?_)); (first | walk1 | (dsimp only; walk1) | (refine hQhC _ _ ?_; clear hQhC; try clear QhC) | (refine hQhL _ _ ?_; clear hQhL; try clear QhL)); try dsimp only)
      rename Fr _ _ _ _ => F16
      rename News _ _ _ _ => N16
      refine kso_min F16 N16 (News.isList (N := N16) (m10 (List.mem_append_right _ hcm))) ints3 (Nat.zero_lt_succ _) rfl fun h' M1 tM tk' F17 N17 hM1 hM2 => ?_
      obtain rfl : M1 = minC c := minC_eq hM1 hM2
      clear F16 N16
      try dsimp only
      iterate 7 ((try (first | with_reducible refine Mine.hide_loop fun QhL hQhL => ?_ | with_reducible refine Mine.hide_comp fun QhC hQhC => ?_)); (first | walk1 | (dsimp only; walk1) | (refine hQhC _ _ ?_; clear hQhC; try clear QhC) | (refine hQhL _ _ ?_; clear hQhL; try clear QhL)); try dsimp only)
      rename Fr _ _ _ _ => F16
      rename News _ _ _ _ => N16
      refine kso_max F16 N16 (News.isList (N := N16) (m10 (List.mem_append_right _ hcm))) ints3 (Nat.zero_lt_succ _) rfl fun h' M1 tM tk' F17 N17 hM1 hM2 => ?_
      obtain rfl : M1 = maxC c := maxC_eq hM1 hM2
      clear F16 N16
      try dsimp only
      iterate 2 ((try (first | with_reducible refine Mine.hide_loop fun QhL hQhL => ?_ | with_reducible refine Mine.hide_comp fun QhC hQhC => ?_)); (first | walk1 | (dsimp only; walk1) | (refine hQhC _ _ ?_; clear hQhC; try clear QhC) | (refine hQhL _ _ ?_; clear hQhL; try clear QhL)); try dsimp only)
      refine CompEnd.intro (by k_asm) (by k_asm) _ (fun p hp => hp) off2 (.inr ⟨_, m7 (List.mem_append_right _ hcm), rfl, _, rfl⟩) ?_
      clear F17 N17 off2 ne hP hC hx
      refine LCg.CompRest.succ fun v I3 oI3 C oC Dd m₂ h tk E' hP hC hx F N off2 ne => ?_
      obtain rfl : v = Value.int c.2.1 t2 := (Option.some.inj hP).symm
      iterate 12 ((try (first | with_reducible refine Mine.hide_loop fun QhL hQhL => ?_ | with_reducible refine Mine.hide_comp fun QhC hQhC => ?_)); (first | walk1 | (dsimp only; walk1) | (refine hQhC _ _ ?_; clear hQhC; try clear QhC) | (refine hQhL _ _ ?_; clear hQhL; try clear QhL)); try dsimp only)
      rename Fr _ _ _ _ => F16
      rename News _ _ _ _ => N16
      refine kso_min F16 N16 (News.isList (N := N16) (m10 (List.mem_append_right _ hcm))) ints3 (Nat.zero_lt_succ _) rfl fun h' M1 tM tk' F17 N17 hM1 hM2 => ?_
      obtain rfl : M1 = minC c := minC_eq hM1 hM2
      clear F16 N16
      try dsimp only
      iterate 7 ((try (first | with_reducible refine Mine.hide_loop fun QhL hQhL => ?_ | with_reducible refine Mine.hide_comp fun QhC hQhC => ?_)); (first | walk1 | (dsimp only; walk1) | (refine hQhC _ _ ?_; clear hQhC; try clear QhC) | (refine hQhL _ _ ?_; clear hQhL; try clear QhL)); try dsimp only)
      rename Fr _ _ _ _ => F16
      rename News _ _ _ _ => N16
      refine kso_max F16 N16 (News.isList (N := N16) (m10 (List.mem_append_right _ hcm))) ints3 (Nat.zero_lt_succ _) rfl fun h' M1 tM tk' F17 N17 hM1 hM2 => ?_
      obtain rfl : M1 = maxC c := maxC_eq hM1 hM2
      clear F16 N16
      try dsimp only
      iterate 2 ((try (first | with_reducible refine Mine.hide_loop fun QhL hQhL => ?_ | with_reducible refine Mine.hide_comp fun QhC hQhC => ?_)); (first | walk1 | (dsimp only; walk1) | (refine hQhC _ _ ?_; clear hQhC; try clear QhC) | (refine hQhL _ _ ?_; clear hQhL; try clear QhL)); try dsimp only)
      refine CompEnd.intro (by k_asm) (by k_asm) _ (fun p hp => hp) off2 (.inr ⟨_, m7 (List.mem_append_right _ hcm), rfl, _, rfl⟩) ?_
      clear F17 N17 off2 ne hP hC hx
      refine LCg.CompRest.succ fun v I3 oI3 C oC Dd m₂ h tk E' hP hC hx F N off2 ne => ?_
      obtain rfl : v = Value.int c.2.2 t3 := (Option.some.inj hP).symm
      iterate 12 ((try (first | with_reducible refine Mine.hide_loop fun QhL hQhL => ?_ | with_reducible refine Mine.hide_comp fun QhC hQhC => ?_)); (first | walk1 | (dsimp only; walk1) | (refine hQhC _ _ ?_; clear hQhC; try clear QhC) | (refine hQhL _ _ ?_; clear hQhL; try clear QhL)); try dsimp only)
      rename Fr _ _ _ _ => F16
      rename News _ _ _ _ => N16
      refine kso_min F16 N16 (News.isList (N := N16) (m10 (List.mem_append_right _ hcm))) ints3 (Nat.zero_lt_succ _) rfl fun h' M1 tM tk' F17 N17 hM1 hM2 => ?_
      obtain rfl : M1 = minC c := minC_eq hM1 hM2
      clear F16 N16
      try dsimp only
      iterate 7 ((try (first | with_reducible refine Mine.hide_loop fun QhL hQhL => ?_ | with_reducible refine Mine.hide_comp fun QhC hQhC => ?_)); (first | walk1 | (dsimp only; walk1) | (refine hQhC _ _ ?_; clear hQhC; try clear QhC) | (refine hQhL _ _ ?_; clear hQhL; try clear QhL)); try dsimp only)
      rename Fr _ _ _ _ => F16
      rename News _ _ _ _ => N16
      refine kso_max F16 N16 (News.isList (N := N16) (m10 (List.mem_append_right _ hcm))) ints3 (Nat.zero_lt_succ _) rfl fun h' M1 tM tk' F17 N17 hM1 hM2 => ?_
      obtain rfl : M1 = maxC c := maxC_eq hM1 hM2
      clear F16 N16
      try dsimp only
      iterate 2 ((try (first | with_reducible refine Mine.hide_loop fun QhL hQhL => ?_ | with_reducible refine Mine.hide_comp fun QhC hQhC => ?_)); (first | walk1 | (dsimp only; walk1) | (refine hQhC _ _ ?_; clear hQhC; try clear QhC) | (refine hQhL _ _ ?_; clear hQhL; try clear QhL)); try dsimp only)
      refine CompEnd.intro (by k_asm) (by k_asm) _ (fun p hp => hp) off2 (.inr ⟨_, m7 (List.mem_append_right _ hcm), rfl, _, rfl⟩) ?_
      clear F17 N17 off2 ne hP hC hx
      refine LCg.CompRest.zero ?_
      intro OW h tk F N offW
      rename News _ _ _ _ => N18
      refine ne_intsK (News.isList (N := N18) (.tail _ (.head _))) (.cons _ _ (.cons _ _ (.cons _ _ .nil))) (News.isList (N := N18) (.head _)) (.cons _ _ (.cons _ _ (.cons _ _ .nil))) (Nat.le_of_ble_eq_true rfl) ?_
      rw [decide_eq_true rfl]
      try dsimp only
      replace N18 := subN N18 fun p hp => .tail _ hp
      iterate 18 ((try (first | with_reducible refine Mine.hide_loop fun QhL hQhL => ?_ | with_reducible refine Mine.hide_comp fun QhC hQhC => ?_)); (first | walk1 | (dsimp only; walk1) | (refine hQhC _ _ ?_; clear hQhC; try clear QhC) | (refine hQhL _ _ ?_; clear hQhL; try clear QhL)); try dsimp only)
      rename Fr _ _ _ _ => F18
      rename News _ _ _ _ => N19
      refine kso_min F18 N19 (News.isList (N := N19) (.head _)) (.cons _ _ (.cons _ _ (.cons _ _ .nil))) (Nat.zero_lt_succ _) rfl fun h' M1 tM tk' F19 N20 hM1 hM2 => ?_
      obtain rfl : M1 = 16 - maxC c := minT_eq hM1 hM2
      clear F18 N19
      try dsimp only
      iterate 7 ((try (first | with_reducible refine Mine.hide_loop fun QhL hQhL => ?_ | with_reducible refine Mine.hide_comp fun QhC hQhC => ?_)); (first | walk1 | (dsimp only; walk1) | (refine hQhC _ _ ?_; clear hQhC; try clear QhC) | (refine hQhL _ _ ?_; clear hQhL; try clear QhL)); try dsimp only)
      rename Fr _ _ _ _ => F18
      rename News _ _ _ _ => N19
      refine kso_max F18 N19 (News.isList (N := N19) (.head _)) (.cons _ _ (.cons _ _ (.cons _ _ .nil))) (Nat.zero_lt_succ _) rfl fun h' M1 tM tk' F19 N20 hM1 hM2 => ?_
      obtain rfl : M1 = 16 - minC c := maxT_eq hM1 hM2
      clear F18 N19
      try dsimp only
      replace N20 := subN N20 fun p hp => .tail _ hp
      iterate 3 ((try (first | with_reducible refine Mine.hide_loop fun QhL hQhL => ?_ | with_reducible refine Mine.hide_comp fun QhC hQhC => ?_)); (first | walk1 | (dsimp only; walk1) | (refine hQhC _ _ ?_; clear hQhC; try clear QhC) | (refine hQhL _ _ ?_; clear hQhL; try clear QhL)); try dsimp only)
      rename News _ _ _ _ => N21
      rename_i D2 _ _ l1D2
      have q7 := ltN l1D2.2.2.1
      refine append_F (by k_asm) N21 (by k_updF) ?_ ?_
      · rw [htv.length, List.length_map, List.length_take]; lia
      intro h' F22 N22
      clear N21
      iterate 3 ((try (first | with_reducible refine Mine.hide_loop fun QhL hQhL => ?_ | with_reducible refine Mine.hide_comp fun QhC hQhC => ?_)); (first | walk1 | (dsimp only; walk1) | (refine hQhC _ _ ?_; clear hQhC; try clear QhC) | (refine hQhL _ _ ?_; clear hQhL; try clear QhL)); try dsimp only)
      have hoffD : ∀ p ∈ tp ++ B, p.1 ≠ I := fun p hp => off p (m4 hp)
      obtain ⟨x1, x2, x3, x4, oC, dC, N23⟩ : ∃ x1 x2 x3 x4 oC, (∃ v, oC.data = Data.cell v) ∧ News s.heap L h' ((D2, tupO [Value.int (16 - maxC c) x1, Value.int (16 - minC c) x2]) :: (D1, tupO [Value.int (minC c) x3, Value.int (maxC c) x4]) :: (I, oI) ::
        (TU, W.listOf (tv ++ [Value.ref D2]).toArray (et + 1)) :: (SE, W.listOf (sv ++ [Value.ref D1]).toArray (es + 1)) :: (DR, lst ys) :: (L + 1, oC) :: (tp ++ B)) := ⟨_, _, _, _, _, ⟨_, by assumption⟩, N22⟩
      refine LEnd.intro ((TU, W.listOf (tv ++ [Value.ref D2]).toArray (et + 1)) :: (SE, W.listOf (sv ++ [Value.ref D1]).toArray (es + 1)) :: (DR, lst ys) :: (L + 1, oC) :: (((D2, tupO [Value.int (16 - maxC c) x1, Value.int (16 - minC c) x2]) :: (D1, tupO [Value.int (minC c) x3, Value.int (maxC c) x4]) :: tp) ++ B)) (by k_asm) N23 (.put rfl (.put rfl (.put rfl (.put rfl (.put rfl .base))))) (fun p hp => ?_) (.tail _ (.tail _ (.head _))) (fun p hp => ?_)
        ⟨oC, sv ++ [Value.ref D1], tv ++ [Value.ref D2], es + 1, et + 1, (D2, tupO [Value.int (16 - maxC c) x1, Value.int (16 - minC c) x2]) :: (D1, tupO [Value.int (minC c) x3, Value.int (maxC c) x4]) :: tp, dC, ?_, ?_, fun p hp => ?_, rfl⟩
      · exact memLw hp
      · rcases List.mem_cons.mp hp with rfl | hp
        · exact hIT
        rcases List.mem_cons.mp hp with rfl | hp
        · exact hIS
        rcases List.mem_cons.mp hp with rfl | hp
        · exact off (DR, lst ys) (m2 (.head _))
        rcases List.mem_cons.mp hp with rfl | hp
        · exact hIP
        rcases List.mem_cons.mp hp with rfl | hp
        · exact Nat.ne_of_gt l1D2.2.1
        rcases List.mem_cons.mp hp with rfl | hp
        · exact Nat.ne_of_gt l1D1.1
        · exact hoffD p hp
      · rw [take_snoc hci, List.map_append]
        exact PrsAt.snoc (p := spanC c) (.tail _ (.head _)) (hsv.mono fun p hp => .tail _ (.tail _ hp))
      · rw [take_snoc hci, List.map_append]
        exact PrsAt.snoc (p := turnC c) (.head _) (htv.mono fun p hp => .tail _ (.tail _ hp))
      · rcases List.mem_cons.mp hp with rfl | hp
        · exact q7
        rcases List.mem_cons.mp hp with rfl | hp
        · exact q6
        · exact htp p hp
    · rintro u nx h tk ⟨oP, sv, tv, es, et, tp, ⟨vP, hP⟩, hsv, htv, htp, rfl⟩ F N
      replace F : Fr s.heap L _ _ := F
      replace N : News s.heap L _ _ := N
      clear F5 hBN
      rw [hyl, List.take_length] at hsv htv
      have hrng : ∀ c ∈ cs, 0 ≤ minC c ∧ maxC c ≤ 16 := fun c hc' => by
        rw [← hcs] at hc'
        obtain ⟨nn, _, rfl⟩ := List.mem_map.mp hc'
        exact ⟨(colour_rng _).1, (colour_rng _).2.1⟩
      have okS := spok_span hrng
      have okT := spok_turn hrng
      have hS11 : (cs.map spanC).length ≤ 11 := by rw [List.length_map]; exact hcn
      have hT11 : (cs.map turnC).length ≤ 11 := by rw [List.length_map]; exact hcn
      (try dsimp only); (try k_fold)
      iterate 1 ((try (first | with_reducible refine Mine.hide_loop fun QhL hQhL => ?_ | with_reducible refine Mine.hide_comp fun QhC hQhC => ?_)); (first | walk1 | (dsimp only; walk1) | (refine hQhC _ _ ?_; clear hQhC; try clear QhC) | (refine hQhL _ _ ?_; clear hQhL; try clear QhL)); try dsimp only)
      refine' LCg.Assign_ListComp_U (F₀ := F) ?q1 ?q2 ?q3 ?q4 ?q5 ?q6 ?q7 ?q8 ?q9 ?qa ?qb
      case q1 => rfl
      case q2 => with_unfolding_all rfl
      case q3 => rfl
      case q4 => decide
      case q5 => rfl
      case q6 => decide
      case q7 => rfl
      case q8 => rfl
      case q9 => rfl
      case qb => intro _; rfl
      iterate 1 ((try (first | with_reducible refine Mine.hide_loop fun QhL hQhL => ?_ | with_reducible refine Mine.hide_comp fun QhC hQhC => ?_)); (first | walk1 | (dsimp only; walk1) | (refine hQhC _ _ ?_; clear hQhC; try clear QhC) | (refine hQhL _ _ ?_; clear hQhL; try clear QhL)); try dsimp only)
      refine LCg.CompSrc.ledger rfl F N (m2 (.head _)) (by rw [sizeLine_eq, List.size_toArray]; lia) (fun g => ?_)
      refine' comp_inv (n := ys.toArray.size) (fun k zs nw => ∃ tw, nw = tw ++ ((TU, W.listOf tv.toArray et) :: (SE, W.listOf sv.toArray es) :: (DR, lst ys) :: (L + 1, oP) :: (tp ++ B)) ∧ PrsAt tw zs ((cs.take k).map spanC)) ?_ ?_ _ 0 [] _ (Nat.zero_add _) ⟨[], rfl, ?f0⟩
      case f0 => exact True.intro
      · rintro k zs nw v I oI C oC Dd m₂ h tk' E' hk ⟨tw, rfl, hzs⟩ hPv hC hx F N off ne
        obtain ⟨c, ca, t1, t2, t3, hci, rfl, hcm⟩ := hBc.get (show ys[k]? = some v by simpa using hPv)
        have ints3 : IntsAre [Value.int c.1 t1, .int c.2.1 t2, .int c.2.2 t3] [c.1, c.2.1, c.2.2] := .cons _ _ (.cons _ _ (.cons _ _ .nil))
        have hmC : (ca, lst [Value.int c.1 t1, .int c.2.1 t2, .int c.2.2 t3]) ∈ tw ++ ((TU, W.listOf tv.toArray et) :: (SE, W.listOf sv.toArray es) :: (DR, lst ys) :: (L + 1, oP) :: (tp ++ B)) := List.mem_append_right _ (m4 (List.mem_append_right _ hcm))
        iterate 8 ((try (first | with_reducible refine Mine.hide_loop fun QhL hQhL => ?_ | with_reducible refine Mine.hide_comp fun QhC hQhC => ?_)); (first | walk1 | (dsimp only; walk1) | (refine hQhC _ _ ?_; clear hQhC; try clear QhC) | (refine hQhL _ _ ?_; clear hQhL; try clear QhL)); try dsimp only)
        rename Fr _ _ _ _ => F16
        rename News _ _ _ _ => N16
        refine kso_min F16 N16 (News.isList (N := N16) (m3 hmC)) ints3 (Nat.zero_lt_succ _) rfl fun h' M1 tM tk' F17 N17 hM1 hM2 => ?_
        obtain rfl : M1 = minC c := minC_eq hM1 hM2
        clear F16 N16
        try dsimp only
        iterate 7 ((try (first | with_reducible refine Mine.hide_loop fun QhL hQhL => ?_ | with_reducible refine Mine.hide_comp fun QhC hQhC => ?_)); (first | walk1 | (dsimp only; walk1) | (refine hQhC _ _ ?_; clear hQhC; try clear QhC) | (refine hQhL _ _ ?_; clear hQhL; try clear QhL)); try dsimp only)
        rename Fr _ _ _ _ => F16
        rename News _ _ _ _ => N16
        refine kso_max F16 N16 (News.isList (N := N16) (m3 hmC)) ints3 (Nat.zero_lt_succ _) rfl fun h' M1 tM tk' F17 N17 hM1 hM2 => ?_
        obtain rfl : M1 = maxC c := maxC_eq hM1 hM2
        clear F16 N16
        try dsimp only
        iterate 3 ((try (first | with_reducible refine Mine.hide_loop fun QhL hQhL => ?_ | with_reducible refine Mine.hide_comp fun QhC hQhC => ?_)); (first | walk1 | (dsimp only; walk1) | (refine hQhC _ _ ?_; clear hQhC; try clear QhC) | (refine hQhL _ _ ?_; clear hQhL; try clear QhL)); try dsimp only)
        rename News _ _ _ _ => N18
        rename_i D3 _ _ l1D3
        refine CompEnd.intro (by k_asm) N18 ((D3, _) :: (tw ++ _)) (lawP1 (cs := tw)) ⟨⟨Nat.ne_of_gt l1D3.1, Nat.ne_of_gt l1D3.2.1, Nat.ne_of_gt l1D3.2.2.1⟩, off⟩ (.inr ⟨lst ys, .tail _ (List.mem_append_right _ (m2 (.head _))), rfl, _, rfl⟩) ⟨(D3, _) :: tw, rfl, ?_⟩
        rw [take_snoc hci, List.map_append]
        exact PrsAt.snoc (p := spanC c) (.head _) (hzs.mono fun p hp => .tail _ hp)
      rintro zs nw ⟨tw, rfl, hzs⟩
      rw [List.size_toArray, hyl, List.take_length] at hzs
      intro SD h tk F2 N2 offS
      clear F N
      generalize hR0 : tw ++ ((TU, W.listOf tv.toArray et) :: (SE, W.listOf sv.toArray es) :: (DR, lst ys) :: (L + 1, oP) :: (tp ++ B)) = R0 at N2
      have spS : SpAt R0 SE (cs.map spanC).length (fun i => (cs.map spanC).getD i (0, 0)) sv es := by
        rw [← hR0]
        exact PrsAt.spAt (hsv.mono fun p hp => List.mem_append_right _ (m4 (List.mem_append_left _ hp))) (List.mem_append_right _ (.tail _ (.head _)))
      have spT : SpAt R0 TU (cs.map turnC).length (fun i => (cs.map turnC).getD i (0, 0)) tv et := by
        rw [← hR0]
        exact PrsAt.spAt (htv.mono fun p hp => List.mem_append_right _ (m4 (List.mem_append_left _ hp))) (List.mem_append_right _ (.head _))
      have spD : SpAt ((SD, lst zs) :: R0) SD (cs.map spanC).length (fun i => (cs.map spanC).getD i (0, 0)) zs zs.length := by
        rw [← hR0]
        exact PrsAt.spAt (hzs.mono fun p hp => .tail _ (List.mem_append_left _ hp)) (.head _)
      clear hR0 hsv htv hzs htp hB1 hB2 hB3 hB4 hBc hc
      (try dsimp only); (try k_fold)
      iterate 10 ((try (first | with_reducible refine Mine.hide_loop fun QhL hQhL => ?_ | with_reducible refine Mine.hide_comp fun QhC hQhC => ?_)); (first | walk1 | (dsimp only; walk1) | (refine hQhC _ _ ?_; clear hQhC; try clear QhC) | (refine hQhL _ _ ?_; clear hQhL; try clear QhL)); try dsimp only)
      rename Fr _ _ _ _ => F3
      refine wpAny_lvF (d := 310) (u := 500) (told_ok KX T F3 (l0 := []) (rest := (SD, lst zs) :: R0) (frs := []) (by rw [List.append_nil]; exact N2) (spS.mono fun p hp => .tail _ hp) (show ScopeKind.function ≠ ScopeKind.module by decide) rfl trivial (fun _ _ q hq => (by cases hq)) hS11 okS.le (good_all okS hS11) (fun GV gs e frs' res h' tk SU hG hT hoffR F4 N4 => ?_)) rfl rfl rfl (Nat.le_of_ble_eq_true rfl) (Nat.le_of_ble_eq_true rfl)
      cases frs' with
      | cons _ _ => exact SU.elim
      | nil => ?_
      rw [List.append_nil] at N4
      clear N2 F3 SU
      iterate 7 ((try (first | with_reducible refine Mine.hide_loop fun QhL hQhL => ?_ | with_reducible refine Mine.hide_comp fun QhC hQhC => ?_)); (first | walk1 | (dsimp only; walk1) | (refine hQhC _ _ ?_; clear hQhC; try clear QhC) | (refine hQhL _ _ ?_; clear hQhL; try clear QhL)); try dsimp only)
      rename Fr _ _ _ _ => F5
      refine wpAny_lv (d := 310) (u := 1000) (due_ok KX T F5 N4 (spD.mono fun p hp => List.mem_append_right _ hp) hS11 (fun GD gd ed resd rs h' tk hGd hrl hrd hTd hoffD F6 N6 => ?_)) rfl rfl (Nat.le_of_ble_eq_true rfl) (Nat.le_of_ble_eq_true rfl)
      rw [told_is_due okS hS11 hrl hrd] at hT
      clear N4 F5
      refine ne_tups (led := resd ++ (res ++ ((SD, lst zs) :: R0))) (fun p hp => (N6 p hp).1) (hT.mono fun p hp => List.mem_append_right _ (List.mem_append_left _ hp)) (hTd.mono fun p hp => List.mem_append_left _ hp) (List.mem_append_right _ (List.mem_append_left _ hG)) (List.mem_append_left _ hGd) (Nat.le_of_ble_eq_true rfl) ?_
      try dsimp only
      replace N6 : News s.heap L _ ((SD, lst zs) :: R0) := subN N6 fun p hp => List.mem_append_right _ (List.mem_append_right _ hp)
      clear hG hT hoffR hGd hrl hrd hTd hoffD
      iterate 13 ((try (first | with_reducible refine Mine.hide_loop fun QhL hQhL => ?_ | with_reducible refine Mine.hide_comp fun QhC hQhC => ?_)); (first | walk1 | (dsimp only; walk1) | (refine hQhC _ _ ?_; clear hQhC; try clear QhC) | (refine hQhL _ _ ?_; clear hQhL; try clear QhL)); try dsimp only)
      rename Fr _ _ _ _ => F7
      rename News _ _ _ _ => N7
      refine wpAny_lvF (d := 310) (u := 500) (told_ok KX T F7 (l0 := []) (rest := (SD, lst zs) :: R0) (frs := []) (by rw [List.append_nil]; exact N7) (spT.mono fun p hp => .tail _ hp) (show ScopeKind.function ≠ ScopeKind.module by decide) rfl trivial (fun _ _ q hq => (by cases hq)) hT11 okT.le (good_all okT hT11) (fun GV gs e frs' res h' tk SU hG hT hoffR F8 N8 => ?_)) rfl rfl rfl (Nat.le_of_ble_eq_true rfl) (Nat.le_of_ble_eq_true rfl)
      cases frs' with
      | cons _ _ => exact SU.elim
      | nil => ?_
      rw [List.append_nil] at N8
      clear N7 F7 SU
      iterate 4 ((try (first | with_reducible refine Mine.hide_loop fun QhL hQhL => ?_ | with_reducible refine Mine.hide_comp fun QhC hQhC => ?_)); (first | walk1 | (dsimp only; walk1) | (refine hQhC _ _ ?_; clear hQhC; try clear QhC) | (refine hQhL _ _ ?_; clear hQhL; try clear QhL)); try dsimp only)
      rename Fr _ _ _ _ => F9
      refine' LCp.ListComp_P (F₀ := F9) ?u1 ?u2 ?u3 ?u4 ?u5 ?u6 ?u7 ?_
      case u1 => with_unfolding_all rfl
      case u2 => decide
      case u3 => rfl
      case u4 => decide
      case u5 => rfl
      case u6 => rfl
      case u7 => decide
      iterate 1 ((try (first | with_reducible refine Mine.hide_loop fun QhL hQhL => ?_ | with_reducible refine Mine.hide_comp fun QhC hQhC => ?_)); (first | walk1 | (dsimp only; walk1) | (refine hQhC _ _ ?_; clear hQhC; try clear QhC) | (refine hQhL _ _ ?_; clear hQhL; try clear QhL)); try dsimp only)
      have hzl : zs.length = cs.length := by rw [spD.len, List.length_map]
      refine LCp.SrcLP.ledger rfl (by k_asm) N8 (List.mem_append_right _ (.head _)) (by rw [sizeLine_eq, List.size_toArray]; lia) (fun g => ?_)
      refine' comp_invPG (n := zs.toArray.size) (fun k us nw => ∃ tw, nw = tw ++ (res ++ (SD, lst zs) :: R0) ∧ PrsAt tw us ((cs.take k).map turnC)) ?_ ?_ _ 0 [] _ (Nat.zero_add _) ⟨[], rfl, ?g0⟩
      case g0 => exact True.intro
      · rintro k us nw v hk ⟨tw, rfl, hus⟩ hPv
        have hk' : k < cs.length := by rw [List.size_toArray] at hk; lia
        obtain ⟨a, t1, t2, g1, g2⟩ := spD.tup k (by rw [List.length_map]; exact hk')
        rw [show (List.map spanC cs).getD k (0, 0) = spanC cs[k] from getD_map spanC hk'] at g2
        obtain rfl : v = .ref a := by
          rw [List.getElem?_toArray, g1] at hPv
          exact (Option.some.inj hPv).symm
        refine ⟨a, _, .int (minC cs[k]) t1, .int (maxC cs[k]) t2, 0, rfl, List.mem_append_right _ (List.mem_append_right _ g2), rfl, rfl, fun I oI C oC Dd m₂ h tk E' hC hx hx2 F N off ne => ?_⟩
        iterate 14 ((try (first | with_reducible refine Mine.hide_loop fun QhL hQhL => ?_ | with_reducible refine Mine.hide_comp fun QhC hQhC => ?_)); (first | walk1 | (dsimp only; walk1) | (refine hQhC _ _ ?_; clear hQhC; try clear QhC) | (refine hQhL _ _ ?_; clear hQhL; try clear QhL)); try dsimp only)
        rename News _ _ _ _ => N18
        rename_i D3 _ _ l1D3
        refine CompEnd.intro (by k_asm) N18 ((D3, _) :: (tw ++ _)) (lawP1 (cs := tw)) ⟨⟨Nat.ne_of_gt l1D3.1, Nat.ne_of_gt l1D3.2.1, Nat.ne_of_gt l1D3.2.2.1⟩, off⟩ (.inr ⟨lst zs, .tail _ (List.mem_append_right _ (List.mem_append_right _ (.head _))), rfl, _, rfl⟩) ⟨(D3, _) :: tw, rfl, ?_⟩
        rw [take_snoc (List.getElem?_eq_getElem hk'), List.map_append]
        exact PrsAt.snoc (p := turnC cs[k]) (.head _) (hus.mono fun p hp => .tail _ hp)
      rintro us nw ⟨tw, rfl, hus⟩
      rw [List.size_toArray, hzl, List.take_length] at hus
      intro UD h tk F9 N9 offU
      clear N8
      have spU : SpAt ((UD, lst us) :: (tw ++ (res ++ (SD, lst zs) :: R0))) UD (cs.map turnC).length (fun i => (cs.map turnC).getD i (0, 0)) us us.length := PrsAt.spAt (hus.mono fun p hp => .tail _ (List.mem_append_left _ hp)) (.head _)
      (try dsimp only); (try k_fold)
      iterate 2 ((try (first | with_reducible refine Mine.hide_loop fun QhL hQhL => ?_ | with_reducible refine Mine.hide_comp fun QhC hQhC => ?_)); (first | walk1 | (dsimp only; walk1) | (refine hQhC _ _ ?_; clear hQhC; try clear QhC) | (refine hQhL _ _ ?_; clear hQhL; try clear QhL)); try dsimp only)
      rename Fr _ _ _ _ => F10
      refine wpAny_lv (d := 310) (u := 1000) (due_ok KX T F10 N9 spU hT11 (fun GD gd ed resd rs h' tk hGd hrl hrd hTd hoffD F11 N11 => ?_)) rfl rfl (Nat.le_of_ble_eq_true rfl) (Nat.le_of_ble_eq_true rfl)
      rw [told_is_due okT hT11 hrl hrd] at hT
      clear N9 F10
      refine eq_tups (led := resd ++ ((UD, lst us) :: (tw ++ (res ++ (SD, lst zs) :: R0)))) (fun p hp => (N11 p hp).1) (hT.mono fun p hp => List.mem_append_right _ (.tail _ (List.mem_append_right _ (List.mem_append_left _ hp)))) (hTd.mono fun p hp => List.mem_append_left _ hp) (List.mem_append_right _ (.tail _ (List.mem_append_right _ (List.mem_append_left _ hG)))) (List.mem_append_left _ hGd) (Nat.le_of_ble_eq_true rfl) ?_
      try dsimp only
      exact ⟨rfl, _, _, rfl, F11.keep⟩
end Mine

namespace Mine
theorem law_row : PySem.Challenge.rw_mj0230_01.Holds := by
  w_on
  refine holds_law said_ok fun said => ?_

  refine PySem.W.holds_open (q := viewK) (loose := looK) (Xt := fun s => xlAt viewK lvK s && recOk (RowW.records PySem.Challenge.rw_mj0230_01.row.toRowW) s) (XP := XL viewK lvK) (Yf := Hook.obs hookK) (Ya := Hook.val hookK) (YP := Hook.says hookK) (N := 2754) ?hl (Hook.of hookK) (Hook.keeps hookK) (fun s e => xl_of s (Bool.and_eq_true_iff.mp e).1) XL.keeps (by rfl) (by rfl) (by rfl) (fun s e => recFacts_of (Bool.and_eq_true_iff.mp e).2) (by rfl) (by first | assumption | decide +kernel) (by decide +kernel) ⟨rfl, rfl, rfl, rfl, rfl, by decide +kernel⟩ ?hw ?hc
  case hw => w_witness2
  case hl => exact left_ok
  case hc =>
    intro w s₀ s₁ mg mb G Y fa o pm cd doc dV kV ho hd' hcd hD hmg hg args vals as hpre hlay hrd hwl hlo
    have KX := kIn_of Y
    have X := (Ground.X G).1
    have V := (Ground.X G).2
    refine Ground.open G ?_
    intro T B D TE TW
    have hfa := mg_of KX T.g (show nsIn _ mainGlobals (Str.ofString "law") = some (some (.ref 182)) by k_is)
    have hfb : (some (.ref fa) : Option Value) = some (.ref 182) := hmg.symm.trans hfa
    have hfc : fa = 182 := Value.ref.inj (Option.some.inj hfb)
    clear hfb hfa
    subst hfc
    wrow_args hpre hlay hrd hwl hlo
    refine enter_call ?_
    with_reducible rename Heap.IsList _ _ _ => hL
    with_reducible rename IntsAre _ _ => hI
    rename_i hlen _

    refine codeAny_mono (law_ok KX T hL hI ?_) fun r s' h => ?_
    · omega
    obtain ⟨rfl, h', tk, rfl, kp⟩ := h
    refine GoodW.toG ⟨.inl ⟨.bool true, .bool true, [], rfl, ?_, .bool true, ?_, unshared_nil⟩, kp, rfl, hg⟩
    · exact raisesW_false (by wrow_none_raised)
    · exact postW_of (by wrow_shape) (by wtm_val) (by str_meet; first | done | w_fin)
end Mine
theorem PySem.Challenge.cw_mj0230_01_holds : PySem.Challenge.rw_mj0230_01.Holds := by
  exact Mine.law_row

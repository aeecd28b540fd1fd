import PyProof.Rows.All
import Wide.All
import OpenK.AllK
import Wide.FinOn
import PySem.Challenge.RW_mq0333_01
open PySem PySem.W PyProof.Rows
set_option Elab.async false
set_option maxRecDepth 100000
set_option maxHeartbeats 8000000
set_option linter.unusedSimpArgs false
set_option linter.unusedVariables false
set_option compiler.extract_closed false
namespace Mine
noncomputable def pickS (l : List Stmt) : List Stmt := match l with
  | s0 :: _ :: s2 :: s3 :: s4 :: s5 :: s6 :: _ :: s8 :: s9 :: s10 :: s11 :: s12 :: s13 :: s14 :: s15 :: _ :: s17 :: s18 :: s19 :: s20 :: s21 :: s22 :: s23 :: _ => [s0, s2, s3, s4, s5, s6, s8, s9, s10, s11, s12, s13, s14, s15, s17, s18, s19, s20, s21, s22, s23]
  | _ => []
noncomputable def vw : Program := { PySem.Challenge.rw_mq0333_01.row.prog with main := { PySem.Challenge.rw_mq0333_01.row.prog.main with body := pickS PySem.Challenge.rw_mq0333_01.row.prog.main.body } }
namespace Hd
noncomputable abbrev PG : Program := PySem.Challenge.rw_mq0333_01.row.prog
noncomputable def so : String → PySem.Str := PySem.Str.ofString
noncomputable def sv (s : String) (n : Nat) : Value := .str (PySem.Str.ofString s) n
noncomputable def en (P : Params) (k : String) (n : Nat) (v : Value) : DictEntry := ⟨PyData.keyHash P (PySem.Str.ofString k), .str (PySem.Str.ofString k) n, v⟩
noncomputable def b0 : List Stmt := behindTheImports PG
noncomputable def sA (i : Nat) : Stmt := b0.getD i (.Pass ⟨0, 0, 0, 0⟩)
noncomputable def sB (i j : Nat) : Stmt := match sA i with
  | .ClassDef _ _ _ b _ _ _ _ _ _ _ => b.getD j (.Pass ⟨0, 0, 0, 0⟩)
  | .FunctionDef _ _ b _ _ _ _ _ _ _ => b.getD j (.Pass ⟨0, 0, 0, 0⟩)
  | s => s
noncomputable def fA : Stmt → Arguments
  | .FunctionDef _ a _ _ _ _ _ _ _ _ => a
  | _ => default
noncomputable def fB : Stmt → FuncBody
  | .FunctionDef _ _ b _ _ _ _ _ _ _ => .stmts b
  | _ => default
noncomputable def fS : Stmt → Scope
  | .FunctionDef _ _ _ _ _ _ s _ _ _ => s
  | _ => default
noncomputable def ob0 (P : Params) : Obj := (Obj.mk (Value.type "code") none (Data.fields (Array.mk [(sv "<module>" 182), (sv "<module>" 183), (sv "/claim/cut.py" 184), (Value.int 1 0), (Value.int 0 0), (Value.int 0 0), (Value.int 0 0), (Value.int 0 0), (.ref 11), (Value.bool false), (Value.int 181 0), (.ref 12), Value.none, Value.none, Value.none, Value.none, (Value.int 185 0), (Value.int 1 0), (sv "/claim/cut.py" 186)])) (Array.mk []))
noncomputable def ob1 (P : Params) : Obj := (Obj.mk (Value.type "frame") none Data.plain (Array.mk [(some (.ref 13)), (some (.ref 3)), (some (.ref 3)), none, (some (sv "__main__" 164)), none, (some (.ref 0))]))
noncomputable def tr_a (P : Params) : BT := (.node (boot_o_0 P) (.node (boot_o_1 P) (.node (boot_o_3 P) (.node (boot_o_7 P) .nil .nil) (.node (boot_o_7 P) .nil .nil)) (.node (boot_o_5 P) (.node (boot_o_9 P) .nil .nil) (.node (ob0 P) .nil .nil))) (.node (boot_o_2 P) (.node (boot_o_4 P) (.node (boot_o_8 P) .nil .nil) (.node (boot_o_8 P) .nil .nil)) (.node (boot_o_6 P) (.node (boot_o_10 P) .nil .nil) (.node (ob1 P) .nil .nil))))
noncomputable def he_a (P : Params) : Heap := ⟨Array.mk [boot_o_0 P, boot_o_1 P, boot_o_2 P, boot_o_3 P, boot_o_4 P, boot_o_5 P, boot_o_6 P, boot_o_7 P, boot_o_8 P, boot_o_9 P, boot_o_10 P, boot_o_7 P, boot_o_8 P, ob0 P, ob1 P], { }⟩
noncomputable def ob4 (P : Params) : Obj := (Obj.mk (Value.type "tuple") none (Data.seq (Array.mk [(sv "k" 190)]) 0) (Array.mk []))
noncomputable def ob5 (P : Params) : Obj := (Obj.mk Value.none none (Data.func (FuncData.mk (so "_wall") (so "_wall") (fA (sA 0)) (fB (sA 0)) (fS (sA 0)) 0 [] Value.none Value.none Value.none Value.none none Value.none Value.none 0)) (Array.mk []))
noncomputable def ob6 (P : Params) : Obj := (Obj.mk (Value.type "code") none (Data.fields (Array.mk [(sv "_wall" 187), (sv "_wall" 188), (sv "/claim/cut.py" 189), (Value.int 1 0), (Value.int 1 0), (Value.int 0 0), (Value.int 0 0), (Value.int 3 0), (.ref 15), (Value.bool true), (Value.int 181 0), (.ref 16), Value.none, (.ref 17), (.ref 18), (.ref 19), (Value.int 191 0), (Value.int 1 0), (sv "/claim/cut.py" 192)])) (Array.mk []))
noncomputable def ob7 (P : Params) : Obj := (Obj.mk (Value.type "function") none (Data.func (FuncData.mk (so "_wall") (so "_wall") (fA (sA 0)) (fB (sA 0)) (fS (sA 0)) 3 [] Value.none Value.none Value.none (sv "__main__" 164) none (.ref 20) Value.none 0)) (Array.mk []))
noncomputable def ob8 (P : Params) : Obj := (Obj.mk (Value.type "builtin_function_or_method") none (Data.fields (Array.mk [(.builtin "type.__prepare__"), (Value.type "type")])) (Array.mk []))
noncomputable def ob9 (P : Params) : Obj := (Obj.mk (Value.type "dict") none (Data.dict (Array.mk [en P "__module__" 209 (sv "cpy313.graphlib" 194), en P "__qualname__" 211 (sv "_NodeInfo" 210), en P "__firstlineno__" 213 (Value.int 7 212), en P "__slots__" 217 (.ref 29), en P "__init__" 225 (.ref 36), en P "__static_attributes__" 229 (.ref 37)]) 6) (Array.mk []))
noncomputable def ob10 (P : Params) : Obj := (Obj.mk Value.none none (Data.fields (Array.mk [(Value.int 10 0), (Value.int 4 0), (.ref 35)])) (Array.mk []))
noncomputable def ob11 (P : Params) : Obj := (Obj.mk (Value.type "code") none (Data.fields (Array.mk [(sv "_NodeInfo" 204), (sv "_NodeInfo" 205), (sv "/claim/cut.py" 206), (Value.int 7 0), (Value.int 0 0), (Value.int 0 0), (Value.int 0 0), (Value.int 0 0), (.ref 25), (Value.bool false), (Value.int 181 0), (.ref 26), Value.none, Value.none, Value.none, Value.none, (Value.int 207 0), (Value.int 7 0), (sv "/claim/cut.py" 208)])) (Array.mk []))
noncomputable def ob12 (P : Params) : Obj := (Obj.mk (Value.type "frame") none Data.plain (Array.mk [(some (.ref 27)), (some (.ref 3)), (some (.ref 24)), none, (some (sv "cpy313.graphlib" 194)), none, (some (.ref 0))]))
noncomputable def ob13 (P : Params) : Obj := (Obj.mk (Value.type "tuple") none (Data.seq (Array.mk [(sv "node" 214), (sv "npredecessors" 215), (sv "successors" 216)]) 0) (Array.mk []))
noncomputable def ob14 (P : Params) : Obj := (Obj.mk (Value.type "tuple") none (Data.seq (Array.mk [(sv "self" 221), (sv "node" 222)]) 0) (Array.mk []))
noncomputable def ob15 (P : Params) : Obj := (Obj.mk Value.none none (Data.func (FuncData.mk (so "__init__") (so "_NodeInfo.__init__") (fA (sB 4 1)) (fB (sB 4 1)) (fS (sB 4 1)) 0 [] Value.none Value.none Value.none Value.none none Value.none Value.none 0)) (Array.mk []))
noncomputable def ob16 (P : Params) : Obj := (Obj.mk (Value.type "code") none (Data.fields (Array.mk [(sv "__init__" 218), (sv "_NodeInfo.__init__" 219), (sv "/claim/cut.py" 220), (Value.int 10 0), (Value.int 2 0), (Value.int 0 0), (Value.int 0 0), (Value.int 3 0), (.ref 30), (Value.bool true), (Value.int 181 0), (.ref 31), Value.none, (.ref 32), (.ref 33), (.ref 34), (Value.int 223 0), (Value.int 10 0), (sv "/claim/cut.py" 224)])) (Array.mk []))
noncomputable def ob17 (P : Params) : Obj := (Obj.mk (Value.type "function") none (Data.func (FuncData.mk (so "__init__") (so "_NodeInfo.__init__") (fA (sB 4 1)) (fB (sB 4 1)) (fS (sB 4 1)) 3 [] Value.none Value.none Value.none (sv "cpy313.graphlib" 194) none (.ref 35) Value.none 0)) (Array.mk []))
noncomputable def ob18 (P : Params) : Obj := (Obj.mk (Value.type "tuple") none (Data.seq (Array.mk [(sv "node" 226), (sv "npredecessors" 227), (sv "successors" 228)]) 0) (Array.mk []))
noncomputable def ob19 (P : Params) : Obj := (Obj.mk (Value.type "list") none (Data.seq (Array.mk [(sv "node" 214), (sv "npredecessors" 215), (sv "successors" 216)]) 1) (Array.mk []))
noncomputable def ob20 (P : Params) : Obj := (Obj.mk (Value.type "dict") none (Data.dict (Array.mk [en P "__module__" 209 (sv "cpy313.graphlib" 194), en P "__firstlineno__" 213 (Value.int 7 212), en P "__slots__" 217 (.ref 29), en P "__init__" 225 (.ref 36), en P "__static_attributes__" 229 (.ref 37), en P "node" 231 (.ref 41), en P "npredecessors" 233 (.ref 42), en P "successors" 235 (.ref 43), en P "__doc__" 236 Value.none]) 5) (Array.mk []))
noncomputable def ob21 (P : Params) : Obj := (Obj.mk (Value.type "type") none (Data.cls (ClassData.mk (so "_NodeInfo") [(Value.type "object")] [(.ref 40), (Value.type "object")] 39 (so "_NodeInfo") false [(so "node"), (so "npredecessors"), (so "successors")] [] false none false)) (Array.mk [none, none, (some (sv "_NodeInfo" 202)), (some (sv "_NodeInfo" 210)), (some (.builtin "object.__new__")), (some (Value.bool false))]))
noncomputable def ob22 (P : Params) : Obj := (Obj.mk (Value.type "member_descriptor") none (Data.fields (Array.mk [(sv "node" 230), (.ref 40), (.builtin "proto.slot"), (.builtin "proto.slot#set"), (Value.int 2 0)])) (Array.mk []))
noncomputable def ob23 (P : Params) : Obj := (Obj.mk (Value.type "member_descriptor") none (Data.fields (Array.mk [(sv "npredecessors" 232), (.ref 40), (.builtin "proto.slot"), (.builtin "proto.slot#set"), (Value.int 1 0)])) (Array.mk []))
noncomputable def ob24 (P : Params) : Obj := (Obj.mk (Value.type "member_descriptor") none (Data.fields (Array.mk [(sv "successors" 234), (.ref 40), (.builtin "proto.slot"), (.builtin "proto.slot#set"), (Value.int 0 0)])) (Array.mk []))
noncomputable def ob25 (P : Params) : Obj := (Obj.mk (Value.type "super") none (Data.fields (Array.mk [(.ref 40), (.ref 40), (.ref 40)])) (Array.mk []))
noncomputable def ob26 (P : Params) : Obj := (Obj.mk (Value.type "builtin_function_or_method") none (Data.fields (Array.mk [(.builtin "object.__init_subclass__"), (.ref 40)])) (Array.mk []))
noncomputable def ob27 (P : Params) : Obj := (Obj.mk (Value.type "dict") none (Data.dict (Array.mk [en P "__name__" 165 (sv "cpy313.graphlib" 194), en P "__doc__" 166 Value.none, en P "__package__" 167 Value.none, en P "__loader__" 168 (.builtin "__main__.__loader__#opaque"), en P "__spec__" 169 Value.none, en P "__annotations__" 170 (.ref 6), en P "__builtins__" 171 (.ref 4), en P "__file__" 173 (sv "/claim/cut.py" 172), en P "__cached__" 174 Value.none, en P "_wall" 193 (.ref 21), en P "_NODE_OUT" 198 (Value.int (-1) 197), en P "_NODE_DONE" 201 (Value.int (-2) 200), en P "_NodeInfo" 238 (.ref 40), en P "CycleError" 256 (.ref 55)]) 14) (Array.mk []))
noncomputable def ob28 (P : Params) : Obj := (Obj.mk Value.none none (Data.fields (Array.mk [(Value.int 1 0), (Value.int 0 0), (.ref 20), (Value.int 7 0), (Value.int 0 0), (.ref 27), (Value.int 14 0), (Value.int 0 0), (.ref 51)])) (Array.mk []))
noncomputable def ob29 (P : Params) : Obj := (Obj.mk (Value.type "tuple") none (Data.seq (Array.mk [(Value.type "ValueError")]) 0) (Array.mk []))
noncomputable def ob30 (P : Params) : Obj := (Obj.mk (Value.type "dict") none (Data.dict (Array.mk [en P "__module__" 246 (sv "cpy313.graphlib" 194), en P "__qualname__" 248 (sv "CycleError" 247), en P "__firstlineno__" 250 (Value.int 14 249), en P "__static_attributes__" 251 (.ref 53)]) 4) (Array.mk []))
noncomputable def ob31 (P : Params) : Obj := (Obj.mk (Value.type "code") none (Data.fields (Array.mk [(sv "CycleError" 241), (sv "CycleError" 242), (sv "/claim/cut.py" 243), (Value.int 14 0), (Value.int 0 0), (Value.int 0 0), (Value.int 0 0), (Value.int 0 0), (.ref 49), (Value.bool false), (Value.int 181 0), (.ref 50), Value.none, Value.none, Value.none, Value.none, (Value.int 244 0), (Value.int 14 0), (sv "/claim/cut.py" 245)])) (Array.mk []))
noncomputable def ob32 (P : Params) : Obj := (Obj.mk (Value.type "frame") none Data.plain (Array.mk [(some (.ref 51)), (some (.ref 3)), (some (.ref 48)), none, (some (sv "cpy313.graphlib" 194)), none, (some (.ref 0))]))
noncomputable def ob33 (P : Params) : Obj := (Obj.mk (Value.type "dict") none (Data.dict (Array.mk [en P "__module__" 246 (sv "cpy313.graphlib" 194), en P "__firstlineno__" 250 (Value.int 14 249), en P "__static_attributes__" 251 (.ref 53), en P "__weakref__" 253 (.ref 56), en P "__doc__" 254 Value.none]) 3) (Array.mk []))
noncomputable def ob34 (P : Params) : Obj := (Obj.mk (Value.type "type") none (Data.cls (ClassData.mk (so "CycleError") [(Value.type "ValueError")] [(.ref 55), (Value.type "ValueError"), (Value.type "Exception"), (Value.type "BaseException"), (Value.type "object")] 54 (so "CycleError") true [] [] false none false)) (Array.mk [(some (.ref 46)), none, (some (sv "CycleError" 239)), (some (sv "CycleError" 247)), (some (.builtin "ValueError.__new__")), (some (Value.bool true))]))
noncomputable def ob35 (P : Params) : Obj := (Obj.mk (Value.type "getset_descriptor") none (Data.fields (Array.mk [(sv "__weakref__" 252), (.ref 55), (.builtin "ExceptionGroup.__weakref__"), Value.none])) (Array.mk []))
noncomputable def ob36 (P : Params) : Obj := (Obj.mk (Value.type "super") none (Data.fields (Array.mk [(.ref 55), (.ref 55), (.ref 55)])) (Array.mk []))
noncomputable def ob37 (P : Params) : Obj := (Obj.mk (Value.type "builtin_function_or_method") none (Data.fields (Array.mk [(.builtin "object.__init_subclass__"), (.ref 55)])) (Array.mk []))
noncomputable def tr_6 (P : Params) : BT := (.node (boot_o_0 P) (.node (boot_o_1 P) (.node (ob27 P) (.node (boot_o_7 P) (.node (boot_o_7 P) (.node (boot_o_8 P) .nil .nil) (.node (ob8 P) .nil .nil)) (.node (ob8 P) (.node (ob20 P) .nil .nil) (.node (ob34 P) .nil .nil))) (.node (boot_o_7 P) (.node (ob5 P) (.node (ob16 P) .nil .nil) (.node (ob31 P) .nil .nil)) (.node (ob11 P) (.node (ob24 P) .nil .nil) .nil))) (.node (boot_o_5 P) (.node (boot_o_9 P) (.node (ob4 P) (.node (boot_o_7 P) .nil .nil) (.node (boot_o_7 P) .nil .nil)) (.node (boot_o_7 P) (.node (ob22 P) .nil .nil) (.node (ob36 P) .nil .nil))) (.node (ob0 P) (.node (ob7 P) (.node (ob18 P) .nil .nil) (.node (boot_o_7 P) .nil .nil)) (.node (ob13 P) (.node (ob26 P) .nil .nil) .nil)))) (.node (boot_o_2 P) (.node (boot_o_4 P) (.node (boot_o_8 P) (.node (boot_o_8 P) (.node (ob14 P) .nil .nil) (.node (ob30 P) .nil .nil)) (.node (ob9 P) (.node (ob21 P) .nil .nil) (.node (ob35 P) .nil .nil))) (.node (ob28 P) (.node (ob6 P) (.node (ob17 P) .nil .nil) (.node (ob32 P) .nil .nil)) (.node (ob12 P) (.node (ob25 P) .nil .nil) .nil))) (.node (boot_o_6 P) (.node (boot_o_10 P) (.node (boot_o_7 P) (.node (ob15 P) .nil .nil) (.node (boot_o_8 P) .nil .nil)) (.node (ob10 P) (.node (ob23 P) .nil .nil) (.node (ob37 P) .nil .nil))) (.node (ob1 P) (.node (boot_o_7 P) (.node (ob19 P) .nil .nil) (.node (ob33 P) .nil .nil)) (.node (boot_o_7 P) (.node (ob29 P) .nil .nil) .nil)))))
noncomputable def ob38 (P : Params) : Obj := (Obj.mk (Value.type "dict") none (Data.dict (Array.mk [en P "__name__" 165 (sv "cpy313.graphlib" 194), en P "__doc__" 166 Value.none, en P "__package__" 167 Value.none, en P "__loader__" 168 (.builtin "__main__.__loader__#opaque"), en P "__spec__" 169 Value.none, en P "__annotations__" 170 (.ref 6), en P "__builtins__" 171 (.ref 4), en P "__file__" 173 (sv "/claim/cut.py" 172), en P "__cached__" 174 Value.none, en P "_wall" 193 (.ref 21), en P "_NODE_OUT" 198 (Value.int (-1) 197), en P "_NODE_DONE" 201 (Value.int (-2) 200), en P "_NodeInfo" 238 (.ref 40), en P "CycleError" 256 (.ref 55), en P "TopologicalSorter" 375 (.ref 137)]) 15) (Array.mk []))
noncomputable def ob39 (P : Params) : Obj := (Obj.mk Value.none none (Data.fields (Array.mk [(Value.int 1 0), (Value.int 0 0), (.ref 20), (Value.int 7 0), (Value.int 0 0), (.ref 27), (Value.int 14 0), (Value.int 0 0), (.ref 51), (Value.int 16 0), (Value.int 0 0), (.ref 64)])) (Array.mk []))
noncomputable def ob40 (P : Params) : Obj := (Obj.mk (Value.type "dict") none (Data.dict (Array.mk [en P "__module__" 264 (sv "cpy313.graphlib" 194), en P "__qualname__" 266 (sv "TopologicalSorter" 265), en P "__firstlineno__" 268 (Value.int 16 267), en P "__init__" 278 (.ref 73), en P "_get_nodeinfo" 287 (.ref 80), en P "add" 299 (.ref 87), en P "prepare" 305 (.ref 92), en P "get_ready" 315 (.ref 99), en P "is_active" 322 (.ref 106), en P "__bool__" 329 (.ref 113), en P "done" 343 (.ref 120), en P "_find_cycle" 356 (.ref 127), en P "static_order" 363 (.ref 134), en P "__static_attributes__" 368 (.ref 135)]) 14) (Array.mk []))
noncomputable def ob41 (P : Params) : Obj := (Obj.mk Value.none none (Data.fields (Array.mk [(Value.int 18 0), (Value.int 4 0), (.ref 72), (Value.int 27 0), (Value.int 4 0), (.ref 79), (Value.int 32 0), (Value.int 4 0), (.ref 86), (Value.int 41 0), (Value.int 4 0), (.ref 91), (Value.int 49 0), (Value.int 4 0), (.ref 98), (Value.int 60 0), (Value.int 4 0), (.ref 105), (Value.int 65 0), (Value.int 4 0), (.ref 112), (Value.int 68 0), (Value.int 4 0), (.ref 119), (Value.int 91 0), (Value.int 4 0), (.ref 126), (Value.int 120 0), (Value.int 4 0), (.ref 133)])) (Array.mk []))
noncomputable def ob42 (P : Params) : Obj := (Obj.mk (Value.type "code") none (Data.fields (Array.mk [(sv "TopologicalSorter" 259), (sv "TopologicalSorter" 260), (sv "/claim/cut.py" 261), (Value.int 16 0), (Value.int 0 0), (Value.int 0 0), (Value.int 0 0), (Value.int 0 0), (.ref 62), (Value.bool false), (Value.int 181 0), (.ref 63), Value.none, Value.none, Value.none, Value.none, (Value.int 262 0), (Value.int 16 0), (sv "/claim/cut.py" 263)])) (Array.mk []))
noncomputable def ob43 (P : Params) : Obj := (Obj.mk (Value.type "frame") none Data.plain (Array.mk [(some (.ref 64)), (some (.ref 3)), (some (.ref 61)), none, (some (sv "cpy313.graphlib" 194)), none, (some (.ref 0))]))
noncomputable def ob44 (P : Params) : Obj := (Obj.mk (Value.type "tuple") none (Data.seq (Array.mk [Value.none]) 0) (Array.mk []))
noncomputable def ob45 (P : Params) : Obj := (Obj.mk (Value.type "tuple") none (Data.seq (Array.mk [(sv "self" 272), (sv "graph" 273), (sv "node" 274), (sv "predecessors" 275)]) 0) (Array.mk []))
noncomputable def ob46 (P : Params) : Obj := (Obj.mk Value.none none (Data.func (FuncData.mk (so "__init__") (so "TopologicalSorter.__init__") (fA (sB 6 0)) (fB (sB 6 0)) (fS (sB 6 0)) 0 [] Value.none Value.none Value.none Value.none none Value.none Value.none 0)) (Array.mk []))
noncomputable def ob47 (P : Params) : Obj := (Obj.mk (Value.type "code") none (Data.fields (Array.mk [(sv "__init__" 269), (sv "TopologicalSorter.__init__" 270), (sv "/claim/cut.py" 271), (Value.int 18 0), (Value.int 2 0), (Value.int 0 0), (Value.int 0 0), (Value.int 3 0), (.ref 67), (Value.bool true), (Value.int 181 0), (.ref 68), Value.none, (.ref 69), (.ref 70), (.ref 71), (Value.int 276 0), (Value.int 18 0), (sv "/claim/cut.py" 277)])) (Array.mk []))
noncomputable def ob48 (P : Params) : Obj := (Obj.mk (Value.type "function") none (Data.func (FuncData.mk (so "__init__") (so "TopologicalSorter.__init__") (fA (sB 6 0)) (fB (sB 6 0)) (fS (sB 6 0)) 3 [] (.ref 66) Value.none Value.none (sv "cpy313.graphlib" 194) none (.ref 72) Value.none 0)) (Array.mk []))
noncomputable def ob49 (P : Params) : Obj := (Obj.mk (Value.type "tuple") none (Data.seq (Array.mk [(sv "self" 282), (sv "node" 283), (sv "result" 284)]) 0) (Array.mk []))
noncomputable def ob50 (P : Params) : Obj := (Obj.mk Value.none none (Data.func (FuncData.mk (so "_get_nodeinfo") (so "TopologicalSorter._get_nodeinfo") (fA (sB 6 1)) (fB (sB 6 1)) (fS (sB 6 1)) 0 [] Value.none Value.none Value.none Value.none none Value.none Value.none 0)) (Array.mk []))
noncomputable def ob51 (P : Params) : Obj := (Obj.mk (Value.type "code") none (Data.fields (Array.mk [(sv "_get_nodeinfo" 279), (sv "TopologicalSorter._get_nodeinfo" 280), (sv "/claim/cut.py" 281), (Value.int 27 0), (Value.int 2 0), (Value.int 0 0), (Value.int 0 0), (Value.int 3 0), (.ref 74), (Value.bool true), (Value.int 181 0), (.ref 75), Value.none, (.ref 76), (.ref 77), (.ref 78), (Value.int 285 0), (Value.int 27 0), (sv "/claim/cut.py" 286)])) (Array.mk []))
noncomputable def ob52 (P : Params) : Obj := (Obj.mk (Value.type "function") none (Data.func (FuncData.mk (so "_get_nodeinfo") (so "TopologicalSorter._get_nodeinfo") (fA (sB 6 1)) (fB (sB 6 1)) (fS (sB 6 1)) 3 [] Value.none Value.none Value.none (sv "cpy313.graphlib" 194) none (.ref 79) Value.none 0)) (Array.mk []))
noncomputable def ob53 (P : Params) : Obj := (Obj.mk (Value.type "tuple") none (Data.seq (Array.mk [(sv "self" 291), (sv "node" 292), (sv "predecessors" 293), (sv "nodeinfo" 294), (sv "pred" 295), (sv "pred_info" 296)]) 0) (Array.mk []))
noncomputable def ob54 (P : Params) : Obj := (Obj.mk Value.none none (Data.func (FuncData.mk (so "add") (so "TopologicalSorter.add") (fA (sB 6 2)) (fB (sB 6 2)) (fS (sB 6 2)) 0 [] Value.none Value.none Value.none Value.none none Value.none Value.none 0)) (Array.mk []))
noncomputable def ob55 (P : Params) : Obj := (Obj.mk (Value.type "code") none (Data.fields (Array.mk [(sv "add" 288), (sv "TopologicalSorter.add" 289), (sv "/claim/cut.py" 290), (Value.int 32 0), (Value.int 2 0), (Value.int 0 0), (Value.int 0 0), (Value.int 7 0), (.ref 81), (Value.bool true), (Value.int 181 0), (.ref 82), Value.none, (.ref 83), (.ref 84), (.ref 85), (Value.int 297 0), (Value.int 32 0), (sv "/claim/cut.py" 298)])) (Array.mk []))
noncomputable def ob56 (P : Params) : Obj := (Obj.mk (Value.type "function") none (Data.func (FuncData.mk (so "add") (so "TopologicalSorter.add") (fA (sB 6 2)) (fB (sB 6 2)) (fS (sB 6 2)) 3 [] Value.none Value.none Value.none (sv "cpy313.graphlib" 194) none (.ref 86) Value.none 0)) (Array.mk []))
noncomputable def ob57 (P : Params) : Obj := (Obj.mk Value.none none (Data.func (FuncData.mk (so "prepare") (so "TopologicalSorter.prepare") (fA (sB 6 3)) (fB (sB 6 3)) (fS (sB 6 3)) 0 [] Value.none Value.none Value.none Value.none none Value.none Value.none 0)) (Array.mk []))
noncomputable def ob58 (P : Params) : Obj := (Obj.mk (Value.type "code") none (Data.fields (Array.mk [(sv "prepare" 300), (sv "TopologicalSorter.prepare" 301), (sv "/claim/cut.py" 302), (Value.int 41 0), (Value.int 1 0), (Value.int 0 0), (Value.int 0 0), (Value.int 3 0), (.ref 88), (Value.bool true), (Value.int 181 0), (.ref 89), Value.none, Value.none, Value.none, (.ref 90), (Value.int 303 0), (Value.int 41 0), (sv "/claim/cut.py" 304)])) (Array.mk []))
noncomputable def ob59 (P : Params) : Obj := (Obj.mk (Value.type "function") none (Data.func (FuncData.mk (so "prepare") (so "TopologicalSorter.prepare") (fA (sB 6 3)) (fB (sB 6 3)) (fS (sB 6 3)) 3 [] Value.none Value.none Value.none (sv "cpy313.graphlib" 194) none (.ref 91) Value.none 0)) (Array.mk []))
noncomputable def ob60 (P : Params) : Obj := (Obj.mk (Value.type "tuple") none (Data.seq (Array.mk [(sv "self" 309), (sv "result" 310), (sv "n2i" 311), (sv "node" 312)]) 0) (Array.mk []))
noncomputable def ob61 (P : Params) : Obj := (Obj.mk Value.none none (Data.func (FuncData.mk (so "get_ready") (so "TopologicalSorter.get_ready") (fA (sB 6 4)) (fB (sB 6 4)) (fS (sB 6 4)) 0 [] Value.none Value.none Value.none Value.none none Value.none Value.none 0)) (Array.mk []))
noncomputable def ob62 (P : Params) : Obj := (Obj.mk (Value.type "code") none (Data.fields (Array.mk [(sv "get_ready" 306), (sv "TopologicalSorter.get_ready" 307), (sv "/claim/cut.py" 308), (Value.int 49 0), (Value.int 1 0), (Value.int 0 0), (Value.int 0 0), (Value.int 3 0), (.ref 93), (Value.bool true), (Value.int 181 0), (.ref 94), Value.none, (.ref 95), (.ref 96), (.ref 97), (Value.int 313 0), (Value.int 49 0), (sv "/claim/cut.py" 314)])) (Array.mk []))
noncomputable def ob63 (P : Params) : Obj := (Obj.mk (Value.type "function") none (Data.func (FuncData.mk (so "get_ready") (so "TopologicalSorter.get_ready") (fA (sB 6 4)) (fB (sB 6 4)) (fS (sB 6 4)) 3 [] Value.none Value.none Value.none (sv "cpy313.graphlib" 194) none (.ref 98) Value.none 0)) (Array.mk []))
noncomputable def ob64 (P : Params) : Obj := (Obj.mk (Value.type "tuple") none (Data.seq (Array.mk [(sv "self" 319)]) 0) (Array.mk []))
noncomputable def ob65 (P : Params) : Obj := (Obj.mk Value.none none (Data.func (FuncData.mk (so "is_active") (so "TopologicalSorter.is_active") (fA (sB 6 5)) (fB (sB 6 5)) (fS (sB 6 5)) 0 [] Value.none Value.none Value.none Value.none none Value.none Value.none 0)) (Array.mk []))
noncomputable def ob66 (P : Params) : Obj := (Obj.mk (Value.type "code") none (Data.fields (Array.mk [(sv "is_active" 316), (sv "TopologicalSorter.is_active" 317), (sv "/claim/cut.py" 318), (Value.int 60 0), (Value.int 1 0), (Value.int 0 0), (Value.int 0 0), (Value.int 3 0), (.ref 100), (Value.bool true), (Value.int 181 0), (.ref 101), Value.none, (.ref 102), (.ref 103), (.ref 104), (Value.int 320 0), (Value.int 60 0), (sv "/claim/cut.py" 321)])) (Array.mk []))
noncomputable def ob67 (P : Params) : Obj := (Obj.mk (Value.type "function") none (Data.func (FuncData.mk (so "is_active") (so "TopologicalSorter.is_active") (fA (sB 6 5)) (fB (sB 6 5)) (fS (sB 6 5)) 3 [] Value.none Value.none Value.none (sv "cpy313.graphlib" 194) none (.ref 105) Value.none 0)) (Array.mk []))
noncomputable def ob68 (P : Params) : Obj := (Obj.mk (Value.type "tuple") none (Data.seq (Array.mk [(sv "self" 326)]) 0) (Array.mk []))
noncomputable def ob69 (P : Params) : Obj := (Obj.mk Value.none none (Data.func (FuncData.mk (so "__bool__") (so "TopologicalSorter.__bool__") (fA (sB 6 6)) (fB (sB 6 6)) (fS (sB 6 6)) 0 [] Value.none Value.none Value.none Value.none none Value.none Value.none 0)) (Array.mk []))
noncomputable def ob70 (P : Params) : Obj := (Obj.mk (Value.type "code") none (Data.fields (Array.mk [(sv "__bool__" 323), (sv "TopologicalSorter.__bool__" 324), (sv "/claim/cut.py" 325), (Value.int 65 0), (Value.int 1 0), (Value.int 0 0), (Value.int 0 0), (Value.int 3 0), (.ref 107), (Value.bool true), (Value.int 181 0), (.ref 108), Value.none, (.ref 109), (.ref 110), (.ref 111), (Value.int 327 0), (Value.int 65 0), (sv "/claim/cut.py" 328)])) (Array.mk []))
noncomputable def ob71 (P : Params) : Obj := (Obj.mk (Value.type "function") none (Data.func (FuncData.mk (so "__bool__") (so "TopologicalSorter.__bool__") (fA (sB 6 6)) (fB (sB 6 6)) (fS (sB 6 6)) 3 [] Value.none Value.none Value.none (sv "cpy313.graphlib" 194) none (.ref 112) Value.none 0)) (Array.mk []))
noncomputable def ob72 (P : Params) : Obj := (Obj.mk (Value.type "tuple") none (Data.seq (Array.mk [(sv "self" 333), (sv "nodes" 334), (sv "n2i" 335), (sv "node" 336), (sv "nodeinfo" 337), (sv "stat" 338), (sv "successor" 339), (sv "successor_info" 340)]) 0) (Array.mk []))
noncomputable def ob73 (P : Params) : Obj := (Obj.mk Value.none none (Data.func (FuncData.mk (so "done") (so "TopologicalSorter.done") (fA (sB 6 7)) (fB (sB 6 7)) (fS (sB 6 7)) 0 [] Value.none Value.none Value.none Value.none none Value.none Value.none 0)) (Array.mk []))
noncomputable def ob74 (P : Params) : Obj := (Obj.mk (Value.type "code") none (Data.fields (Array.mk [(sv "done" 330), (sv "TopologicalSorter.done" 331), (sv "/claim/cut.py" 332), (Value.int 68 0), (Value.int 1 0), (Value.int 0 0), (Value.int 0 0), (Value.int 7 0), (.ref 114), (Value.bool true), (Value.int 181 0), (.ref 115), Value.none, (.ref 116), (.ref 117), (.ref 118), (Value.int 341 0), (Value.int 68 0), (sv "/claim/cut.py" 342)])) (Array.mk []))
noncomputable def ob75 (P : Params) : Obj := (Obj.mk (Value.type "function") none (Data.func (FuncData.mk (so "done") (so "TopologicalSorter.done") (fA (sB 6 7)) (fB (sB 6 7)) (fS (sB 6 7)) 3 [] Value.none Value.none Value.none (sv "cpy313.graphlib" 194) none (.ref 119) Value.none 0)) (Array.mk []))
noncomputable def ob76 (P : Params) : Obj := (Obj.mk (Value.type "tuple") none (Data.seq (Array.mk [(sv "self" 347), (sv "n2i" 348), (sv "stack" 349), (sv "itstack" 350), (sv "seen" 351), (sv "node2stacki" 352), (sv "node" 353)]) 0) (Array.mk []))
noncomputable def ob77 (P : Params) : Obj := (Obj.mk Value.none none (Data.func (FuncData.mk (so "_find_cycle") (so "TopologicalSorter._find_cycle") (fA (sB 6 8)) (fB (sB 6 8)) (fS (sB 6 8)) 0 [] Value.none Value.none Value.none Value.none none Value.none Value.none 0)) (Array.mk []))
noncomputable def ob78 (P : Params) : Obj := (Obj.mk (Value.type "code") none (Data.fields (Array.mk [(sv "_find_cycle" 344), (sv "TopologicalSorter._find_cycle" 345), (sv "/claim/cut.py" 346), (Value.int 91 0), (Value.int 1 0), (Value.int 0 0), (Value.int 0 0), (Value.int 3 0), (.ref 121), (Value.bool true), (Value.int 181 0), (.ref 122), Value.none, (.ref 123), (.ref 124), (.ref 125), (Value.int 354 0), (Value.int 91 0), (sv "/claim/cut.py" 355)])) (Array.mk []))
noncomputable def ob79 (P : Params) : Obj := (Obj.mk (Value.type "function") none (Data.func (FuncData.mk (so "_find_cycle") (so "TopologicalSorter._find_cycle") (fA (sB 6 8)) (fB (sB 6 8)) (fS (sB 6 8)) 3 [] Value.none Value.none Value.none (sv "cpy313.graphlib" 194) none (.ref 126) Value.none 0)) (Array.mk []))
noncomputable def ob80 (P : Params) : Obj := (Obj.mk (Value.type "tuple") none (Data.seq (Array.mk [(sv "self" 360)]) 0) (Array.mk []))
noncomputable def ob81 (P : Params) : Obj := (Obj.mk Value.none none (Data.func (FuncData.mk (so "static_order") (so "TopologicalSorter.static_order") (fA (sB 6 9)) (fB (sB 6 9)) (fS (sB 6 9)) 0 [] Value.none Value.none Value.none Value.none none Value.none Value.none 0)) (Array.mk []))
noncomputable def ob82 (P : Params) : Obj := (Obj.mk (Value.type "code") none (Data.fields (Array.mk [(sv "static_order" 357), (sv "TopologicalSorter.static_order" 358), (sv "/claim/cut.py" 359), (Value.int 120 0), (Value.int 1 0), (Value.int 0 0), (Value.int 0 0), (Value.int 3 0), (.ref 128), (Value.bool true), (Value.int 181 0), (.ref 129), Value.none, (.ref 130), (.ref 131), (.ref 132), (Value.int 361 0), (Value.int 120 0), (sv "/claim/cut.py" 362)])) (Array.mk []))
noncomputable def ob83 (P : Params) : Obj := (Obj.mk (Value.type "function") none (Data.func (FuncData.mk (so "static_order") (so "TopologicalSorter.static_order") (fA (sB 6 9)) (fB (sB 6 9)) (fS (sB 6 9)) 3 [] Value.none Value.none Value.none (sv "cpy313.graphlib" 194) none (.ref 133) Value.none 0)) (Array.mk []))
noncomputable def ob84 (P : Params) : Obj := (Obj.mk (Value.type "tuple") none (Data.seq (Array.mk [(sv "_nfinished" 364), (sv "_node2info" 365), (sv "_npassedout" 366), (sv "_ready_nodes" 367)]) 0) (Array.mk []))
noncomputable def ob85 (P : Params) : Obj := (Obj.mk (Value.type "dict") none (Data.dict (Array.mk [en P "__module__" 264 (sv "cpy313.graphlib" 194), en P "__firstlineno__" 268 (Value.int 16 267), en P "__init__" 278 (.ref 73), en P "_get_nodeinfo" 287 (.ref 80), en P "add" 299 (.ref 87), en P "prepare" 305 (.ref 92), en P "get_ready" 315 (.ref 99), en P "is_active" 322 (.ref 106), en P "__bool__" 329 (.ref 113), en P "done" 343 (.ref 120), en P "_find_cycle" 356 (.ref 127), en P "static_order" 363 (.ref 134), en P "__static_attributes__" 368 (.ref 135), en P "__dict__" 370 (.ref 138), en P "__weakref__" 372 (.ref 139), en P "__doc__" 373 Value.none]) 4) (Array.mk []))
noncomputable def ob86 (P : Params) : Obj := (Obj.mk (Value.type "type") none (Data.cls (ClassData.mk (so "TopologicalSorter") [(Value.type "object")] [(.ref 137), (Value.type "object")] 136 (so "TopologicalSorter") true [] [] false none false)) (Array.mk [none, none, (some (sv "TopologicalSorter" 257)), (some (sv "TopologicalSorter" 265)), (some (.builtin "object.__new__")), (some (Value.bool true))]))
noncomputable def ob87 (P : Params) : Obj := (Obj.mk (Value.type "getset_descriptor") none (Data.fields (Array.mk [(sv "__dict__" 369), (.ref 137), (.builtin "function.__dict__"), (.builtin "function.__dict__#set")])) (Array.mk []))
noncomputable def ob88 (P : Params) : Obj := (Obj.mk (Value.type "getset_descriptor") none (Data.fields (Array.mk [(sv "__weakref__" 371), (.ref 137), (.builtin "ExceptionGroup.__weakref__"), Value.none])) (Array.mk []))
noncomputable def ob89 (P : Params) : Obj := (Obj.mk (Value.type "super") none (Data.fields (Array.mk [(.ref 137), (.ref 137), (.ref 137)])) (Array.mk []))
noncomputable def ob90 (P : Params) : Obj := (Obj.mk (Value.type "builtin_function_or_method") none (Data.fields (Array.mk [(.builtin "object.__init_subclass__"), (.ref 137)])) (Array.mk []))
noncomputable def tr_7 (P : Params) : BT := (.node (boot_o_0 P) (.node (boot_o_1 P) (.node (ob38 P) (.node (boot_o_7 P) (.node (boot_o_7 P) (.node (boot_o_8 P) (.node (ob41 P) (.node (ob79 P) .nil .nil) .nil) (.node (ob60 P) .nil .nil)) (.node (ob8 P) (.node (ob51 P) .nil .nil) (.node (ob69 P) .nil .nil))) (.node (ob8 P) (.node (ob20 P) (.node (ob46 P) (.node (ob84 P) .nil .nil) .nil) (.node (boot_o_7 P) .nil .nil)) (.node (ob34 P) (.node (ob56 P) .nil .nil) (.node (ob74 P) .nil .nil)))) (.node (boot_o_7 P) (.node (ob5 P) (.node (ob16 P) (.node (boot_o_7 P) (.node (boot_o_7 P) .nil .nil) .nil) (.node (ob63 P) .nil .nil)) (.node (ob31 P) (.node (ob53 P) .nil .nil) (.node (boot_o_8 P) .nil .nil))) (.node (ob11 P) (.node (ob24 P) (.node (boot_o_8 P) (.node (ob88 P) .nil .nil) .nil) (.node (boot_o_7 P) .nil .nil)) (.node (boot_o_7 P) (.node (ob58 P) .nil .nil) (.node (ob76 P) .nil .nil))))) (.node (boot_o_5 P) (.node (boot_o_9 P) (.node (ob4 P) (.node (boot_o_7 P) (.node (ob43 P) (.node (boot_o_8 P) .nil .nil) .nil) (.node (ob61 P) .nil .nil)) (.node (boot_o_7 P) (.node (boot_o_7 P) .nil .nil) (.node (ob71 P) .nil .nil))) (.node (boot_o_7 P) (.node (ob22 P) (.node (ob48 P) (.node (ob86 P) .nil .nil) .nil) (.node (ob66 P) .nil .nil)) (.node (ob36 P) (.node (boot_o_8 P) .nil .nil) (.node (boot_o_7 P) .nil .nil)))) (.node (ob0 P) (.node (ob7 P) (.node (ob18 P) (.node (ob45 P) (.node (ob82 P) .nil .nil) .nil) (.node (boot_o_8 P) .nil .nil)) (.node (boot_o_7 P) (.node (ob54 P) .nil .nil) (.node (boot_o_7 P) .nil .nil))) (.node (ob13 P) (.node (ob26 P) (.node (boot_o_7 P) (.node (ob90 P) .nil .nil) .nil) (.node (ob68 P) .nil .nil)) (.node (ob40 P) (.node (boot_o_7 P) .nil .nil) (.node (ob77 P) .nil .nil)))))) (.node (boot_o_2 P) (.node (boot_o_4 P) (.node (boot_o_8 P) (.node (boot_o_8 P) (.node (ob14 P) (.node (ob42 P) (.node (boot_o_7 P) .nil .nil) .nil) (.node (boot_o_7 P) .nil .nil)) (.node (ob30 P) (.node (ob52 P) .nil .nil) (.node (ob70 P) .nil .nil))) (.node (ob9 P) (.node (ob21 P) (.node (ob47 P) (.node (ob85 P) .nil .nil) .nil) (.node (ob65 P) .nil .nil)) (.node (ob35 P) (.node (boot_o_7 P) .nil .nil) (.node (ob75 P) .nil .nil)))) (.node (ob39 P) (.node (ob6 P) (.node (ob17 P) (.node (boot_o_8 P) (.node (ob81 P) .nil .nil) .nil) (.node (boot_o_7 P) .nil .nil)) (.node (ob32 P) (.node (boot_o_7 P) .nil .nil) (.node (ob72 P) .nil .nil))) (.node (ob12 P) (.node (ob25 P) (.node (ob49 P) (.node (ob89 P) .nil .nil) .nil) (.node (boot_o_8 P) .nil .nil)) (.node (ob8 P) (.node (ob59 P) .nil .nil) (.node (boot_o_7 P) .nil .nil))))) (.node (boot_o_6 P) (.node (boot_o_10 P) (.node (boot_o_7 P) (.node (ob15 P) (.node (ob44 P) (.node (ob80 P) .nil .nil) .nil) (.node (ob62 P) .nil .nil)) (.node (boot_o_8 P) (.node (boot_o_8 P) .nil .nil) (.node (boot_o_7 P) .nil .nil))) (.node (ob10 P) (.node (ob23 P) (.node (boot_o_7 P) (.node (ob87 P) .nil .nil) .nil) (.node (ob67 P) .nil .nil)) (.node (ob37 P) (.node (ob57 P) .nil .nil) (.node (boot_o_8 P) .nil .nil)))) (.node (ob1 P) (.node (boot_o_7 P) (.node (ob19 P) (.node (boot_o_7 P) (.node (ob83 P) .nil .nil) .nil) (.node (ob64 P) .nil .nil)) (.node (ob33 P) (.node (ob55 P) .nil .nil) (.node (ob73 P) .nil .nil))) (.node (boot_o_7 P) (.node (ob29 P) (.node (ob50 P) .nil .nil) (.node (boot_o_7 P) .nil .nil)) (.node (boot_o_7 P) (.node (boot_o_8 P) .nil .nil) (.node (ob78 P) .nil .nil)))))))
noncomputable def ob91 (P : Params) : Obj := (Obj.mk (Value.type "dict") none (Data.dict (Array.mk [en P "__name__" 165 (sv "law_mq0333_01" 445), en P "__doc__" 166 Value.none, en P "__package__" 167 Value.none, en P "__loader__" 168 (.builtin "__main__.__loader__#opaque"), en P "__spec__" 169 Value.none, en P "__annotations__" 170 (.ref 6), en P "__builtins__" 171 (.ref 4), en P "__file__" 173 (sv "/claim/cut.py" 172), en P "__cached__" 174 Value.none, en P "_wall" 193 (.ref 21), en P "_NODE_OUT" 198 (Value.int (-1) 197), en P "_NODE_DONE" 201 (Value.int (-2) 200), en P "_NodeInfo" 238 (.ref 40), en P "CycleError" 256 (.ref 55), en P "TopologicalSorter" 375 (.ref 137), en P "truth" 384 (.ref 148), en P "and_" 392 (.ref 155), en P "lshift" 400 (.ref 162), en P "or_" 408 (.ref 169), en P "xor" 416 (.ref 176), en P "contains" 424 (.ref 183), en P "countOf" 434 (.ref 190), en P "indexOf" 444 (.ref 197), en P "_law_steps" 457 (.ref 204), en P "_law_named" 468 (.ref 211), en P "_law_masks" 482 (.ref 218), en P "_law_rounds" 488 (.ref 223), en P "_law_ring" 494 (.ref 228), en P "_law_told" 509 (.ref 235), en P "law" 515 (.ref 240)]) 30) (Array.mk []))
noncomputable def ob92 (P : Params) : Obj := (Obj.mk Value.none none (Data.fields (Array.mk [(Value.int 1 0), (Value.int 0 0), (.ref 20), (Value.int 7 0), (Value.int 0 0), (.ref 27), (Value.int 14 0), (Value.int 0 0), (.ref 51), (Value.int 16 0), (Value.int 0 0), (.ref 64), (Value.int 123 0), (Value.int 0 0), (.ref 147), (Value.int 125 0), (Value.int 0 0), (.ref 154), (Value.int 127 0), (Value.int 0 0), (.ref 161), (Value.int 129 0), (Value.int 0 0), (.ref 168), (Value.int 131 0), (Value.int 0 0), (.ref 175), (Value.int 133 0), (Value.int 0 0), (.ref 182), (Value.int 135 0), (Value.int 0 0), (.ref 189), (Value.int 141 0), (Value.int 0 0), (.ref 196), (Value.int 148 0), (Value.int 0 0), (.ref 203), (Value.int 160 0), (Value.int 0 0), (.ref 210), (Value.int 167 0), (Value.int 0 0), (.ref 217), (Value.int 178 0), (Value.int 0 0), (.ref 222), (Value.int 191 0), (Value.int 0 0), (.ref 227), (Value.int 204 0), (Value.int 0 0), (.ref 234), (Value.int 222 0), (Value.int 0 0), (.ref 239)])) (Array.mk []))
noncomputable def ob93 (P : Params) : Obj := (Obj.mk (Value.type "tuple") none (Data.seq (Array.mk [(sv "a" 381)]) 0) (Array.mk []))
noncomputable def ob94 (P : Params) : Obj := (Obj.mk Value.none none (Data.func (FuncData.mk (so "truth") (so "truth") (fA (sA 8)) (fB (sA 8)) (fS (sA 8)) 0 [] Value.none Value.none Value.none Value.none none Value.none Value.none 0)) (Array.mk []))
noncomputable def ob95 (P : Params) : Obj := (Obj.mk (Value.type "code") none (Data.fields (Array.mk [(sv "truth" 378), (sv "truth" 379), (sv "/claim/cut.py" 380), (Value.int 123 0), (Value.int 1 0), (Value.int 0 0), (Value.int 0 0), (Value.int 3 0), (.ref 142), (Value.bool true), (Value.int 181 0), (.ref 143), Value.none, (.ref 144), (.ref 145), (.ref 146), (Value.int 382 0), (Value.int 123 0), (sv "/claim/cut.py" 383)])) (Array.mk []))
noncomputable def ob96 (P : Params) : Obj := (Obj.mk (Value.type "function") none (Data.func (FuncData.mk (so "truth") (so "truth") (fA (sA 8)) (fB (sA 8)) (fS (sA 8)) 3 [] Value.none Value.none Value.none (sv "cpy313.operator" 376) none (.ref 147) Value.none 0)) (Array.mk []))
noncomputable def ob97 (P : Params) : Obj := (Obj.mk (Value.type "tuple") none (Data.seq (Array.mk [(sv "a" 388), (sv "b" 389)]) 0) (Array.mk []))
noncomputable def ob98 (P : Params) : Obj := (Obj.mk Value.none none (Data.func (FuncData.mk (so "and_") (so "and_") (fA (sA 9)) (fB (sA 9)) (fS (sA 13)) 0 [] Value.none Value.none Value.none Value.none none Value.none Value.none 0)) (Array.mk []))
noncomputable def ob99 (P : Params) : Obj := (Obj.mk (Value.type "code") none (Data.fields (Array.mk [(sv "and_" 385), (sv "and_" 386), (sv "/claim/cut.py" 387), (Value.int 125 0), (Value.int 2 0), (Value.int 0 0), (Value.int 0 0), (Value.int 3 0), (.ref 149), (Value.bool true), (Value.int 181 0), (.ref 150), Value.none, (.ref 151), (.ref 152), (.ref 153), (Value.int 390 0), (Value.int 125 0), (sv "/claim/cut.py" 391)])) (Array.mk []))
noncomputable def ob100 (P : Params) : Obj := (Obj.mk (Value.type "function") none (Data.func (FuncData.mk (so "and_") (so "and_") (fA (sA 9)) (fB (sA 9)) (fS (sA 13)) 3 [] Value.none Value.none Value.none (sv "cpy313.operator" 376) none (.ref 154) Value.none 0)) (Array.mk []))
noncomputable def ob101 (P : Params) : Obj := (Obj.mk (Value.type "tuple") none (Data.seq (Array.mk [(sv "a" 396), (sv "b" 397)]) 0) (Array.mk []))
noncomputable def ob102 (P : Params) : Obj := (Obj.mk Value.none none (Data.func (FuncData.mk (so "lshift") (so "lshift") (fA (sA 10)) (fB (sA 10)) (fS (sA 13)) 0 [] Value.none Value.none Value.none Value.none none Value.none Value.none 0)) (Array.mk []))
noncomputable def ob103 (P : Params) : Obj := (Obj.mk (Value.type "code") none (Data.fields (Array.mk [(sv "lshift" 393), (sv "lshift" 394), (sv "/claim/cut.py" 395), (Value.int 127 0), (Value.int 2 0), (Value.int 0 0), (Value.int 0 0), (Value.int 3 0), (.ref 156), (Value.bool true), (Value.int 181 0), (.ref 157), Value.none, (.ref 158), (.ref 159), (.ref 160), (Value.int 398 0), (Value.int 127 0), (sv "/claim/cut.py" 399)])) (Array.mk []))
noncomputable def ob104 (P : Params) : Obj := (Obj.mk (Value.type "function") none (Data.func (FuncData.mk (so "lshift") (so "lshift") (fA (sA 10)) (fB (sA 10)) (fS (sA 13)) 3 [] Value.none Value.none Value.none (sv "cpy313.operator" 376) none (.ref 161) Value.none 0)) (Array.mk []))
noncomputable def ob105 (P : Params) : Obj := (Obj.mk (Value.type "tuple") none (Data.seq (Array.mk [(sv "a" 404), (sv "b" 405)]) 0) (Array.mk []))
noncomputable def ob106 (P : Params) : Obj := (Obj.mk Value.none none (Data.func (FuncData.mk (so "or_") (so "or_") (fA (sA 11)) (fB (sA 11)) (fS (sA 13)) 0 [] Value.none Value.none Value.none Value.none none Value.none Value.none 0)) (Array.mk []))
noncomputable def ob107 (P : Params) : Obj := (Obj.mk (Value.type "code") none (Data.fields (Array.mk [(sv "or_" 401), (sv "or_" 402), (sv "/claim/cut.py" 403), (Value.int 129 0), (Value.int 2 0), (Value.int 0 0), (Value.int 0 0), (Value.int 3 0), (.ref 163), (Value.bool true), (Value.int 181 0), (.ref 164), Value.none, (.ref 165), (.ref 166), (.ref 167), (Value.int 406 0), (Value.int 129 0), (sv "/claim/cut.py" 407)])) (Array.mk []))
noncomputable def ob108 (P : Params) : Obj := (Obj.mk (Value.type "function") none (Data.func (FuncData.mk (so "or_") (so "or_") (fA (sA 11)) (fB (sA 11)) (fS (sA 13)) 3 [] Value.none Value.none Value.none (sv "cpy313.operator" 376) none (.ref 168) Value.none 0)) (Array.mk []))
noncomputable def ob109 (P : Params) : Obj := (Obj.mk (Value.type "tuple") none (Data.seq (Array.mk [(sv "a" 412), (sv "b" 413)]) 0) (Array.mk []))
noncomputable def ob110 (P : Params) : Obj := (Obj.mk Value.none none (Data.func (FuncData.mk (so "xor") (so "xor") (fA (sA 12)) (fB (sA 12)) (fS (sA 13)) 0 [] Value.none Value.none Value.none Value.none none Value.none Value.none 0)) (Array.mk []))
noncomputable def ob111 (P : Params) : Obj := (Obj.mk (Value.type "code") none (Data.fields (Array.mk [(sv "xor" 409), (sv "xor" 410), (sv "/claim/cut.py" 411), (Value.int 131 0), (Value.int 2 0), (Value.int 0 0), (Value.int 0 0), (Value.int 3 0), (.ref 170), (Value.bool true), (Value.int 181 0), (.ref 171), Value.none, (.ref 172), (.ref 173), (.ref 174), (Value.int 414 0), (Value.int 131 0), (sv "/claim/cut.py" 415)])) (Array.mk []))
noncomputable def ob112 (P : Params) : Obj := (Obj.mk (Value.type "function") none (Data.func (FuncData.mk (so "xor") (so "xor") (fA (sA 12)) (fB (sA 12)) (fS (sA 13)) 3 [] Value.none Value.none Value.none (sv "cpy313.operator" 376) none (.ref 175) Value.none 0)) (Array.mk []))
noncomputable def ob113 (P : Params) : Obj := (Obj.mk (Value.type "tuple") none (Data.seq (Array.mk [(sv "a" 420), (sv "b" 421)]) 0) (Array.mk []))
noncomputable def ob114 (P : Params) : Obj := (Obj.mk Value.none none (Data.func (FuncData.mk (so "contains") (so "contains") (fA (sA 13)) (fB (sA 13)) (fS (sA 13)) 0 [] Value.none Value.none Value.none Value.none none Value.none Value.none 0)) (Array.mk []))
noncomputable def ob115 (P : Params) : Obj := (Obj.mk (Value.type "code") none (Data.fields (Array.mk [(sv "contains" 417), (sv "contains" 418), (sv "/claim/cut.py" 419), (Value.int 133 0), (Value.int 2 0), (Value.int 0 0), (Value.int 0 0), (Value.int 3 0), (.ref 177), (Value.bool true), (Value.int 181 0), (.ref 178), Value.none, (.ref 179), (.ref 180), (.ref 181), (Value.int 422 0), (Value.int 133 0), (sv "/claim/cut.py" 423)])) (Array.mk []))
noncomputable def ob116 (P : Params) : Obj := (Obj.mk (Value.type "function") none (Data.func (FuncData.mk (so "contains") (so "contains") (fA (sA 13)) (fB (sA 13)) (fS (sA 13)) 3 [] Value.none Value.none Value.none (sv "cpy313.operator" 376) none (.ref 182) Value.none 0)) (Array.mk []))
noncomputable def ob117 (P : Params) : Obj := (Obj.mk (Value.type "tuple") none (Data.seq (Array.mk [(sv "a" 428), (sv "b" 429), (sv "count" 430), (sv "i" 431)]) 0) (Array.mk []))
noncomputable def ob118 (P : Params) : Obj := (Obj.mk Value.none none (Data.func (FuncData.mk (so "countOf") (so "countOf") (fA (sA 14)) (fB (sA 14)) (fS (sA 14)) 0 [] Value.none Value.none Value.none Value.none none Value.none Value.none 0)) (Array.mk []))
noncomputable def ob119 (P : Params) : Obj := (Obj.mk (Value.type "code") none (Data.fields (Array.mk [(sv "countOf" 425), (sv "countOf" 426), (sv "/claim/cut.py" 427), (Value.int 135 0), (Value.int 2 0), (Value.int 0 0), (Value.int 0 0), (Value.int 3 0), (.ref 184), (Value.bool true), (Value.int 181 0), (.ref 185), Value.none, (.ref 186), (.ref 187), (.ref 188), (Value.int 432 0), (Value.int 135 0), (sv "/claim/cut.py" 433)])) (Array.mk []))
noncomputable def ob120 (P : Params) : Obj := (Obj.mk (Value.type "function") none (Data.func (FuncData.mk (so "countOf") (so "countOf") (fA (sA 14)) (fB (sA 14)) (fS (sA 14)) 3 [] Value.none Value.none Value.none (sv "cpy313.operator" 376) none (.ref 189) Value.none 0)) (Array.mk []))
noncomputable def ob121 (P : Params) : Obj := (Obj.mk (Value.type "tuple") none (Data.seq (Array.mk [(sv "a" 438), (sv "b" 439), (sv "i" 440), (sv "j" 441)]) 0) (Array.mk []))
noncomputable def ob122 (P : Params) : Obj := (Obj.mk Value.none none (Data.func (FuncData.mk (so "indexOf") (so "indexOf") (fA (sA 15)) (fB (sA 15)) (fS (sA 15)) 0 [] Value.none Value.none Value.none Value.none none Value.none Value.none 0)) (Array.mk []))
noncomputable def ob123 (P : Params) : Obj := (Obj.mk (Value.type "code") none (Data.fields (Array.mk [(sv "indexOf" 435), (sv "indexOf" 436), (sv "/claim/cut.py" 437), (Value.int 141 0), (Value.int 2 0), (Value.int 0 0), (Value.int 0 0), (Value.int 3 0), (.ref 191), (Value.bool true), (Value.int 181 0), (.ref 192), Value.none, (.ref 193), (.ref 194), (.ref 195), (Value.int 442 0), (Value.int 141 0), (sv "/claim/cut.py" 443)])) (Array.mk []))
noncomputable def ob124 (P : Params) : Obj := (Obj.mk (Value.type "function") none (Data.func (FuncData.mk (so "indexOf") (so "indexOf") (fA (sA 15)) (fB (sA 15)) (fS (sA 15)) 3 [] Value.none Value.none Value.none (sv "cpy313.operator" 376) none (.ref 196) Value.none 0)) (Array.mk []))
noncomputable def ob125 (P : Params) : Obj := (Obj.mk (Value.type "tuple") none (Data.seq (Array.mk [(sv "script" 450), (sv "steps" 451), (sv "x" 452), (sv "node" 453), (sv "rest" 454)]) 0) (Array.mk []))
noncomputable def ob126 (P : Params) : Obj := (Obj.mk Value.none none (Data.func (FuncData.mk (so "_law_steps") (so "_law_steps") (fA (sA 17)) (fB (sA 17)) (fS (sA 17)) 0 [] Value.none Value.none Value.none Value.none none Value.none Value.none 0)) (Array.mk []))
noncomputable def ob127 (P : Params) : Obj := (Obj.mk (Value.type "code") none (Data.fields (Array.mk [(sv "_law_steps" 447), (sv "_law_steps" 448), (sv "/claim/cut.py" 449), (Value.int 148 0), (Value.int 1 0), (Value.int 0 0), (Value.int 0 0), (Value.int 3 0), (.ref 198), (Value.bool true), (Value.int 181 0), (.ref 199), Value.none, (.ref 200), (.ref 201), (.ref 202), (Value.int 455 0), (Value.int 148 0), (sv "/claim/cut.py" 456)])) (Array.mk []))
noncomputable def ob128 (P : Params) : Obj := (Obj.mk (Value.type "function") none (Data.func (FuncData.mk (so "_law_steps") (so "_law_steps") (fA (sA 17)) (fB (sA 17)) (fS (sA 17)) 3 [] Value.none Value.none Value.none (sv "law_mq0333_01" 445) none (.ref 203) Value.none 0)) (Array.mk []))
noncomputable def ob129 (P : Params) : Obj := (Obj.mk (Value.type "tuple") none (Data.seq (Array.mk [(sv "steps" 461), (sv "named" 462), (sv "need" 463), (sv "node" 464), (sv "one" 465)]) 0) (Array.mk []))
noncomputable def ob130 (P : Params) : Obj := (Obj.mk Value.none none (Data.func (FuncData.mk (so "_law_named") (so "_law_named") (fA (sA 18)) (fB (sA 18)) (fS (sA 18)) 0 [] Value.none Value.none Value.none Value.none none Value.none Value.none 0)) (Array.mk []))
noncomputable def ob131 (P : Params) : Obj := (Obj.mk (Value.type "code") none (Data.fields (Array.mk [(sv "_law_named" 458), (sv "_law_named" 459), (sv "/claim/cut.py" 460), (Value.int 160 0), (Value.int 1 0), (Value.int 0 0), (Value.int 0 0), (Value.int 3 0), (.ref 205), (Value.bool true), (Value.int 181 0), (.ref 206), Value.none, (.ref 207), (.ref 208), (.ref 209), (Value.int 466 0), (Value.int 160 0), (sv "/claim/cut.py" 467)])) (Array.mk []))
noncomputable def ob132 (P : Params) : Obj := (Obj.mk (Value.type "function") none (Data.func (FuncData.mk (so "_law_named") (so "_law_named") (fA (sA 18)) (fB (sA 18)) (fS (sA 18)) 3 [] Value.none Value.none Value.none (sv "law_mq0333_01" 445) none (.ref 210) Value.none 0)) (Array.mk []))
noncomputable def ob133 (P : Params) : Obj := (Obj.mk (Value.type "tuple") none (Data.seq (Array.mk [(sv "named" 472), (sv "pairs" 473), (sv "masks" 474), (sv "one" 475), (sv "turn" 476), (sv "mask" 477), (sv "first" 478), (sv "second" 479)]) 0) (Array.mk []))
noncomputable def ob134 (P : Params) : Obj := (Obj.mk Value.none none (Data.func (FuncData.mk (so "_law_masks") (so "_law_masks") (fA (sA 19)) (fB (sA 19)) (fS (sA 19)) 0 [] Value.none Value.none Value.none Value.none none Value.none Value.none 0)) (Array.mk []))
noncomputable def ob135 (P : Params) : Obj := (Obj.mk (Value.type "code") none (Data.fields (Array.mk [(sv "_law_masks" 469), (sv "_law_masks" 470), (sv "/claim/cut.py" 471), (Value.int 167 0), (Value.int 2 0), (Value.int 0 0), (Value.int 0 0), (Value.int 3 0), (.ref 212), (Value.bool true), (Value.int 181 0), (.ref 213), Value.none, (.ref 214), (.ref 215), (.ref 216), (Value.int 480 0), (Value.int 167 0), (sv "/claim/cut.py" 481)])) (Array.mk []))
noncomputable def ob136 (P : Params) : Obj := (Obj.mk (Value.type "function") none (Data.func (FuncData.mk (so "_law_masks") (so "_law_masks") (fA (sA 19)) (fB (sA 19)) (fS (sA 19)) 3 [] Value.none Value.none Value.none (sv "law_mq0333_01" 445) none (.ref 217) Value.none 0)) (Array.mk []))
noncomputable def ob137 (P : Params) : Obj := (Obj.mk Value.none none (Data.func (FuncData.mk (so "_law_rounds") (so "_law_rounds") (fA (sA 20)) (fB (sA 20)) (fS (sA 20)) 0 [] Value.none Value.none Value.none Value.none none Value.none Value.none 0)) (Array.mk []))
noncomputable def ob138 (P : Params) : Obj := (Obj.mk (Value.type "code") none (Data.fields (Array.mk [(sv "_law_rounds" 483), (sv "_law_rounds" 484), (sv "/claim/cut.py" 485), (Value.int 178 0), (Value.int 2 0), (Value.int 0 0), (Value.int 0 0), (Value.int 3 0), (.ref 219), (Value.bool true), (Value.int 181 0), (.ref 220), Value.none, Value.none, Value.none, (.ref 221), (Value.int 486 0), (Value.int 178 0), (sv "/claim/cut.py" 487)])) (Array.mk []))
noncomputable def ob139 (P : Params) : Obj := (Obj.mk (Value.type "function") none (Data.func (FuncData.mk (so "_law_rounds") (so "_law_rounds") (fA (sA 20)) (fB (sA 20)) (fS (sA 20)) 3 [] Value.none Value.none Value.none (sv "law_mq0333_01" 445) none (.ref 222) Value.none 0)) (Array.mk []))
noncomputable def ob140 (P : Params) : Obj := (Obj.mk Value.none none (Data.func (FuncData.mk (so "_law_ring") (so "_law_ring") (fA (sA 21)) (fB (sA 21)) (fS (sA 21)) 0 [] Value.none Value.none Value.none Value.none none Value.none Value.none 0)) (Array.mk []))
noncomputable def ob141 (P : Params) : Obj := (Obj.mk (Value.type "code") none (Data.fields (Array.mk [(sv "_law_ring" 489), (sv "_law_ring" 490), (sv "/claim/cut.py" 491), (Value.int 191 0), (Value.int 2 0), (Value.int 0 0), (Value.int 0 0), (Value.int 3 0), (.ref 224), (Value.bool true), (Value.int 181 0), (.ref 225), Value.none, Value.none, Value.none, (.ref 226), (Value.int 492 0), (Value.int 191 0), (sv "/claim/cut.py" 493)])) (Array.mk []))
noncomputable def ob142 (P : Params) : Obj := (Obj.mk (Value.type "function") none (Data.func (FuncData.mk (so "_law_ring") (so "_law_ring") (fA (sA 21)) (fB (sA 21)) (fS (sA 21)) 3 [] Value.none Value.none Value.none (sv "law_mq0333_01" 445) none (.ref 227) Value.none 0)) (Array.mk []))
noncomputable def ob143 (P : Params) : Obj := (Obj.mk (Value.type "tuple") none (Data.seq (Array.mk [(sv "steps" 498), (sv "size" 499), (sv "sorter" 500), (sv "need" 501), (sv "node" 502), (sv "answers" 503), (sv "turn" 504), (sv "active" 505), (sv "ready" 506)]) 0) (Array.mk []))
noncomputable def ob144 (P : Params) : Obj := (Obj.mk Value.none none (Data.func (FuncData.mk (so "_law_told") (so "_law_told") (fA (sA 22)) (fB (sA 22)) (fS (sA 22)) 0 [] Value.none Value.none Value.none Value.none none Value.none Value.none 0)) (Array.mk []))
noncomputable def ob145 (P : Params) : Obj := (Obj.mk (Value.type "code") none (Data.fields (Array.mk [(sv "_law_told" 495), (sv "_law_told" 496), (sv "/claim/cut.py" 497), (Value.int 204 0), (Value.int 2 0), (Value.int 0 0), (Value.int 0 0), (Value.int 3 0), (.ref 229), (Value.bool true), (Value.int 181 0), (.ref 230), Value.none, (.ref 231), (.ref 232), (.ref 233), (Value.int 507 0), (Value.int 204 0), (sv "/claim/cut.py" 508)])) (Array.mk []))
noncomputable def ob146 (P : Params) : Obj := (Obj.mk (Value.type "function") none (Data.func (FuncData.mk (so "_law_told") (so "_law_told") (fA (sA 22)) (fB (sA 22)) (fS (sA 22)) 3 [] Value.none Value.none Value.none (sv "law_mq0333_01" 445) none (.ref 234) Value.none 0)) (Array.mk []))
noncomputable def ob147 (P : Params) : Obj := (Obj.mk Value.none none (Data.func (FuncData.mk (so "law") (so "law") (fA (sA 23)) (fB (sA 23)) (fS (sA 23)) 0 [] Value.none Value.none Value.none Value.none none Value.none Value.none 0)) (Array.mk []))
noncomputable def ob148 (P : Params) : Obj := (Obj.mk (Value.type "code") none (Data.fields (Array.mk [(sv "law" 510), (sv "law" 511), (sv "/claim/cut.py" 512), (Value.int 222 0), (Value.int 1 0), (Value.int 0 0), (Value.int 0 0), (Value.int 3 0), (.ref 236), (Value.bool true), (Value.int 181 0), (.ref 237), Value.none, Value.none, Value.none, (.ref 238), (Value.int 513 0), (Value.int 222 0), (sv "/claim/cut.py" 514)])) (Array.mk []))
noncomputable def ob149 (P : Params) : Obj := (Obj.mk (Value.type "function") none (Data.func (FuncData.mk (so "law") (so "law") (fA (sA 23)) (fB (sA 23)) (fS (sA 23)) 3 [] Value.none Value.none Value.none (sv "law_mq0333_01" 445) none (.ref 239) Value.none 0)) (Array.mk []))
noncomputable def tr_24 (P : Params) : BT := (.node (boot_o_0 P) (.node (boot_o_1 P) (.node (ob91 P) (.node (boot_o_7 P) (.node (boot_o_7 P) (.node (boot_o_8 P) (.node (ob41 P) (.node (ob79 P) .nil .nil) (.node (boot_o_7 P) .nil .nil)) (.node (ob60 P) (.node (boot_o_7 P) .nil .nil) (.node (ob139 P) .nil .nil))) (.node (ob8 P) (.node (ob51 P) (.node (boot_o_8 P) .nil .nil) (.node (ob129 P) .nil .nil)) (.node (ob69 P) (.node (ob111 P) .nil .nil) (.node (ob148 P) .nil .nil)))) (.node (ob8 P) (.node (ob20 P) (.node (ob46 P) (.node (ob84 P) .nil .nil) (.node (boot_o_8 P) .nil .nil)) (.node (boot_o_7 P) (.node (ob106 P) .nil .nil) (.node (ob143 P) .nil .nil))) (.node (ob34 P) (.node (ob56 P) (.node (ob97 P) .nil .nil) (.node (boot_o_7 P) .nil .nil)) (.node (ob74 P) (.node (ob116 P) .nil .nil) .nil)))) (.node (boot_o_7 P) (.node (ob5 P) (.node (ob16 P) (.node (boot_o_7 P) (.node (boot_o_7 P) .nil .nil) (.node (ob122 P) .nil .nil)) (.node (ob63 P) (.node (boot_o_7 P) .nil .nil) (.node (ob141 P) .nil .nil))) (.node (ob31 P) (.node (ob53 P) (.node (ob95 P) .nil .nil) (.node (ob132 P) .nil .nil)) (.node (boot_o_8 P) (.node (ob113 P) .nil .nil) .nil))) (.node (ob11 P) (.node (ob24 P) (.node (boot_o_8 P) (.node (ob88 P) .nil .nil) (.node (ob127 P) .nil .nil)) (.node (boot_o_7 P) (.node (boot_o_8 P) .nil .nil) (.node (ob146 P) .nil .nil))) (.node (boot_o_7 P) (.node (ob58 P) (.node (ob100 P) .nil .nil) (.node (boot_o_7 P) .nil .nil)) (.node (ob76 P) (.node (boot_o_7 P) .nil .nil) .nil))))) (.node (boot_o_5 P) (.node (boot_o_9 P) (.node (ob4 P) (.node (boot_o_7 P) (.node (ob43 P) (.node (boot_o_8 P) .nil .nil) (.node (ob121 P) .nil .nil)) (.node (ob61 P) (.node (ob103 P) .nil .nil) (.node (boot_o_8 P) .nil .nil))) (.node (boot_o_7 P) (.node (boot_o_7 P) (.node (boot_o_7 P) .nil .nil) (.node (ob130 P) .nil .nil)) (.node (ob71 P) (.node (boot_o_7 P) .nil .nil) .nil))) (.node (boot_o_7 P) (.node (ob22 P) (.node (ob48 P) (.node (ob86 P) .nil .nil) (.node (boot_o_7 P) .nil .nil)) (.node (ob66 P) (.node (ob108 P) .nil .nil) (.node (ob144 P) .nil .nil))) (.node (ob36 P) (.node (boot_o_8 P) (.node (ob98 P) .nil .nil) (.node (ob135 P) .nil .nil)) (.node (boot_o_7 P) (.node (boot_o_8 P) .nil .nil) .nil)))) (.node (ob0 P) (.node (ob7 P) (.node (ob18 P) (.node (ob45 P) (.node (ob82 P) .nil .nil) (.node (ob124 P) .nil .nil)) (.node (boot_o_8 P) (.node (ob105 P) .nil .nil) (.node (boot_o_7 P) .nil .nil))) (.node (boot_o_7 P) (.node (ob54 P) (.node (boot_o_7 P) .nil .nil) (.node (boot_o_8 P) .nil .nil)) (.node (boot_o_7 P) (.node (ob114 P) .nil .nil) .nil))) (.node (ob13 P) (.node (ob26 P) (.node (boot_o_7 P) (.node (ob90 P) .nil .nil) (.node (boot_o_7 P) .nil .nil)) (.node (ob68 P) (.node (boot_o_7 P) .nil .nil) (.node (boot_o_8 P) .nil .nil))) (.node (ob40 P) (.node (boot_o_7 P) (.node (boot_o_8 P) .nil .nil) (.node (ob137 P) .nil .nil)) (.node (ob77 P) (.node (ob119 P) .nil .nil) .nil)))))) (.node (boot_o_2 P) (.node (boot_o_4 P) (.node (boot_o_8 P) (.node (boot_o_8 P) (.node (ob14 P) (.node (ob42 P) (.node (boot_o_7 P) .nil .nil) (.node (boot_o_8 P) .nil .nil)) (.node (boot_o_7 P) (.node (ob102 P) .nil .nil) (.node (boot_o_7 P) .nil .nil))) (.node (ob30 P) (.node (ob52 P) (.node (ob93 P) .nil .nil) (.node (boot_o_7 P) .nil .nil)) (.node (ob70 P) (.node (ob112 P) .nil .nil) (.node (ob149 P) .nil .nil)))) (.node (ob9 P) (.node (ob21 P) (.node (ob47 P) (.node (ob85 P) .nil .nil) (.node (ob125 P) .nil .nil)) (.node (ob65 P) (.node (ob107 P) .nil .nil) (.node (boot_o_7 P) .nil .nil))) (.node (ob35 P) (.node (boot_o_7 P) (.node (boot_o_7 P) .nil .nil) (.node (ob134 P) .nil .nil)) (.node (ob75 P) (.node (boot_o_7 P) .nil .nil) .nil)))) (.node (ob92 P) (.node (ob6 P) (.node (ob17 P) (.node (boot_o_8 P) (.node (ob81 P) .nil .nil) (.node (ob123 P) .nil .nil)) (.node (boot_o_7 P) (.node (boot_o_8 P) .nil .nil) (.node (ob142 P) .nil .nil))) (.node (ob32 P) (.node (boot_o_7 P) (.node (ob96 P) .nil .nil) (.node (boot_o_7 P) .nil .nil)) (.node (ob72 P) (.node (boot_o_7 P) .nil .nil) .nil))) (.node (ob12 P) (.node (ob25 P) (.node (ob49 P) (.node (ob89 P) .nil .nil) (.node (ob128 P) .nil .nil)) (.node (boot_o_8 P) (.node (ob109 P) .nil .nil) (.node (boot_o_7 P) .nil .nil))) (.node (ob8 P) (.node (ob59 P) (.node (boot_o_7 P) .nil .nil) (.node (boot_o_8 P) .nil .nil)) (.node (boot_o_7 P) (.node (ob118 P) .nil .nil) .nil))))) (.node (boot_o_6 P) (.node (boot_o_10 P) (.node (boot_o_7 P) (.node (ob15 P) (.node (ob44 P) (.node (ob80 P) .nil .nil) (.node (boot_o_7 P) .nil .nil)) (.node (ob62 P) (.node (ob104 P) .nil .nil) (.node (ob140 P) .nil .nil))) (.node (boot_o_8 P) (.node (boot_o_8 P) (.node (ob94 P) .nil .nil) (.node (ob131 P) .nil .nil)) (.node (boot_o_7 P) (.node (boot_o_8 P) .nil .nil) .nil))) (.node (ob10 P) (.node (ob23 P) (.node (boot_o_7 P) (.node (ob87 P) .nil .nil) (.node (ob126 P) .nil .nil)) (.node (ob67 P) (.node (boot_o_7 P) .nil .nil) (.node (ob145 P) .nil .nil))) (.node (ob37 P) (.node (ob57 P) (.node (ob99 P) .nil .nil) (.node (ob136 P) .nil .nil)) (.node (boot_o_8 P) (.node (ob117 P) .nil .nil) .nil)))) (.node (ob1 P) (.node (boot_o_7 P) (.node (ob19 P) (.node (boot_o_7 P) (.node (ob83 P) .nil .nil) (.node (boot_o_7 P) .nil .nil)) (.node (ob64 P) (.node (boot_o_7 P) .nil .nil) (.node (boot_o_8 P) .nil .nil))) (.node (ob33 P) (.node (ob55 P) (.node (boot_o_8 P) .nil .nil) (.node (ob133 P) .nil .nil)) (.node (ob73 P) (.node (ob115 P) .nil .nil) .nil))) (.node (boot_o_7 P) (.node (ob29 P) (.node (ob50 P) (.node (boot_o_7 P) .nil .nil) (.node (boot_o_8 P) .nil .nil)) (.node (boot_o_7 P) (.node (ob110 P) .nil .nil) (.node (ob147 P) .nil .nil))) (.node (boot_o_7 P) (.node (boot_o_8 P) (.node (ob101 P) .nil .nil) (.node (ob138 P) .nil .nil)) (.node (ob78 P) (.node (ob120 P) .nil .nil) .nil)))))))
noncomputable def he_24 (P : Params) : Heap := ⟨Array.mk [boot_o_0 P, boot_o_1 P, boot_o_2 P, ob91 P, boot_o_4 P, boot_o_5 P, boot_o_6 P, boot_o_7 P, boot_o_8 P, boot_o_9 P, boot_o_10 P, boot_o_7 P, ob92 P, ob0 P, ob1 P, boot_o_7 P, boot_o_8 P, ob4 P, boot_o_7 P, ob5 P, ob6 P, ob7 P, boot_o_7 P, ob8 P, ob9 P, boot_o_7 P, ob10 P, ob11 P, ob12 P, ob13 P, boot_o_7 P, boot_o_8 P, ob14 P, boot_o_7 P, ob15 P, ob16 P, ob17 P, ob18 P, ob19 P, ob20 P, ob21 P, ob22 P, ob23 P, ob24 P, ob25 P, ob26 P, ob29 P, ob8 P, ob30 P, boot_o_7 P, boot_o_8 P, ob31 P, ob32 P, boot_o_7 P, ob33 P, ob34 P, ob35 P, ob36 P, ob37 P, boot_o_7 P, ob8 P, ob40 P, boot_o_7 P, ob41 P, ob42 P, ob43 P, ob44 P, boot_o_7 P, boot_o_8 P, ob45 P, boot_o_7 P, ob46 P, ob47 P, ob48 P, boot_o_7 P, boot_o_8 P, ob49 P, boot_o_7 P, ob50 P, ob51 P, ob52 P, boot_o_7 P, boot_o_8 P, ob53 P, boot_o_7 P, ob54 P, ob55 P, ob56 P, boot_o_7 P, boot_o_8 P, ob57 P, ob58 P, ob59 P, boot_o_7 P, boot_o_8 P, ob60 P, boot_o_7 P, ob61 P, ob62 P, ob63 P, boot_o_7 P, boot_o_8 P, ob64 P, boot_o_7 P, ob65 P, ob66 P, ob67 P, boot_o_7 P, boot_o_8 P, ob68 P, boot_o_7 P, ob69 P, ob70 P, ob71 P, boot_o_7 P, boot_o_8 P, ob72 P, boot_o_7 P, ob73 P, ob74 P, ob75 P, boot_o_7 P, boot_o_8 P, ob76 P, boot_o_7 P, ob77 P, ob78 P, ob79 P, boot_o_7 P, boot_o_8 P, ob80 P, boot_o_7 P, ob81 P, ob82 P, ob83 P, ob84 P, ob85 P, ob86 P, ob87 P, ob88 P, ob89 P, ob90 P, boot_o_7 P, boot_o_8 P, ob93 P, boot_o_7 P, ob94 P, ob95 P, ob96 P, boot_o_7 P, boot_o_8 P, ob97 P, boot_o_7 P, ob98 P, ob99 P, ob100 P, boot_o_7 P, boot_o_8 P, ob101 P, boot_o_7 P, ob102 P, ob103 P, ob104 P, boot_o_7 P, boot_o_8 P, ob105 P, boot_o_7 P, ob106 P, ob107 P, ob108 P, boot_o_7 P, boot_o_8 P, ob109 P, boot_o_7 P, ob110 P, ob111 P, ob112 P, boot_o_7 P, boot_o_8 P, ob113 P, boot_o_7 P, ob114 P, ob115 P, ob116 P, boot_o_7 P, boot_o_8 P, ob117 P, boot_o_7 P, ob118 P, ob119 P, ob120 P, boot_o_7 P, boot_o_8 P, ob121 P, boot_o_7 P, ob122 P, ob123 P, ob124 P, boot_o_7 P, boot_o_8 P, ob125 P, boot_o_7 P, ob126 P, ob127 P, ob128 P, boot_o_7 P, boot_o_8 P, ob129 P, boot_o_7 P, ob130 P, ob131 P, ob132 P, boot_o_7 P, boot_o_8 P, ob133 P, boot_o_7 P, ob134 P, ob135 P, ob136 P, boot_o_7 P, boot_o_8 P, ob137 P, ob138 P, ob139 P, boot_o_7 P, boot_o_8 P, ob140 P, ob141 P, ob142 P, boot_o_7 P, boot_o_8 P, ob143 P, boot_o_7 P, ob144 P, ob145 P, ob146 P, boot_o_7 P, boot_o_8 P, ob147 P, ob148 P, ob149 P], { }⟩

noncomputable def eb : Env := { scope := PG.main.scope, locals := mainNs, globals := mainNs, cells := [], code := .ref 13, frame := some 14 }
noncomputable def cB : Code := .body b0 eb
noncomputable def g1 : List Stmt := b0.take 6
noncomputable def g3 : List Stmt := (b0.drop 6).take 1
noncomputable def g4 : List Stmt := b0.drop 7
theorem splitB : b0 = g1 ++ (g3 ++ (g4 ++ [])) := by kernel_rfl
noncomputable abbrev sT (T : BT) (n k : Nat) (os : OsState) : SharedT := ⟨T, n, { }, Array.mk [], { }, k, os⟩
noncomputable abbrev sH (H : Heap) (k : Nat) (os : OsState) : Shared := ⟨H, Array.mk [], { }, k, os⟩
noncomputable abbrev an : Option Value := some (.ref 6)
noncomputable abbrev z4 : Pos := ⟨0, 0, 0, 0⟩
theorem preP (w : World) (os : OsState) : topGo treeTable PG w 11 an 12 ⟨boot_heap w.params, Array.mk [], boot_drawn, boot_toks, os⟩ (topStub PG) = some (sH (he_a w.params) 187 os, ⟨denote treeTable (.body b0 eb), cB, z4, [topFrame z4]⟩) := by kernel_rfl
theorem blkP (w : World) (os : OsState) : segRun treeTable PG w 11 an 1 1 (sH (he_a w.params) 187 os) (blockOf b0 eb cB z4 [topFrame z4]) = some (.next, (sT (tr_a w.params) 15 187 os).abs, cB, z4) := by kernel_rfl
theorem seg1 (w : World) (os : OsState) : segRunT treeTable PG w 11 an 1 516 (sT (tr_a w.params) 15 187 os) (piecesOf g1 eb cB z4 [topFrame z4]) = some (.next, sT (tr_6 w.params) 59 257 os, cB, ⟨14, 0, 15, 8⟩) := by kernel_rfl
theorem seg3 (w : World) (os : OsState) : segRunT treeTable PG w 11 an 1 528 (sT (tr_6 w.params) 59 257 os) (piecesOf g3 eb cB ⟨14, 0, 15, 8⟩ [topFrame z4]) = some (.next, sT (tr_7 w.params) 142 376 os, cB, ⟨16, 0, 121, 16⟩) := by kernel_rfl
theorem seg4 (w : World) (os : OsState) : segRunT treeTable PG w 11 an 1 479 (sT (tr_7 w.params) 142 376 os) (piecesOf g4 eb cB ⟨16, 0, 121, 16⟩ [topFrame z4]) = some (.next, sT (tr_24 w.params) 241 516 os, cB, ⟨222, 0, 228, 46⟩) := by kernel_rfl
theorem finP (w : World) (os : OsState) : topRun treeTable PG w 11 an 2 (sT (tr_24 w.params) 241 516 os).abs ⟨doneF .next, cB, ⟨222, 0, 228, 46⟩, [topFrame z4]⟩ = some (sH (he_24 w.params) 516 os) := by kernel_rfl
theorem runP (w : World) (os : OsState) : topRun treeTable PG w 11 an (12 + (1 + (516 + (528 + (479 + 2))))) ⟨boot_heap w.params, Array.mk [], boot_drawn, boot_toks, os⟩ (topStub PG) = some ⟨he_24 w.params, Array.mk [], { }, 516, os⟩ := by
  refine go_top (preP w os) (piece_block (blkP w os) ?_)
  rw [splitB]
  exact piece_app (segRun_of (seg1 w os)) (piece_app (segRun_of (seg3 w os)) (piece_app (segRun_of (seg4 w os)) (piece_nil (finP w os))))
theorem bootP : ∀ w : World, (fencedOpening treeTable PG w 3166).map (fun s => (s.heap, s.gens, s.drawn, s.toks)) = some (boot_heap w.params, Array.mk [], boot_drawn, boot_toks) :=
  boot_open (by rfl) (by decide) (fun s => rfl)
theorem sizeP : ∀ w : World, ((boot_heap w.params).isNs mainGlobals && (Array.mk [] : Array GenState).size == 0, (boot_heap w.params).objs.size, (boot_heap w.params).nsMap mainGlobals "__annotations__") = (true, 11, an) := by
  intro w; kernel_rfl
theorem wellL : OpenLaw.wellSaid PySem.Challenge.rw_mq0333_01 = true := by
  unfold OpenLaw.wellSaid
  (repeat' with_reducible refine look_both ?_ ?_)
  all_goals (try unfold OpenRow.wellSaid)
  all_goals (try unfold OpenRow.partSaid)
  all_goals (try unfold looksOpen)
  all_goals (repeat' with_reducible refine look_both ?_ ?_)
  all_goals decide +kernel
end Hd
local macro_rules | `(tactic| o_law) => `(tactic| refine holds_law Hd.wellL fun said => ?_)
local macro_rules | `(tactic| o_head $H) => `(tactic| (refine holds_open (q := vw) (loose := [PySem.Str.ofString "_NodeInfo"]) (Xt := fun s => xlAt vw [] s && recOk (RowW.records PySem.Challenge.rw_mq0333_01.row.toRowW) s) (XP := XL vw []) (Yf := Hook.obs $H) (Ya := Hook.val $H) (YP := Hook.says $H) (N := 3166) ?hl (Hook.of $H) (Hook.keeps $H) (fun s e => xl_of s (Bool.and_eq_true_iff.mp e).1) XL.keeps (by rfl) (by rfl) (by rfl) (fun s e => recFacts_of (Bool.and_eq_true_iff.mp e).2) (by rfl) (by first | assumption | decide +kernel) (by decide +kernel) ⟨rfl, rfl, rfl, rfl, rfl, by decide +kernel⟩ ?hw ?hc; (case hl => refine LeftO.of_pieces Hd.bootP Hd.sizeP Hd.runP (by decide) ?_; intro w; kernel_rfl)))
open_top hd for PySem.Challenge.rw_mq0333_01

theorem hideG {G : Prop} (h : ¬ ¬ G) : G := Classical.byContradiction h
theorem sub_nil {α : Type} {b : List α} : ∀ p ∈ ([] : List α), p ∈ b := fun _ h => nomatch h
theorem sub_cons {α : Type} {x : α} {a b : List α} (h : x ∈ b) (k : ∀ p ∈ a, p ∈ b) : ∀ p ∈ x :: a, p ∈ b := fun p hp => by
  rcases List.mem_cons.mp hp with e | hp
  · rw [e]; exact h
  · exact k p hp
theorem sub_app {α : Type} {a c b : List α} (h : ∀ p ∈ a, p ∈ b) (k : ∀ p ∈ c, p ∈ b) : ∀ p ∈ a ++ c, p ∈ b := fun p hp => (List.mem_append.mp hp).elim (h p) (k p)
theorem opq {M : Model} {A : Around} {t : Sem Unit} {u : Sem Flow} {Q₀ : Flow → Shared → Prop} {E₂ E : Value → Shared → Prop} {s : Shared} (h : ∀ PQ : Flow → Shared → Prop, (∀ f s, Q₀ f s → PQ f s) → wpAny M A t (fun _ s₂ => wpAny M A u PQ E₂ s₂) E s) : wpAny M A t (fun _ s₂ => wpAny M A u Q₀ E₂ s₂) E s := h Q₀ fun _ _ x => x
local macro_rules | `(tactic| walk_at $s:str) => `(tactic| k_extra $s)
local macro_rules | `(tactic| k_qdec) => `(tactic| decide +kernel)
theorem regTop : True := by
  w_top off
  trivial
section loops
variable {σ : Type}

/-- T₀ with more, laid later -/
noncomputable def Grown (T₀ T : List (Addr × Obj)) : Prop := (∀ p ∈ T₀, p ∈ T) ∧ ∃ adds, T = adds ++ T₀ ∧ ∀ q ∈ adds, ∀ p ∈ T₀, p.1 < q.1
theorem Grown.refl (T : List (Addr × Obj)) : Grown T T := ⟨fun _ h => h, [], rfl, fun _ h => nomatch h⟩
theorem Grown.more {T₀ T add : List (Addr × Obj)} (g : Grown T₀ T) (h : ∀ q ∈ add, ∀ p ∈ T, p.1 < q.1) : Grown T₀ (add ++ T) := by
  refine hideG fun kG => ?_
  obtain ⟨hs, adds, rfl, ha⟩ := g
  refine kG ?_
  clear kG
  refine ⟨fun p hp => List.mem_append_right _ (hs p hp), add ++ adds, by rw [List.append_assoc], fun q hq p hp => ?_⟩
  rcases List.mem_append.mp hq with hq | hq
  · exact h q hq p (List.mem_append_right _ hp)
  · exact ha q hq p hp
noncomputable def LpEnd (h₀ : Heap) (L : Addr) (adr : List Addr) (Led : σ → List (Addr × Obj)) (own T : List (Addr × Obj)) (P : σ → (Str → Option Value) → List (Addr × Obj) → Nat → Prop) (s s₃ : Shared) : Prop :=
  ∃ c m' add h' tk news', s₃ = { s with heap := h', toks := tk } ∧ Fr h₀ L h' m' ∧ News h₀ L h' news' ∧ (∀ p ∈ Led c ++ (add ++ (T ++ own)), p ∈ news') ∧ OwnOff add adr ∧ (∀ q ∈ add, ∀ p ∈ T ++ own, p.1 < q.1) ∧ P c m' (add ++ T) tk

noncomputable def LpPost (h₀ : Heap) (L : Addr) (adr : List Addr) (Led : σ → List (Addr × Obj)) (own T : List (Addr × Obj)) (P : σ → (Str → Option Value) → List (Addr × Obj) → Nat → Prop) (R : Result → Shared → Prop) (s : Shared) (f : Flow) (s₃ : Shared) : Prop := match f with
  | .next => LpEnd h₀ L adr Led own T P s s₃
  | .cont => LpEnd h₀ L adr Led own T P s s₃
  | .brk => R (.ok .next) s₃
  | .ret v => R (.ok (.ret v)) s₃

variable {prog : Program} {w : World} {A : Around} {E : Value → Shared → Prop} {s : Shared} {env : Env} {h₀ : Heap} {R : Result → Shared → Prop} {target : Expr} {body orelse : List Stmt}

theorem forW {I : Addr} {fp wr : List Addr} {n : Nat} {Pw : Nat → Value → Prop} {St : Nat → Heap → Prop} {m : Str → Option Value} (W : Walks prog w A I fp wr n Pw St)
    (Led : σ → List (Addr × Obj)) (adr : List Addr) (P : Nat → σ → (Str → Option Value) → List (Addr × Obj) → Nat → Prop) (c₀ : σ) (T₀ : List (Addr × Obj))
    (hadr : ∀ c, (Led c).map (·.1) = adr) (hLf : env.locals ∉ fp) (hwr : ∀ b ∈ wr, h₀.get? b = none) (hob : ∀ i h, St i h → ∀ b ∈ wr, ∃ o, h.get? b = some o) (hfa : ∀ b ∈ fp, b ∉ adr)
    (hgo : ∀ i (s' : Shared) v (Q' : Unit → Shared → Prop), St i s'.heap → Q' () s' → wpAny (model prog w) A (letOwnedTupleGo target (.ref I) v) Q' (notedBy (model prog w) A env fun e s' => R (.error e) s') s')
    (hst : St 0 s.heap) (F : Fr h₀ env.locals s.heap m) (N : News h₀ env.locals s.heap (Led c₀ ++ T₀)) (hnw : ∀ p ∈ T₀, p.1 ∉ wr) (hoff : OwnOff T₀ adr) (h0 : P 0 c₀ m T₀ s.toks)
    (turn : ∀ i v c m₁ T own h tk₀ tk, i < n → Pw i v → P i c m₁ T tk₀ → tk₀ ≤ tk → Grown T₀ T → OwnOff (T ++ own) adr → Fr h₀ env.locals h m₁ → News h₀ env.locals h (Led c ++ (T ++ own)) →
      wpAny (model prog w) A (assign target env v) (fun _ s₂ => wpAny (model prog w) A (execs body env) (LpPost h₀ env.locals adr Led own T (P (i + 1)) R s) (notedBy (model prog w) A env fun e s' => R (.error e) s') s₂) (notedBy (model prog w) A env fun e s' => R (.error e) s') { s with heap := h, toks := tk })
    (done : ∀ c m₁ T h tk₀ tk, P n c m₁ T tk₀ → tk₀ ≤ tk → Grown T₀ T → OwnOff T adr → Fr h₀ env.locals h m₁ → News h₀ env.locals h (Led c ++ T) →
      wpAny (model prog w) A (execs orelse env) (fun f s₃ => R (.ok f) s₃) (notedBy (model prog w) A env fun e s' => R (.error e) s') { s with heap := h, toks := tk }) :
    codeAny (model prog w) A (.forLoop target (.ref I) body orelse env) R s := by
  have hLw : env.locals ∉ wr := fun h => hLf (W.sub _ h)
  have old : ∀ b o, h₀.get? b = some o → b ∉ wr := fun b o e hb => by rw [hwr b hb] at e; cases e
  have hLa : ∀ c, ∀ p ∈ Led c, p.1 ∉ wr := fun c p hp hb => hfa _ (W.sub _ hb) (by rw [← hadr c]; exact List.mem_map_of_mem hp)
  refine codeAny_forLoop_any
    (fun k s' => ∃ h' tk m' c T i, s' = { s with heap := h', toks := tk } ∧ St i h' ∧ Fr h₀ env.locals h' m' ∧ News h₀ env.locals h' (Led c ++ T) ∧ (∀ p ∈ T, p.1 ∉ wr) ∧ Grown T₀ T ∧ OwnOff T adr ∧ P i c m' T tk ∧ i ≤ n ∧ k = n + 1 - i) ?_ (n + 1)
    ⟨s.heap, s.toks, m, c₀, T₀, 0, rfl, hst, F, N, hnw, Grown.refl _, hoff, h0, Nat.zero_le _, rfl⟩
  intro k s' zr2
  refine hideG fun kG => ?_
  obtain ⟨h', tk, m', c, T, i, rfl, hst', F', N', hnw', hsub, hoff', hP, hi, rfl⟩ := zr2
  refine kG ?_
  clear kG
  have next : ∀ h₁ : Heap, (∀ b o, b ∉ wr → h'.get? b = some o → h₁.get? b = some o) → Fr h₀ env.locals h₁ m' ∧ News h₀ env.locals h₁ (Led c ++ T) := fun h₁ hk₁ =>
    ⟨⟨F'.ns.at' fun o e => hk₁ _ o hLw e, fun b o e => hk₁ b o (old b o e) (F'.keep b o e), F'.above⟩, fun p hp => ⟨hk₁ _ _ ((List.mem_append.mp hp).elim (hLa c p) (hnw' p)) (N' p hp).1, (N' p hp).2⟩⟩
  by_cases hlt : i < n
  · refine wpAny_with_toks (n := tk) (Nat.le_refl _) (W.item i _ _ _ hlt hst' fun v h₁ tk₁ hPv hst₁ hk₁ htk => ?_)
    obtain ⟨F₁, N₁⟩ := next h₁ hk₁
    refine hgo (i + 1) _ v _ hst₁ ?_
    have Nown : News h₀ env.locals h₁ (ownOf h₀ fp h₁) := news_ownOf hLf
    have hofp : ∀ p ∈ ownOf h₀ fp h₁, p.1 ∈ fp := fun p hp => ownOf_sub p hp
    have NN : News h₀ env.locals h₁ (Led c ++ (T ++ ownOf h₀ fp h₁)) := by
      rw [← List.append_assoc]; exact N₁.append Nown
    have hofa : OwnOff (T ++ ownOf h₀ fp h₁) adr := fun p hp b hb => (List.mem_append.mp hp).elim (fun q => hoff' p q b hb) (fun q e => hfa _ (hofp p q) (e ▸ hb))
    refine wpAny_mono (turn i v c m' T (ownOf h₀ fp h₁) h₁ tk tk₁ hlt hPv hP htk hsub hofa F₁ NN) (fun _ s₂ h₂ => wpAny_mono h₂ (fun f s₃ h₃ => ?_) fun _ _ e => e) fun _ _ e => e
    have fin : LpEnd h₀ env.locals adr Led (ownOf h₀ fp h₁) T (P (i + 1)) s s₃ → ∃ m, m < n + 1 - i ∧ ∃ h' tk m' c T i, s₃ = { s with heap := h', toks := tk } ∧ St i h' ∧ Fr h₀ env.locals h' m' ∧ News h₀ env.locals h' (Led c ++ T) ∧ (∀ p ∈ T, p.1 ∉ wr) ∧ Grown T₀ T ∧ OwnOff T adr ∧ P i c m' T tk ∧ i ≤ n ∧ m = n + 1 - i := by
      intro zr0
      refine hideG fun kG => ?_
      obtain ⟨c', m₃, add, h₃', tk₃, news', rfl, F₃, N₃, hin, ha, hao, hP₃⟩ := zr0
      refine kG ?_
      clear kG
      refine ⟨n + 1 - (i + 1), by omega, h₃', tk₃, m₃, c', add ++ T, i + 1, rfl, ?_, F₃, fun p hp => N₃ p (hin p ?_), ?_, hsub.more (fun q hq p hp => hao q hq p (List.mem_append_left _ hp)), ?_, hP₃, hlt, rfl⟩
      · refine W.frame _ _ _ hst₁ fun b hb o e => ?_
        cases hn : h₀.get? b with
        | some o₀ =>
          have : o₀ = o := by have := F₁.keep b o₀ hn; rw [e] at this; exact (Option.some.inj this).symm
          exact this ▸ F₃.keep b o₀ hn
        | none => exact (N₃ _ (hin _ (List.mem_append_right _ (List.mem_append_right _ (List.mem_append_right _ (mem_ownOf hb hn e)))))).1
      · rcases List.mem_append.mp hp with q | q
        · exact List.mem_append_left _ q
        · refine List.mem_append_right _ ?_
          rcases List.mem_append.mp q with q | q
          · exact List.mem_append_left _ q
          · exact List.mem_append_right _ (List.mem_append_left _ q)
      · intro p hp hb
        rcases List.mem_append.mp hp with q | q
        · obtain ⟨o, ho⟩ := hob _ _ hst₁ _ hb
          exact absurd (hao p q _ (List.mem_append_right _ (mem_ownOf (W.sub _ hb) (hwr _ hb) ho))) (Nat.lt_irrefl _)
        · exact hnw' p q hb
      · intro p hp b hb
        rcases List.mem_append.mp hp with q | q
        · exact ha p q b hb
        · exact hoff' p q b hb
    cases f with
    | ret v => exact h₃
    | brk => exact h₃
    | cont => exact fin h₃
    | next => exact fin h₃
  · have hin : i = n := by omega
    subst hin
    refine wpAny_with_toks (n := tk) (Nat.le_refl _) (W.done _ _ _ hst' fun h₁ tk₁ hk₁ htk => ?_)
    obtain ⟨F₁, N₁⟩ := next h₁ hk₁
    exact done c m' T h₁ tk tk₁ hP htk hsub hoff' F₁ N₁

theorem go_listiter {E : Value → Shared → Prop} {target : Expr} {I t : Addr} {i : Nat} {v : Value} {Q' : Unit → Shared → Prop} {s' : Shared} (hit : s'.heap.IsListIter I t i) (h : Q' () s') :
    wpAny (model prog w) A (letOwnedTupleGo target (.ref I) v) Q' E s' := by
  refine hideG fun kG => ?_
  obtain ⟨o, ho, hc, hd⟩ := hit
  refine kG ?_
  clear kG
  unfold letOwnedTupleGo
  cases target <;> first
    | exact wpAny_pure h
    | (cases v <;> first
        | exact wpAny_pure h
        | (refine wpAny_bind (wpAny_load ho ?_)
           rw [hc, hd]
           exact wpAny_pure h))

theorem iterList {l : Addr} {vs : List Value} {k : Nat} {m : Str → Option Value}
    (Led : σ → List (Addr × Obj)) (adr : List Addr) (P : Nat → σ → (Str → Option Value) → List (Addr × Obj) → Nat → Prop) (c₀ : σ) (T₀ : List (Addr × Obj))
    (hh : A.handled = none) (hadr : ∀ c, (Led c).map (·.1) = adr) (F : Fr h₀ env.locals s.heap m) (N : News h₀ env.locals s.heap (Led c₀ ++ T₀)) (hl : (l, listOf vs.toArray k) ∈ T₀) (hoff : OwnOff T₀ adr) (h0 : P 0 c₀ m T₀ s.toks)
    (turn : ∀ i v c m₁ T own h tk₀ tk, vs[i]? = some v → P i c m₁ T tk₀ → tk₀ ≤ tk → Grown T₀ T → OwnOff (T ++ own) adr → Fr h₀ env.locals h m₁ → News h₀ env.locals h (Led c ++ (T ++ own)) →
      wpAny (model prog w) A (assign target env v) (fun _ s₂ => wpAny (model prog w) A (execs body env) (LpPost h₀ env.locals adr Led own T (P (i + 1)) R s) (notedBy (model prog w) A env fun e s' => R (.error e) s') s₂) (notedBy (model prog w) A env fun e s' => R (.error e) s') { s with heap := h, toks := tk })
    (done : ∀ c m₁ T h tk₀ tk, P vs.length c m₁ T tk₀ → tk₀ ≤ tk → Grown T₀ T → OwnOff T adr → Fr h₀ env.locals h m₁ → News h₀ env.locals h (Led c ++ T) →
      wpAny (model prog w) A (execs orelse env) (fun f s₃ => R (.ok f) s₃) (notedBy (model prog w) A env fun e s' => R (.error e) s') { s with heap := h, toks := tk }) :
    wpAny (model prog w) A (pyIter (.ref l)) (fun it s₂ => codeAny (model prog w) A (.forLoop target it body orelse env) R s₂) E s := by
  have hol : s.heap.get? l = some (listOf vs.toArray k) := (N _ (List.mem_append_right _ hl)).1
  have hls : s.heap.IsList l vs.toArray := ⟨_, hol, rfl, k, rfl⟩
  have hne : l ≠ s.heap.objs.size := Nat.ne_of_lt (Heap.lt_size hol)
  refine wpAny_pyIter_list hls ?_
  have Wk := Walks.list (prog := prog) (w := w) hh s.heap.objs.size l hne vs.toArray
  have hlen : vs.toArray.size = vs.length := by simp
  rw [hlen] at Wk
  have hlt : ∀ p ∈ Led c₀ ++ T₀, p.1 ≠ s.heap.objs.size := fun p hp => Nat.ne_of_lt (Heap.lt_size (N p hp).1)
  refine forW (s := { s with heap := s.heap.push _ }) Wk Led adr P c₀ T₀ hadr ?_ ?_ ?_ ?_ (fun i s' v Q' hs' hq => go_listiter hs'.1 hq) ⟨⟨_, Heap.get?_push_size _ rfl, rfl, rfl⟩, hls.at fun o e => Heap.get?_push_of_some _ e⟩ (F.push _) (fun p hp => ⟨Heap.get?_push_of_some _ (N p hp).1, (N p hp).2⟩) ?_ hoff h0 (fun i v c m₁ T own h tk₀ tk _ hv => turn i v c m₁ T own h tk₀ tk (by simpa using hv)) done
  · intro hm
    rcases List.mem_cons.mp hm with e | hm
    · exact absurd F.ns.lt (e ▸ Nat.lt_irrefl _)
    · exact (N _ (List.mem_append_right _ hl)).2.1 ((List.mem_singleton.mp hm).symm)
  · intro b hb
    rw [List.mem_singleton.mp hb]
    exact next_is_new F
  · intro i h hs b hb
    refine hideG fun kG => ?_
    obtain ⟨⟨o, ho, _⟩, _⟩ := hs
    refine kG ?_
    clear kG
    exact ⟨o, by rw [List.mem_singleton.mp hb]; exact ho⟩
  · intro b hb ha
    rcases List.mem_cons.mp hb with e | hm
    · rw [← hadr c₀] at ha
      refine hideG fun kG => ?_
      obtain ⟨q, hq, hq1⟩ := List.mem_map.mp ha
      refine kG ?_
      clear kG
      exact hlt q (List.mem_append_left _ hq) (hq1.trans e)
    · exact hoff _ hl b ha (List.mem_singleton.mp hm).symm
  · intro p hp hI
    exact hlt p (List.mem_append_right _ hp) (List.mem_singleton.mp hI)
end loops

theorem news_sub {h₀ h : Heap} {L : Addr} {a b : List (Addr × Obj)} (N : News h₀ L h b) (k : ∀ p ∈ a, p ∈ b) : News h₀ L h a := fun p hp => N p (k p hp)
theorem fr_pin {h₀ h : Heap} {L : Addr} {m : Str → Option Value} {x : Str} {v : Value} (F : Fr h₀ L h m) (e : m x = some v) : Fr h₀ L h (fun y => if y = x then some v else m y) := by
  have : (fun y => if y = x then some v else m y) = m := by
    funext y; by_cases q : y = x
    · subst q; simp [e]
    · simp [q]
  rw [this]; exact F
theorem off_of_lt {T : List (Addr × Obj)} {d : Addr} (h : AllLt d T) : ∀ p ∈ T, p.1 ≠ d := by
  induction T with
  | nil => intro p hp; cases hp
  | cons q r ih =>
    intro p hp
    rcases List.mem_cons.mp hp with e | hp
    · subst e; exact Nat.ne_of_lt h.1
    · exact ih h.2 p hp
theorem lt_of_allLt {T : List (Addr × Obj)} {d : Addr} (h : AllLt d T) : ∀ p ∈ T, p.1 < d := by
  induction T with
  | nil => intro p hp; cases hp
  | cons q r ih =>
    intro p hp
    rcases List.mem_cons.mp hp with e | hp
    · subst e; exact h.1
    · exact ih h.2 p hp

theorem isList_of {h₀ h : Heap} {L l : Addr} {vs : List Value} {k : Nat} {news : List (Addr × Obj)} (N : News h₀ L h news) (hm : (l, listOf vs.toArray k) ∈ news) : h.IsList l vs.toArray := ⟨_, (N _ hm).1, rfl, k, rfl⟩
noncomputable abbrev tupO (vs : List Value) (n : Nat := 0) : Obj := { cls := .type "tuple", data := .seq vs.toArray n }
/-- an int that a value bears, its token told by f -/
noncomputable def Okv (f : Tok → Int) (v : Value) (n : Int) : Prop := ∃ t, v = .int n t ∧ t ≠ 0 ∧ f t = n
inductive IntsF (f : Tok → Int) : List Value → List Int → Prop
  | nil : IntsF f [] []
  | cons {v : Value} {n : Int} {vs : List Value} {ns : List Int} : Okv f v n → IntsF f vs ns → IntsF f (v :: vs) (n :: ns)
section
variable {f : Tok → Int} {vs ws : List Value} {ns ms : List Int}
theorem IntsF.ints (h : IntsF f vs ns) : IntsAre vs ns := by
  induction h with
  | nil => exact .nil
  | cons a _ ih => obtain ⟨t, rfl, _⟩ := a; exact .cons _ _ ih
theorem IntsF.length (h : IntsF f vs ns) : vs.length = ns.length := by
  induction h with
  | nil => rfl
  | cons _ _ ih => simp [ih]
theorem IntsF.append (h : IntsF f vs ns) (k : IntsF f ws ms) : IntsF f (vs ++ ws) (ns ++ ms) := by
  induction h with
  | nil => exact k
  | cons a _ ih => exact .cons a ih
theorem IntsF.push {v : Value} {n : Int} (h : IntsF f vs ns) (k : Okv f v n) : IntsF f (vs ++ [v]) (ns ++ [n]) := h.append (.cons k .nil)
theorem IntsF.drop (h : IntsF f vs ns) (k : Nat) : IntsF f (vs.drop k) (ns.drop k) := by
  induction h generalizing k with
  | nil => simp; exact .nil
  | cons a r ih => cases k with
    | zero => exact .cons a r
    | succ k => simpa using ih k
theorem IntsF.take (h : IntsF f vs ns) (k : Nat) : IntsF f (vs.take k) (ns.take k) := by
  induction h generalizing k with
  | nil => simp; exact .nil
  | cons a r ih => cases k with
    | zero => simp; exact .nil
    | succ k => simpa using .cons a (ih k)
theorem IntsF.at (h : IntsF f vs ns) {i : Nat} {v : Value} (hv : vs[i]? = some v) : ∃ n, ns[i]? = some n ∧ Okv f v n := by
  induction h generalizing i with
  | nil => simp at hv
  | cons a _ ih => cases i with
    | zero => simp at hv; subst hv; exact ⟨_, rfl, a⟩
    | succ i => simpa using ih (by simpa using hv)
theorem IntsF.at' (h : IntsF f vs ns) {i : Nat} {n : Int} (hn : ns[i]? = some n) : ∃ v, vs[i]? = some v ∧ Okv f v n := by
  induction h generalizing i with
  | nil => simp at hn
  | cons a _ ih => cases i with
    | zero => simp at hn; subst hn; exact ⟨_, rfl, a⟩
    | succ i => simpa using ih (by simpa using hn)
theorem IntsF.mono {f' : Tok → Int} {b : Nat} (h : IntsF f vs ns) (hb : ∀ n t, Value.int n t ∈ vs → t < b) (hf : ∀ t, t < b → f' t = f t) : IntsF f' vs ns := by
  induction h with
  | nil => exact .nil
  | cons a _ ih =>
    refine hideG fun kG => ?_
    obtain ⟨t, rfl, h0, h1⟩ := a
    refine kG ?_
    clear kG
    exact .cons ⟨t, rfl, h0, by rw [hf t (hb _ t (.head _)), h1]⟩ (ih fun n t hm => hb n t (.tail _ hm))
end
/-- a list of pairs of ints: each a tuple of the ledger -/
inductive PairsIn (ok : Value → Int → Prop) (T : List (Addr × Obj)) : List Value → List (Int × Int) → Prop
  | nil : PairsIn ok T [] []
  | cons {a : Addr} {x y : Int} {u v : Value} {n : Nat} {vs : List Value} {ps : List (Int × Int)} : (a, tupO [u, v] n) ∈ T → ok u x → ok v y → PairsIn ok T vs ps → PairsIn ok T (.ref a :: vs) ((x, y) :: ps)
section
variable {ok ok' : Value → Int → Prop} {T T' : List (Addr × Obj)} {vs : List Value} {ps : List (Int × Int)}
theorem PairsIn.mono (h : PairsIn ok T vs ps) (k : ∀ p ∈ T, p ∈ T') : PairsIn ok T' vs ps := by
  induction h with
  | nil => exact .nil
  | cons a b c _ ih => exact .cons (k _ a) b c ih
theorem PairsIn.imp (h : PairsIn ok T vs ps) (k : ∀ v n, ok v n → ok' v n) : PairsIn ok' T vs ps := by
  induction h with
  | nil => exact .nil
  | cons a b c _ ih => exact .cons a (k _ _ b) (k _ _ c) ih
theorem PairsIn.length (h : PairsIn ok T vs ps) : vs.length = ps.length := by
  induction h with
  | nil => rfl
  | cons _ _ _ _ ih => simp [ih]
theorem PairsIn.push {a : Addr} {x y : Int} {u v : Value} {n : Nat} (h : PairsIn ok T vs ps) (k : (a, tupO [u, v] n) ∈ T) (hu : ok u x) (hv : ok v y) : PairsIn ok T (vs ++ [.ref a]) (ps ++ [(x, y)]) := by
  induction h with
  | nil => exact .cons k hu hv .nil
  | cons b c d _ ih => exact .cons b c d ih
theorem PairsIn.get (h : PairsIn ok T vs ps) {i : Nat} {v : Value} (hv : vs[i]? = some v) : ∃ a x y u v' n, v = .ref a ∧ ps[i]? = some (x, y) ∧ (a, tupO [u, v'] n) ∈ T ∧ ok u x ∧ ok v' y := by
  induction h generalizing i with
  | nil => simp at hv
  | @cons a x y u v' n vs ps b c d _ ih =>
    cases i with
    | zero => simp at hv; exact ⟨a, x, y, u, v', n, hv.symm, rfl, b, c, d⟩
    | succ i => simpa using ih (by simpa using hv)
end
/-- as Okv, the token under a bound -/
noncomputable def OkB (f : Tok → Int) (b : Nat) (v : Value) (n : Int) : Prop := ∃ t, v = .int n t ∧ t ≠ 0 ∧ f t = n ∧ t < b
theorem OkB.okv {f : Tok → Int} {b : Nat} {v : Value} {n : Int} (h : OkB f b v n) : Okv f v n := let ⟨t, a, c, d, _⟩ := h; ⟨t, a, c, d⟩
theorem OkB.upd {f : Tok → Int} {b b' t1 t2 : Nat} {x y : Int} {v : Value} {n : Int} (h : OkB f b v n) (h1 : b ≤ t1) (h2 : b ≤ t2) (hb : b ≤ b') : OkB (fun t => if t = t1 then x else if t = t2 then y else f t) b' v n := by
  refine hideG fun kG => ?_
  obtain ⟨t, a, c, d, e⟩ := h
  refine kG ?_
  clear kG
  refine ⟨t, a, c, ?_, Nat.lt_of_lt_of_le e hb⟩
  show (if t = t1 then x else if t = t2 then y else f t) = n
  rw [if_neg (Nat.ne_of_lt (Nat.lt_of_lt_of_le e h1)), if_neg (Nat.ne_of_lt (Nat.lt_of_lt_of_le e h2))]; exact d
theorem is_int {M : Model} {A : Around} {E : Value → Shared → Prop} {s : Shared} {f : Tok → Int} {n b : Int} {t u : Tok} {Q : Value → Shared → Prop} (h1 : Okv f (.int n t) n) (h2 : Okv f (.int b u) b) (hs : smallInt n = true)
    (h : Q (.bool (decide (n = b))) s) : wpAny M A (compareOp .Is (.int n t) (.int b u)) Q E s := by
  refine hideG fun kG => ?_
  obtain ⟨t', e1, ht, hf⟩ := h1
  obtain ⟨u', e2, hu, hg⟩ := h2
  refine kG ?_
  clear kG
  cases e1
  cases e2
  show wpAny M A (isSame (.int n t) (.int b u) >>= fun r => pure (.bool r)) Q E s
  have ht' : (t == 0) = false := by simpa using ht
  have hu' : (u == 0) = false := by simpa using hu
  have e0 : isSame (.int n t) (.int b u) = (if n == b && smallInt n then isSame.cachedInt t u else isSame.created (n == b) t u) := rfl
  by_cases e : n = b
  · subst e
    have : isSame (.int n t) (.int n u) = (do rule "is.small-int-cache"; pure true) := by
      rw [e0]; simp [isSame.cachedInt, hs, ht', hu']
    rw [this]
    refine wpAny_bind (wpAny_bind (wpAny_rule (wpAny_pure (wpAny_pure ?_))))
    simpa using h
  · have htu : (t == u) = false := by
      simp only [beq_eq_false_iff_ne, ne_eq]
      intro q; subst q; exact e (hf.symm.trans hg)
    have : isSame (.int n t) (.int b u) = pure false := by
      rw [e0]; simp [isSame.created, e, ht', hu', htu]
    rw [this]
    refine wpAny_bind (wpAny_pure (wpAny_pure ?_))
    simpa [e] using h

section loops
variable {σ : Type} {prog : Program} {w : World} {A : Around} {E : Value → Shared → Prop} {s : Shared} {env : Env} {h₀ : Heap} {R : Result → Shared → Prop} {target : Expr} {body orelse : List Stmt}

theorem assign_pair {xi xc : Str} {pk pv pt : Pos} {x1 : Nat} {m : Str → Option Value} {news : List (Addr × Obj)} {T : Addr} {v0 v1 : Value} {n : Nat} {Q : Unit → Shared → Prop} (hh : A.handled = none)
    (F : Fr h₀ env.locals s.heap m) (N : News h₀ env.locals s.heap news) (ht : (T, tupO [v0, v1] n) ∈ news) (hxi : env.kindOf xi = some .local) (hxc : env.kindOf xc = some .local)
    (hp : (env.scope.kind == .class || (env.scope.kind == .module && env.locals != env.globals)) = false)
    (h : ∀ h', Fr h₀ env.locals h' (fun y => if y = xc then some v1 else if y = xi then some v0 else m y) → News h₀ env.locals h' news → Q () { s with heap := h', toks := s.toks + 1 + 1 }) :
    wpAny (model prog w) A (assign (.Tuple [.Name xi pk, .Name xc pv] x1 pt) env (.ref T)) Q E s := by
  have ht₂ : s.heap.IsTuple T #[v0, v1] := ⟨_, (N _ ht).1, rfl, n, rfl⟩
  refine wpAny_assign_Tuple hh ht₂ rfl rfl fun h₃ hx₃ => ?_
  have up₃ : ∀ b o, s.heap.get? b = some o → h₃.get? b = some o := fun b o x => hx₃ b o (Nat.ne_of_lt (Heap.lt_size x)) x
  have F₃ : Fr h₀ env.locals h₃ m := ⟨F.ns.at' fun o e => up₃ _ o e, fun b o e => up₃ b o (F.keep b o e), F.above⟩
  have N₃ : News h₀ env.locals h₃ news := fun p hp => ⟨up₃ _ _ (N p hp).1, (N p hp).2⟩
  show wpAny _ A (do holding [v1] (assign (.Name xi pk) env v0); do holding [] (assign (.Name xc pv) env v1); pure ()) _ _ _
  refine wpAny_bind (wpAny_holding (wpAny_assign_Name (wpAny_storeName_local hxi F₃.ns (fun h₄ hn₄ hs₄ => ?_) hp)))
  replace hs₄ : Heap.SameBut env.locals h₃ h₄ := hs₄
  have F₄ := F₃.set hn₄ hs₄
  refine wpAny_bind (wpAny_holding (wpAny_assign_Name (wpAny_storeName_local hxc F₄.ns (fun h₅ hn₅ hs₅ => wpAny_pure ?_) hp)))
  replace hs₅ : Heap.SameBut env.locals h₄ h₅ := hs₅
  exact h h₅ (F₄.set hn₅ hs₅) ((N₃.set hs₄).set hs₅)

theorem forT2 {xi xc : Str} {pk pv pt : Pos} {x1 : Nat} {I : Addr} {fp wr : List Addr} {n : Nat} {Pt : Nat → Array Value → Prop} {St : Nat → Heap → Prop} {Mid : Nat → Addr → Heap → Prop}
    {P2 : Nat → Value → Value → Prop} {m : Str → Option Value} (hh : A.handled = none) (W : WalksT prog w A I fp wr n Pt St Mid) (h2 : ∀ i vals, Pt i vals → ∃ v0 v1, vals = #[v0, v1] ∧ P2 i v0 v1)
    (Led : σ → List (Addr × Obj)) (adr : List Addr) (P : Nat → σ → (Str → Option Value) → List (Addr × Obj) → Nat → Prop) (c₀ : σ) (T₀ : List (Addr × Obj))
    (hadr : ∀ c, (Led c).map (·.1) = adr) (hxi : env.kindOf xi = some .local) (hxc : env.kindOf xc = some .local)
    (hp : (env.scope.kind == .class || (env.scope.kind == .module && env.locals != env.globals)) = false) (hLf : env.locals ∉ fp) (hwr : ∀ b ∈ wr, h₀.get? b = none) (hob : ∀ i h, St i h → ∀ b ∈ wr, ∃ o, h.get? b = some o) (hfa : ∀ b ∈ fp, b ∉ adr)
    (hst : St 0 s.heap) (F : Fr h₀ env.locals s.heap m) (N : News h₀ env.locals s.heap (Led c₀ ++ T₀)) (hnw : ∀ p ∈ T₀, p.1 ∉ wr) (hoff : OwnOff T₀ adr) (h0 : P 0 c₀ m T₀ s.toks)
    (turn : ∀ i v0 v1 c m₁ T own h tk₀ tk, i < n → P2 i v0 v1 → P i c m₁ T tk₀ → tk₀ ≤ tk → Grown T₀ T → OwnOff (T ++ own) adr → Fr h₀ env.locals h (fun y => if y = xc then some v1 else if y = xi then some v0 else m₁ y) → News h₀ env.locals h (Led c ++ (T ++ own)) →
      wpAny (model prog w) A (execs body env) (LpPost h₀ env.locals adr Led own T (P (i + 1)) R s) (notedBy (model prog w) A env fun e s' => R (.error e) s') { s with heap := h, toks := tk })
    (done : ∀ c m₁ T h tk₀ tk, P n c m₁ T tk₀ → tk₀ ≤ tk → Grown T₀ T → OwnOff T adr → Fr h₀ env.locals h m₁ → News h₀ env.locals h (Led c ++ T) →
      wpAny (model prog w) A (execs orelse env) (fun f s₃ => R (.ok f) s₃) (notedBy (model prog w) A env fun e s' => R (.error e) s') { s with heap := h, toks := tk }) :
    codeAny (model prog w) A (.forLoop (.Tuple [.Name xi pk, .Name xc pv] x1 pt) (.ref I) body orelse env) R s := by
  have hLw : env.locals ∉ wr := fun h => hLf (W.sub _ h)
  have old : ∀ b o, h₀.get? b = some o → b ∉ wr := fun b o e hb => by rw [hwr b hb] at e; cases e
  have hLa : ∀ c, ∀ p ∈ Led c, p.1 ∉ wr := fun c p hp hb => hfa _ (W.sub _ hb) (by rw [← hadr c]; exact List.mem_map_of_mem hp)
  refine codeAny_forLoop_any
    (fun k s' => ∃ h' tk m' c T i, s' = { s with heap := h', toks := tk } ∧ St i h' ∧ Fr h₀ env.locals h' m' ∧ News h₀ env.locals h' (Led c ++ T) ∧ (∀ p ∈ T, p.1 ∉ wr) ∧ Grown T₀ T ∧ OwnOff T adr ∧ P i c m' T tk ∧ i ≤ n ∧ k = n + 1 - i) ?_ (n + 1)
    ⟨s.heap, s.toks, m, c₀, T₀, 0, rfl, hst, F, N, hnw, Grown.refl _, hoff, h0, Nat.zero_le _, rfl⟩
  intro k s' zr2
  refine hideG fun kG => ?_
  obtain ⟨H, tk, m', c, T, i, rfl, hst', F', N', hnw', hsub, hoff', hP, hi, rfl⟩ := zr2
  refine kG ?_
  clear kG
  have next : ∀ h₁ : Heap, (∀ b o, b ∉ wr → H.get? b = some o → h₁.get? b = some o) → Fr h₀ env.locals h₁ m' ∧ News h₀ env.locals h₁ (Led c ++ T) := fun h₁ hk₁ =>
    ⟨⟨F'.ns.at' fun o e => hk₁ _ o hLw e, fun b o e => hk₁ b o (old b o e) (F'.keep b o e), F'.above⟩, fun p hp => ⟨hk₁ _ _ ((List.mem_append.mp hp).elim (hLa c p) (hnw' p)) (N' p hp).1, (N' p hp).2⟩⟩
  by_cases hlt : i < n
  · refine wpAny_with_toks (n := tk) (Nat.le_refl _) (W.item i _ _ _ hlt hst' fun TT vals h₁ tk₁ hPt _ hT hMid hk₁ htk => ?_)
    refine hideG fun kG => ?_
    obtain ⟨v0, v1, rfl, hP2⟩ := h2 i vals hPt
    refine kG ?_
    clear kG
    refine W.go _ x1 pt i TT _ _ _ hMid fun h₂ hst₂ hk₂ => ?_
    have ht₂ : h₂.IsTuple TT #[v0, v1] := hT.at fun o e => hk₂ TT o (W.apart i TT h₁ hMid) e
    refine wpAny_assign_Tuple hh ht₂ rfl rfl fun h₃ hx₃ => ?_
    replace hx₃ : Heap.ExtBut h₂.objs.size h₂ h₃ := hx₃
    have up₃ : ∀ b o, h₂.get? b = some o → h₃.get? b = some o := fun b o x => hx₃ b o (Nat.ne_of_lt (Heap.lt_size x)) x
    obtain ⟨F₃, N₃⟩ := next h₃ fun b o hb x => up₃ b o (hk₂ b o hb (hk₁ b o hb x))
    show wpAny _ A (do holding [v1] (assign (.Name xi pk) env v0); do holding [] (assign (.Name xc pv) env v1); pure ()) _ _ _
    refine wpAny_bind (wpAny_holding (wpAny_assign_Name (wpAny_storeName_local hxi F₃.ns (fun h₄ hn₄ hs₄ => ?_) hp)))
    replace hs₄ : Heap.SameBut env.locals h₃ h₄ := hs₄
    have F₄ := F₃.set hn₄ hs₄
    refine wpAny_bind (wpAny_holding (wpAny_assign_Name (wpAny_storeName_local hxc F₄.ns (fun h₅ hn₅ hs₅ => wpAny_pure ?_) hp)))
    replace hs₅ : Heap.SameBut env.locals h₄ h₅ := hs₅
    have F₅ := F₄.set hn₅ hs₅
    have N₅ : News h₀ env.locals h₅ (Led c ++ T) := (N₃.set hs₄).set hs₅
    have hst₅ : St (i + 1) h₅ := W.frame _ _ _ hst₂ fun b hb o e => hs₅.extBut b o (fun q => hLf (q ▸ hb)) (hs₄.extBut b o (fun q => hLf (q ▸ hb)) (up₃ b o e))
    have hofp : ∀ p ∈ ownOf h₀ fp h₅, p.1 ∈ fp := fun p hp => ownOf_sub p hp
    have NN : News h₀ env.locals h₅ (Led c ++ (T ++ ownOf h₀ fp h₅)) := by
      rw [← List.append_assoc]; exact N₅.append (news_ownOf hLf)
    have hofa : OwnOff (T ++ ownOf h₀ fp h₅) adr := fun p hp b hb => (List.mem_append.mp hp).elim (fun q => hoff' p q b hb) (fun q e => hfa _ (hofp p q) (e ▸ hb))
    refine wpAny_mono (turn i v0 v1 c m' T (ownOf h₀ fp h₅) h₅ tk _ hlt hP2 hP (Nat.le_succ_of_le (Nat.le_succ_of_le htk)) hsub hofa F₅ NN) (fun f s₃ h₆ => ?_) fun _ _ e => e
    have fin : LpEnd h₀ env.locals adr Led (ownOf h₀ fp h₅) T (P (i + 1)) s s₃ → ∃ m, m < n + 1 - i ∧ ∃ h' tk m' c T i, s₃ = { s with heap := h', toks := tk } ∧ St i h' ∧ Fr h₀ env.locals h' m' ∧ News h₀ env.locals h' (Led c ++ T) ∧ (∀ p ∈ T, p.1 ∉ wr) ∧ Grown T₀ T ∧ OwnOff T adr ∧ P i c m' T tk ∧ i ≤ n ∧ m = n + 1 - i := by
      intro zr0
      refine hideG fun kG => ?_
      obtain ⟨c', m₃, add, h₃', tk₃, news', rfl, F₃, N₃, hin, ha, hao, hP₃⟩ := zr0
      refine kG ?_
      clear kG
      refine ⟨n + 1 - (i + 1), by omega, h₃', tk₃, m₃, c', add ++ T, i + 1, rfl, ?_, F₃, fun p hp => N₃ p (hin p ?_), ?_, hsub.more (fun q hq p hp => hao q hq p (List.mem_append_left _ hp)), ?_, hP₃, hlt, rfl⟩
      · refine W.frame _ _ _ hst₅ fun b hb o e => ?_
        cases hn : h₀.get? b with
        | some o₀ =>
          have : o₀ = o := by have := F₅.keep b o₀ hn; rw [e] at this; exact (Option.some.inj this).symm
          exact this ▸ F₃.keep b o₀ hn
        | none => exact (N₃ _ (hin _ (List.mem_append_right _ (List.mem_append_right _ (List.mem_append_right _ (mem_ownOf hb hn e)))))).1
      · rcases List.mem_append.mp hp with q | q
        · exact List.mem_append_left _ q
        · refine List.mem_append_right _ ?_
          rcases List.mem_append.mp q with q | q
          · exact List.mem_append_left _ q
          · exact List.mem_append_right _ (List.mem_append_left _ q)
      · intro p hp hb
        rcases List.mem_append.mp hp with q | q
        · obtain ⟨o, ho⟩ := hob _ _ hst₅ _ hb
          exact absurd (hao p q _ (List.mem_append_right _ (mem_ownOf (W.sub _ hb) (hwr _ hb) ho))) (Nat.lt_irrefl _)
        · exact hnw' p q hb
      · intro p hp b hb
        rcases List.mem_append.mp hp with q | q
        · exact ha p q b hb
        · exact hoff' p q b hb
    cases f with
    | ret v => exact h₆
    | brk => exact h₆
    | cont => exact fin h₆
    | next => exact fin h₆
  · have hin : i = n := by omega
    subst hin
    refine wpAny_with_toks (n := tk) (Nat.le_refl _) (W.done _ _ _ hst' fun h₁ tk₁ hk₁ htk => ?_)
    obtain ⟨F₁, N₁⟩ := next h₁ hk₁
    exact done c m' T h₁ tk tk₁ hP htk hsub hoff' F₁ N₁

theorem iterEnum {xi xc : Str} {pk pv pt : Pos} {x1 : Nat} {l : Addr} {vs : List Value} {k : Nat} {m : Str → Option Value}
    (Led : σ → List (Addr × Obj)) (adr : List Addr) (P : Nat → σ → (Str → Option Value) → List (Addr × Obj) → Nat → Prop) (c₀ : σ) (T₀ : List (Addr × Obj))
    (hh : A.handled = none) (hadr : ∀ c, (Led c).map (·.1) = adr) (hxi : env.kindOf xi = some .local) (hxc : env.kindOf xc = some .local)
    (hp : (env.scope.kind == .class || (env.scope.kind == .module && env.locals != env.globals)) = false) (F : Fr h₀ env.locals s.heap m) (N : News h₀ env.locals s.heap (Led c₀ ++ T₀)) (hl : (l, listOf vs.toArray k) ∈ T₀) (hoff : OwnOff T₀ adr) (h0 : P 0 c₀ m T₀ s.toks)
    (turn : ∀ i v1 t c m₁ T own h tk₀ tk, vs[i]? = some v1 → P i c m₁ T tk₀ → tk₀ ≤ tk → Grown T₀ T → OwnOff (T ++ own) adr → Fr h₀ env.locals h (fun y => if y = xc then some v1 else if y = xi then some (.int i t) else m₁ y) → News h₀ env.locals h (Led c ++ (T ++ own)) →
      wpAny (model prog w) A (execs body env) (LpPost h₀ env.locals adr Led own T (P (i + 1)) R s) (notedBy (model prog w) A env fun e s' => R (.error e) s') { s with heap := h, toks := tk })
    (done : ∀ c m₁ T h tk₀ tk, P vs.length c m₁ T tk₀ → tk₀ ≤ tk → Grown T₀ T → OwnOff T adr → Fr h₀ env.locals h m₁ → News h₀ env.locals h (Led c ++ T) →
      wpAny (model prog w) A (execs orelse env) (fun f s₃ => R (.ok f) s₃) (notedBy (model prog w) A env fun e s' => R (.error e) s') { s with heap := h, toks := tk }) :
    wpAny (model prog w) A (call (.type "enumerate") [.ref l]) (fun xv s₁ => wpAny (model prog w) A (pyIter xv) (fun it s₂ => codeAny (model prog w) A (.forLoop (.Tuple [.Name xi pk, .Name xc pv] x1 pt) it body orelse env) R s₂) E s₁) E s := by
  have hol : s.heap.get? l = some (listOf vs.toArray k) := (N _ (List.mem_append_right _ hl)).1
  have hls : s.heap.IsList l vs.toArray := ⟨_, hol, rfl, k, rfl⟩
  have hLs : env.locals < s.heap.objs.size := F.ns.lt
  have hab : h₀.objs.size ≤ env.locals := F.above
  have hl2 : l < s.heap.objs.size := Heap.lt_size hol
  have hlL : l ≠ env.locals := (N _ (List.mem_append_right _ hl)).2.1
  have hlt : ∀ p ∈ Led c₀ ++ T₀, p.1 < s.heap.objs.size := fun p hp => Heap.lt_size (N p hp).1
  refine call_enumerate_list hls fun h' he hit hsz hk => ?_
  have F' : Fr h₀ env.locals h' m := ⟨F.ns.keeps hk, fun b o e => hk b o (F.keep b o e), F.above⟩
  have N' : News h₀ env.locals h' (Led c₀ ++ T₀) := fun p hp => ⟨hk _ _ (N p hp).1, (N p hp).2⟩
  refine wpAny_pyIter_enum he ?_
  have hef : s.heap.objs.size + 1 ∉ [s.heap.objs.size, l] := by
    intro hm
    rcases List.mem_cons.mp hm with e | hm
    · exact Nat.succ_ne_self _ e
    · exact Nat.ne_of_gt (Nat.lt_succ_of_lt hl2) (List.mem_singleton.mp hm)
  have hlen : vs.toArray.size = vs.length := by simp
  have WT := WalksT.enumerateD (prog := prog) (w := w) (Draws.list (A := A.in1) hh s.heap.objs.size l (Nat.ne_of_lt hl2) vs.toArray) (s.heap.objs.size + 1) (Nat.succ_ne_self _) hef (by simp)
  rw [hlen] at WT
  refine forT2 (s := { s with heap := h' }) (P2 := fun i v0 v1 => ∃ t, v0 = .int i t ∧ vs[i]? = some v1) hh WT ?_ Led adr P c₀ T₀ hadr hxi hxc hp ?_ ?_ ?_ ?_ ⟨⟨_, by simpa using he⟩, hit, hls.at fun o e => hk l o e⟩ F' N' ?_ hoff h0
    (fun i v0 v1 c m₁ T own h tk₀ tk _ hv => ?_) done
  · intro i vals zr2
    refine hideG fun kG => ?_
    obtain ⟨t, x, hx, rfl⟩ := zr2
    refine kG ?_
    clear kG
    exact ⟨_, _, rfl, t, rfl, by simpa using hx⟩
  · intro hm
    rcases List.mem_cons.mp hm with e | hm
    · exact Nat.ne_of_lt (Nat.lt_succ_of_lt hLs) e
    · rcases List.mem_cons.mp hm with e | hm
      · exact Nat.ne_of_lt hLs e
      · exact hlL (List.mem_singleton.mp hm).symm
  · intro b hb
    rcases List.mem_cons.mp hb with e | hb
    · rw [e]; exact Heap.get?_none_of_le (Nat.le_trans hab (Nat.le_of_lt (Nat.lt_succ_of_lt hLs)))
    · rw [List.mem_singleton.mp hb]; exact Heap.get?_none_of_le (Nat.le_trans hab (Nat.le_of_lt hLs))
  · intro i h zr2 b hb
    refine hideG fun kG => ?_
    obtain ⟨⟨old, hE⟩, ⟨o, ho, _⟩, _⟩ := zr2
    refine kG ?_
    clear kG
    rcases List.mem_cons.mp hb with e | hb
    · exact ⟨_, by rw [e]; exact hE⟩
    · exact ⟨o, by rw [List.mem_singleton.mp hb]; exact ho⟩
  · intro b hb ha
    have ha' := ha
    rw [← hadr c₀] at ha'
    refine hideG fun kG => ?_
    obtain ⟨q, hq, hq1⟩ := List.mem_map.mp ha'
    refine kG ?_
    clear kG
    have hq2 := hlt q (List.mem_append_left _ hq)
    rw [hq1] at hq2
    rcases List.mem_cons.mp hb with e | hb
    · rw [e] at hq2; exact absurd hq2 (by exact Nat.not_lt.mpr (Nat.le_succ _))
    · rcases List.mem_cons.mp hb with e | hb
      · rw [e] at hq2; exact absurd hq2 (Nat.lt_irrefl _)
      · exact hoff _ hl b ha (List.mem_singleton.mp hb).symm
  · intro p hp hb
    have h1 := hlt p (List.mem_append_right _ hp)
    rcases List.mem_cons.mp hb with e | hb
    · rw [e] at h1; exact absurd h1 (by exact Nat.not_lt.mpr (Nat.le_succ _))
    · rw [List.mem_singleton.mp hb] at h1; exact absurd h1 (Nat.lt_irrefl _)
  · refine hideG fun kG => ?_
    obtain ⟨t, rfl, hv⟩ := hv
    refine kG ?_
    clear kG
    exact turn i v1 t c m₁ T own h tk₀ tk hv

theorem iterTuple {l : Addr} {vs : List Value} {k : Nat} {m : Str → Option Value}
    (Led : σ → List (Addr × Obj)) (adr : List Addr) (P : Nat → σ → (Str → Option Value) → List (Addr × Obj) → Nat → Prop) (c₀ : σ) (T₀ : List (Addr × Obj))
    (hh : A.handled = none) (hadr : ∀ c, (Led c).map (·.1) = adr) (F : Fr h₀ env.locals s.heap m) (N : News h₀ env.locals s.heap (Led c₀ ++ T₀)) (hl : (l, tupO vs k) ∈ T₀) (hoff : OwnOff T₀ adr) (h0 : P 0 c₀ m T₀ s.toks)
    (turn : ∀ i v c m₁ T own h tk₀ tk, vs[i]? = some v → P i c m₁ T tk₀ → tk₀ ≤ tk → Grown T₀ T → OwnOff (T ++ own) adr → Fr h₀ env.locals h m₁ → News h₀ env.locals h (Led c ++ (T ++ own)) →
      wpAny (model prog w) A (assign target env v) (fun _ s₂ => wpAny (model prog w) A (execs body env) (LpPost h₀ env.locals adr Led own T (P (i + 1)) R s) (notedBy (model prog w) A env fun e s' => R (.error e) s') s₂) (notedBy (model prog w) A env fun e s' => R (.error e) s') { s with heap := h, toks := tk })
    (done : ∀ c m₁ T h tk₀ tk, P vs.length c m₁ T tk₀ → tk₀ ≤ tk → Grown T₀ T → OwnOff T adr → Fr h₀ env.locals h m₁ → News h₀ env.locals h (Led c ++ T) →
      wpAny (model prog w) A (execs orelse env) (fun f s₃ => R (.ok f) s₃) (notedBy (model prog w) A env fun e s' => R (.error e) s') { s with heap := h, toks := tk }) :
    wpAny (model prog w) A (pyIter (.ref l)) (fun it s₂ => codeAny (model prog w) A (.forLoop target it body orelse env) R s₂) E s := by
  have hol : s.heap.get? l = some (tupO vs k) := (N _ (List.mem_append_right _ hl)).1
  have hls : s.heap.IsTuple l vs.toArray := ⟨_, hol, rfl, k, rfl⟩
  have hne : l ≠ s.heap.objs.size := Nat.ne_of_lt (Heap.lt_size hol)
  refine wpAny_pyIter_tuple hls ?_
  have Wk := Walks.tuple (prog := prog) (w := w) hh s.heap.objs.size l hne vs.toArray
  have hlen : vs.toArray.size = vs.length := by simp
  rw [hlen] at Wk
  have hlt : ∀ p ∈ Led c₀ ++ T₀, p.1 ≠ s.heap.objs.size := fun p hp => Nat.ne_of_lt (Heap.lt_size (N p hp).1)
  refine forW (s := { s with heap := s.heap.push _ }) Wk Led adr P c₀ T₀ hadr ?_ ?_ ?_ ?_ (fun i s' v Q' hs' hq => letGo_tupleiter hs'.1 hq) ⟨⟨_, Heap.get?_push_size _ rfl, rfl, rfl⟩, hls.at fun o e => Heap.get?_push_of_some _ e⟩ (F.push _) (fun p hp => ⟨Heap.get?_push_of_some _ (N p hp).1, (N p hp).2⟩) ?_ hoff h0 (fun i v c m₁ T own h tk₀ tk _ hv => turn i v c m₁ T own h tk₀ tk (by simpa using hv)) done
  · intro hm
    rcases List.mem_cons.mp hm with e | hm
    · exact absurd F.ns.lt (e ▸ Nat.lt_irrefl _)
    · exact (N _ (List.mem_append_right _ hl)).2.1 ((List.mem_singleton.mp hm).symm)
  · intro b hb
    rw [List.mem_singleton.mp hb]
    exact next_is_new F
  · intro i h hs b hb
    refine hideG fun kG => ?_
    obtain ⟨⟨o, ho, _⟩, _⟩ := hs
    refine kG ?_
    clear kG
    exact ⟨o, by rw [List.mem_singleton.mp hb]; exact ho⟩
  · intro b hb ha
    rcases List.mem_cons.mp hb with e | hm
    · rw [← hadr c₀] at ha
      refine hideG fun kG => ?_
      obtain ⟨q, hq, hq1⟩ := List.mem_map.mp ha
      refine kG ?_
      clear kG
      exact hlt q (List.mem_append_left _ hq) (hq1.trans e)
    · exact hoff _ hl b ha (List.mem_singleton.mp hm).symm
  · intro p hp hI
    exact hlt p (List.mem_append_right _ hp) (List.mem_singleton.mp hI)

theorem go_any {E : Value → Shared → Prop} {target : Expr} {I : Addr} {o : Obj} {v : Value} {Q' : Unit → Shared → Prop} {s' : Shared} (ho : s'.heap.get? I = some o) (hc : ∃ n vs, o.cls = .type n ∧ o.data = .fields vs ∧ ["enumerate", "zip", "dict_itemiterator", "dict_reverseitemiterator", "odict_iterator", "itertools.zip_longest", "itertools.pairwise"].contains n = false) (h : Q' () s') :
    wpAny (model prog w) A (letOwnedTupleGo target (.ref I) v) Q' E s' := by
  refine hideG fun kG => ?_
  obtain ⟨n, vs, hc, hd, hn⟩ := hc
  refine kG ?_
  clear kG
  unfold letOwnedTupleGo
  cases target <;> first
    | exact wpAny_pure h
    | (cases v <;> first
        | exact wpAny_pure h
        | (refine wpAny_bind (wpAny_load ho ?_)
           rw [hc, hd]
           dsimp only
           rw [hn, Bool.false_and, if_neg Bool.false_ne_true]
           exact wpAny_pure h))

theorem iterRange {r : Addr} {n : Nat} {t₀ u₀ v₀ : Tok} {m : Str → Option Value}
    (Led : σ → List (Addr × Obj)) (adr : List Addr) (P : Nat → σ → (Str → Option Value) → List (Addr × Obj) → Nat → Prop) (c₀ : σ) (T₀ : List (Addr × Obj))
    (hh : A.handled = none) (hadr : ∀ c, (Led c).map (·.1) = adr) (hr : IsRange s.heap r 0 (n : Int) 1 t₀ u₀ v₀) (hn : n ≤ 1000) (F : Fr h₀ env.locals s.heap m) (N : News h₀ env.locals s.heap (Led c₀ ++ T₀)) (hoff : OwnOff T₀ adr) (h0 : P 0 c₀ m T₀ s.toks)
    (turn : ∀ i t c m₁ T own h tk₀ tk, i < n → P i c m₁ T tk₀ → tk₀ ≤ tk → Grown T₀ T → OwnOff (T ++ own) adr → Fr h₀ env.locals h m₁ → News h₀ env.locals h (Led c ++ (T ++ own)) →
      wpAny (model prog w) A (assign target env (.int (i : Int) t)) (fun _ s₂ => wpAny (model prog w) A (execs body env) (LpPost h₀ env.locals adr Led own T (P (i + 1)) R s) (notedBy (model prog w) A env fun e s' => R (.error e) s') s₂) (notedBy (model prog w) A env fun e s' => R (.error e) s') { s with heap := h, toks := tk })
    (done : ∀ c m₁ T h tk₀ tk, P n c m₁ T tk₀ → tk₀ ≤ tk → Grown T₀ T → OwnOff T adr → Fr h₀ env.locals h m₁ → News h₀ env.locals h (Led c ++ T) →
      wpAny (model prog w) A (execs orelse env) (fun f s₃ => R (.ok f) s₃) (notedBy (model prog w) A env fun e s' => R (.error e) s') { s with heap := h, toks := tk }) :
    wpAny (model prog w) A (pyIter (.ref r)) (fun it s₂ => codeAny (model prog w) A (.forLoop target it body orelse env) R s₂) E s := by
  have hsmall : Builtin.Range.small 0 (n : Int) 1 = true := small_one (by decide) (by decide) (by omega) (by omega)
  have hsz : Builtin.Range.rangeSize 0 (n : Int) 1 = (n : Int) := by
    simp [Builtin.Range.rangeSize]; omega
  refine wpAny_pyIter_range hr hsmall ?_
  have hlt : ∀ p ∈ Led c₀ ++ T₀, p.1 ≠ s.heap.objs.size := fun p hp => Nat.ne_of_lt (Heap.lt_size (N p hp).1)
  have W : Walks prog w A s.heap.objs.size [s.heap.objs.size] [s.heap.objs.size] n (fun i v => ∃ t, v = .int (0 + i * 1) t)
      (fun i h => IsRangeIter h s.heap.objs.size (0 + (i : Nat) * 1) ((n : Int) - (i : Nat)) 1) := Walks.range hh _ 0 1 n
  refine forW (s := { s with heap := s.heap.push _ }) W Led adr P c₀ T₀ hadr ?_ ?_ ?_ ?_ (fun i s' v Q' hs' hq => go_any hs' ⟨_, _, rfl, rfl, by decide⟩ hq) (by show IsRangeIter _ _ _ _ _; rw [hsz]; simpa using Heap.get?_push_size _ rfl) (F.push _) (fun p hp => ⟨Heap.get?_push_of_some _ (N p hp).1, (N p hp).2⟩) ?_ hoff h0 (fun i v c m₁ T own h tk₀ tk hi hv => ?_) done
  · intro hm
    exact absurd F.ns.lt ((List.mem_singleton.mp hm) ▸ Nat.lt_irrefl _)
  · intro b hb
    rw [List.mem_singleton.mp hb]
    exact next_is_new F
  · intro i h hs b hb
    exact ⟨_, by rw [List.mem_singleton.mp hb]; exact hs⟩
  · intro b hb ha
    rw [← hadr c₀] at ha
    refine hideG fun kG => ?_
    obtain ⟨q, hq, hq1⟩ := List.mem_map.mp ha
    refine kG ?_
    clear kG
    exact hlt q (List.mem_append_left _ hq) (hq1.trans (List.mem_singleton.mp hb))
  · intro p hp hI
    exact hlt p (List.mem_append_right _ hp) (List.mem_singleton.mp hI)
  · obtain ⟨t, rfl⟩ := hv
    rw [show (0 : Int) + (i : Int) * 1 = (i : Int) by omega]
    exact turn i t c m₁ T own h tk₀ tk hi
end loops
theorem fr_pin2 {h₀ h : Heap} {L : Addr} {m : Str → Option Value} {x0 : Str} {v0 : Value} {x1 : Str} {v1 : Value} (F : Fr h₀ L h m) (e0 : m x0 = some v0) (e1 : m x1 = some v1) : Fr h₀ L h (fun y => if y = x0 then some v0 else if y = x1 then some v1 else m y) := by
  have : (fun y => if y = x0 then some v0 else if y = x1 then some v1 else m y) = m := by
    funext y
    by_cases q0 : y = x0
    · simp only [if_pos q0]; rw [q0]; exact e0.symm
    rw [if_neg q0]
    by_cases q1 : y = x1
    · simp only [if_pos q1]; rw [q1]; exact e1.symm
    rw [if_neg q1]
  rw [this]; exact F
theorem fr_pin3 {h₀ h : Heap} {L : Addr} {m : Str → Option Value} {x0 : Str} {v0 : Value} {x1 : Str} {v1 : Value} {x2 : Str} {v2 : Value} (F : Fr h₀ L h m) (e0 : m x0 = some v0) (e1 : m x1 = some v1) (e2 : m x2 = some v2) : Fr h₀ L h (fun y => if y = x0 then some v0 else if y = x1 then some v1 else if y = x2 then some v2 else m y) := by
  have : (fun y => if y = x0 then some v0 else if y = x1 then some v1 else if y = x2 then some v2 else m y) = m := by
    funext y
    by_cases q0 : y = x0
    · simp only [if_pos q0]; rw [q0]; exact e0.symm
    rw [if_neg q0]
    by_cases q1 : y = x1
    · simp only [if_pos q1]; rw [q1]; exact e1.symm
    rw [if_neg q1]
    by_cases q2 : y = x2
    · simp only [if_pos q2]; rw [q2]; exact e2.symm
    rw [if_neg q2]
  rw [this]; exact F
theorem fr_pin4 {h₀ h : Heap} {L : Addr} {m : Str → Option Value} {x0 : Str} {v0 : Value} {x1 : Str} {v1 : Value} {x2 : Str} {v2 : Value} {x3 : Str} {v3 : Value} (F : Fr h₀ L h m) (e0 : m x0 = some v0) (e1 : m x1 = some v1) (e2 : m x2 = some v2) (e3 : m x3 = some v3) : Fr h₀ L h (fun y => if y = x0 then some v0 else if y = x1 then some v1 else if y = x2 then some v2 else if y = x3 then some v3 else m y) := by
  have : (fun y => if y = x0 then some v0 else if y = x1 then some v1 else if y = x2 then some v2 else if y = x3 then some v3 else m y) = m := by
    funext y
    by_cases q0 : y = x0
    · simp only [if_pos q0]; rw [q0]; exact e0.symm
    rw [if_neg q0]
    by_cases q1 : y = x1
    · simp only [if_pos q1]; rw [q1]; exact e1.symm
    rw [if_neg q1]
    by_cases q2 : y = x2
    · simp only [if_pos q2]; rw [q2]; exact e2.symm
    rw [if_neg q2]
    by_cases q3 : y = x3
    · simp only [if_pos q3]; rw [q3]; exact e3.symm
    rw [if_neg q3]
  rw [this]; exact F
theorem fr_pin5 {h₀ h : Heap} {L : Addr} {m : Str → Option Value} {x0 : Str} {v0 : Value} {x1 : Str} {v1 : Value} {x2 : Str} {v2 : Value} {x3 : Str} {v3 : Value} {x4 : Str} {v4 : Value} (F : Fr h₀ L h m) (e0 : m x0 = some v0) (e1 : m x1 = some v1) (e2 : m x2 = some v2) (e3 : m x3 = some v3) (e4 : m x4 = some v4) : Fr h₀ L h (fun y => if y = x0 then some v0 else if y = x1 then some v1 else if y = x2 then some v2 else if y = x3 then some v3 else if y = x4 then some v4 else m y) := by
  have : (fun y => if y = x0 then some v0 else if y = x1 then some v1 else if y = x2 then some v2 else if y = x3 then some v3 else if y = x4 then some v4 else m y) = m := by
    funext y
    by_cases q0 : y = x0
    · simp only [if_pos q0]; rw [q0]; exact e0.symm
    rw [if_neg q0]
    by_cases q1 : y = x1
    · simp only [if_pos q1]; rw [q1]; exact e1.symm
    rw [if_neg q1]
    by_cases q2 : y = x2
    · simp only [if_pos q2]; rw [q2]; exact e2.symm
    rw [if_neg q2]
    by_cases q3 : y = x3
    · simp only [if_pos q3]; rw [q3]; exact e3.symm
    rw [if_neg q3]
    by_cases q4 : y = x4
    · simp only [if_pos q4]; rw [q4]; exact e4.symm
    rw [if_neg q4]
  rw [this]; exact F
theorem fr_pin6 {h₀ h : Heap} {L : Addr} {m : Str → Option Value} {x0 : Str} {v0 : Value} {x1 : Str} {v1 : Value} {x2 : Str} {v2 : Value} {x3 : Str} {v3 : Value} {x4 : Str} {v4 : Value} {x5 : Str} {v5 : Value} (F : Fr h₀ L h m) (e0 : m x0 = some v0) (e1 : m x1 = some v1) (e2 : m x2 = some v2) (e3 : m x3 = some v3) (e4 : m x4 = some v4) (e5 : m x5 = some v5) : Fr h₀ L h (fun y => if y = x0 then some v0 else if y = x1 then some v1 else if y = x2 then some v2 else if y = x3 then some v3 else if y = x4 then some v4 else if y = x5 then some v5 else m y) := by
  have : (fun y => if y = x0 then some v0 else if y = x1 then some v1 else if y = x2 then some v2 else if y = x3 then some v3 else if y = x4 then some v4 else if y = x5 then some v5 else m y) = m := by
    funext y
    by_cases q0 : y = x0
    · simp only [if_pos q0]; rw [q0]; exact e0.symm
    rw [if_neg q0]
    by_cases q1 : y = x1
    · simp only [if_pos q1]; rw [q1]; exact e1.symm
    rw [if_neg q1]
    by_cases q2 : y = x2
    · simp only [if_pos q2]; rw [q2]; exact e2.symm
    rw [if_neg q2]
    by_cases q3 : y = x3
    · simp only [if_pos q3]; rw [q3]; exact e3.symm
    rw [if_neg q3]
    by_cases q4 : y = x4
    · simp only [if_pos q4]; rw [q4]; exact e4.symm
    rw [if_neg q4]
    by_cases q5 : y = x5
    · simp only [if_pos q5]; rw [q5]; exact e5.symm
    rw [if_neg q5]
  rw [this]; exact F
theorem fr_pin7 {h₀ h : Heap} {L : Addr} {m : Str → Option Value} {x0 : Str} {v0 : Value} {x1 : Str} {v1 : Value} {x2 : Str} {v2 : Value} {x3 : Str} {v3 : Value} {x4 : Str} {v4 : Value} {x5 : Str} {v5 : Value} {x6 : Str} {v6 : Value} (F : Fr h₀ L h m) (e0 : m x0 = some v0) (e1 : m x1 = some v1) (e2 : m x2 = some v2) (e3 : m x3 = some v3) (e4 : m x4 = some v4) (e5 : m x5 = some v5) (e6 : m x6 = some v6) : Fr h₀ L h (fun y => if y = x0 then some v0 else if y = x1 then some v1 else if y = x2 then some v2 else if y = x3 then some v3 else if y = x4 then some v4 else if y = x5 then some v5 else if y = x6 then some v6 else m y) := by
  have : (fun y => if y = x0 then some v0 else if y = x1 then some v1 else if y = x2 then some v2 else if y = x3 then some v3 else if y = x4 then some v4 else if y = x5 then some v5 else if y = x6 then some v6 else m y) = m := by
    funext y
    by_cases q0 : y = x0
    · simp only [if_pos q0]; rw [q0]; exact e0.symm
    rw [if_neg q0]
    by_cases q1 : y = x1
    · simp only [if_pos q1]; rw [q1]; exact e1.symm
    rw [if_neg q1]
    by_cases q2 : y = x2
    · simp only [if_pos q2]; rw [q2]; exact e2.symm
    rw [if_neg q2]
    by_cases q3 : y = x3
    · simp only [if_pos q3]; rw [q3]; exact e3.symm
    rw [if_neg q3]
    by_cases q4 : y = x4
    · simp only [if_pos q4]; rw [q4]; exact e4.symm
    rw [if_neg q4]
    by_cases q5 : y = x5
    · simp only [if_pos q5]; rw [q5]; exact e5.symm
    rw [if_neg q5]
    by_cases q6 : y = x6
    · simp only [if_pos q6]; rw [q6]; exact e6.symm
    rw [if_neg q6]
  rw [this]; exact F
theorem fr_pin8 {h₀ h : Heap} {L : Addr} {m : Str → Option Value} {x0 : Str} {v0 : Value} {x1 : Str} {v1 : Value} {x2 : Str} {v2 : Value} {x3 : Str} {v3 : Value} {x4 : Str} {v4 : Value} {x5 : Str} {v5 : Value} {x6 : Str} {v6 : Value} {x7 : Str} {v7 : Value} (F : Fr h₀ L h m) (e0 : m x0 = some v0) (e1 : m x1 = some v1) (e2 : m x2 = some v2) (e3 : m x3 = some v3) (e4 : m x4 = some v4) (e5 : m x5 = some v5) (e6 : m x6 = some v6) (e7 : m x7 = some v7) : Fr h₀ L h (fun y => if y = x0 then some v0 else if y = x1 then some v1 else if y = x2 then some v2 else if y = x3 then some v3 else if y = x4 then some v4 else if y = x5 then some v5 else if y = x6 then some v6 else if y = x7 then some v7 else m y) := by
  have : (fun y => if y = x0 then some v0 else if y = x1 then some v1 else if y = x2 then some v2 else if y = x3 then some v3 else if y = x4 then some v4 else if y = x5 then some v5 else if y = x6 then some v6 else if y = x7 then some v7 else m y) = m := by
    funext y
    by_cases q0 : y = x0
    · simp only [if_pos q0]; rw [q0]; exact e0.symm
    rw [if_neg q0]
    by_cases q1 : y = x1
    · simp only [if_pos q1]; rw [q1]; exact e1.symm
    rw [if_neg q1]
    by_cases q2 : y = x2
    · simp only [if_pos q2]; rw [q2]; exact e2.symm
    rw [if_neg q2]
    by_cases q3 : y = x3
    · simp only [if_pos q3]; rw [q3]; exact e3.symm
    rw [if_neg q3]
    by_cases q4 : y = x4
    · simp only [if_pos q4]; rw [q4]; exact e4.symm
    rw [if_neg q4]
    by_cases q5 : y = x5
    · simp only [if_pos q5]; rw [q5]; exact e5.symm
    rw [if_neg q5]
    by_cases q6 : y = x6
    · simp only [if_pos q6]; rw [q6]; exact e6.symm
    rw [if_neg q6]
    by_cases q7 : y = x7
    · simp only [if_pos q7]; rw [q7]; exact e7.symm
    rw [if_neg q7]
  rw [this]; exact F

section ends
variable {σ : Type} {h₀ h' : Heap} {L : Addr} {adr : List Addr} {Led : σ → List (Addr × Obj)} {own T news' : List (Addr × Obj)} {P : σ → (Str → Option Value) → List (Addr × Obj) → Nat → Prop} {R : Result → Shared → Prop} {s : Shared} {m' : Str → Option Value} {tk : Nat}
/-- a turn's end: nothing laid anew that is kept -/
theorem lp_next (c : σ) (F : Fr h₀ L h' m') (N : News h₀ L h' news') (hin : ∀ p ∈ Led c ++ (T ++ own), p ∈ news') (hP : P c m' T tk) : LpPost h₀ L adr Led own T P R s .next { s with heap := h', toks := tk } :=
  ⟨c, m', [], h', tk, news', rfl, F, N, by simpa using hin, (fun _ h => nomatch h), (fun _ h => nomatch h), by simpa using hP⟩
theorem lp_cont (c : σ) (F : Fr h₀ L h' m') (N : News h₀ L h' news') (hin : ∀ p ∈ Led c ++ (T ++ own), p ∈ news') (hP : P c m' T tk) : LpPost h₀ L adr Led own T P R s .cont { s with heap := h', toks := tk } :=
  ⟨c, m', [], h', tk, news', rfl, F, N, by simpa using hin, (fun _ h => nomatch h), (fun _ h => nomatch h), by simpa using hP⟩
/-- a turn's end: some things laid anew are kept -/
theorem lp_more (c : σ) (add : List (Addr × Obj)) (F : Fr h₀ L h' m') (N : News h₀ L h' news') (hin : ∀ p ∈ Led c ++ (add ++ (T ++ own)), p ∈ news') (ha : ∀ q ∈ add, ∀ b ∈ adr, q.1 ≠ b) (ho : ∀ q ∈ add, ∀ p ∈ T ++ own, p.1 < q.1) (hP : P c m' (add ++ T) tk) : LpPost h₀ L adr Led own T P R s .next { s with heap := h', toks := tk } :=
  ⟨c, m', add, h', tk, news', rfl, F, N, hin, ha, ho, hP⟩
end ends
theorem off_cons {T : List (Addr × Obj)} {adr : List Addr} (h : ∀ b ∈ adr, ∀ p ∈ T, p.1 ≠ b) : OwnOff T adr := fun p hp b hb => h b hb p hp
section rules
variable {prog : Program} {w : World} {A : Around} {E : Value → Shared → Prop} {s : Shared} {h₀ : Heap} {L : Addr} {news : List (Addr × Obj)} {Q : Value → Shared → Prop}
theorem len_led {l : Addr} {vs : List Value} {k : Nat} (N : News h₀ L s.heap news) (hm : (l, listOf vs.toArray k) ∈ news) (hz : vs.length ≤ 1000) (h : Q (.int vs.length (s.toks + 1)) { s with toks := s.toks + 1 + 1 }) :
    wpAny (model prog w) A (call (.builtin "len") [.ref l]) Q E s :=
  len_list (isList_of N hm) (by simp; omega) (by simpa using h)
theorem item_led {value slice : Expr} {l : Addr} {vs : List Value} {n : Nat} {k : Int} {u : Tok} {x : Value} (N : News h₀ L s.heap news) (hm : (l, listOf vs.toArray n) ∈ news) (h0 : 0 ≤ k) (hk : k < 1000) (hx : vs[k.toNat]? = some x) (h : Q x s)
    (hs : subscripted slice false (.ref l) (.int k u) = operate [.ref l, .int k u] (getItem (.ref l) (.int k u)) := by with_unfolding_all rfl) :
    wpAny (model prog w) A (subscriptTail value slice (.ref l) (.int k u)) Q E s :=
  have hl := isList_of N hm
  tail_any hl.typeIs slot_list_getitem.lookup (wpAny_getItem_list hl h0 (by omega) (by simpa using hx) h) hs
end rules

/-- an object that bears the names m -/
noncomputable def NsO (o : Obj) (m : Str → Option Value) : Prop := ∃ es ep, o.data = .dict es ep ∧ StrKeys es ∧ ∀ name, nsFind es name = m name
theorem ns_of {h : Heap} {a : Addr} {o : Obj} {m : Str → Option Value} (e : h.get? a = some o) (x : NsO o m) : h.Ns a m := let ⟨es, ep, r⟩ := x; ⟨o, es, ep, e, r⟩
theorem nsO_of {h : Heap} {a : Addr} {m : Str → Option Value} (x : h.Ns a m) : ∃ o, h.get? a = some o ∧ NsO o m := let ⟨o, es, ep, e, r⟩ := x; ⟨o, e, es, ep, r⟩

noncomputable def compStepT (target : Expr) (ifs : List Expr) (it : Value) (env : Env) (p : Pos) (inner : Sem Unit) (c : Code) : Sem Fin := do
  standAt p
  match ← pyNext it with
  | none => pure (.done .next)
  | some v =>
    letOwnedTupleGo target it v
    assign target env v
    let mut ok := true
    for c in ifs do
      if ok then ok ← isTrue c env (eval c env)
    if ok then inner
    again c

theorem compTurn_one (elt target iter : Expr) (ifs : List Expr) (scope : Scope) (pos : Pos) (it acc : Value) (env : Env) :
    compTurn (.ListComp elt [⟨target, iter, ifs, 0⟩] scope pos) 0 it acc env = compStepT target ifs it env iter.pos (do let _ ← call (.builtin "list.append") [acc, ← eval elt env]) (.compLoop (.ListComp elt [⟨target, iter, ifs, 0⟩] scope pos) 0 it acc env) := by rfl
theorem compTurn_two1 (elt t1 i1 t2 i2 : Expr) (ifs1 ifs2 : List Expr) (scope : Scope) (pos : Pos) (it acc : Value) (env : Env) :
    compTurn (.ListComp elt [⟨t1, i1, ifs1, 0⟩, ⟨t2, i2, ifs2, 0⟩] scope pos) 1 it acc env = compStepT t2 ifs2 it env i2.pos (do let _ ← call (.builtin "list.append") [acc, ← eval elt env]) (.compLoop (.ListComp elt [⟨t1, i1, ifs1, 0⟩, ⟨t2, i2, ifs2, 0⟩] scope pos) 1 it acc env) := by rfl
theorem compTurn_two0 (elt t1 i1 t2 i2 : Expr) (ifs1 ifs2 : List Expr) (scope : Scope) (pos : Pos) (it acc : Value) (env : Env) :
    compTurn (.ListComp elt [⟨t1, i1, ifs1, 0⟩, ⟨t2, i2, ifs2, 0⟩] scope pos) 0 it acc env = compStepT t1 ifs1 it env i1.pos (do
        let x ← eval i2 env
        standAt i2.pos
        let x ← foldedSetIterable i2 env x
        let _ ← runOwn (.compStart (.ListComp elt [⟨t1, i1, ifs1, 0⟩, ⟨t2, i2, ifs2, 0⟩] scope pos) 1 (← holding [x] (pyIter x)) acc env) env) (.compLoop (.ListComp elt [⟨t1, i1, ifs1, 0⟩, ⟨t2, i2, ifs2, 0⟩] scope pos) 0 it acc env) := by
  unfold compTurn compStepT
  simp only [List.getElem?_cons_zero, List.getElem?_cons_succ, Nat.zero_add, bne_self_eq_false, Bool.false_eq_true, if_false, bind_assoc, pure_bind]
  rfl

section
variable {prog : Program} {w : World} {A : Around} {E : Value → Shared → Prop} {R : Result → Shared → Prop} {s : Shared}
theorem codeAny_compLoop_any {elt target : Expr} {gens : List Comprehension} {d : Nat} {ifs : List Expr} {scope : Scope} {pos p : Pos} {it acc : Value} {env : Env} {inner : Sem Unit}
    (heq : compTurn (.ListComp elt gens scope pos) d it acc env = compStepT target ifs it env p inner (.compLoop (.ListComp elt gens scope pos) d it acc env)) (I : Nat → Shared → Prop)
    (turn : ∀ n s, I n s → wpAny (model prog w) A (pyNext it) (fun r s₁ => match r with
      | none => R (.ok .next) s₁
      | some v => wpAny (model prog w) A (letOwnedTupleGo target it v) (fun _ s₁' => wpAny (model prog w) A (assign target env v) (fun _ s₂ =>
          wpAny (model prog w) A (forIn ifs true fun c r => if r = true then do let ok ← isTrue c env (eval c env); pure (ForInStep.yield ok) else pure (ForInStep.yield r)) (fun ok s₃ =>
            if ok = true then wpAny (model prog w) A inner (fun _ s₅ => ∃ m, m < n ∧ I m s₅) (notedBy (model prog w) A env fun e s' => R (.error e) s') s₃
            else ∃ m, m < n ∧ I m s₃) (notedBy (model prog w) A env fun e s' => R (.error e) s') s₂) (notedBy (model prog w) A env fun e s' => R (.error e) s') s₁') (notedBy (model prog w) A env fun e s' => R (.error e) s') s₁) (notedBy (model prog w) A env fun e s' => R (.error e) s') s)
    (n : Nat) (h : I n s) :
    codeAny (model prog w) A (.compLoop (.ListComp elt gens scope pos) d it acc env) R s := by
  refine codeAny_loop rfl I (fun n s hI => ?_) n h
  show wpAny _ A ((compTurn (.ListComp elt gens scope pos) d it acc env).onRaise (fun x => do noteFrame x env; theTreesLotGoes x)) _ _ s
  refine wpAny_noted ?_
  rw [heq]
  unfold compStepT
  refine wpAny_bind (wpAny_standAt (wpAny_bind (wpAny_mono (turn n s hI) (fun r s₁ h₁ => ?_) fun _ _ h' => h')))
  cases r with
  | none => exact wpAny_pure h₁
  | some v =>
    refine wpAny_bind (wpAny_mono h₁ (fun _ s₁' h₁' => ?_) fun _ _ h' => h')
    refine wpAny_bind (wpAny_mono h₁' (fun _ s₂ h₂ => wpAny_bind (wpAny_mono h₂ (fun ok s₃ h₃ => ?_) fun _ _ h' => h')) fun _ _ h' => h')
    cases ok with
    | false => exact wpAny_pure ⟨rfl, h₃⟩
    | true => exact wpAny_bind (wpAny_mono h₃ (fun _ s₅ h₅ => wpAny_pure ⟨rfl, h₅⟩) fun _ _ h' => h')
end

section
variable {σ : Type} {prog : Program} {w : World} {A : Around} {E : Value → Shared → Prop} {s : Shared} {env : Env} {h₀ : Heap} {L : Addr} {R : Result → Shared → Prop} {target : Expr}

/-- a block's loop over the ledger -/
theorem compW {elt : Expr} {gens : List Comprehension} {d : Nat} {ifs : List Expr} {scope : Scope} {pos p : Pos} {acc : Value} {inner : Sem Unit} {I : Addr} {fp wr : List Addr} {n : Nat} {Pw : Nat → Value → Prop} {St : Nat → Heap → Prop} {m : Str → Option Value}
    (heq : compTurn (.ListComp elt gens scope pos) d (.ref I) acc env = compStepT target ifs (.ref I) env p inner (.compLoop (.ListComp elt gens scope pos) d (.ref I) acc env))
    (W : Walks prog w A I fp wr n Pw St)
    (Led : σ → List (Addr × Obj)) (adr : List Addr) (P : Nat → σ → (Str → Option Value) → List (Addr × Obj) → Nat → Prop) (c₀ : σ) (T₀ : List (Addr × Obj))
    (hadr : ∀ c, (Led c).map (·.1) = adr) (hLf : L ∉ fp) (hwr : ∀ b ∈ wr, h₀.get? b = none) (hob : ∀ i h, St i h → ∀ b ∈ wr, ∃ o, h.get? b = some o) (hfa : ∀ b ∈ fp, b ∉ adr)
    (hgo : ∀ i (s' : Shared) v (Q' : Unit → Shared → Prop), St i s'.heap → Q' () s' → wpAny (model prog w) A (letOwnedTupleGo target (.ref I) v) Q' (notedBy (model prog w) A env fun e s' => R (.error e) s') s')
    (hst : St 0 s.heap) (F : Fr h₀ L s.heap m) (N : News h₀ L s.heap (Led c₀ ++ T₀)) (hnw : ∀ p ∈ T₀, p.1 ∉ wr) (hoff : OwnOff T₀ adr) (h0 : P 0 c₀ m T₀ s.toks)
    (turn : ∀ i v c m₁ T own h tk₀ tk, i < n → Pw i v → P i c m₁ T tk₀ → tk₀ ≤ tk → Grown T₀ T → OwnOff (T ++ own) adr → Fr h₀ L h m₁ → News h₀ L h (Led c ++ (T ++ own)) →
      wpAny (model prog w) A (assign target env v) (fun _ s₂ => wpAny (model prog w) A (forIn ifs true fun c r => if r = true then do let ok ← isTrue c env (eval c env); pure (ForInStep.yield ok) else pure (ForInStep.yield r)) (fun ok s₃ =>
        if ok = true then wpAny (model prog w) A inner (fun _ s₅ => LpEnd h₀ L adr Led own T (P (i + 1)) s s₅) (notedBy (model prog w) A env fun e s' => R (.error e) s') s₃ else LpEnd h₀ L adr Led own T (P (i + 1)) s s₃)
        (notedBy (model prog w) A env fun e s' => R (.error e) s') s₂) (notedBy (model prog w) A env fun e s' => R (.error e) s') { s with heap := h, toks := tk })
    (done : ∀ c m₁ T h tk₀ tk, P n c m₁ T tk₀ → tk₀ ≤ tk → Grown T₀ T → OwnOff T adr → Fr h₀ L h m₁ → News h₀ L h (Led c ++ T) → R (.ok .next) { s with heap := h, toks := tk }) :
    codeAny (model prog w) A (.compLoop (.ListComp elt gens scope pos) d (.ref I) acc env) R s := by
  have hLw : L ∉ wr := fun h => hLf (W.sub _ h)
  have old : ∀ b o, h₀.get? b = some o → b ∉ wr := fun b o e hb => by rw [hwr b hb] at e; cases e
  have hLa : ∀ c, ∀ p ∈ Led c, p.1 ∉ wr := fun c p hp hb => hfa _ (W.sub _ hb) (by rw [← hadr c]; exact List.mem_map_of_mem hp)
  refine codeAny_compLoop_any heq
    (fun k s' => ∃ h' tk m' c T i, s' = { s with heap := h', toks := tk } ∧ St i h' ∧ Fr h₀ L h' m' ∧ News h₀ L h' (Led c ++ T) ∧ (∀ p ∈ T, p.1 ∉ wr) ∧ Grown T₀ T ∧ OwnOff T adr ∧ P i c m' T tk ∧ i ≤ n ∧ k = n + 1 - i) ?_ (n + 1)
    ⟨s.heap, s.toks, m, c₀, T₀, 0, rfl, hst, F, N, hnw, Grown.refl _, hoff, h0, Nat.zero_le _, rfl⟩
  intro k s' zr2
  refine hideG fun kG => ?_
  obtain ⟨h', tk, m', c, T, i, rfl, hst', F', N', hnw', hsub, hoff', hP, hi, rfl⟩ := zr2
  refine kG ?_
  clear kG
  have next : ∀ h₁ : Heap, (∀ b o, b ∉ wr → h'.get? b = some o → h₁.get? b = some o) → Fr h₀ L h₁ m' ∧ News h₀ L h₁ (Led c ++ T) := fun h₁ hk₁ =>
    ⟨⟨F'.ns.at' fun o e => hk₁ _ o hLw e, fun b o e => hk₁ b o (old b o e) (F'.keep b o e), F'.above⟩, fun p hp => ⟨hk₁ _ _ ((List.mem_append.mp hp).elim (hLa c p) (hnw' p)) (N' p hp).1, (N' p hp).2⟩⟩
  by_cases hlt : i < n
  · refine wpAny_with_toks (n := tk) (Nat.le_refl _) (W.item i _ _ _ hlt hst' fun v h₁ tk₁ hPv hst₁ hk₁ htk => ?_)
    obtain ⟨F₁, N₁⟩ := next h₁ hk₁
    refine hgo (i + 1) _ v _ hst₁ ?_
    have Nown : News h₀ L h₁ (ownOf h₀ fp h₁) := news_ownOf hLf
    have hofp : ∀ p ∈ ownOf h₀ fp h₁, p.1 ∈ fp := fun p hp => ownOf_sub p hp
    have NN : News h₀ L h₁ (Led c ++ (T ++ ownOf h₀ fp h₁)) := by
      rw [← List.append_assoc]; exact N₁.append Nown
    have hofa : OwnOff (T ++ ownOf h₀ fp h₁) adr := fun p hp b hb => (List.mem_append.mp hp).elim (fun q => hoff' p q b hb) (fun q e => hfa _ (hofp p q) (e ▸ hb))
    have fin : ∀ s₃, LpEnd h₀ L adr Led (ownOf h₀ fp h₁) T (P (i + 1)) s s₃ → ∃ m, m < n + 1 - i ∧ ∃ h' tk m' c T i, s₃ = { s with heap := h', toks := tk } ∧ St i h' ∧ Fr h₀ L h' m' ∧ News h₀ L h' (Led c ++ T) ∧ (∀ p ∈ T, p.1 ∉ wr) ∧ Grown T₀ T ∧ OwnOff T adr ∧ P i c m' T tk ∧ i ≤ n ∧ m = n + 1 - i := by
      intro s₃ zr1
      refine hideG fun kG => ?_
      obtain ⟨c', m₃, add, h₃', tk₃, news', rfl, F₃, N₃, hin, ha, hao, hP₃⟩ := zr1
      refine kG ?_
      clear kG
      refine ⟨n + 1 - (i + 1), by omega, h₃', tk₃, m₃, c', add ++ T, i + 1, rfl, ?_, F₃, fun p hp => N₃ p (hin p ?_), ?_, hsub.more (fun q hq p hp => hao q hq p (List.mem_append_left _ hp)), ?_, hP₃, hlt, rfl⟩
      · refine W.frame _ _ _ hst₁ fun b hb o e => ?_
        cases hn : h₀.get? b with
        | some o₀ =>
          have : o₀ = o := by have := F₁.keep b o₀ hn; rw [e] at this; exact (Option.some.inj this).symm
          exact this ▸ F₃.keep b o₀ hn
        | none => exact (N₃ _ (hin _ (List.mem_append_right _ (List.mem_append_right _ (List.mem_append_right _ (mem_ownOf hb hn e)))))).1
      · rcases List.mem_append.mp hp with q | q
        · exact List.mem_append_left _ q
        · refine List.mem_append_right _ ?_
          rcases List.mem_append.mp q with q | q
          · exact List.mem_append_left _ q
          · exact List.mem_append_right _ (List.mem_append_left _ q)
      · intro p hp hb
        rcases List.mem_append.mp hp with q | q
        · obtain ⟨o, ho⟩ := hob _ _ hst₁ _ hb
          exact absurd (hao p q _ (List.mem_append_right _ (mem_ownOf (W.sub _ hb) (hwr _ hb) ho))) (Nat.lt_irrefl _)
        · exact hnw' p q hb
      · intro p hp b hb
        rcases List.mem_append.mp hp with q | q
        · exact ha p q b hb
        · exact hoff' p q b hb
    refine wpAny_mono (turn i v c m' T (ownOf h₀ fp h₁) h₁ tk tk₁ hlt hPv hP htk hsub hofa F₁ NN) (fun _ s₂ h₂ => wpAny_mono h₂ (fun ok s₃ h₃ => ?_) fun _ _ e => e) fun _ _ e => e
    cases ok with
    | false => exact fin _ h₃
    | true => exact wpAny_mono h₃ (fun _ s₅ h₅ => fin _ h₅) fun _ _ e => e
  · have hin : i = n := by omega
    subst hin
    refine wpAny_with_toks (n := tk) (Nat.le_refl _) (W.done _ _ _ hst' fun h₁ tk₁ hk₁ htk => ?_)
    obtain ⟨F₁, N₁⟩ := next h₁ hk₁
    exact done c m' T h₁ tk tk₁ hP htk hsub hoff' F₁ N₁
end

section
variable {prog : Program} {w : World} {A : Around} {E : Value → Shared → Prop} {R : Result → Shared → Prop} {s : Shared}
theorem compStart_one {elt t1 i1 t2 i2 : Expr} {ifs1 ifs2 : List Expr} {scope : Scope} {pos : Pos} {it acc : Value} {env : Env}
    (h0 : codeAny (model prog w) A (.compLoop (.ListComp elt [⟨t1, i1, ifs1, 0⟩, ⟨t2, i2, ifs2, 0⟩] scope pos) 1 it acc env) R s)
    (h : wpAny (model prog w) A (pyIter it) (fun it' s' => codeAny (model prog w) A (.compLoop (.ListComp elt [⟨t1, i1, ifs1, 0⟩, ⟨t2, i2, ifs2, 0⟩] scope pos) 1 it' acc env) R s')
      (notedBy (model prog w) A env fun x s' => R (.error x) s') s) :
    codeAny (model prog w) A (.compStart (.ListComp elt [⟨t1, i1, ifs1, 0⟩, ⟨t2, i2, ifs2, 0⟩] scope pos) 1 it acc env) R s := by
  refine codeAny_of_tree ?_
  show wpAny _ _ ((compStart (.ListComp elt [⟨t1, i1, ifs1, 0⟩, ⟨t2, i2, ifs2, 0⟩] scope pos) 1 it acc env).onRaise (fun x => do noteFrame x env; standAt theWindowsPlace)) _ _ s
  refine wpAny_notedAt ?_
  unfold compStart
  show wpAny _ _ (ask >>= _) _ _ s
  refine wpAny_bind (wpAny_askSetting (wpAny_ite ?_))
  split
  · first
      | exact wpAny_bind (wpAny_pure (wpAny_pure (And.intro rfl h0)))
      | exact wpAny_pure (And.intro rfl h0)
  · first
      | exact wpAny_bind (wpAny_rule (wpAny_bind (wpAny_standAt (wpAny_bind (wpAny_mono h (fun it' s' h' => wpAny_pure (And.intro rfl h')) fun _ _ x => x)))))
      | (refine wpAny_bind (wpAny_rule ?_); show wpAny _ _ (standAt i2.pos >>= _) _ _ s; exact wpAny_bind (wpAny_standAt (wpAny_bind (wpAny_mono h (fun it' s' h' => wpAny_pure (And.intro rfl h')) fun _ _ x => x))))
end

section
variable {prog : Program} {w : World} {A : Around} {E : Value → Shared → Prop} {s : Shared} {env : Env} {h₀ : Heap} {L : Addr} {R : Result → Shared → Prop} {target : Expr}
/-- storing a block's own name -/
theorem assignC_name {x : Str} {px : Pos} {v : Value} {m mC : Str → Option Value} {D C : Addr} {oD oC : Obj} {rest : List (Addr × Obj)} {Q : Unit → Shared → Prop} (hl : env.locals = C) (F : Fr h₀ L s.heap m) (N : News h₀ L s.heap ((D, oD) :: (C, oC) :: rest)) (hDC : D ≠ C) (hC : ∀ p ∈ rest, p.1 ≠ C) (hn : NsO oC mC)
    (hx : env.kindOf x = some .local) (hp : (env.scope.kind == .class || (env.scope.kind == .module && env.locals != env.globals)) = false)
    (h : ∀ h' oC', Fr h₀ L h' m → News h₀ L h' ((D, oD) :: (C, oC') :: rest) → NsO oC' (fun y => if y = x then some v else mC y) → Q () { s with heap := h', toks := s.toks + 1 }) :
    wpAny (model prog w) A (assign (.Name x px) env v) Q E s := by
  subst hl
  have eC := (N _ (.tail _ (.head _)))
  refine wpAny_assign_Name (wpAny_storeName_local hx (ns_of eC.1 hn) (fun h₂ hn₂ hs₂ => ?_) hp)
  refine hideG fun kG => ?_
  obtain ⟨oC', e', hn'⟩ := nsO_of hn₂
  refine kG ?_
  clear kG
  have hCL : env.locals ≠ L := eC.2.1
  refine h h₂ oC' ⟨F.ns.sameBut hs₂ (Ne.symm hCL), fun b o e => (hs₂.2 b fun q => ?_).trans (F.keep b o e), F.above⟩ ?_ hn'
  · rw [q, eC.2.2] at e; cases e
  · intro p hp
    rcases List.mem_cons.mp hp with e | hp
    · subst e; exact ⟨(hs₂.2 _ hDC).trans (N _ (.head _)).1, (N _ (.head _)).2⟩
    · rcases List.mem_cons.mp hp with e | hp
      · subst e; exact ⟨e', eC.2⟩
      · exact ⟨(hs₂.2 _ (hC p hp)).trans (N p (.tail _ (.tail _ hp))).1, (N p (.tail _ (.tail _ hp))).2⟩

theorem assignC_pair {xi xc : Str} {pk pv pt : Pos} {x1 : Nat} {v0 v1 : Value} {n : Nat} {TT : Addr} {m mC : Str → Option Value} {D C : Addr} {oD oC : Obj} {rest : List (Addr × Obj)} {Q : Unit → Shared → Prop} (hh : A.handled = none) (hl : env.locals = C) (F : Fr h₀ L s.heap m) (N : News h₀ L s.heap ((D, oD) :: (C, oC) :: rest)) (hDC : D ≠ C) (hC : ∀ p ∈ rest, p.1 ≠ C) (hn : NsO oC mC)
    (ht : (TT, tupO [v0, v1] n) ∈ rest) (hxi : env.kindOf xi = some .local) (hxc : env.kindOf xc = some .local) (hp : (env.scope.kind == .class || (env.scope.kind == .module && env.locals != env.globals)) = false)
    (h : ∀ h' oC', Fr h₀ L h' m → News h₀ L h' ((D, oD) :: (C, oC') :: rest) → NsO oC' (fun y => if y = xc then some v1 else if y = xi then some v0 else mC y) → Q () { s with heap := h', toks := s.toks + 1 + 1 }) :
    wpAny (model prog w) A (assign (.Tuple [.Name xi pk, .Name xc pv] x1 pt) env (.ref TT)) Q E s := by
  have ht₂ : s.heap.IsTuple TT #[v0, v1] := ⟨_, (N _ (.tail _ (.tail _ ht))).1, rfl, n, rfl⟩
  refine wpAny_assign_Tuple hh ht₂ rfl rfl fun h₃ hx₃ => ?_
  have up₃ : ∀ b o, s.heap.get? b = some o → h₃.get? b = some o := fun b o x => hx₃ b o (Nat.ne_of_lt (Heap.lt_size x)) x
  have F₃ : Fr h₀ L h₃ m := ⟨F.ns.at' fun o e => up₃ _ o e, fun b o e => up₃ b o (F.keep b o e), F.above⟩
  have N₃ : News h₀ L h₃ ((D, oD) :: (C, oC) :: rest) := fun p hp => ⟨up₃ _ _ (N p hp).1, (N p hp).2⟩
  show wpAny _ A (do holding [v1] (assign (.Name xi pk) env v0); do holding [] (assign (.Name xc pv) env v1); pure ()) _ _ _
  refine wpAny_bind (wpAny_holding (assignC_name hl F₃ N₃ hDC hC hn hxi hp fun h₄ oC₄ F₄ N₄ hn₄ => ?_))
  refine wpAny_bind (wpAny_holding (assignC_name hl F₄ N₄ hDC hC hn₄ hxc hp fun h₅ oC₅ F₅ N₅ hn₅ => wpAny_pure ?_))
  exact h h₅ oC₅ F₅ N₅ hn₅

/-- entering a block: the list that is filled, the block's names -/
theorem comp_in {elt : Expr} {gens : List Comprehension} {scope : Scope} {pos : Pos} {cl : List (Str × Addr)} {it : Value} {m : Str → Option Value} {T₀ : List (Addr × Obj)} {CR : Value → Addr → Result → Shared → Prop} {s₂ : Shared}
    (hcell : ∀ y ∈ scope.names, y.2 ≠ .cell) (hkind : scope.kind = .function) (F : Fr h₀ L s₂.heap m) (N : News h₀ L s₂.heap T₀)
    (h : ∀ D C oC h₁, Fr h₀ L h₁ m → News h₀ L h₁ ((D, listOf #[] 0) :: (C, oC) :: T₀) → NsO oC (fun _ => none) → s₂.heap.objs.size ≤ D → D < C → (∀ b o, s₂.heap.get? b = some o → h₁.get? b = some o) →
      codeAny (model prog w) A (.compStart (.ListComp elt gens scope pos) 0 it (.ref D) (compEnvC scope cl C env)) (CR (.ref D) C) { s₂ with heap := h₁ }) :
    wpAny (model prog w) A (newList []) (fun acc s₃ => wpAny (model prog w) A (newFunctionEnv scope env.globals cl [] env.qual none .none (some env)) (fun cenv s₄ =>
      codeAny (model prog w) A (.compStart (.ListComp elt gens scope pos) 0 it acc { cenv with scope := relabel scope env }) (CR acc cenv.locals) s₄) E s₃) E s₂ := by
  refine wpAny_newObj_type (wpAny_newFunctionEnv hcell (by intro y hy; simp at hy) (fun h₁ hns₁ hsb₁ => ?_) hkind)
  dsimp only at hns₁ hsb₁ ⊢
  generalize hH2 : s₂.heap.push { cls := .type "list", dict := none, data := .seq ([] : List Value).toArray } = H2 at hns₁ hsb₁ ⊢
  have hC : H2.objs.size = s₂.heap.objs.size + 1 := by rw [← hH2, Heap.size_push]
  have hDC : s₂.heap.objs.size ≠ H2.objs.size := by rw [hC]; exact Nat.ne_of_lt (Nat.lt_succ_self _)
  have below : ∀ b, b < s₂.heap.objs.size → b ≠ H2.objs.size ∧ b ≠ s₂.heap.objs.size := fun b hb => ⟨by rw [hC]; exact Nat.ne_of_lt (Nat.lt_succ_of_lt hb), Nat.ne_of_lt hb⟩
  have old : ∀ b o, s₂.heap.get? b = some o → h₁.get? b = some o := fun b o e => hsb₁.extBut b o (below b (Heap.lt_size e)).1 (Heap.get?_push_of_some _ (hH2 ▸ Heap.get?_push_of_some _ e))
  have hacc : h₁.get? s₂.heap.objs.size = some (listOf #[] 0) := hsb₁.extBut _ _ hDC (Heap.get?_push_of_some _ (hH2 ▸ Heap.get?_push_size _ rfl))
  have fresh : ∀ a, s₂.heap.objs.size ≤ a → h₀.get? a = none := fun a ha => by
    cases e : h₀.get? a with
    | none => rfl
    | some o' => exact absurd (Heap.lt_size (F.keep _ _ e)) (Nat.not_lt.mpr ha)
  refine hideG fun kG => ?_
  obtain ⟨oC, eC, hnC⟩ := nsO_of hns₁
  refine kG ?_
  clear kG
  have hLlt : L < s₂.heap.objs.size := F.ns.lt
  refine h s₂.heap.objs.size H2.objs.size oC h₁ ⟨F.ns.at' fun o e => old _ o e, fun b o e => old b o (F.keep b o e), F.above⟩ ?_ hnC (Nat.le_refl _) (by rw [hC]; exact Nat.lt_succ_self _) old
  intro p hp
  rcases List.mem_cons.mp hp with e | hp
  · subst e; exact ⟨hacc, Nat.ne_of_gt hLlt, fresh _ (Nat.le_refl _)⟩
  · rcases List.mem_cons.mp hp with e | hp
    · subst e; exact ⟨eC, by show H2.objs.size ≠ L; rw [hC]; exact Nat.ne_of_gt (Nat.lt_succ_of_lt hLlt), fresh _ (by show _ ≤ H2.objs.size; rw [hC]; exact Nat.le_succ _)⟩
    · exact ⟨old _ _ (N p hp).1, (N p hp).2⟩

/-- the loop of a block over a list of the ledger -/
theorem compLoopL {elt : Expr} {gens : List Comprehension} {d : Nat} {ifs : List Expr} {scope : Scope} {pos p : Pos} {inner : Sem Unit} {I l D C : Addr} {vs ys : List Value} {k kk : Nat} {oC : Obj} {m : Str → Option Value} {T₀ : List (Addr × Obj)}
    (P : Nat → List Value → List (Addr × Obj) → Nat → Prop)
    (heq : compTurn (.ListComp elt gens scope pos) d (.ref I) (.ref D) env = compStepT target ifs (.ref I) env p inner (.compLoop (.ListComp elt gens scope pos) d (.ref I) (.ref D) env))
    (hh : A.handled = none) (hit : s.heap.IsListIter I l 0) (hI : h₀.get? I = none) (hIL : I ≠ L) (hIT : ∀ p ∈ T₀, p.1 ≠ I) (hID : I ≠ D) (hIC : I ≠ C)
    (F : Fr h₀ L s.heap m) (N : News h₀ L s.heap ((D, listOf ys.toArray kk) :: (C, oC) :: T₀)) (hl : (l, listOf vs.toArray k) ∈ T₀) (hoff : OwnOff T₀ [D, C]) (hnC : ∃ mC, NsO oC mC) (h0 : P 0 ys T₀ s.toks)
    (turn : ∀ i v ys kk oC T own h tk₀ tk mC, vs[i]? = some v → P i ys T tk₀ → tk₀ ≤ tk → Grown T₀ T → OwnOff (T ++ own) [D, C] → Fr h₀ L h m → News h₀ L h ((D, listOf ys.toArray kk) :: (C, oC) :: (T ++ own)) → NsO oC mC →
      wpAny (model prog w) A (assign target env v) (fun _ s₂ => wpAny (model prog w) A (forIn ifs true fun c r => if r = true then do let ok ← isTrue c env (eval c env); pure (ForInStep.yield ok) else pure (ForInStep.yield r)) (fun ok s₃ =>
        if ok = true then wpAny (model prog w) A inner (fun _ s₅ => LpEnd h₀ L [D, C] (fun c : List Value × Nat × Obj => [(D, listOf c.1.toArray c.2.1), (C, c.2.2)]) own T (fun c m' T tk => m' = m ∧ (∃ mC, NsO c.2.2 mC) ∧ P (i + 1) c.1 T tk) s s₅) (notedBy (model prog w) A env fun e s' => R (.error e) s') s₃
        else LpEnd h₀ L [D, C] (fun c : List Value × Nat × Obj => [(D, listOf c.1.toArray c.2.1), (C, c.2.2)]) own T (fun c m' T tk => m' = m ∧ (∃ mC, NsO c.2.2 mC) ∧ P (i + 1) c.1 T tk) s s₃)
        (notedBy (model prog w) A env fun e s' => R (.error e) s') s₂) (notedBy (model prog w) A env fun e s' => R (.error e) s') { s with heap := h, toks := tk })
    (done : ∀ ys kk oC T h tk₀ tk, P vs.length ys T tk₀ → tk₀ ≤ tk → Grown T₀ T → OwnOff T [D, C] → Fr h₀ L h m → News h₀ L h ((D, listOf ys.toArray kk) :: (C, oC) :: T) → (∃ mC, NsO oC mC) → R (.ok .next) { s with heap := h, toks := tk }) :
    codeAny (model prog w) A (.compLoop (.ListComp elt gens scope pos) d (.ref I) (.ref D) env) R s := by
  have hol : s.heap.get? l = some (listOf vs.toArray k) := (N _ (.tail _ (.tail _ hl))).1
  have hls : s.heap.IsList l vs.toArray := ⟨_, hol, rfl, k, rfl⟩
  have hlI : l ≠ I := hIT _ hl
  have Wk := Walks.list (prog := prog) (w := w) hh I l hlI vs.toArray
  have hlen : vs.toArray.size = vs.length := by simp
  rw [hlen] at Wk
  refine compW (σ := List Value × Nat × Obj) heq Wk (fun c => [(D, listOf c.1.toArray c.2.1), (C, c.2.2)]) [D, C] (fun i c m' T tk => m' = m ∧ (∃ mC, NsO c.2.2 mC) ∧ P i c.1 T tk) (ys, kk, oC) T₀ (fun _ => rfl) ?_ ?_ ?_ ?_ (fun i s' v Q' hs' hq => go_listiter hs'.1 hq) ⟨hit, hls⟩ F N ?_ hoff ⟨rfl, hnC, h0⟩ ?_ ?_
  · intro hm
    rcases List.mem_cons.mp hm with e | hm
    · exact hIL e.symm
    · exact (N _ (.tail _ (.tail _ hl))).2.1 (List.mem_singleton.mp hm).symm
  · intro b hb
    rw [List.mem_singleton.mp hb]; exact hI
  · intro i h hs b hb
    refine hideG fun kG => ?_
    obtain ⟨⟨o, ho, _⟩, _⟩ := hs
    refine kG ?_
    clear kG
    exact ⟨o, by rw [List.mem_singleton.mp hb]; exact ho⟩
  · intro b hb ha
    rcases List.mem_cons.mp hb with e | hm
    · subst e
      rcases List.mem_cons.mp ha with e | ha
      · exact hID e
      · exact hIC (List.mem_singleton.mp ha)
    · exact hoff _ hl b ha (List.mem_singleton.mp hm).symm
  · intro p hp hb
    exact hIT p hp (List.mem_singleton.mp hb)
  · intro i v c m₁ T own h tk₀ tk _ hv zr11 htk hsub hoff' F₁ N₁
    refine hideG fun kG => ?_
    obtain ⟨rfl, ⟨mC, hnC⟩, hP⟩ := zr11
    refine kG ?_
    clear kG
    exact turn i v c.1 c.2.1 c.2.2 T own h tk₀ tk mC (by simpa using hv) hP htk hsub hoff' F₁ N₁ hnC
  · intro c m₁ T h tk₀ tk zr6 htk hsub hoff' F₁ N₁
    refine hideG fun kG => ?_
    obtain ⟨rfl, hnC, hP⟩ := zr6
    refine kG ?_
    clear kG
    exact done c.1 c.2.1 c.2.2 T h tk₀ tk hP htk hsub hoff' F₁ N₁ hnC
end

section
variable {prog : Program} {w : World} {A : Around} {E : Value → Shared → Prop} {s : Shared} {env : Env} {h₀ : Heap} {L : Addr}
/-- a block of one clause over a list of the ledger -/
theorem comp1 {elt target iter : Expr} {ifs : List Expr} {scope : Scope} {pos : Pos} {cl : List (Str × Addr)} {l : Addr} {vs : List Value} {k : Nat} {m : Str → Option Value} {T₀ : List (Addr × Obj)} {CR : Value → Addr → Result → Shared → Prop}
    (P : Nat → List Value → List (Addr × Obj) → Nat → Prop) (hh : A.handled = none) (hcell : ∀ y ∈ scope.names, y.2 ≠ .cell) (hkind : scope.kind = .function)
    (F : Fr h₀ L s.heap m) (N : News h₀ L s.heap T₀) (hl : (l, listOf vs.toArray k) ∈ T₀) (h0 : P 0 [] T₀ s.toks)
    (turn : ∀ (D C : Addr) (s' : Heap) (R : Result → Shared → Prop), (∀ p ∈ T₀, p.1 < D) → D < C → ∀ i v ys kk oC T own h tk₀ tk mC, vs[i]? = some v → P i ys T tk₀ → tk₀ ≤ tk → Grown T₀ T → OwnOff (T ++ own) [D, C] → Fr h₀ L h m → News h₀ L h ((D, listOf ys.toArray kk) :: (C, oC) :: (T ++ own)) → NsO oC mC →
      wpAny (model prog w) A (assign target (compEnvC scope cl C env) v) (fun _ s₂ => wpAny (model prog w) A (forIn ifs true fun c r => if r = true then do let ok ← isTrue c (compEnvC scope cl C env) (eval c (compEnvC scope cl C env)); pure (ForInStep.yield ok) else pure (ForInStep.yield r)) (fun ok s₃ =>
        if ok = true then wpAny (model prog w) A (do let _ ← call (.builtin "list.append") [.ref D, ← eval elt (compEnvC scope cl C env)]) (fun _ s₅ => LpEnd h₀ L [D, C] (fun c : List Value × Nat × Obj => [(D, listOf c.1.toArray c.2.1), (C, c.2.2)]) own T (fun c m' T tk => m' = m ∧ (∃ mC, NsO c.2.2 mC) ∧ P (i + 1) c.1 T tk) { s with heap := s' } s₅) (notedBy (model prog w) A (compEnvC scope cl C env) fun e s' => R (.error e) s') s₃
        else LpEnd h₀ L [D, C] (fun c : List Value × Nat × Obj => [(D, listOf c.1.toArray c.2.1), (C, c.2.2)]) own T (fun c m' T tk => m' = m ∧ (∃ mC, NsO c.2.2 mC) ∧ P (i + 1) c.1 T tk) { s with heap := s' } s₃)
        (notedBy (model prog w) A (compEnvC scope cl C env) fun e s' => R (.error e) s') s₂) (notedBy (model prog w) A (compEnvC scope cl C env) fun e s' => R (.error e) s') { s with heap := h, toks := tk })
    (done : ∀ D C ys kk oC T h tk₀ tk, (∀ p ∈ T₀, p.1 < D) → D < C → P vs.length ys T tk₀ → tk₀ ≤ tk → Grown T₀ T → OwnOff T [D, C] → Fr h₀ L h m → News h₀ L h ((D, listOf ys.toArray kk) :: (C, oC) :: T) → (∃ mC, NsO oC mC) → CR (.ref D) C (.ok .next) { s with heap := h, toks := tk }) :
    wpAny (model prog w) A (pyIter (.ref l)) (fun it s₂ => wpAny (model prog w) A (newList []) (fun acc s₃ => wpAny (model prog w) A (newFunctionEnv scope env.globals cl [] env.qual none .none (some env)) (fun cenv s₄ =>
      codeAny (model prog w) A (.compStart (.ListComp elt [⟨target, iter, ifs, 0⟩] scope pos) 0 it acc { cenv with scope := relabel scope env }) (CR acc cenv.locals) s₄) E s₃) E s₂) E s := by
  have hol : s.heap.get? l = some (listOf vs.toArray k) := (N _ hl).1
  have hls : s.heap.IsList l vs.toArray := ⟨_, hol, rfl, k, rfl⟩
  refine wpAny_pyIter_list hls ?_
  have hlt : ∀ p ∈ T₀, p.1 < s.heap.objs.size := fun p hp => Heap.lt_size (N p hp).1
  have hLs : L < s.heap.objs.size := F.ns.lt
  refine comp_in (s₂ := { s with heap := s.heap.push _ }) hcell hkind (F.push _) (fun p hp => ⟨Heap.get?_push_of_some _ (N p hp).1, (N p hp).2⟩) fun D C oC h₁ F₁ N₁ hnC hD hDC hk => ?_
  have hDs : s.heap.objs.size < D := by
    have : (s.heap.push { cls := .type "list_iterator", data := .fields #[.ref l, .int 0 0] }).objs.size = s.heap.objs.size + 1 := Heap.size_push ..
    exact Nat.lt_of_lt_of_le (by rw [this]; exact Nat.lt_succ_self _) hD
  have hit : h₁.IsListIter s.heap.objs.size l 0 := ⟨_, hk _ _ (Heap.get?_push_size _ rfl), rfl, rfl⟩
  have loop : codeAny (model prog w) A (.compLoop (.ListComp elt [⟨target, iter, ifs, 0⟩] scope pos) 0 (.ref s.heap.objs.size) (.ref D) (compEnvC scope cl C env)) (CR (.ref D) C) { s with heap := h₁ } := by
    refine compLoopL P (compTurn_one ..) hh hit (next_is_new F) (Nat.ne_of_gt hLs) (fun p hp => Nat.ne_of_lt (hlt p hp)) (Nat.ne_of_lt hDs) (Nat.ne_of_lt (Nat.lt_trans hDs hDC)) F₁ N₁ hl ?_ ⟨_, hnC⟩ h0
      (fun i v ys kk oC T own h tk₀ tk mC => turn D C h₁ (CR (.ref D) C) (fun p hp => Nat.lt_trans (hlt p hp) hDs) hDC i v ys kk oC T own h tk₀ tk mC) (fun ys kk oC T h tk₀ tk => done D C ys kk oC T h tk₀ tk (fun p hp => Nat.lt_trans (hlt p hp) hDs) hDC)
    intro p hp b hb
    rcases List.mem_cons.mp hb with e | hb
    · rw [e]; exact Nat.ne_of_lt (Nat.lt_trans (hlt p hp) hDs)
    · rw [List.mem_singleton.mp hb]; exact Nat.ne_of_lt (Nat.lt_trans (Nat.lt_trans (hlt p hp) hDs) hDC)
  exact codeAny_compStart_list loop (wpAny_pyIter_listiter hit loop)

theorem comp_eval {elt target iter : Expr} {ifs : List Expr} {rest : List Comprehension} {scope : Scope} {cl : List (Str × Addr)} {pos : Pos} {Q : Value → Shared → Prop}
    (hclos : closureFor scope env = pure cl) (hkind : scope.kind = .function) (hnames : ∀ y ∈ scope.names, y.2 = .local → scope.names.lookup y.1 = some .local)
    (hs : ∀ x, foldedSetIterable iter env x = pure x)
    (h : wpAny (model prog w) A (eval iter env) (fun x s₁ => wpAny (model prog w) A (pyIter x) (fun it s₂ => wpAny (model prog w) A (newList []) (fun acc s₃ =>
      wpAny (model prog w) A (newFunctionEnv scope env.globals cl [] env.qual none .none (some env)) (fun cenv s₄ =>
        codeAny (model prog w) A (.compStart (.ListComp elt (⟨target, iter, ifs, 0⟩ :: rest) scope pos) 0 it acc { cenv with scope := relabel scope env }) ((fun acc C => compPost (model prog w) A E none Q acc C) acc cenv.locals) s₄) E s₃) E s₂) E s₁) E s) :
    wpAny (model prog w) A (eval (.ListComp elt (⟨target, iter, ifs, 0⟩ :: rest) scope pos) env) Q E s := by
  rw [eval_ListComp]
  exact wpAny_comprehension_free (use := none) rfl hs hclos hkind hnames h

theorem comp_assign {elt target iter : Expr} {y : Str} {py : Pos} {ifs : List Expr} {rest : List Comprehension} {scope : Scope} {cl : List (Str × Addr)} {pos spos : Pos} {Q : Flow → Shared → Prop}
    (hsw : swapsWith (.ListComp elt (⟨target, iter, ifs, 0⟩ :: rest) scope pos) (some (.Name y py)) spos.line env = pure true)
    (hclos : closureFor scope env = pure cl) (hkind : scope.kind = .function) (hnames : ∀ y ∈ scope.names, y.2 = .local → scope.names.lookup y.1 = some .local)
    (hs : ∀ x, foldedSetIterable iter env x = pure x)
    (h : wpAny (model prog w) A (eval iter env) (fun x s₁ => wpAny (model prog w) A (pyIter x) (fun it s₂ => wpAny (model prog w) A (newList []) (fun acc s₃ =>
      wpAny (model prog w) A (newFunctionEnv scope env.globals cl [] env.qual none .none (some env)) (fun cenv s₄ =>
        codeAny (model prog w) A (.compStart (.ListComp elt (⟨target, iter, ifs, 0⟩ :: rest) scope pos) 0 it acc { cenv with scope := relabel scope env }) ((fun acc C => compPost (model prog w) A E (some (assign (.Name y py) env)) (fun _ s' => Q .next s') acc C) acc cenv.locals) s₄) E s₃) E s₂) E s₁) E s) :
    wpAny (model prog w) A (exec (.Assign [.Name y py] (.ListComp elt (⟨target, iter, ifs, 0⟩ :: rest) scope pos) spos) env) Q E s := by
  rw [exec_Assign_Name_used _ _ _ _ hsw]
  refine wpAny_bind (wpAny_standAt (wpAny_bind ?_))
  show wpAny _ A (do let _ ← comprehension (.ListComp elt (⟨target, iter, ifs, 0⟩ :: rest) scope pos) scope env _ (newList []) false (eval iter env) (some (assign (.Name y py) env))) _ _ s
  exact wpAny_bind (wpAny_mono (wpAny_comprehension_free (use := some (assign (.Name y py) env)) (Q := fun _ s' => Q .next s') rfl hs hclos hkind hnames h) (fun _ s' hq => wpAny_pure (wpAny_pure hq)) fun _ _ e => e)

/-- leaving a block whose list is a value -/
theorem comp_out {Q : Value → Shared → Prop} {D C : Addr} {oD oC : Obj} {T : List (Addr × Obj)} {m : Str → Option Value} {s' : Shared} (F : Fr h₀ L s'.heap m) (N : News h₀ L s'.heap ((D, oD) :: (C, oC) :: T)) (hnC : ∃ mC, NsO oC mC) (hDC : D ≠ C) (hC : ∀ p ∈ T, p.1 ≠ C)
    (h : ∀ h', Fr h₀ L h' m → News h₀ L h' ((D, oD) :: T) → Q (.ref D) { s' with heap := h' }) : compPost (model prog w) A E none Q (.ref D) C (.ok .next) s' := by
  obtain ⟨mC, hn⟩ := hnC
  have eC := N _ (.tail _ (.head _))
  refine ⟨mC, ns_of eC.1 hn, fun h' hs => h h' ⟨F.ns.sameBut hs (Ne.symm eC.2.1), fun b o e => (hs.2 b fun q => ?_).trans (F.keep b o e), F.above⟩ ?_⟩
  · rw [q, eC.2.2] at e; cases e
  · intro p hp
    rcases List.mem_cons.mp hp with e | hp
    · subst e; exact ⟨(hs.2 _ hDC).trans (N _ (.head _)).1, (N _ (.head _)).2⟩
    · exact ⟨(hs.2 _ (hC p hp)).trans (N p (.tail _ (.tail _ hp))).1, (N p (.tail _ (.tail _ hp))).2⟩
/-- leaving a block whose list is stored -/
theorem comp_store {Q : Value → Shared → Prop} {D C : Addr} {oD oC : Obj} {T : List (Addr × Obj)} {m : Str → Option Value} {s' : Shared} {y : Str} {py : Pos} (hL : env.locals = L) (F : Fr h₀ L s'.heap m) (N : News h₀ L s'.heap ((D, oD) :: (C, oC) :: T)) (hnC : ∃ mC, NsO oC mC) (hDC : D ≠ C) (hC : ∀ p ∈ T, p.1 ≠ C)
    (hy : env.kindOf y = some .local) (hp : (env.scope.kind == .class || (env.scope.kind == .module && env.locals != env.globals)) = false)
    (h : ∀ h', Fr h₀ L h' (fun z => if z = y then some (.ref D) else m z) → News h₀ L h' ((D, oD) :: T) → Q .none { s' with heap := h', toks := s'.toks + 1 }) : compPost (model prog w) A E (some (assign (.Name y py) env)) Q (.ref D) C (.ok .next) s' := by
  subst hL
  obtain ⟨mC, hn⟩ := hnC
  have eC := N _ (.tail _ (.head _))
  show wpAny _ A (assign (.Name y py) env (.ref D)) _ _ _
  refine wpAny_assign_Name (wpAny_storeName_local hy F.ns (fun h₂ hn₂ hs₂ => ?_) hp)
  have F₂ := F.set hn₂ hs₂
  have N₂ := N.set hs₂
  have eC₂ := N₂ _ (.tail _ (.head _))
  refine ⟨mC, ns_of eC₂.1 hn, fun h' hs => h h' ⟨F₂.ns.sameBut hs (Ne.symm eC.2.1), fun b o e => (hs.2 b fun q => ?_).trans (F₂.keep b o e), F₂.above⟩ ?_⟩
  · rw [q, eC.2.2] at e; cases e
  · intro p hp
    rcases List.mem_cons.mp hp with e | hp
    · subst e; exact ⟨(hs.2 _ hDC).trans (N₂ _ (.head _)).1, (N₂ _ (.head _)).2⟩
    · exact ⟨(hs.2 _ (hC p hp)).trans (N₂ p (.tail _ (.tail _ hp))).1, (N₂ p (.tail _ (.tail _ hp))).2⟩

theorem ldC {scope : Scope} {cl : List (Str × Addr)} {C : Addr} {x : Str} {pos : Pos} {v : Value} {news : List (Addr × Obj)} {oC : Obj} {mC : Str → Option Value} {Q : Value → Shared → Prop} (N : News h₀ L s.heap news) (hm : (C, oC) ∈ news) (hn : NsO oC mC) (hv : mC x = some v) (h : Q v s)
    (hk : (compEnvC scope cl C env).scope.kind = .function) (hx : (compEnvC scope cl C env).kindOf x = some .local) (hb : (x == ("__debug__" : Str)) = false := by decide) :
    wpAny (model prog w) A (eval (.Name x pos) (compEnvC scope cl C env)) Q E s := wpAny_Name (wpAny_loadName_local hk hx (ns_of (N _ hm).1 hn) hv h) hb
end

section
variable {M : Model} {A : Around} {E : Value → Shared → Prop} {s : Shared}
theorem inner_append {elt : Expr} {env : Env} {D : Addr} {Q : Unit → Shared → Prop} (h : wpAny M A (eval elt env) (fun x s₄ => wpAny M A (call (.builtin "list.append") [.ref D, x]) (fun _ s₅ => Q () s₅) E s₄) E s) :
    wpAny M A (do let _ ← call (.builtin "list.append") [.ref D, ← eval elt env]) Q E s :=
  wpAny_bind (wpAny_mono h (fun _ _ h₁ => wpAny_bind (wpAny_mono h₁ (fun _ _ h₂ => wpAny_pure h₂) fun _ _ e => e)) fun _ _ e => e)
theorem tests_nil {prog : Program} {w : World} {env : Env} {Q : Bool → Shared → Prop} (h : Q true s) :
    wpAny (model prog w) A (forIn ([] : List Expr) true fun c r => if r = true then do let ok ← isTrue c env (eval c env); pure (ForInStep.yield ok) else pure (ForInStep.yield r)) Q E s := wpAny_tests_nil h
end
section
variable {h₀ h' : Heap} {L D C : Addr} {own T news' : List (Addr × Obj)} {P : List Value → List (Addr × Obj) → Nat → Prop} {s : Shared} {m : Str → Option Value} {tk : Nat}
/-- a block's turn ends: things laid anew are kept -/
theorem ce_more (ys : List Value) (kk : Nat) (oC : Obj) (add : List (Addr × Obj)) (F : Fr h₀ L h' m) (N : News h₀ L h' news') (hin : ∀ p ∈ (D, listOf ys.toArray kk) :: (C, oC) :: (add ++ (T ++ own)), p ∈ news') (ha : ∀ q ∈ add, ∀ b ∈ [D, C], q.1 ≠ b) (ho : ∀ q ∈ add, ∀ p ∈ T ++ own, p.1 < q.1) (hn : ∃ mC, NsO oC mC) (hP : P ys (add ++ T) tk) :
    LpEnd h₀ L [D, C] (fun c : List Value × Nat × Obj => [(D, listOf c.1.toArray c.2.1), (C, c.2.2)]) own T (fun c m' T tk => m' = m ∧ (∃ mC, NsO c.2.2 mC) ∧ P c.1 T tk) s { s with heap := h', toks := tk } :=
  ⟨(ys, kk, oC), m, add, h', tk, news', rfl, F, N, hin, ha, ho, rfl, hn, hP⟩
theorem ce_next (ys : List Value) (kk : Nat) (oC : Obj) (F : Fr h₀ L h' m) (N : News h₀ L h' news') (hin : ∀ p ∈ (D, listOf ys.toArray kk) :: (C, oC) :: (T ++ own), p ∈ news') (hn : ∃ mC, NsO oC mC) (hP : P ys T tk) :
    LpEnd h₀ L [D, C] (fun c : List Value × Nat × Obj => [(D, listOf c.1.toArray c.2.1), (C, c.2.2)]) own T (fun c m' T tk => m' = m ∧ (∃ mC, NsO c.2.2 mC) ∧ P c.1 T tk) s { s with heap := h', toks := tk } :=
  ce_more ys kk oC [] F N (by simpa using hin) (fun _ h => nomatch h) (fun _ h => nomatch h) hn (by simpa using hP)
end

/-- a step that is taken by hand -/
noncomputable def held {α : Type} (t : Sem α) : Sem α := t
theorem hold {α : Type} {M : Model} {A : Around} {t : Sem α} {Q : α → Shared → Prop} {E : Value → Shared → Prop} {s : Shared} (h : wpAny M A (held t) Q E s) : wpAny M A t Q E s := h

section
variable {prog : Program} {w : World} {A : Around} {E : Value → Shared → Prop} {s : Shared} {h₀ : Heap} {L : Addr} {news : List (Addr × Obj)} {Q : Value → Shared → Prop}
theorem last_led {value slice : Expr} {l : Addr} {vs : List Value} {n : Nat} {u : Tok} {x : Value} (N : News h₀ L s.heap news) (hm : (l, listOf vs.toArray n) ∈ news) (hx : vs.getLast? = some x) (h : Q x s)
    (hs : subscripted slice false (.ref l) (.int (-1) u) = operate [.ref l, .int (-1) u] (getItem (.ref l) (.int (-1) u)) := by with_unfolding_all rfl) :
    wpAny (model prog w) A (subscriptTail value slice (.ref l) (.int (-1) u)) Q E s := by
  have hl := isList_of N hm
  have hne : vs ≠ [] := by intro e; subst e; cases hx
  have hpos : 0 < vs.length := List.length_pos_iff.mpr hne
  refine tail_any hl.typeIs slot_list_getitem.lookup (wpAny_getItem_list_neg hl (by decide) (by simp; omega) (by decide) ?_ h) hs
  rw [List.getLast?_eq_getElem?] at hx
  have : ((-1 : Int) + (vs.toArray.size : Int)).toNat = vs.length - 1 := by simp; omega
  rw [this]; simpa using hx
end

theorem pick_from {vs : List Value} {k : Int} (h : 0 ≤ k) : kms_pick vs (some k) none = vs.drop k.toNat := by
  unfold kms_pick kms_lo kms_hi
  simp only [if_neg (Int.not_lt.mpr h)]
  rw [List.take_of_length_le (by rw [List.length_drop]; omega)]
  exact kmk_drop_min vs k.toNat
theorem pick_upto {vs : List Value} {k : Int} (h : 0 ≤ k) : kms_pick vs none (some k) = vs.take k.toNat := by
  unfold kms_pick kms_lo kms_hi
  simp only [if_neg (Int.not_lt.mpr h), List.drop_zero, Nat.sub_zero]
  exact kmk_take_min vs k.toNat
section
variable {prog : Program} {w : World} {A : Around} {E : Value → Shared → Prop} {s : Shared} {h₀ : Heap} {L l : Addr} {m : Str → Option Value} {news : List (Addr × Obj)} {value slice : PySem.Expr} {vs : List Value} {k : Int} {u : Tok} {n : Nat} {Q : Value → Shared → Prop}
theorem slice_from (F : Fr h₀ L s.heap m) (N : News h₀ L s.heap news) (hm : (l, listOf vs.toArray n) ∈ news) (h0 : 0 ≤ k) (hz : vs.length ≤ 1000)
    (h : ∀ D h', Fr h₀ L h' m → News h₀ L h' ((D, listOf (vs.drop k.toNat).toArray 0) :: news) → (∀ p ∈ news, p.1 < D) → Q (.ref D) { s with heap := h' })
    (hs : subscripted slice false (.ref l) (.ref s.heap.objs.size) = operate [.ref s.heap.objs.size, .ref l] (getItem (.ref l) (.ref s.heap.objs.size))) (ht : ∀ r, letTemporaryGo value (.ref l) r = pure ()) :
    wpAny (model prog w) A (subscriptTail value slice (.ref l) (.ref s.heap.objs.size)) Q E { s with heap := s.heap.push { cls := .type "slice", data := .fields #[.int k u, .none, .none] } } :=
  kms_slice_lit F N (isList_of N hm) (.int ..) .none (pick_from h0) h hs ht (by rw [sizeLine_eq]; simp; omega)
theorem slice_upto (F : Fr h₀ L s.heap m) (N : News h₀ L s.heap news) (hm : (l, listOf vs.toArray n) ∈ news) (h0 : 0 ≤ k) (hz : vs.length ≤ 1000)
    (h : ∀ D h', Fr h₀ L h' m → News h₀ L h' ((D, listOf (vs.take k.toNat).toArray 0) :: news) → (∀ p ∈ news, p.1 < D) → Q (.ref D) { s with heap := h' })
    (hs : subscripted slice false (.ref l) (.ref s.heap.objs.size) = operate [.ref s.heap.objs.size, .ref l] (getItem (.ref l) (.ref s.heap.objs.size))) (ht : ∀ r, letTemporaryGo value (.ref l) r = pure ()) :
    wpAny (model prog w) A (subscriptTail value slice (.ref l) (.ref s.heap.objs.size)) Q E { s with heap := s.heap.push { cls := .type "slice", data := .fields #[.none, .int k u, .none] } } :=
  kms_slice_lit F N (isList_of N hm) .none (.int ..) (pick_upto h0) h hs ht (by rw [sizeLine_eq]; simp; omega)
end

section
variable {prog : Program} {w : World} {A : Around} {E : Value → Shared → Prop} {s : Shared} {h₀ : Heap} {L l b D : Addr} {m : Str → Option Value} {news news' : List (Addr × Obj)} {vs : List Value} {n n2 : Nat} {Q : Value → Shared → Prop}
theorem tup_led (F : Fr h₀ L s.heap m) (N : News h₀ L s.heap news) (hm : (l, listOf vs.toArray n) ∈ news) (hz : vs.length ≤ 1000)
    (h : ∀ D h', Fr h₀ L h' m → News h₀ L h' ((D, tupO vs) :: news) → (∀ p ∈ news, p.1 < D) → Q (.ref D) { s with heap := h' }) : wpAny (model prog w) A (call (.type "tuple") [.ref l]) Q E s :=
  kde_tupleOf F N (isList_of N hm) (by simp; omega) rfl h
theorem ext2_led {x y : Value} (F : Fr h₀ L s.heap m) (N : News h₀ L s.heap news) (hb : (b, listOf #[x, y] n2) ∈ news) (U : Upd D (listOf vs.toArray n) (listOf (vs ++ [x, y]).toArray (n + 1)) news news') (hz : vs.length ≤ 1000)
    (h : ∀ h', Fr h₀ L h' m → News h₀ L h' news' → Q .none { s with heap := h' }) : wpAny (model prog w) A (call (.builtin "list.extend") [.ref D, .ref b]) Q E s := by
  refine kl_extend (its := vs.toArray) F N hb (l := vs ++ [x, y]) rfl (by simp) U ?_ (by rw [sizeLine_eq]; simp; omega) (by rw [sizeLine_eq]; simp; omega) h
  have hlt : Builtin.List.listTooLong (vs.length + 2) = false := by simp only [Builtin.List.listTooLong, sizeLine_eq]; simp; omega
  simp [hlt]
end

section
variable {σ : Type} {prog : Program} {w : World} {A : Around} {E : Value → Shared → Prop} {s : Shared} {env : Env} {h₀ : Heap} {L : Addr} {R : Result → Shared → Prop} {target : Expr}
/-- the loop of a block over a list of the ledger -/
theorem compLoopM {elt : Expr} {gens : List Comprehension} {d : Nat} {ifs : List Expr} {scope : Scope} {pos p : Pos} {inner : Sem Unit} {I l D C : Addr} {vs ys : List Value} {k kk : Nat} {oC : Obj} {m : Str → Option Value} {T₀ : List (Addr × Obj)}
    (P : Nat → List Value → List (Addr × Obj) → Nat → Prop) (MM : (Str → Option Value) → Prop)
    (heq : compTurn (.ListComp elt gens scope pos) d (.ref I) (.ref D) env = compStepT target ifs (.ref I) env p inner (.compLoop (.ListComp elt gens scope pos) d (.ref I) (.ref D) env))
    (hh : A.handled = none) (hit : s.heap.IsListIter I l 0) (hI : h₀.get? I = none) (hIL : I ≠ L) (hIT : ∀ p ∈ T₀, p.1 ≠ I) (hID : I ≠ D) (hIC : I ≠ C)
    (F : Fr h₀ L s.heap m) (N : News h₀ L s.heap ((D, listOf ys.toArray kk) :: (C, oC) :: T₀)) (hl : (l, listOf vs.toArray k) ∈ T₀) (hoff : OwnOff T₀ [D, C]) (hnC : ∃ mC, NsO oC mC ∧ MM mC) (h0 : P 0 ys T₀ s.toks)
    (turn : ∀ i v ys kk oC T own h tk₀ tk mC, vs[i]? = some v → P i ys T tk₀ → tk₀ ≤ tk → Grown T₀ T → OwnOff (T ++ own) [D, C] → Fr h₀ L h m → News h₀ L h ((D, listOf ys.toArray kk) :: (C, oC) :: (T ++ own)) → NsO oC mC → MM mC →
      wpAny (model prog w) A (assign target env v) (fun _ s₂ => wpAny (model prog w) A (forIn ifs true fun c r => if r = true then do let ok ← isTrue c env (eval c env); pure (ForInStep.yield ok) else pure (ForInStep.yield r)) (fun ok s₃ =>
        if ok = true then wpAny (model prog w) A inner (fun _ s₅ => LpEnd h₀ L [D, C] (fun c : List Value × Nat × Obj => [(D, listOf c.1.toArray c.2.1), (C, c.2.2)]) own T (fun c m' T tk => m' = m ∧ (∃ mC, NsO c.2.2 mC ∧ MM mC) ∧ P (i + 1) c.1 T tk) s s₅) (notedBy (model prog w) A env fun e s' => R (.error e) s') s₃
        else LpEnd h₀ L [D, C] (fun c : List Value × Nat × Obj => [(D, listOf c.1.toArray c.2.1), (C, c.2.2)]) own T (fun c m' T tk => m' = m ∧ (∃ mC, NsO c.2.2 mC ∧ MM mC) ∧ P (i + 1) c.1 T tk) s s₃)
        (notedBy (model prog w) A env fun e s' => R (.error e) s') s₂) (notedBy (model prog w) A env fun e s' => R (.error e) s') { s with heap := h, toks := tk })
    (done : ∀ ys kk oC T h tk₀ tk, P vs.length ys T tk₀ → tk₀ ≤ tk → Grown T₀ T → OwnOff T [D, C] → Fr h₀ L h m → News h₀ L h ((D, listOf ys.toArray kk) :: (C, oC) :: T) → (∃ mC, NsO oC mC ∧ MM mC) → R (.ok .next) { s with heap := h, toks := tk }) :
    codeAny (model prog w) A (.compLoop (.ListComp elt gens scope pos) d (.ref I) (.ref D) env) R s := by
  have hol : s.heap.get? l = some (listOf vs.toArray k) := (N _ (.tail _ (.tail _ hl))).1
  have hls : s.heap.IsList l vs.toArray := ⟨_, hol, rfl, k, rfl⟩
  have hlI : l ≠ I := hIT _ hl
  have Wk := Walks.list (prog := prog) (w := w) hh I l hlI vs.toArray
  have hlen : vs.toArray.size = vs.length := by simp
  rw [hlen] at Wk
  refine compW (σ := List Value × Nat × Obj) heq Wk (fun c => [(D, listOf c.1.toArray c.2.1), (C, c.2.2)]) [D, C] (fun i c m' T tk => m' = m ∧ (∃ mC, NsO c.2.2 mC ∧ MM mC) ∧ P i c.1 T tk) (ys, kk, oC) T₀ (fun _ => rfl) ?_ ?_ ?_ ?_ (fun i s' v Q' hs' hq => go_listiter hs'.1 hq) ⟨hit, hls⟩ F N ?_ hoff ⟨rfl, hnC, h0⟩ ?_ ?_
  · intro hm
    rcases List.mem_cons.mp hm with e | hm
    · exact hIL e.symm
    · exact (N _ (.tail _ (.tail _ hl))).2.1 (List.mem_singleton.mp hm).symm
  · intro b hb
    rw [List.mem_singleton.mp hb]; exact hI
  · intro i h hs b hb
    refine hideG fun kG => ?_
    obtain ⟨⟨o, ho, _⟩, _⟩ := hs
    refine kG ?_
    clear kG
    exact ⟨o, by rw [List.mem_singleton.mp hb]; exact ho⟩
  · intro b hb ha
    rcases List.mem_cons.mp hb with e | hm
    · subst e
      rcases List.mem_cons.mp ha with e | ha
      · exact hID e
      · exact hIC (List.mem_singleton.mp ha)
    · exact hoff _ hl b ha (List.mem_singleton.mp hm).symm
  · intro p hp hb
    exact hIT p hp (List.mem_singleton.mp hb)
  · intro i v c m₁ T own h tk₀ tk _ hv zr11 htk hsub hoff' F₁ N₁
    refine hideG fun kG => ?_
    obtain ⟨rfl, ⟨mC, hnC, hM⟩, hP⟩ := zr11
    refine kG ?_
    clear kG
    exact turn i v c.1 c.2.1 c.2.2 T own h tk₀ tk mC (by simpa using hv) hP htk hsub hoff' F₁ N₁ hnC hM
  · intro c m₁ T h tk₀ tk zr6 htk hsub hoff' F₁ N₁
    refine hideG fun kG => ?_
    obtain ⟨rfl, hnC, hP⟩ := zr6
    refine kG ?_
    clear kG
    exact done c.1 c.2.1 c.2.2 T h tk₀ tk hP htk hsub hoff' F₁ N₁ hnC
end
section
variable {prog : Program} {w : World} {A : Around} {E : Value → Shared → Prop} {s : Shared} {env : Env} {h₀ : Heap} {L : Addr}
/-- a block of one clause over a list of the ledger -/
theorem comp2 {elt target iter t2 i2 : Expr} {ifs ifs2 : List Expr} {scope : Scope} {pos : Pos} {cl : List (Str × Addr)} {l : Addr} {vs : List Value} {k : Nat} {m : Str → Option Value} {T₀ : List (Addr × Obj)} {CR : Value → Addr → Result → Shared → Prop}
    (P : Nat → List Value → List (Addr × Obj) → Nat → Prop) (hh : A.handled = none) (hcell : ∀ y ∈ scope.names, y.2 ≠ .cell) (hkind : scope.kind = .function)
    (F : Fr h₀ L s.heap m) (N : News h₀ L s.heap T₀) (hl : (l, listOf vs.toArray k) ∈ T₀) (h0 : P 0 [] T₀ s.toks)
    (turn : ∀ (D C : Addr) (s' : Heap) (R : Result → Shared → Prop), (∀ p ∈ T₀, p.1 < D) → D < C → ∀ i v ys kk oC T own h tk₀ tk mC, vs[i]? = some v → P i ys T tk₀ → tk₀ ≤ tk → Grown T₀ T → OwnOff (T ++ own) [D, C] → Fr h₀ L h m → News h₀ L h ((D, listOf ys.toArray kk) :: (C, oC) :: (T ++ own)) → NsO oC mC →
      wpAny (model prog w) A (assign target (compEnvC scope cl C env) v) (fun _ s₂ => wpAny (model prog w) A (forIn ifs true fun c r => if r = true then do let ok ← isTrue c (compEnvC scope cl C env) (eval c (compEnvC scope cl C env)); pure (ForInStep.yield ok) else pure (ForInStep.yield r)) (fun ok s₃ =>
        if ok = true then wpAny (model prog w) A (do
        let x ← eval i2 (compEnvC scope cl C env)
        standAt i2.pos
        let x ← foldedSetIterable i2 (compEnvC scope cl C env) x
        let _ ← runOwn (.compStart (.ListComp elt [⟨target, iter, ifs, 0⟩, ⟨t2, i2, ifs2, 0⟩] scope pos) 1 (← holding [x] (pyIter x)) (.ref D) (compEnvC scope cl C env)) (compEnvC scope cl C env)) (fun _ s₅ => LpEnd h₀ L [D, C] (fun c : List Value × Nat × Obj => [(D, listOf c.1.toArray c.2.1), (C, c.2.2)]) own T (fun c m' T tk => m' = m ∧ (∃ mC, NsO c.2.2 mC) ∧ P (i + 1) c.1 T tk) { s with heap := s' } s₅) (notedBy (model prog w) A (compEnvC scope cl C env) fun e s' => R (.error e) s') s₃
        else LpEnd h₀ L [D, C] (fun c : List Value × Nat × Obj => [(D, listOf c.1.toArray c.2.1), (C, c.2.2)]) own T (fun c m' T tk => m' = m ∧ (∃ mC, NsO c.2.2 mC) ∧ P (i + 1) c.1 T tk) { s with heap := s' } s₃)
        (notedBy (model prog w) A (compEnvC scope cl C env) fun e s' => R (.error e) s') s₂) (notedBy (model prog w) A (compEnvC scope cl C env) fun e s' => R (.error e) s') { s with heap := h, toks := tk })
    (done : ∀ D C ys kk oC T h tk₀ tk, (∀ p ∈ T₀, p.1 < D) → D < C → P vs.length ys T tk₀ → tk₀ ≤ tk → Grown T₀ T → OwnOff T [D, C] → Fr h₀ L h m → News h₀ L h ((D, listOf ys.toArray kk) :: (C, oC) :: T) → (∃ mC, NsO oC mC) → CR (.ref D) C (.ok .next) { s with heap := h, toks := tk }) :
    wpAny (model prog w) A (pyIter (.ref l)) (fun it s₂ => wpAny (model prog w) A (newList []) (fun acc s₃ => wpAny (model prog w) A (newFunctionEnv scope env.globals cl [] env.qual none .none (some env)) (fun cenv s₄ =>
      codeAny (model prog w) A (.compStart (.ListComp elt [⟨target, iter, ifs, 0⟩, ⟨t2, i2, ifs2, 0⟩] scope pos) 0 it acc { cenv with scope := relabel scope env }) (CR acc cenv.locals) s₄) E s₃) E s₂) E s := by
  have hol : s.heap.get? l = some (listOf vs.toArray k) := (N _ hl).1
  have hls : s.heap.IsList l vs.toArray := ⟨_, hol, rfl, k, rfl⟩
  refine wpAny_pyIter_list hls ?_
  have hlt : ∀ p ∈ T₀, p.1 < s.heap.objs.size := fun p hp => Heap.lt_size (N p hp).1
  have hLs : L < s.heap.objs.size := F.ns.lt
  refine comp_in (s₂ := { s with heap := s.heap.push _ }) hcell hkind (F.push _) (fun p hp => ⟨Heap.get?_push_of_some _ (N p hp).1, (N p hp).2⟩) fun D C oC h₁ F₁ N₁ hnC hD hDC hk => ?_
  have hDs : s.heap.objs.size < D := by
    have : (s.heap.push { cls := .type "list_iterator", data := .fields #[.ref l, .int 0 0] }).objs.size = s.heap.objs.size + 1 := Heap.size_push ..
    exact Nat.lt_of_lt_of_le (by rw [this]; exact Nat.lt_succ_self _) hD
  have hit : h₁.IsListIter s.heap.objs.size l 0 := ⟨_, hk _ _ (Heap.get?_push_size _ rfl), rfl, rfl⟩
  have loop : codeAny (model prog w) A (.compLoop (.ListComp elt [⟨target, iter, ifs, 0⟩, ⟨t2, i2, ifs2, 0⟩] scope pos) 0 (.ref s.heap.objs.size) (.ref D) (compEnvC scope cl C env)) (CR (.ref D) C) { s with heap := h₁ } := by
    refine compLoopL P (compTurn_two0 ..) hh hit (next_is_new F) (Nat.ne_of_gt hLs) (fun p hp => Nat.ne_of_lt (hlt p hp)) (Nat.ne_of_lt hDs) (Nat.ne_of_lt (Nat.lt_trans hDs hDC)) F₁ N₁ hl ?_ ⟨_, hnC⟩ h0
      (fun i v ys kk oC T own h tk₀ tk mC => turn D C h₁ (CR (.ref D) C) (fun p hp => Nat.lt_trans (hlt p hp) hDs) hDC i v ys kk oC T own h tk₀ tk mC) (fun ys kk oC T h tk₀ tk => done D C ys kk oC T h tk₀ tk (fun p hp => Nat.lt_trans (hlt p hp) hDs) hDC)
    intro p hp b hb
    rcases List.mem_cons.mp hb with e | hb
    · rw [e]; exact Nat.ne_of_lt (Nat.lt_trans (hlt p hp) hDs)
    · rw [List.mem_singleton.mp hb]; exact Nat.ne_of_lt (Nat.lt_trans (Nat.lt_trans (hlt p hp) hDs) hDC)
  exact codeAny_compStart_list loop (wpAny_pyIter_listiter hit loop)


theorem inner_two {i2 : Expr} {acc : Value} {comp : Expr} {Q : Unit → Shared → Prop} (hs : ∀ x, foldedSetIterable i2 env x = pure x)
    (h : wpAny (model prog w) A (eval i2 env) (fun x s₁ => wpAny (model prog w) A (pyIter x) (fun it s₂ => wpAny (model prog w) A (runOwn (.compStart comp 1 it acc env) env) (fun _ s' => Q () s') E s₂) E s₁) E s) :
    wpAny (model prog w) A (do
        let x ← eval i2 env
        standAt i2.pos
        let x ← foldedSetIterable i2 env x
        let _ ← runOwn (.compStart comp 1 (← holding [x] (pyIter x)) acc env) env) Q E s := by
  refine wpAny_bind (wpAny_mono h (fun x s₁ h₁ => wpAny_bind (wpAny_standAt ?_)) fun _ _ e => e)
  rw [hs]
  refine wpAny_bind (wpAny_pure (wpAny_bind (wpAny_holding (wpAny_mono h₁ (fun it s₂ h₂ => wpAny_bind (wpAny_mono h₂ (fun _ s' h' => wpAny_pure h') fun _ _ e => e)) fun _ _ e => e))))

/-- the inner clause over a list of the ledger -/
theorem comp2_in {elt t1 i1 t2 i2 : Expr} {ifs1 ifs2 : List Expr} {scope : Scope} {pos : Pos} {l2 D C : Addr} {vs2 ys : List Value} {k kk : Nat} {oC : Obj} {m : Str → Option Value} {T₀ : List (Addr × Obj)} {Q : Flow → Shared → Prop}
    (P : Nat → List Value → Prop) (MM : (Str → Option Value) → Prop) (hh : A.handled = none)
    (F : Fr h₀ L s.heap m) (N : News h₀ L s.heap ((D, listOf ys.toArray kk) :: (C, oC) :: T₀)) (hl : (l2, listOf vs2.toArray k) ∈ T₀) (hoff : OwnOff T₀ [D, C]) (hn : ∃ mC, NsO oC mC ∧ MM mC) (h0 : P 0 ys)
    (turn : ∀ (s' : Heap) i v ys kk oC own h tk mC, vs2[i]? = some v → P i ys → OwnOff (T₀ ++ own) [D, C] → Fr h₀ L h m → News h₀ L h ((D, listOf ys.toArray kk) :: (C, oC) :: (T₀ ++ own)) → NsO oC mC → MM mC → ∀ E',
      wpAny (model prog w) A (assign t2 env v) (fun _ s₂ => wpAny (model prog w) A (forIn ifs2 true fun c r => if r = true then do let ok ← isTrue c env (eval c env); pure (ForInStep.yield ok) else pure (ForInStep.yield r)) (fun ok s₃ =>
        if ok = true then wpAny (model prog w) A (do let _ ← call (.builtin "list.append") [.ref D, ← eval elt env]) (fun _ s₅ => LpEnd h₀ L [D, C] (fun c : List Value × Nat × Obj => [(D, listOf c.1.toArray c.2.1), (C, c.2.2)]) own T₀ (fun c m' T tk => m' = m ∧ (∃ mC, NsO c.2.2 mC ∧ MM mC) ∧ T = T₀ ∧ P (i + 1) c.1) { s with heap := s' } s₅) E' s₃
        else LpEnd h₀ L [D, C] (fun c : List Value × Nat × Obj => [(D, listOf c.1.toArray c.2.1), (C, c.2.2)]) own T₀ (fun c m' T tk => m' = m ∧ (∃ mC, NsO c.2.2 mC ∧ MM mC) ∧ T = T₀ ∧ P (i + 1) c.1) { s with heap := s' } s₃) E' s₂) E' { s with heap := h, toks := tk })
    (done : ∀ ys kk oC h tk, P vs2.length ys → Fr h₀ L h m → News h₀ L h ((D, listOf ys.toArray kk) :: (C, oC) :: T₀) → (∃ mC, NsO oC mC ∧ MM mC) → Q .next { s with heap := h, toks := tk }) :
    wpAny (model prog w) A (pyIter (.ref l2)) (fun it s₂ => wpAny (model prog w) A (runOwn (.compStart (.ListComp elt [⟨t1, i1, ifs1, 0⟩, ⟨t2, i2, ifs2, 0⟩] scope pos) 1 it (.ref D) env) env) Q E s₂) E s := by
  have hol : s.heap.get? l2 = some (listOf vs2.toArray k) := (N _ (.tail _ (.tail _ hl))).1
  have hls : s.heap.IsList l2 vs2.toArray := ⟨_, hol, rfl, k, rfl⟩
  refine wpAny_pyIter_list hls ?_
  have hlt : ∀ p ∈ (D, listOf ys.toArray kk) :: (C, oC) :: T₀, p.1 < s.heap.objs.size := fun p hp => Heap.lt_size (N p hp).1
  have hLs : L < s.heap.objs.size := F.ns.lt
  refine wpAny_runOwn ?_
  have hit : (s.heap.push { cls := .type "list_iterator", data := .fields #[.ref l2, .int 0 0] }).IsListIter s.heap.objs.size l2 0 := ⟨_, Heap.get?_push_size _ rfl, rfl, rfl⟩
  have loop : codeAny (model prog w) A (.compLoop (.ListComp elt [⟨t1, i1, ifs1, 0⟩, ⟨t2, i2, ifs2, 0⟩] scope pos) 1 (.ref s.heap.objs.size) (.ref D) env) (fun r s' => match r with | .ok f => Q f s' | .error e => cameBackBy (model prog w) A env E e s') { s with heap := s.heap.push { cls := .type "list_iterator", data := .fields #[.ref l2, .int 0 0] } } := by
    refine compLoopM (s := { s with heap := s.heap.push _ }) (fun i ys T _ => T = T₀ ∧ P i ys) MM (compTurn_two1 ..) hh hit (next_is_new F) (Nat.ne_of_gt hLs) (fun p hp => Nat.ne_of_lt (hlt p (.tail _ (.tail _ hp)))) (Nat.ne_of_gt (hlt _ (.head _))) (Nat.ne_of_gt (hlt _ (.tail _ (.head _)))) (F.push _) (fun p hp => ⟨Heap.get?_push_of_some _ (N p hp).1, (N p hp).2⟩) hl hoff hn ⟨rfl, h0⟩ ?_ ?_
    · rintro i v ys kk oC T own h tk₀ tk mC hv ⟨rfl, hP⟩ htk hsub hoff' F₁ N₁ hn hM
      exact turn _ i v ys kk oC own h tk mC hv hP hoff' F₁ N₁ hn hM _
    · rintro ys kk oC T h tk₀ tk ⟨rfl, hP⟩ htk hsub hoff' F₁ N₁ hn
      exact done ys kk oC h tk hP F₁ N₁ hn
  exact compStart_one loop (wpAny_pyIter_listiter hit loop)
end

/-- a call of the text's def at f: what it gives back, and what it lays anew -/
noncomputable def Call (d : Nat) (w : World) (f : Addr) (args : List Value) (news : List (Addr × Obj)) (RES : List (Addr × Obj) → Value → Prop) : Prop :=
  ∀ (mean : ExcName → Option Value) (mg mb : Str → Option Value) (prog p0 : Program) (loose : List Str) (dp un : Nat) (gd : Option (List Code)) (cn : Str) (cs : Scope) (a : Addr) (ccd : Value) (cl : List (Str × Addr)) (outer : List Env) (A₀ : Around) (base h₀ : Heap) (L : Addr) (m : Str → Option Value) (s : Shared) (Q E : Value → Shared → Prop),
    Below A₀ base outer h₀ → Fr h₀ L s.heap m → (hd.heap_1 w.params).In h₀ → News h₀ L s.heap news → Top p0 loose mean mg mb h₀ → cs.kind = .function → dp + d < recursionLimit → un + 20 * d < cLine →
    (∀ v add h' tk', Fr h₀ L h' m → News h₀ L h' (add ++ news) → (∀ q ∈ add, ∀ p ∈ news, p.1 < q.1) → RES add v → Q v { s with heap := h', toks := tk' }) →
    wpAny (model prog w) (ktrTop dp un gd cn cs L a ccd cl outer) (call (.ref f) args) Q E s
section
variable {w : World} {mean : ExcName → Option Value} {mg mb : Str → Option Value} {prog : Program} {p0 : Program} {loose : List Str} {dp un : Nat} {gd : Option (List Code)} {cn : Str} {cs : Scope} {a : Addr} {ccd : Value} {cl : List (Str × Addr)} {outer : List Env} {A₀ : Around} {base h₀ : Heap} {L : Addr} {m : Str → Option Value} {news : List (Addr × Obj)} {s : Shared} {Q E : Value → Shared → Prop}
theorem Call.use {d : Nat} {f : Addr} {args : List Value} {RES : List (Addr × Obj) → Value → Prop} (C : Call d w f args news RES) (B : Below A₀ base outer h₀) (F : Fr h₀ L s.heap m) (X : (hd.heap_1 w.params).In h₀) (N : News h₀ L s.heap news) (T : Top p0 loose mean mg mb h₀) (hk : cs.kind = .function)
    (hd : dp + d < recursionLimit) (hu : un + 20 * d < cLine)
    (ret : ∀ v add h' tk', Fr h₀ L h' m → News h₀ L h' (add ++ news) → (∀ q ∈ add, ∀ p ∈ news, p.1 < q.1) → RES add v → Q v { s with heap := h', toks := tk' }) :
    wpAny (model prog w) (ktrTop dp un gd cn cs L a ccd cl outer) (call (.ref f) args) Q E s := C _ _ _ _ _ _ _ _ _ _ _ _ _ _ _ _ _ _ _ _ _ _ _ B F X N T hk hd hu ret
/-- a pure call -/
theorem Call.pure {d : Nat} {f : Addr} {args : List Value} {RES : Value → Prop} (C : Call d w f args news (fun add v => add = [] ∧ RES v)) (B : Below A₀ base outer h₀) (F : Fr h₀ L s.heap m) (X : (hd.heap_1 w.params).In h₀) (N : News h₀ L s.heap news) (T : Top p0 loose mean mg mb h₀) (hk : cs.kind = .function)
    (hd : dp + d < recursionLimit) (hu : un + 20 * d < cLine)
    (ret : ∀ v h' tk', Fr h₀ L h' m → News h₀ L h' news → RES v → Q v { s with heap := h', toks := tk' }) :
    wpAny (model prog w) (ktrTop dp un gd cn cs L a ccd cl outer) (call (.ref f) args) Q E s := C _ _ _ _ _ _ _ _ _ _ _ _ _ _ _ _ _ _ _ _ _ _ _ B F X N T hk hd hu (fun v add h' tk' F' N' _ ⟨e, r⟩ => by subst e; exact ret v h' tk' F' N' r)
end

/-- a ledger without an address -/
noncomputable def off (d : Addr) (T : List (Addr × Obj)) : List (Addr × Obj) := T.filter fun p => !(p.1 == d)
theorem mem_off {d : Addr} {T : List (Addr × Obj)} {p : Addr × Obj} : p ∈ off d T ↔ p ∈ T ∧ p.1 ≠ d := by simp [off]
theorem off_ne {d : Addr} {T : List (Addr × Obj)} : ∀ p ∈ off d T, p.1 ≠ d := fun _ h => (mem_off.mp h).2
theorem news_off {h₀ h : Heap} {L d : Addr} {o : Obj} {T : List (Addr × Obj)} (N : News h₀ L h T) (hm : (d, o) ∈ T) : News h₀ L h ((d, o) :: off d T) := fun p hp => by
  rcases List.mem_cons.mp hp with e | hp
  · rw [e]; exact N _ hm
  · exact N _ (mem_off.mp hp).1
/-- two things of one ledger at one address are one -/
theorem news_fn {h₀ h : Heap} {L d : Addr} {o o' : Obj} {T : List (Addr × Obj)} (N : News h₀ L h T) (h1 : (d, o) ∈ T) (h2 : (d, o') ∈ T) : o = o' := by
  have a := (N _ h1).1; have b := (N _ h2).1
  dsimp only at a b
  rw [a] at b; exact Option.some.inj b
theorem news_ne {h₀ h : Heap} {L d d' : Addr} {o o' : Obj} {T : List (Addr × Obj)} (N : News h₀ L h T) (h1 : (d, o) ∈ T) (h2 : (d', o') ∈ T) (hne : o ≠ o') : d ≠ d' := fun e => by
  subst e; exact hne (news_fn N h1 h2)
theorem ltA {T : List (Addr × Obj)} {d : Addr} (h : AllLt d T) (p : Addr × Obj) (hp : p ∈ T) : @LT.lt Nat _ p.1 d := lt_of_allLt h p hp
theorem ltF {T : List (Addr × Obj)} {d : Addr} (h : ∀ p ∈ T, p.1 < d) (p : Addr × Obj) (hp : p ∈ T) : @LT.lt Nat _ p.1 d := h p hp
theorem ltE {d d' : Addr} (h : d < d') : @LT.lt Nat _ d d' := h
/-- a call of the text's def at f that may change what lies in the ledger -/
noncomputable def CallM (prog : Program) (d : Nat) (w : World) (f : Addr) (args : List Value) (news : List (Addr × Obj)) (RES : List (Addr × Obj) → Value → Prop) (EXC : List (Addr × Obj) → Value → Prop := fun _ _ => False) : Prop :=
  ∀ (mean : ExcName → Option Value) (mg mb : Str → Option Value) (p0 : Program) (loose : List Str) (dp un : Nat) (gd : Option (List Code)) (cn : Str) (cs : Scope) (a : Addr) (ccd : Value) (cl : List (Str × Addr)) (outer : List Env) (A₀ : Around) (base h₀ : Heap) (L : Addr) (m : Str → Option Value) (s : Shared) (Q E : Value → Shared → Prop),
    Below A₀ base outer h₀ → Fr h₀ L s.heap m → (hd.heap_1 w.params).In h₀ → News h₀ L s.heap news → Top p0 loose mean mg mb h₀ → cs.kind = .function → dp + d < recursionLimit → un + 20 * d < cLine →
    (∀ v news' h' tk', Fr h₀ L h' m → News h₀ L h' news' → RES news' v → Q v { s with heap := h', toks := tk' }) →
    (∀ v news' h' tk', Fr h₀ L h' m → News h₀ L h' news' → EXC news' v → E v { s with heap := h', toks := tk' }) →
    wpAny (model prog w) (ktrTop dp un gd cn cs L a ccd cl outer) (call (.ref f) args) Q E s
section
variable {w : World} {mean : ExcName → Option Value} {mg mb : Str → Option Value} {prog : Program} {p0 : Program} {loose : List Str} {dp un : Nat} {gd : Option (List Code)} {cn : Str} {cs : Scope} {a : Addr} {ccd : Value} {cl : List (Str × Addr)} {outer : List Env} {A₀ : Around} {base h₀ : Heap} {L : Addr} {m : Str → Option Value} {news : List (Addr × Obj)} {s : Shared} {Q E : Value → Shared → Prop}
theorem CallM.use {d : Nat} {f : Addr} {args : List Value} {RES : List (Addr × Obj) → Value → Prop} (C : CallM prog d w f args news RES) (B : Below A₀ base outer h₀) (F : Fr h₀ L s.heap m) (X : (hd.heap_1 w.params).In h₀) (N : News h₀ L s.heap news) (T : Top p0 loose mean mg mb h₀) (hk : cs.kind = .function)
    (hd : dp + d < recursionLimit) (hu : un + 20 * d < cLine)
    (ret : ∀ v news' h' tk', Fr h₀ L h' m → News h₀ L h' news' → RES news' v → Q v { s with heap := h', toks := tk' }) :
    wpAny (model prog w) (ktrTop dp un gd cn cs L a ccd cl outer) (call (.ref f) args) Q E s := C _ _ _ _ _ _ _ _ _ _ _ _ _ _ _ _ _ _ _ _ _ _ B F X N T hk hd hu ret (fun _ _ _ _ _ _ h => h.elim)
end
noncomputable abbrev fld (w : World) (n : String) (t : Tok) (v : Value) : PySem.DictEntry := { hash := PyData.keyHash w.params n, key := .str n t, val := v }
noncomputable abbrev srtO (w : World) (k1 k2 k3 k4 : Tok) (na : Addr) (rd po fi : Value) : Obj := dictOf [fld w "_node2info" k1 (.ref na), fld w "_ready_nodes" k2 rd, fld w "_npassedout" k3 po, fld w "_nfinished" k4 fi] 4

theorem regC1 : True := by
  k_with_none
  w_top off
  (k_with "m sub" => (first | ((repeat' (first | exact sub_nil | with_reducible refine sub_cons ?_ ?_ | with_reducible refine sub_app ?_ ?_)) <;> (first | k_mem | (intro p hp; k_mem))) | (intro p hp; simp only [List.cons_append, List.nil_append, List.append_assoc, List.mem_cons, List.mem_append, List.not_mem_nil, or_false, false_or, List.append_nil] at hp ⊢; grind)))
  (k_with "exec For" => (with_unfolding_all refine wpAny_For ?_ (by intro _; rfl)))
  (k_with "m call" => (refine wpAny_call ?_; k_dflt k_enter))
  trivial
local macro_rules | `(tactic| k_room) => `(tactic| ktr_room)
local macro_rules | `(tactic| k_enter) => `(tactic| (refine' code_def ?k1 ?k2 ?k3 ?k4 ?k5 ?kA ?kF ?kK ?k6 ?k7 ?k8 ?k9 ?kB ?_ ?c2 ?c3 ?c4 ?c5; (case kA => exact rfl); (case kF => exact rfl); (case kK => first | exact rfl | assumption); (case k1 => k_asm); (case k2 => k_asm); (case k3 => k_asm); (case k4 => k_asm); (case k5 => k_asm); (case k6 => k_is); (case k7 => k_is); (case k8 => k_room); (case k9 => first | exact BindsTo.of_eq rfl | exact binds_K (by k_in) rfl (by k_is) rfl rfl rfl); (case c5 => decide); (case kB => exact locs rfl); (case c2 => exact rfl); (case c3 => exact rfl); (case c4 => exact rfl); k_whole; intro g' L' h' FG' F' N' B' X' T'; (try dsimp only); (try k_unmd); (try k_fold)))
theorem truth_call (w : World) (x : Int) (t : Tok) (news) : Call 1 w 148 [.int x t] news (fun add v => add = [] ∧ v = .bool (decide (x ≠ 0))) := by
  intro mean mg mb prog p0 loose dp un gd cn cs a ccd cl outer A₀ base h₀ L m s Q E B F X N T hk hd hu ret
  walk_at "m call"
  k_steps
  all_goals (try with_reducible refine kQ _ _ ?_)
  · exact ret _ [] _ _ (by assumption) (by assumption) (by simp) ⟨rfl, by simp_all⟩
  · exact ret _ [] _ _ (by assumption) (by assumption) (by simp) ⟨rfl, by simp_all⟩
theorem and_call (w : World) (x y : Int) (t u : Tok) (news) : Call 1 w 155 [.int x t, .int y u] news (fun add v => add = [] ∧ ∃ r, v = .int (Builtin.bitAnd x y) r) := by
  intro mean mg mb prog p0 loose dp un gd cn cs a ccd cl outer A₀ base h₀ L m s Q E B F X N T hk hd hu ret
  walk_at "m call"
  k_steps
  all_goals (try with_reducible refine kQ _ _ ?_)
  exact ret _ [] _ _ (by assumption) (by assumption) (by simp) ⟨rfl, _, rfl⟩
theorem or_call (w : World) (x y : Int) (t u : Tok) (news) : Call 1 w 169 [.int x t, .int y u] news (fun add v => add = [] ∧ ∃ r, v = .int (Builtin.bitOr x y) r) := by
  intro mean mg mb prog p0 loose dp un gd cn cs a ccd cl outer A₀ base h₀ L m s Q E B F X N T hk hd hu ret
  walk_at "m call"
  k_steps
  all_goals (try with_reducible refine kQ _ _ ?_)
  exact ret _ [] _ _ (by assumption) (by assumption) (by simp) ⟨rfl, _, rfl⟩
theorem xor_call (w : World) (x y : Int) (t u : Tok) (news) : Call 1 w 176 [.int x t, .int y u] news (fun add v => add = [] ∧ ∃ r, v = .int (Builtin.bitXor x y) r) := by
  intro mean mg mb prog p0 loose dp un gd cn cs a ccd cl outer A₀ base h₀ L m s Q E B F X N T hk hd hu ret
  walk_at "m call"
  k_steps
  all_goals (try with_reducible refine kQ _ _ ?_)
  exact ret _ [] _ _ (by assumption) (by assumption) (by simp) ⟨rfl, _, rfl⟩
theorem lshift_call (w : World) (y : Int) (t u : Tok) (news) (h0 : 0 ≤ y) (h5 : y < 6) : Call 1 w 162 [.int 1 t, .int y u] news (fun add v => add = [] ∧ ∃ r, v = .int (2 ^ y.toNat) r) := by
  intro mean mg mb prog p0 loose dp un gd cn cs a ccd cl outer A₀ base h₀ L m s Q E B F X N T hk hd hu ret
  walk_at "m call"
  k_steps
  all_goals (try with_reducible refine kQ _ _ ?_)
  exact ret _ [] _ _ (by assumption) (by assumption) (by simp) ⟨rfl, _, by rw [Int.one_mul]⟩

theorem regC2 : True := by
  k_with_none
  w_top off
  (k_with "m sub" => (first | ((repeat' (first | exact sub_nil | with_reducible refine sub_cons ?_ ?_ | with_reducible refine sub_app ?_ ?_)) <;> (first | k_mem | (intro p hp; k_mem))) | (intro p hp; simp only [List.cons_append, List.nil_append, List.append_assoc, List.mem_cons, List.mem_append, List.not_mem_nil, or_false, false_or, List.append_nil] at hp ⊢; grind)))
  (k_with "exec For" => (with_unfolding_all refine wpAny_For ?_ (by intro _; rfl)))
  (k_with "m call" => (refine wpAny_call ?_; (first | (k_dflt k_enter) | fail "no entry")))
  (k_with "compareOp In int ref" => (refine in_list_ints (isList_of (by k_asm) (by k_mem)) (by assumption) ?_))
  (k_with "compareOp NotIn int ref" => (refine notin_list_ints (isList_of (by k_asm) (by k_mem)) (by assumption) ?_))
  (k_with "compareOp Is int int" => (refine is_int (by assumption) (by assumption) (by assumption) ?_))
  (k_with "exec For Name Name cons nil" => (with_unfolding_all refine wpAny_For ?_ (by intro _; rfl)))
  (k_with "exec For Name Name" => (with_unfolding_all refine wpAny_For ?_ (by intro _; rfl)))
  (k_with "exec For Name List cons nil" => (with_unfolding_all refine wpAny_For ?_ (by intro _; rfl)))
  (k_with "exec For Name List" => (with_unfolding_all refine wpAny_For ?_ (by intro _; rfl)))
  (k_with "exec For Name Call cons nil" => (with_unfolding_all refine wpAny_For ?_ (by intro _; rfl)))
  (k_with "exec For Name Call" => (with_unfolding_all refine wpAny_For ?_ (by intro _; rfl)))
  (k_with "exec For Name BinOp cons nil" => (with_unfolding_all refine wpAny_For ?_ (by intro _; rfl)))
  (k_with "exec For Name BinOp" => (with_unfolding_all refine wpAny_For ?_ (by intro _; rfl)))
  (k_with "exec For Name Tuple cons nil" => (with_unfolding_all refine wpAny_For ?_ (by intro _; rfl)))
  (k_with "exec For Name Tuple" => (with_unfolding_all refine wpAny_For ?_ (by intro _; rfl)))
  (k_with "exec For Name Attribute cons nil" => (with_unfolding_all refine wpAny_For ?_ (by intro _; rfl)))
  (k_with "exec For Name Attribute" => (with_unfolding_all refine wpAny_For ?_ (by intro _; rfl)))
  (k_with "exec For Tuple Name cons nil" => (with_unfolding_all refine wpAny_For ?_ (by intro _; rfl)))
  (k_with "exec For Tuple Name" => (with_unfolding_all refine wpAny_For ?_ (by intro _; rfl)))
  (k_with "exec For Tuple List cons nil" => (with_unfolding_all refine wpAny_For ?_ (by intro _; rfl)))
  (k_with "exec For Tuple List" => (with_unfolding_all refine wpAny_For ?_ (by intro _; rfl)))
  (k_with "exec For Tuple Call cons nil" => (with_unfolding_all refine wpAny_For ?_ (by intro _; rfl)))
  (k_with "exec For Tuple Call" => (with_unfolding_all refine wpAny_For ?_ (by intro _; rfl)))
  (k_with "exec For Tuple BinOp cons nil" => (with_unfolding_all refine wpAny_For ?_ (by intro _; rfl)))
  (k_with "exec For Tuple BinOp" => (with_unfolding_all refine wpAny_For ?_ (by intro _; rfl)))
  (k_with "exec For Tuple Tuple cons nil" => (with_unfolding_all refine wpAny_For ?_ (by intro _; rfl)))
  (k_with "exec For Tuple Tuple" => (with_unfolding_all refine wpAny_For ?_ (by intro _; rfl)))
  (k_with "exec For Tuple Attribute cons nil" => (with_unfolding_all refine wpAny_For ?_ (by intro _; rfl)))
  (k_with "exec For Tuple Attribute" => (with_unfolding_all refine wpAny_For ?_ (by intro _; rfl)))
  trivial
theorem contains_call (w : World) (la : Addr) (vs : List Value) (k : Nat) (ns : List Int) (b : Int) (u : Tok) (news) (hl : (la, listOf vs.toArray k) ∈ news) (hi : IntsAre vs ns) : Call 1 w 183 [.ref la, .int b u] news (fun add v => add = [] ∧ v = .bool (ns.any (· == b))) := by
  intro mean mg mb prog p0 loose dp un gd cn cs a ccd cl outer A₀ base h₀ L m s Q E B F X N T hk hd hu ret
  walk_at "m call"
  k_steps
  all_goals (try with_reducible refine kQ _ _ ?_)
  exact ret _ [] _ _ (by assumption) (by assumption) (by simp) ⟨rfl, rfl⟩
theorem countOf_call (w : World) (f : Tok → Int) (la : Addr) (vs : List Value) (k : Nat) (ns : List Int) (b : Int) (u : Tok) (news) (hl : (la, listOf vs.toArray k) ∈ news) (hi : IntsF f vs ns) (hs : ∀ n ∈ ns, smallInt n = true) (hbo : Okv f (.int b u) b) : Call 1 w 190 [.ref la, .int b u] news (fun add v => add = [] ∧ ∃ r, v = .int (ns.count b : Nat) r) := by
  intro mean mg mb prog p0 loose dp un gd cn cs a ccd cl outer A₀ base h₀ L m s Q E B F X N T hk hd hu ret
  walk_at "m call"
  k_steps
  all_goals (try with_reducible refine kQ _ _ ?_)
  rename Fr _ _ _ _ => F2
  rename News _ _ _ _ => N2
  refine iterList (σ := Unit) (fun _ => []) [] (fun i _ m _ _ => (∃ t, m (Str.ofString "count") = some (.int ((ns.take i).count b : Nat) t)) ∧ m (Str.ofString "b") = some (.int b u)) () news rfl (fun _ => rfl) F2 N2 hl (fun _ _ _ h => nomatch h) ⟨⟨_, by with_unfolding_all rfl⟩, by with_unfolding_all rfl⟩ ?_ ?_
  · intro i v c m₁ T own h tk₀ tk hv zr10 htk hsub hoff F₁ N₁
    refine hideG fun kG => ?_
    obtain ⟨⟨t, hm⟩, hb⟩ := zr10
    obtain ⟨n, hn, hok⟩ := hi.at hv
    obtain ⟨t2, rfl, ht2, hf2⟩ := hok
    refine kG ?_
    clear kG
    (try refine opq fun PQ kQ => ?_)
    have hok : Okv f (.int n t2) n := ⟨t2, rfl, ht2, hf2⟩
    have hsm : smallInt n = true := hs n (List.mem_of_getElem? hn)
    have hcnt : (ns.take (i + 1)).count b = (ns.take i).count b + (if n = b then 1 else 0) := by
      rw [List.take_add_one, hn, List.count_append]
      show _ + List.count b [n] = _
      rw [List.count_singleton]
      by_cases q : n = b
      · simp only [q, beq_self_eq_true, if_true]
      · simp only [q, if_false, beq_iff_eq]
    replace F₁ := fr_pin2 F₁ hm hb
    clear F2 N2
    simp only [List.cons_append, List.nil_append] at N₁
    k_steps
    all_goals (try with_reducible refine kQ _ _ ?_)
    · refine lp_next () (by assumption) (by assumption) (by simp) ⟨⟨?tt, ?ee⟩, by with_unfolding_all rfl⟩
      case ee =>
        rw [hcnt, if_pos ‹n = b›]
        with_unfolding_all rfl
    · exact absurd ‹n = b› ‹¬n = b›
    · refine lp_next () (by assumption) (by assumption) (by simp) ⟨⟨?tt2, ?ee2⟩, by with_unfolding_all rfl⟩
      case ee2 =>
        rw [hcnt, if_neg ‹¬n = b›]
        with_unfolding_all rfl
  · intro c m₁ T h tk₀ tk zr6 htk hsub hoff F₁ N₁
    refine hideG fun kG => ?_
    obtain ⟨⟨t, hm⟩, hb⟩ := zr6
    refine kG ?_
    clear kG
    replace F₁ := fr_pin F₁ hm
    clear F2 N2
    k_steps
    all_goals (try with_reducible refine kQ _ _ ?_)
    refine ret _ [] _ _ (by assumption) (news_sub (by assumption) (by simpa using hsub.1)) (by simp) ⟨rfl, t, ?_⟩
    rw [hi.length, List.take_length]
theorem indexOf_call (w : World) (f : Tok → Int) (la : Addr) (vs : List Value) (k : Nat) (ns : List Int) (b : Int) (u : Tok) (news) (hl : (la, listOf vs.toArray k) ∈ news) (hi : IntsF f vs ns) (hs : ∀ n ∈ ns, smallInt n = true) (hbo : Okv f (.int b u) b) (hin : b ∈ ns) : Call 1 w 197 [.ref la, .int b u] news (fun add v => add = [] ∧ ∃ r, v = .int (ns.idxOf b : Nat) r) := by
  intro mean mg mb prog p0 loose dp un gd cn cs a ccd cl outer A₀ base h₀ L m s Q E B F X N T hk hd hu ret
  walk_at "m call"
  k_steps
  all_goals (try with_reducible refine kQ _ _ ?_)
  rename Fr _ _ _ _ => F2
  rename News _ _ _ _ => N2
  refine iterEnum (σ := Unit) (fun _ => []) [] (fun i _ m _ _ => b ∉ ns.take i ∧ m (Str.ofString "b") = some (.int b u)) () news rfl (fun _ => rfl) rfl rfl rfl F2 N2 hl (fun _ _ _ h => nomatch h) ⟨by simp, by with_unfolding_all rfl⟩ ?_ ?_
  · intro i v t c m₁ T own h tk₀ tk hv zr11 htk hsub hoff F₁ N₁
    refine hideG fun kG => ?_
    obtain ⟨hnot, hb⟩ := zr11
    obtain ⟨n, hn, hok⟩ := hi.at hv
    obtain ⟨t2, rfl, ht2, hf2⟩ := hok
    refine kG ?_
    clear kG
    (try refine opq fun PQ kQ => ?_)
    have hok : Okv f (.int n t2) n := ⟨t2, rfl, ht2, hf2⟩
    have hsm : smallInt n = true := hs n (List.mem_of_getElem? hn)
    have hidx : n = b → ns.idxOf b = i := by
      intro q; subst q
      have hlt := (List.getElem?_eq_some_iff.mp hn)
      obtain ⟨h1, h2⟩ := hlt
      have hsp : ns = ns.take i ++ n :: ns.drop (i + 1) := by
        conv => lhs; rw [← List.take_append_drop i ns]
        rw [List.drop_eq_getElem_cons h1, h2]
      rw [hsp, List.idxOf_append, if_neg hnot]
      simp; omega
    have hnot2 : ¬ n = b → b ∉ ns.take (i + 1) := by
      intro q; rw [List.take_add_one, hn]
      simp only [Option.toList_some, List.mem_append, List.mem_singleton, not_or]
      exact ⟨hnot, fun e => q e.symm⟩
    replace F₁ := F₁
    have F₂ := fr_pin F₁ (x := Str.ofString "b") (v := .int b u) (by with_unfolding_all exact hb)
    clear F2 N2 F₁
    simp only [List.cons_append, List.nil_append] at N₁
    k_steps
    all_goals (try with_reducible refine kQ _ _ ?_)
    · change qk (Flow.ret _) _
      k_steps
      all_goals (try with_reducible refine kQ _ _ ?_)
      exact ret _ [] _ _ (by assumption) (news_sub (by assumption) (fun p hp => List.mem_append_left _ (hsub.1 p hp))) (by simp) ⟨rfl, _, by rw [hidx ‹n = b›]⟩
    · exact absurd ‹n = b› ‹¬n = b›
    · exact lp_next () (by assumption) (by assumption) (by simp) ⟨hnot2 ‹¬n = b›, by with_unfolding_all rfl⟩
  · rintro c m₁ T h tk₀ tk ⟨hnot, hb⟩ htk hsub hoff F₁ N₁
    rw [hi.length, List.take_length] at hnot
    exact absurd hin hnot


theorem regC3 : True := by
  k_with_none
  w_top off
  (k_with "m sub" => (first | ((repeat' (first | exact sub_nil | with_reducible refine sub_cons ?_ ?_ | with_reducible refine sub_app ?_ ?_)) <;> (first | k_mem | (intro p hp; k_mem))) | (intro p hp; simp only [List.cons_append, List.nil_append, List.append_assoc, List.mem_cons, List.mem_append, List.not_mem_nil, or_false, false_or, List.append_nil] at hp ⊢; grind)))
  (k_with "exec For" => (with_unfolding_all refine wpAny_For ?_ (by intro _; rfl)))
  (k_with "m call" => (refine wpAny_call ?_; (first | (k_dflt k_enter) | fail "no entry")))
  (k_with "compareOp In int ref" => (refine in_list_ints (isList_of (by k_asm) (by k_mem)) (by assumption) ?_))
  (k_with "compareOp NotIn int ref" => (refine notin_list_ints (isList_of (by k_asm) (by k_mem)) (by assumption) ?_))
  (k_with "compareOp Is int int" => (refine is_int (by assumption) (by assumption) (by assumption) ?_))
  (k_with "exec For Name Name cons nil" => (with_unfolding_all refine wpAny_For ?_ (by intro _; rfl)))
  (k_with "exec For Name Name" => (with_unfolding_all refine wpAny_For ?_ (by intro _; rfl)))
  (k_with "exec For Name List cons nil" => (with_unfolding_all refine wpAny_For ?_ (by intro _; rfl)))
  (k_with "exec For Name List" => (with_unfolding_all refine wpAny_For ?_ (by intro _; rfl)))
  (k_with "exec For Name Call cons nil" => (with_unfolding_all refine wpAny_For ?_ (by intro _; rfl)))
  (k_with "exec For Name Call" => (with_unfolding_all refine wpAny_For ?_ (by intro _; rfl)))
  (k_with "exec For Name BinOp cons nil" => (with_unfolding_all refine wpAny_For ?_ (by intro _; rfl)))
  (k_with "exec For Name BinOp" => (with_unfolding_all refine wpAny_For ?_ (by intro _; rfl)))
  (k_with "exec For Name Tuple cons nil" => (with_unfolding_all refine wpAny_For ?_ (by intro _; rfl)))
  (k_with "exec For Name Tuple" => (with_unfolding_all refine wpAny_For ?_ (by intro _; rfl)))
  (k_with "exec For Name Attribute cons nil" => (with_unfolding_all refine wpAny_For ?_ (by intro _; rfl)))
  (k_with "exec For Name Attribute" => (with_unfolding_all refine wpAny_For ?_ (by intro _; rfl)))
  (k_with "exec For Tuple Name cons nil" => (with_unfolding_all refine wpAny_For ?_ (by intro _; rfl)))
  (k_with "exec For Tuple Name" => (with_unfolding_all refine wpAny_For ?_ (by intro _; rfl)))
  (k_with "exec For Tuple List cons nil" => (with_unfolding_all refine wpAny_For ?_ (by intro _; rfl)))
  (k_with "exec For Tuple List" => (with_unfolding_all refine wpAny_For ?_ (by intro _; rfl)))
  (k_with "exec For Tuple Call cons nil" => (with_unfolding_all refine wpAny_For ?_ (by intro _; rfl)))
  (k_with "exec For Tuple Call" => (with_unfolding_all refine wpAny_For ?_ (by intro _; rfl)))
  (k_with "exec For Tuple BinOp cons nil" => (with_unfolding_all refine wpAny_For ?_ (by intro _; rfl)))
  (k_with "exec For Tuple BinOp" => (with_unfolding_all refine wpAny_For ?_ (by intro _; rfl)))
  (k_with "exec For Tuple Tuple cons nil" => (with_unfolding_all refine wpAny_For ?_ (by intro _; rfl)))
  (k_with "exec For Tuple Tuple" => (with_unfolding_all refine wpAny_For ?_ (by intro _; rfl)))
  (k_with "exec For Tuple Attribute cons nil" => (with_unfolding_all refine wpAny_For ?_ (by intro _; rfl)))
  (k_with "exec For Tuple Attribute" => (with_unfolding_all refine wpAny_For ?_ (by intro _; rfl)))
  (k_with "execs cons" => ((with_reducible refine wpAny_execs_cons ?_); try dsimp only))
  (k_with "execs nil" => refine wpAny_execs_nil ?_)
  trivial
noncomputable def stepOf (x : Int) : Int × Int :=
  if Int.fmod (Int.fdiv x 6) 4 = 0 then (Int.fmod (Int.fdiv (Int.fdiv x 6) 4) 6, Int.fmod x 6)
  else if 0 < Int.fmod x 6 then (Int.fmod (Int.fdiv (Int.fdiv x 6) 4) (Int.fmod x 6), Int.fmod x 6)
  else (-1, Int.fmod x 6)
noncomputable def stepsOf (ns : List Int) : List (Int × Int) := ([9, 7, 33, 82] ++ ns.take 8).map stepOf
noncomputable def StepsP (xs : List Int) (l1 : Addr) (T₀ news : List (Addr × Obj)) (i : Nat) (c : List Value × Nat) (m : Str → Option Value) (T : List (Addr × Obj)) (tk : Nat) : Prop :=
  m (Str.ofString "steps") = some (.ref l1) ∧ 1 ≤ tk ∧ c.1.length = i ∧ ∃ f add, T = add ++ T₀ ∧ (∀ q ∈ add, ∀ p ∈ news, p.1 < q.1) ∧ PairsIn (OkB f tk) add c.1 ((xs.take i).map stepOf)
theorem steps_end {xs : List Int} {l1 : Addr} {T₀ news own T : List (Addr × Obj)} {i : Nat} {c : List Value × Nat} {m m' : Str → Option Value} {tk₀ tk' t1 t2 : Nat} {h₀ h' : Heap} {L D : Addr} {n x y : Int} {R : Result → Shared → Prop} {s : Shared}
    (hP : StepsP xs l1 T₀ news i c m T tk₀) (hn : xs[i]? = some n) (hs : ∀ p ∈ news, p ∈ T₀) (F : Fr h₀ L h' m') (hm' : m' (Str.ofString "steps") = some (.ref l1)) (lt : l1 < D ∧ AllLt D (T ++ own))
    (N : News h₀ L h' ((D, tupO [.int x t1, .int y t2]) :: (l1, listOf (c.1.toArray.push (.ref D)) (c.2 + 1)) :: (T ++ own))) (hxy : stepOf n = (x, y)) (h1 : tk₀ < t1) (h2 : tk₀ < t2) (h12 : t1 ≠ t2) (h3 : t1 < tk') (h4 : t2 < tk') :
    LpPost h₀ L [l1] (fun c : List Value × Nat => [(l1, listOf c.1.toArray c.2)]) own T (StepsP xs l1 T₀ news (i + 1)) R s .next { s with heap := h', toks := tk' } := by
  refine hideG fun kG => ?_
  obtain ⟨hm, htk, hlen, f, add, hT, hfr, hp⟩ := hP
  refine kG ?_
  clear kG
  have hall := lt_of_allLt lt.2
  rw [List.push_toArray] at N
  refine lp_more (c.1 ++ [.ref D], c.2 + 1) [(D, tupO [.int x t1, .int y t2])] F N ?_ ?_ ?_ ?_
  · intro p hp
    simp only [List.cons_append, List.nil_append, List.mem_cons] at hp ⊢
    rcases hp with h | h | h
    · exact .inr (.inl h)
    · exact .inl h
    · exact .inr (.inr h)
  · intro q hq b hb
    rw [List.mem_singleton.mp hq, List.mem_singleton.mp hb]
    exact Nat.ne_of_gt lt.1
  · intro q hq p hp
    rw [List.mem_singleton.mp hq]
    exact hall p hp
  · refine ⟨hm', by omega, by simp [hlen], (fun t => if t = t1 then x else if t = t2 then y else f t), (D, tupO [.int x t1, .int y t2]) :: add, by rw [hT]; rfl, ?_, ?_⟩
    · intro q hq p hp
      rcases List.mem_cons.mp hq with e | hq
      · rw [e]; exact hall p (List.mem_append_left _ (by rw [hT]; exact List.mem_append_right _ (hs p hp)))
      · exact hfr q hq p hp
    · have e1 : (xs.take (i + 1)).map stepOf = (xs.take i).map stepOf ++ [(x, y)] := by
        rw [List.take_add_one, hn]; simp [hxy]
      rw [e1]
      refine PairsIn.push ((hp.imp fun v n h => h.upd (Nat.le_of_lt h1) (Nat.le_of_lt h2) (by omega)).mono fun p hp => .tail _ hp) (.head _) ⟨t1, rfl, Nat.ne_of_gt (Nat.lt_of_le_of_lt (Nat.zero_le _) h1), by simp, h3⟩ ⟨t2, rfl, Nat.ne_of_gt (Nat.lt_of_le_of_lt (Nat.zero_le _) h2), ?_, h4⟩
      show (if t2 = t1 then x else if t2 = t2 then y else f t2) = y
      rw [if_neg (fun e => h12 e.symm), if_pos rfl]
section
variable {w : World} {mean : ExcName → Option Value} {mg mb : Str → Option Value} {prog : Program} {p0 : Program} {loose : List Str} {dp un : Nat} {gd : Option (List Code)} {cn : Str} {cs : Scope} {a : Addr} {ccd : Value} {cl : List (Str × Addr)} {outer : List Env} {A₀ : Around} {base h₀ : Heap} {L : Addr} {m : Str → Option Value} {news : List (Addr × Obj)} {s : Shared} {Q E : Value → Shared → Prop}
theorem steps_call (l : Addr) (vs : List Value) (ns : List Int) (hl : h₀.IsList l vs.toArray) (hi : IntsAre vs ns) (hsz : ns.length ≤ 63) (B : Below A₀ base outer h₀) (F : Fr h₀ L s.heap m) (X : (hd.heap_1 w.params).In h₀) (N : News h₀ L s.heap news) (T : Top p0 loose mean mg mb h₀) (hk : cs.kind = .function)
    (hd : dp + 1 < recursionLimit) (hu : un + 20 * 1 < cLine)
    (ret : ∀ v add h' tk', Fr h₀ L h' m → News h₀ L h' (add ++ news) → (∀ q ∈ add, ∀ p ∈ news, p.1 < q.1) → (∃ f r vs k, v = .ref r ∧ (r, listOf vs.toArray k) ∈ add ∧ PairsIn (Okv f) add vs (stepsOf ns)) → Q v { s with heap := h', toks := tk' }) :
    wpAny (model prog w) (ktrTop dp un gd cn cs L a ccd cl outer) (call (.ref 204) [.ref l]) Q E s := by
  refine wpAny_call ?_
  k_dflt k_enter
  rename Fr h₀ L _ m => FG
  rename Below _ _ _ _ => B'
  have hl' := hl.at fun o e => FG.keep _ _ e
  k_steps
  all_goals (try with_reducible refine kQ _ _ ?_)
  rename Fr _ _ _ _ => F2
  rename News _ _ _ _ => N2
  rename_i l1 _ lt1 _ l2 _ lt2 D1 ws1 _ hI1 hC hL lt3 D2 ws2 h2 hI2 lt4
  refine iterList (σ := List Value × Nat) (fun c => [(l1, listOf c.1.toArray c.2)]) [l1] (StepsP ([9, 7, 33, 82] ++ ns.take 8) l1 ((D2, listOf ws2.toArray 0) :: news) news) ([], 0) ((D2, listOf ws2.toArray 0) :: news) rfl (fun _ => rfl) F2 (news_sub N2 (by walk_at "m sub")) (List.Mem.head _) ?_ ⟨by with_unfolding_all rfl, ?_, rfl, fun _ => 0, [], rfl, (fun _ h => nomatch h), .nil⟩ ?_ ?_
  · refine off_cons fun b hb => ?_
    rw [List.mem_singleton.mp hb]
    intro p hp
    rcases List.mem_cons.mp hp with e | hp
    · rw [e]; exact Nat.ne_of_gt lt4.2.2.1
    · exact Nat.ne_of_lt (lt1 p hp)
  · show 1 ≤ _
    exact Nat.succ_le_of_lt (Nat.lt_of_lt_of_le (Nat.succ_pos _) (Nat.le_refl _))
  · intro i v c m₁ T own h tk₀ tk hv hP htk hsub hoff F₁ N₁
    refine hideG fun kG => ?_
    obtain ⟨n, t, rfl, hn⟩ := hI2.at i v hv
    refine kG ?_
    clear kG
    (try refine opq fun PQ kQ => ?_)
    replace F₁ := fr_pin F₁ hP.1
    clear F2 N2
    simp only [List.cons_append, List.nil_append] at N₁
    have hi12 : i < 12 := by
      have := (List.getElem?_eq_some_iff.mp hn).1
      simp only [List.length_append, List.length_cons, List.length_nil] at this; omega
    have hsz1 : c.1.toArray.size ≤ sizeLine := by rw [sizeLine_eq]; simp; have := hP.2.2.1; omega
    k_steps
    all_goals (try with_reducible refine kQ _ _ ?_)
    all_goals (
      rename Fr _ _ _ _ => F3
      rename News _ _ _ _ => N3
      rename _ ∧ AllLt _ _ => lt5)
    all_goals refine steps_end hP hn (fun p hp => .tail _ hp) F3 (by with_unfolding_all rfl) lt5 N3 ?_ (by omega) (by omega) (by omega) (by dsimp only; omega) (by dsimp only; omega)
    · rw [stepOf, if_pos ‹_›]
    · rw [stepOf, if_neg ‹_›, if_pos ‹_›]
    · rw [stepOf, if_neg ‹(n.fdiv 6).fmod 4 ≠ 0›, if_neg ‹¬0 < n.fmod 6›]
  · intro c m₁ T h tk₀ tk hP htk hsub hoff F₁ N₁
    refine hideG fun kG => ?_
    obtain ⟨hm, h1, hlen, f, add, rfl, hfr, hp⟩ := hP
    refine kG ?_
    clear kG
    replace F₁ := fr_pin F₁ hm
    clear F2 N2
    simp only [List.cons_append, List.nil_append] at N₁
    have hlw : ws2.length = ([9, 7, 33, 82] ++ ns.take 8).length := hI2.length
    k_steps
    all_goals (try with_reducible refine kQ _ _ ?_)
    refine ret _ ((l1, listOf c.1.toArray c.2) :: add) _ _ (by assumption) (news_sub (by assumption) (by walk_at "m sub")) ?_ ⟨f, l1, c.1, c.2, rfl, .head _, ?_⟩
    · intro q hq p hp
      rcases List.mem_cons.mp hq with e | hq
      · rw [e]; exact lt1 p hp
      · exact hfr q hq p hp
    · have := (hp.imp fun v n h => h.okv).mono (T' := (l1, listOf c.1.toArray c.2) :: add) fun p hp => .tail _ hp
      rw [hlw, List.take_length] at this
      exact this
end


theorem regC4 : True := by
  k_with_none
  w_top off
  (k_with "m sub" => (first | ((repeat' (first | exact sub_nil | with_reducible refine sub_cons ?_ ?_ | with_reducible refine sub_app ?_ ?_)) <;> (first | k_mem | (intro p hp; k_mem))) | (intro p hp; simp only [List.cons_append, List.nil_append, List.append_assoc, List.mem_cons, List.mem_append, List.not_mem_nil, or_false, false_or, List.append_nil] at hp ⊢; grind)))
  (k_with "exec For" => (with_unfolding_all refine wpAny_For ?_ (by intro _; rfl)))
  (k_with "m call" => (refine wpAny_call ?_; (first | (k_dflt k_enter) | fail "no entry")))
  (k_with "compareOp In int ref" => (refine in_list_ints (isList_of (by k_asm) (by k_mem)) (by assumption) ?_))
  (k_with "compareOp NotIn int ref" => (refine notin_list_ints (isList_of (by k_asm) (by k_mem)) (by assumption) ?_))
  (k_with "compareOp Is int int" => (refine is_int (by assumption) (by assumption) (by assumption) ?_))
  (k_with "exec For Name Name cons nil" => (with_unfolding_all refine wpAny_For ?_ (by intro _; rfl)))
  (k_with "exec For Name Name" => (with_unfolding_all refine wpAny_For ?_ (by intro _; rfl)))
  (k_with "exec For Name List cons nil" => (with_unfolding_all refine wpAny_For ?_ (by intro _; rfl)))
  (k_with "exec For Name List" => (with_unfolding_all refine wpAny_For ?_ (by intro _; rfl)))
  (k_with "exec For Name Call cons nil" => (with_unfolding_all refine wpAny_For ?_ (by intro _; rfl)))
  (k_with "exec For Name Call" => (with_unfolding_all refine wpAny_For ?_ (by intro _; rfl)))
  (k_with "exec For Name BinOp cons nil" => (with_unfolding_all refine wpAny_For ?_ (by intro _; rfl)))
  (k_with "exec For Name BinOp" => (with_unfolding_all refine wpAny_For ?_ (by intro _; rfl)))
  (k_with "exec For Name Tuple cons nil" => (with_unfolding_all refine wpAny_For ?_ (by intro _; rfl)))
  (k_with "exec For Name Tuple" => (with_unfolding_all refine wpAny_For ?_ (by intro _; rfl)))
  (k_with "exec For Name Attribute cons nil" => (with_unfolding_all refine wpAny_For ?_ (by intro _; rfl)))
  (k_with "exec For Name Attribute" => (with_unfolding_all refine wpAny_For ?_ (by intro _; rfl)))
  (k_with "exec For Tuple Name cons nil" => (with_unfolding_all refine wpAny_For ?_ (by intro _; rfl)))
  (k_with "exec For Tuple Name" => (with_unfolding_all refine wpAny_For ?_ (by intro _; rfl)))
  (k_with "exec For Tuple List cons nil" => (with_unfolding_all refine wpAny_For ?_ (by intro _; rfl)))
  (k_with "exec For Tuple List" => (with_unfolding_all refine wpAny_For ?_ (by intro _; rfl)))
  (k_with "exec For Tuple Call cons nil" => (with_unfolding_all refine wpAny_For ?_ (by intro _; rfl)))
  (k_with "exec For Tuple Call" => (with_unfolding_all refine wpAny_For ?_ (by intro _; rfl)))
  (k_with "exec For Tuple BinOp cons nil" => (with_unfolding_all refine wpAny_For ?_ (by intro _; rfl)))
  (k_with "exec For Tuple BinOp" => (with_unfolding_all refine wpAny_For ?_ (by intro _; rfl)))
  (k_with "exec For Tuple Tuple cons nil" => (with_unfolding_all refine wpAny_For ?_ (by intro _; rfl)))
  (k_with "exec For Tuple Tuple" => (with_unfolding_all refine wpAny_For ?_ (by intro _; rfl)))
  (k_with "exec For Tuple Attribute cons nil" => (with_unfolding_all refine wpAny_For ?_ (by intro _; rfl)))
  (k_with "exec For Tuple Attribute" => (with_unfolding_all refine wpAny_For ?_ (by intro _; rfl)))
  trivial
noncomputable def add1 (acc : List Int) (x : Int) : List Int := if 0 ≤ x ∧ acc.any (· == x) = false then acc ++ [x] else acc
noncomputable def namedOf (ps : List (Int × Int)) : List Int := ps.foldl (fun acc p => add1 (add1 acc p.2) p.1) []
theorem add1_len (acc : List Int) (x : Int) : (add1 acc x).length ≤ acc.length + 1 := by
  unfold add1; split <;> simp
theorem namedOf_snoc (ps : List (Int × Int)) (p : Int × Int) : namedOf (ps ++ [p]) = add1 (add1 (namedOf ps) p.2) p.1 := by simp [namedOf]
theorem namedOf_len (ps : List (Int × Int)) : (namedOf ps).length ≤ 2 * ps.length := by
  have : ∀ (ps : List (Int × Int)) acc, (ps.foldl (fun acc p => add1 (add1 acc p.2) p.1) acc).length ≤ acc.length + 2 * ps.length := by
    intro ps
    induction ps with
    | nil => intro acc; simp
    | cons p r ih =>
      intro acc
      have h1 := ih (add1 (add1 acc p.2) p.1)
      have h2 := add1_len (add1 acc p.2) p.1
      have h3 := add1_len acc p.2
      simp only [List.foldl_cons, List.length_cons]; omega
  simpa [namedOf] using this ps []
theorem named_call (w : World) (f : Tok → Int) (st : Addr) (svs : List Value) (k : Nat) (ps : List (Int × Int)) (news) (hst : (st, listOf svs.toArray k) ∈ news) (hps : PairsIn (Okv f) news svs ps) (hlen : ps.length ≤ 64) :
    Call 1 w 211 [.ref st] news (fun add v => ∃ r vs k, v = .ref r ∧ (r, listOf vs.toArray k) ∈ add ∧ IntsF f vs (namedOf ps)) := by
  intro mean mg mb prog p0 loose dp un gd cn cs a ccd cl outer A₀ base h₀ L m s Q E B F X N T hk hd hu ret
  walk_at "m call"
  k_steps
  all_goals (try with_reducible refine kQ _ _ ?_)
  rename Fr _ _ _ _ => F2
  rename News _ _ _ _ => N2
  rename_i l1 _ lt1 _
  refine iterList (σ := List Value × Nat) (fun c => [(l1, listOf c.1.toArray c.2)]) [l1] (fun i c m _ _ => m (Str.ofString "named") = some (.ref l1) ∧ IntsF f c.1 (namedOf (ps.take i))) ([], 0) news rfl (fun _ => rfl) F2 N2 hst (off_cons fun b hb p hp => by rw [List.mem_singleton.mp hb]; exact Nat.ne_of_lt (lt1 p hp)) ⟨by with_unfolding_all rfl, .nil⟩ ?_ ?_
  · intro i v c m₁ T own h tk₀ tk hv zr10 htk hsub hoff F₁ N₁
    refine hideG fun kG => ?_
    obtain ⟨hm, hI⟩ := zr10
    obtain ⟨tp, x, y, u, v', nn, rfl, hpi, htp, hu, hv'⟩ := hps.get hv
    obtain ⟨tx, rfl, _⟩ := id hu
    obtain ⟨ty, rfl, _⟩ := id hv'
    refine kG ?_
    clear kG
    (try refine opq fun PQ kQ => ?_)
    replace F₁ := fr_pin F₁ hm
    clear F2 N2
    refine assign_pair rfl F₁ N₁ (n := nn) (List.mem_append_right _ (List.mem_append_left _ (hsub.1 _ htp))) rfl rfl rfl fun h3 F3 N3 => ?_
    clear F₁ N₁
    simp only [List.cons_append, List.nil_append] at N3
    k_steps
    all_goals (try with_reducible refine kQ _ _ ?_)
    rename Fr _ _ _ _ => F4
    rename News _ _ _ _ => N4
    rename_i ll _ lt4
    have hnamed : namedOf (ps.take (i + 1)) = [y, x].foldl add1 (namedOf (ps.take i)) := by
      rw [List.take_add_one, hpi, show (some (x, y)).toList = [(x, y)] from rfl, namedOf_snoc]; rfl
    have hIn : IntsF f [.int y ty, .int x tx] [y, x] := .cons hv' (.cons hu .nil)
    have hlim : i < ps.length := (List.getElem?_eq_some_iff.mp hpi).1
    refine iterList (σ := List Value × Nat) (fun c => [(l1, listOf c.1.toArray c.2)]) [l1] (fun j c m _ _ => m (Str.ofString "named") = some (.ref l1) ∧ IntsF f c.1 (([y, x].take j).foldl add1 (namedOf (ps.take i)))) c ((ll, listOf [.int y ty, .int x tx].toArray 0) :: (T ++ own)) rfl (fun _ => rfl) F4 (news_sub N4 (by walk_at "m sub")) (.head _) ?_ ⟨by with_unfolding_all rfl, hI⟩ ?_ ?_
    · refine off_cons fun b hb p hp => ?_
      rw [List.mem_singleton.mp hb]
      rcases List.mem_cons.mp hp with e | hp
      · rw [e]; exact Nat.ne_of_gt lt4.1
      · exact hoff p hp _ (.head _)
    · intro j v c' m₂ T2 own2 h5 tk₁ tk₂ hv2 zr10 htk2 hsub2 hoff2 F5 N5
      refine hideG fun kG => ?_
      obtain ⟨hm2, hI2⟩ := zr10
      obtain ⟨n, hn, hok⟩ := hIn.at hv2
      obtain ⟨t2, rfl, _⟩ := id hok
      refine kG ?_
      clear kG
      (try refine opq fun PQ kQ => ?_)
      have hj : [y, x].take (j + 1) = [y, x].take j ++ [n] := by rw [List.take_add_one, hn]; rfl
      have hfold : ([y, x].take (j + 1)).foldl add1 (namedOf (ps.take i)) = add1 (([y, x].take j).foldl add1 (namedOf (ps.take i))) n := by rw [hj, List.foldl_append]; rfl
      have hlj : j < 2 := (List.getElem?_eq_some_iff.mp hn).1
      have hl1 : (([y, x].take j).foldl add1 (namedOf (ps.take i))).length ≤ 2 * ps.length + 2 := by
        have h1 := namedOf_len (ps.take i)
        have h2 : ∀ (l : List Int) acc, (l.foldl add1 acc).length ≤ acc.length + l.length := by
          intro l
          induction l with
          | nil => intro acc; simp
          | cons a r ih => intro acc; have := ih (add1 acc a); have := add1_len acc a; simp only [List.foldl_cons, List.length_cons]; omega
        have h3 := h2 ([y, x].take j) (namedOf (ps.take i))
        simp only [List.length_take, List.length_cons, List.length_nil] at h1 h3; omega
      have hsz1 : c'.1.toArray.size ≤ sizeLine := by rw [sizeLine_eq]; have := hI2.length; simp; omega
      have hI3 := hI2.ints
      replace F5 := fr_pin F5 hm2
      clear F4 N4
      simp only [List.cons_append, List.nil_append] at N5
      k_steps
      all_goals (try with_reducible refine kQ _ _ ?_)
      all_goals (
        rename Fr _ _ _ _ => F9
        rename News _ _ _ _ => N9
        try rw [List.push_toArray] at N9)
      · refine lp_next c' F9 N9 (by walk_at "m sub") ⟨by with_unfolding_all rfl, ?_⟩
        rw [hfold, add1, if_neg]
        · exact hI2
        · intro q; simp_all
      · refine lp_next (c'.1 ++ [.int n t2], c'.2 + 1) F9 N9 (by walk_at "m sub") ⟨by with_unfolding_all rfl, ?_⟩
        rw [hfold, add1, if_pos ⟨‹0 ≤ n›, ‹_›⟩]
        exact hI2.push hok
      · refine lp_next c' F9 N9 (by walk_at "m sub") ⟨by with_unfolding_all rfl, ?_⟩
        rw [hfold, add1, if_neg fun q => ‹¬0 ≤ n› q.1]
        exact hI2
    · rintro c' m₂ T2 h5 tk₁ tk₂ ⟨hm2, hI2⟩ htk2 hsub2 hoff2 F5 N5
      clear F4 N4
      k_steps
      all_goals (try with_reducible refine kQ _ _ ?_)
      refine lp_next c' F5 N5 ?_ ⟨hm2, ?_⟩
      · intro p hp
        rcases List.mem_append.mp hp with hp | hp
        · exact List.mem_append_left _ hp
        · exact List.mem_append_right _ (hsub2.1 _ (.tail _ hp))
      · rw [hnamed]; exact hI2
  · rintro c m₁ T h tk₀ tk ⟨hm, hI⟩ htk hsub hoff F₁ N₁
    replace F₁ := fr_pin F₁ hm
    clear F2 N2
    k_steps
    all_goals (try with_reducible refine kQ _ _ ?_)
    refine ret _ [(l1, listOf c.1.toArray c.2)] _ _ (by assumption) (news_sub (by assumption) ?_) ?_ ⟨l1, c.1, c.2, rfl, .head _, ?_⟩
    · intro p hp
      rcases List.mem_append.mp hp with hp | hp
      · exact List.mem_append_left _ hp
      · exact List.mem_append_right _ (hsub.1 _ hp)
    · intro q hq p hp
      rw [List.mem_singleton.mp hq]; exact lt1 p hp
    · rw [hps.length, List.take_length] at hI; exact hI


theorem regC5 : True := by
  k_with_none
  w_top off
  (k_with "m sub" => (first | ((repeat' (first | exact sub_nil | with_reducible refine sub_cons ?_ ?_ | with_reducible refine sub_app ?_ ?_)) <;> (first | k_mem | (intro p hp; k_mem))) | (intro p hp; simp only [List.cons_append, List.nil_append, List.append_assoc, List.mem_cons, List.mem_append, List.not_mem_nil, or_false, false_or, List.append_nil] at hp ⊢; grind)))
  (k_with "exec For" => (with_unfolding_all refine wpAny_For ?_ (by intro _; rfl)))
  (k_with "m call" => (refine wpAny_call ?_; (first | (k_dflt k_enter) | fail "no entry")))
  (k_with "compareOp In int ref" => (refine in_list_ints (isList_of (by k_asm) (by k_mem)) (by assumption) ?_))
  (k_with "compareOp NotIn int ref" => (refine notin_list_ints (isList_of (by k_asm) (by k_mem)) (by assumption) ?_))
  (k_with "compareOp Is int int" => (refine is_int (by assumption) (by assumption) (by assumption) ?_))
  (k_with "exec For Name Name cons nil" => (with_unfolding_all refine wpAny_For ?_ (by intro _; rfl)))
  (k_with "exec For Name Name" => (with_unfolding_all refine wpAny_For ?_ (by intro _; rfl)))
  (k_with "exec For Name List cons nil" => (with_unfolding_all refine wpAny_For ?_ (by intro _; rfl)))
  (k_with "exec For Name List" => (with_unfolding_all refine wpAny_For ?_ (by intro _; rfl)))
  (k_with "exec For Name Call cons nil" => (with_unfolding_all refine wpAny_For ?_ (by intro _; rfl)))
  (k_with "exec For Name Call" => (with_unfolding_all refine wpAny_For ?_ (by intro _; rfl)))
  (k_with "exec For Name BinOp cons nil" => (with_unfolding_all refine wpAny_For ?_ (by intro _; rfl)))
  (k_with "exec For Name BinOp" => (with_unfolding_all refine wpAny_For ?_ (by intro _; rfl)))
  (k_with "exec For Name Tuple cons nil" => (with_unfolding_all refine wpAny_For ?_ (by intro _; rfl)))
  (k_with "exec For Name Tuple" => (with_unfolding_all refine wpAny_For ?_ (by intro _; rfl)))
  (k_with "exec For Name Attribute cons nil" => (with_unfolding_all refine wpAny_For ?_ (by intro _; rfl)))
  (k_with "exec For Name Attribute" => (with_unfolding_all refine wpAny_For ?_ (by intro _; rfl)))
  (k_with "exec For Tuple Name cons nil" => (with_unfolding_all refine wpAny_For ?_ (by intro _; rfl)))
  (k_with "exec For Tuple Name" => (with_unfolding_all refine wpAny_For ?_ (by intro _; rfl)))
  (k_with "exec For Tuple List cons nil" => (with_unfolding_all refine wpAny_For ?_ (by intro _; rfl)))
  (k_with "exec For Tuple List" => (with_unfolding_all refine wpAny_For ?_ (by intro _; rfl)))
  (k_with "exec For Tuple Call cons nil" => (with_unfolding_all refine wpAny_For ?_ (by intro _; rfl)))
  (k_with "exec For Tuple Call" => (with_unfolding_all refine wpAny_For ?_ (by intro _; rfl)))
  (k_with "exec For Tuple BinOp cons nil" => (with_unfolding_all refine wpAny_For ?_ (by intro _; rfl)))
  (k_with "exec For Tuple BinOp" => (with_unfolding_all refine wpAny_For ?_ (by intro _; rfl)))
  (k_with "exec For Tuple Tuple cons nil" => (with_unfolding_all refine wpAny_For ?_ (by intro _; rfl)))
  (k_with "exec For Tuple Tuple" => (with_unfolding_all refine wpAny_For ?_ (by intro _; rfl)))
  (k_with "exec For Tuple Attribute cons nil" => (with_unfolding_all refine wpAny_For ?_ (by intro _; rfl)))
  (k_with "exec For Tuple Attribute" => (with_unfolding_all refine wpAny_For ?_ (by intro _; rfl)))
  (k_with "call builtin:len" => (k_dflt (refine' len_led ?w0qN ?w0qm ?w0qz ?_; (case w0qN => k_asm); (case w0qm => k_mem); (case w0qz => first | assumption | omega))))
  (k_with "subscriptTail Name Name ref int" => (k_dflt (refine' item_led ?w1qN ?w1qm ?w1qa ?w1qb ?w1qx ?_; (case w1qN => k_asm); (case w1qm => k_mem); (case w1qa => omega); (case w1qb => omega); (case w1qx => assumption))))
  (k_with "eval ListComp" => (k_dflt (refine comp_eval (by with_unfolding_all rfl) rfl (by decide) (by intro _; rfl) ?_)))
  (k_with "exec Assign cons ListComp" => (k_dflt (refine comp_assign (by with_unfolding_all rfl) (by with_unfolding_all rfl) rfl (by decide) (by intro _; rfl) ?_)))
  (k_with "eval Name" => ((with_reducible show wpAny _ _ (eval (Expr.Name _ _) (compEnvC _ _ _ _)) _ _ _); k_dflt (refine' ldC ?w2qN ?w2qm ?w2qn ?w2qv ?_ ?w2qa ?w2qb; (case w2qa => rfl); (case w2qb => rfl); (case w2qN => k_asm); (case w2qm => k_mem); (case w2qn => assumption); (case w2qv => with_unfolding_all rfl))))
  (k_with "call ref" => ((first | (with_reducible show wpAny _ _ (call (Value.ref 183) _) _ _ _) | (with_reducible show wpAny _ _ (call (Value.ref 190) _) _ _ _) | (with_reducible show wpAny _ _ (call (Value.ref 197) _) _ _ _) | (with_reducible show wpAny _ _ (call (Value.ref 204) _) _ _ _) | (with_reducible show wpAny _ _ (call (Value.ref 211) _) _ _ _) | (with_reducible show wpAny _ _ (call (Value.ref 218) _) _ _ _) | (with_reducible show wpAny _ _ (call (Value.ref 223) _) _ _ _) | (with_reducible show wpAny _ _ (call (Value.ref 228) _) _ _ _) | (with_reducible show wpAny _ _ (call (Value.ref 235) _) _ _ _) | (with_reducible show wpAny _ _ (call (Value.ref 80) _) _ _ _) | (with_reducible show wpAny _ _ (call (Value.ref 87) _) _ _ _) | (with_reducible show wpAny _ _ (call (Value.ref 92) _) _ _ _) | (with_reducible show wpAny _ _ (call (Value.ref 99) _) _ _ _) | (with_reducible show wpAny _ _ (call (Value.ref 106) _) _ _ _) | (with_reducible show wpAny _ _ (call (Value.ref 120) _) _ _ _) | (with_reducible show wpAny _ _ (call (Value.ref 127) _) _ _ _)); refine hold ?_))
  trivial
local macro_rules | `(tactic| walk_at "call ref") => `(tactic| (k_dflt (refine' Call.pure (and_call _ _ _ _ _ _) ?B ?F ?X ?N ?T ?k ?d ?u ?_; (case B => k_asm); (case F => k_asm); (case X => k_asm); (case N => k_asm); (case T => k_asm); (case k => first | exact rfl | assumption); (case d => ktr_room); (case u => ktr_units)); intro v' h' tk' F' N' hv'; (obtain ⟨t', e'⟩ := hv'; subst e'); (try k_sweep)))
local macro_rules | `(tactic| walk_at "call ref") => `(tactic| (k_dflt (refine' Call.pure (or_call _ _ _ _ _ _) ?B ?F ?X ?N ?T ?k ?d ?u ?_; (case B => k_asm); (case F => k_asm); (case X => k_asm); (case N => k_asm); (case T => k_asm); (case k => first | exact rfl | assumption); (case d => ktr_room); (case u => ktr_units)); intro v' h' tk' F' N' hv'; (obtain ⟨t', e'⟩ := hv'; subst e'); (try k_sweep)))
local macro_rules | `(tactic| walk_at "call ref") => `(tactic| (k_dflt (refine' Call.pure (xor_call _ _ _ _ _ _) ?B ?F ?X ?N ?T ?k ?d ?u ?_; (case B => k_asm); (case F => k_asm); (case X => k_asm); (case N => k_asm); (case T => k_asm); (case k => first | exact rfl | assumption); (case d => ktr_room); (case u => ktr_units)); intro v' h' tk' F' N' hv'; (obtain ⟨t', e'⟩ := hv'; subst e'); (try k_sweep)))
local macro_rules | `(tactic| walk_at "call ref") => `(tactic| (k_dflt (refine' Call.pure (lshift_call _ _ _ _ _ ?h0 ?h5) ?B ?F ?X ?N ?T ?k ?d ?u ?_; (case h0 => first | assumption | omega); (case h5 => first | assumption | omega); (case B => k_asm); (case F => k_asm); (case X => k_asm); (case N => k_asm); (case T => k_asm); (case k => first | exact rfl | assumption); (case d => ktr_room); (case u => ktr_units)); intro v' h' tk' F' N' hv'; (obtain ⟨t', e'⟩ := hv'; subst e'); (try k_sweep)))
local macro_rules | `(tactic| walk_at "call ref") => `(tactic| (k_dflt (refine' Call.pure (truth_call _ _ _ _) ?B ?F ?X ?N ?T ?k ?d ?u ?_; (case B => k_asm); (case F => k_asm); (case X => k_asm); (case N => k_asm); (case T => k_asm); (case k => first | exact rfl | assumption); (case d => ktr_room); (case u => ktr_units)); intro v' h' tk' F' N' hv'; subst hv'; (try k_sweep)))
local macro_rules | `(tactic| k_mem) => `(tactic| first | assumption | (refine List.mem_append_left _ ?_; k_mem) | (refine List.mem_append_right _ ?_; k_mem))
local macro_rules | `(tactic| k_enter) => `(tactic| (refine' code_defC ?k1 ?k2 ?k3 ?k4 ?k5 ?kA ?kF ?kK ?k6 ?k7 ?k8 ?k9 ?kB ?kD ?_ ?c2 ?c3 ?c4; (case kA => exact rfl); (case kF => exact rfl); (case kK => first | exact rfl | assumption); (case k1 => k_asm); (case k2 => k_asm); (case k3 => k_asm); (case k4 => k_asm); (case k5 => k_asm); (case k6 => k_is); (case k7 => k_is); (case k8 => k_room); (case k9 => first | exact BindsTo.of_eq rfl | exact binds_K (by k_in) rfl (by k_is) rfl rfl rfl); (case kB => exact rfl); (case kD => decide +kernel); (case c2 => exact rfl); (case c3 => exact rfl); (case c4 => exact rfl); k_whole; intro g' L' h' tk' cells' FG' F' N' Y' B' X' T' l1; (try k_lt l1); k_cells Y'; (try simp only [List.cons_append, List.nil_append] at N'); (try dsimp only); (try k_unmd); (try k_fold)))
noncomputable def bit (x : Int) : Int := 2 ^ x.toNat
noncomputable def mask0 (ns : List Int) : Int := ns.foldl (fun m x => Builtin.bitOr m (bit x)) 0
noncomputable def maskS (m : Int) (ps : List (Int × Int)) : Int := ps.foldl (fun acc p => if Builtin.bitAnd m (bit p.1) ≠ 0 then Builtin.bitOr acc (bit p.2) else acc) 0
noncomputable def maskAt (ns : List Int) (ps : List (Int × Int)) : Nat → Int
  | 0 => mask0 ns
  | t + 1 => maskS (maskAt ns ps t) ps
noncomputable def masksOf (ns : List Int) (ps : List (Int × Int)) (j : Nat) : List Int := (List.range (j + 1)).map (maskAt ns ps)
noncomputable def In6 (x : Int) : Prop := 0 ≤ x ∧ x < 6
theorem maskS_snoc (m : Int) (ps : List (Int × Int)) (p : Int × Int) : maskS m (ps ++ [p]) = if Builtin.bitAnd m (bit p.1) ≠ 0 then Builtin.bitOr (maskS m ps) (bit p.2) else maskS m ps := by simp [maskS]
theorem masksOf_succ (ns : List Int) (ps : List (Int × Int)) (j : Nat) : masksOf ns ps (j + 1) = masksOf ns ps j ++ [maskAt ns ps (j + 1)] := by simp [masksOf, List.range_succ]
theorem masksOf_get (ns : List Int) (ps : List (Int × Int)) (j : Nat) : (masksOf ns ps j)[j]? = some (maskAt ns ps j) := by simp [masksOf]
theorem masks_call (w : World) (f : Tok → Int) (la lb : Addr) (vs ws : List Value) (k1 k2 : Nat) (ns : List Int) (ps : List (Int × Int)) (news) (hla : (la, listOf vs.toArray k1) ∈ news) (hlb : (lb, listOf ws.toArray k2) ∈ news) (hi : IntsF f vs ns) (hps : PairsIn (Okv f) news ws ps)
    (hns : ∀ x ∈ ns, In6 x) (hpp : ∀ p ∈ ps, In6 p.1 ∧ In6 p.2) (hlen : ns.length ≤ 64) :
    Call 3 w 218 [.ref la, .ref lb] news (fun add v => ∃ r vs k, v = .ref r ∧ (r, listOf vs.toArray k) ∈ add ∧ IntsAre vs (masksOf ns ps (ns.length + 1))) := by
  intro mean mg mb prog p0 loose dp un gd cn cs a ccd cl outer A₀ base h₀ L m s Q E B F X N T hk hd hu ret
  walk_at "m call"
  k_steps
  all_goals (try with_reducible refine kQ _ _ ?_)
  rename Fr _ _ _ _ => F2
  rename News _ _ _ _ => N2
  rename_i l1 _ lt1 _
  refine iterList (σ := Int × Tok) (fun c => [(l1, listOf #[.int c.1 c.2] 0)]) [l1] (fun i c m _ _ => m (Str.ofString "masks") = some (.ref l1) ∧ m (Str.ofString "named") = some (.ref la) ∧ m (Str.ofString "pairs") = some (.ref lb) ∧ c.1 = mask0 (ns.take i)) (0, _) news rfl (fun _ => rfl) F2 N2 hla (off_cons fun b hb p hp => by rw [List.mem_singleton.mp hb]; exact Nat.ne_of_lt (lt1 p hp)) ⟨by with_unfolding_all rfl, by with_unfolding_all rfl, by with_unfolding_all rfl, rfl⟩ ?_ ?_
  · intro i v c m₁ T own h tk₀ tk hv zr10 htk hsub hoff F₁ N₁
    refine hideG fun kG => ?_
    obtain ⟨hm, hm2, hm3, hc⟩ := zr10
    obtain ⟨n, hn, hok⟩ := hi.at hv
    obtain ⟨t2, rfl, _⟩ := id hok
    obtain ⟨h0, h5⟩ := hns n (List.mem_of_getElem? hn)
    refine kG ?_
    clear kG
    (try refine opq fun PQ kQ => ?_)
    have hstep : mask0 (ns.take (i + 1)) = Builtin.bitOr (mask0 (ns.take i)) (2 ^ n.toNat) := by
      rw [List.take_add_one, hn]; simp [mask0, bit]
    replace F₁ := fr_pin3 F₁ hm hm2 hm3
    clear F2 N2
    simp only [List.cons_append, List.nil_append] at N₁
    k_steps
    all_goals (try with_reducible refine kQ _ _ ?_)
    rename Fr _ _ _ _ => F9
    rename News _ _ _ _ => N9
    refine lp_next (_, _) F9 N9 (fun p hp => hp) ⟨by with_unfolding_all rfl, by with_unfolding_all rfl, by with_unfolding_all rfl, ?_⟩
    rw [hstep, ← hc]; rfl
  · intro c m₁ T h tk₀ tk zr6 htk hsub hoff F₁ N₁
    refine hideG fun kG => ?_
    obtain ⟨hm, hm2, hm3, hc⟩ := zr6
    refine kG ?_
    clear kG
    rw [hi.length, List.take_length] at hc
    replace F₁ := fr_pin3 F₁ hm hm2 hm3
    clear F2 N2
    simp only [List.cons_append, List.nil_append] at N₁
    have hla2 := hsub.1 _ hla
    have hlb2 := hsub.1 _ hlb
    have hvl : vs.length ≤ 1000 := by have := hi.length; omega
    k_steps
    all_goals (try with_reducible refine kQ _ _ ?_)
    rename Fr _ _ _ _ => F3
    rename News _ _ _ _ => N3
    rename IsRange _ _ _ _ _ _ _ _ => hr
    refine iterRange (n := vs.length + 1) (σ := List Value × Nat) (fun c => [(l1, listOf c.1.toArray c.2)]) [l1] (fun i c m _ _ => m (Str.ofString "masks") = some (.ref l1) ∧ m (Str.ofString "pairs") = some (.ref lb) ∧ IntsAre c.1 (masksOf ns ps i)) ([.int c.1 c.2], 0) T rfl (fun _ => rfl) hr (by have := hi.length; omega) F3 N3 hoff ⟨by with_unfolding_all rfl, by with_unfolding_all rfl, by rw [hc]; exact .cons _ _ .nil⟩ ?_ ?_
    · intro j t c m₂ T2 own h2 tk₁ tk₂ hj zr10 htk2 hsub2 hoff2 F4 N4
      refine hideG fun kG => ?_
      obtain ⟨hm4, hm5, hI⟩ := zr10
      refine kG ?_
      clear kG
      (try refine opq fun PQ kQ => ?_)
      have hlI := hI.length
      have hjl : vs.length = ns.length := hi.length
      refine hideG fun kG => ?_
      obtain ⟨mt, tt, e1, hx⟩ : ∃ mt tt, mt = maskAt ns ps j ∧ c.1[((j : Nat) : Int).toNat]? = some (.int mt tt) := by
        obtain ⟨tt, h⟩ := hI.get j _ (masksOf_get ns ps j)
        exact ⟨_, tt, rfl, by simpa using h⟩
      refine kG ?_
      clear kG
      have hlm : (masksOf ns ps j).length = j + 1 := by simp [masksOf]
      have hsz1 : c.1.toArray.size ≤ sizeLine := by rw [sizeLine_eq]; simp; omega
      replace F4 := fr_pin2 F4 hm4 hm5
      clear F3 N3
      simp only [List.cons_append, List.nil_append] at N4
      k_steps
      all_goals (try with_reducible refine kQ _ _ ?_)
      rename Fr _ _ _ _ => F5
      rename News _ _ _ _ => N5
      have hsubA : ∀ p ∈ news, p ∈ T2 := fun p hp => hsub2.1 p (hsub.1 p hp)
      refine iterList (σ := Unit) (fun _ => []) [] (fun i _ m _ _ => m (Str.ofString "masks") = some (.ref l1) ∧ m (Str.ofString "pairs") = some (.ref lb) ∧ m (Str.ofString "turn") = some (.int j t) ∧ ∃ u, m (Str.ofString "mask") = some (.int (maskS mt (ps.take i)) u)) () ((l1, listOf c.1.toArray c.2) :: (T2 ++ own)) rfl (fun _ => rfl) F5 N5 (.tail _ (List.mem_append_left _ (hsubA _ hlb))) (fun _ _ _ h => nomatch h) ⟨by with_unfolding_all rfl, by with_unfolding_all rfl, by with_unfolding_all rfl, _, by with_unfolding_all rfl⟩ ?_ ?_
      · intro i v c' m₃ T3 own3 h4 tk₃ tk₄ hv zr10 htk3 hsub3 hoff3 F6 N6
        refine hideG fun kG => ?_
        obtain ⟨hm6, hm7, hm8, u, hm9⟩ := zr10
        obtain ⟨tp, x, y, vx, vy, nn, rfl, hpi, htp, hvx, hvy⟩ := hps.get hv
        obtain ⟨tx, rfl, _⟩ := id hvx
        obtain ⟨ty, rfl, _⟩ := id hvy
        obtain ⟨⟨hx0, hx6⟩, ⟨hy0, hy6⟩⟩ := hpp _ (List.mem_of_getElem? hpi)
        refine kG ?_
        clear kG
        (try refine opq fun PQ kQ => ?_)
        dsimp only at hx0 hx6 hy0 hy6
        have hmk : maskS mt (ps.take (i + 1)) = if Builtin.bitAnd mt (2 ^ x.toNat) ≠ 0 then Builtin.bitOr (maskS mt (ps.take i)) (2 ^ y.toNat) else maskS mt (ps.take i) := by
          rw [List.take_add_one, hpi]; exact maskS_snoc mt (ps.take i) (x, y)
        replace F6 := fr_pin4 F6 hm6 hm7 hm8 hm9
        clear F5 N5
        refine assign_pair rfl F6 N6 (n := nn) (List.mem_append_right _ (List.mem_append_left _ (hsub3.1 _ (.tail _ (List.mem_append_left _ (hsubA _ htp)))))) rfl rfl rfl fun h5 F7 N7 => ?_
        clear F6 N6
        simp only [List.cons_append, List.nil_append] at N7
        have hml : (l1, listOf c.1.toArray c.2) ∈ T3 := hsub3.1 _ (.head _)
        k_steps
        all_goals (try with_reducible refine kQ _ _ ?_)
        all_goals (
          rename Fr _ _ _ _ => F9
          rename News _ _ _ _ => N9)
        · refine lp_next () F9 N9 (fun p hp => hp) ⟨by with_unfolding_all rfl, by with_unfolding_all rfl, by with_unfolding_all rfl, ?u1, ?e1⟩
          case e1 => rw [hmk, if_pos ‹_›]; with_unfolding_all rfl
        · refine lp_next () F9 N9 (fun p hp => hp) ⟨by with_unfolding_all rfl, by with_unfolding_all rfl, by with_unfolding_all rfl, ?u2, ?e2⟩
          case e2 => rw [hmk, if_neg ‹_›]; with_unfolding_all rfl
      · intro c' m₃ T3 h4 tk₃ tk₄ zr6 htk3 hsub3 hoff3 F6 N6
        refine hideG fun kG => ?_
        obtain ⟨hm6, hm7, hm8, u, hm9⟩ := zr6
        refine kG ?_
        clear kG
        rw [hps.length, List.take_length] at hm9
        have N7 : News _ _ _ ((l1, listOf c.1.toArray c.2) :: (T2 ++ own)) := news_sub N6 hsub3.1
        replace F6 := fr_pin3 F6 hm6 hm7 hm9
        clear F5 N5 N6
        k_steps
        all_goals (try with_reducible refine kQ _ _ ?_)
        rename Fr _ _ _ _ => F9
        rename News _ _ _ _ => N9
        rw [List.push_toArray] at N9
        refine lp_next (c.1 ++ [Value.int (maskS mt ps) u], c.2 + 1) F9 N9 (fun p hp => hp) ⟨by with_unfolding_all rfl, by with_unfolding_all rfl, ?_⟩
        rw [masksOf_succ]
        refine hI.append ?_
        rw [e1]
        exact .cons _ _ .nil
    · intro c m₂ T2 h2 tk₁ tk₂ zr6 htk2 hsub2 hoff2 F4 N4
      refine hideG fun kG => ?_
      obtain ⟨hm4, hm5, hI⟩ := zr6
      refine kG ?_
      clear kG
      replace F4 := fr_pin F4 hm4
      clear F3 N3
      k_steps
      all_goals (try with_reducible refine kQ _ _ ?_)
      rename Fr h₀ L _ _ => F9
      rename News h₀ L _ _ => N9
      refine ret _ [(l1, listOf c.1.toArray c.2)] _ _ F9 (news_sub N9 ?_) ?_ ⟨l1, c.1, c.2, rfl, .head _, ?_⟩
      · intro p hp
        rcases List.mem_append.mp hp with hp | hp
        · exact List.mem_append_left _ hp
        · exact List.mem_append_right _ (hsub2.1 _ (hsub.1 _ hp))
      · intro q hq p hp
        rw [List.mem_singleton.mp hq]; exact lt1 p hp
      · rw [hi.length] at hI; exact hI


theorem regC6 : True := by
  k_with_none
  w_top off
  (k_with "m sub" => (first | ((repeat' (first | exact sub_nil | with_reducible refine sub_cons ?_ ?_ | with_reducible refine sub_app ?_ ?_)) <;> (first | k_mem | (intro p hp; k_mem))) | (intro p hp; simp only [List.cons_append, List.nil_append, List.append_assoc, List.mem_cons, List.mem_append, List.not_mem_nil, or_false, false_or, List.append_nil] at hp ⊢; grind)))
  (k_with "exec For" => (with_unfolding_all refine wpAny_For ?_ (by intro _; rfl)))
  (k_with "m call" => (refine wpAny_call ?_; (first | (k_dflt k_enter) | fail "no entry")))
  (k_with "compareOp In int ref" => (refine in_list_ints (isList_of (by k_asm) (by k_mem)) (by assumption) ?_))
  (k_with "compareOp NotIn int ref" => (refine notin_list_ints (isList_of (by k_asm) (by k_mem)) (by assumption) ?_))
  (k_with "compareOp Is int int" => (refine is_int (by assumption) (by assumption) (by assumption) ?_))
  (k_with "exec For Name Name cons nil" => (with_unfolding_all refine wpAny_For ?_ (by intro _; rfl)))
  (k_with "exec For Name Name" => (with_unfolding_all refine wpAny_For ?_ (by intro _; rfl)))
  (k_with "exec For Name List cons nil" => (with_unfolding_all refine wpAny_For ?_ (by intro _; rfl)))
  (k_with "exec For Name List" => (with_unfolding_all refine wpAny_For ?_ (by intro _; rfl)))
  (k_with "exec For Name Call cons nil" => (with_unfolding_all refine wpAny_For ?_ (by intro _; rfl)))
  (k_with "exec For Name Call" => (with_unfolding_all refine wpAny_For ?_ (by intro _; rfl)))
  (k_with "exec For Name BinOp cons nil" => (with_unfolding_all refine wpAny_For ?_ (by intro _; rfl)))
  (k_with "exec For Name BinOp" => (with_unfolding_all refine wpAny_For ?_ (by intro _; rfl)))
  (k_with "exec For Name Tuple cons nil" => (with_unfolding_all refine wpAny_For ?_ (by intro _; rfl)))
  (k_with "exec For Name Tuple" => (with_unfolding_all refine wpAny_For ?_ (by intro _; rfl)))
  (k_with "exec For Name Attribute cons nil" => (with_unfolding_all refine wpAny_For ?_ (by intro _; rfl)))
  (k_with "exec For Name Attribute" => (with_unfolding_all refine wpAny_For ?_ (by intro _; rfl)))
  (k_with "exec For Tuple Name cons nil" => (with_unfolding_all refine wpAny_For ?_ (by intro _; rfl)))
  (k_with "exec For Tuple Name" => (with_unfolding_all refine wpAny_For ?_ (by intro _; rfl)))
  (k_with "exec For Tuple List cons nil" => (with_unfolding_all refine wpAny_For ?_ (by intro _; rfl)))
  (k_with "exec For Tuple List" => (with_unfolding_all refine wpAny_For ?_ (by intro _; rfl)))
  (k_with "exec For Tuple Call cons nil" => (with_unfolding_all refine wpAny_For ?_ (by intro _; rfl)))
  (k_with "exec For Tuple Call" => (with_unfolding_all refine wpAny_For ?_ (by intro _; rfl)))
  (k_with "exec For Tuple BinOp cons nil" => (with_unfolding_all refine wpAny_For ?_ (by intro _; rfl)))
  (k_with "exec For Tuple BinOp" => (with_unfolding_all refine wpAny_For ?_ (by intro _; rfl)))
  (k_with "exec For Tuple Tuple cons nil" => (with_unfolding_all refine wpAny_For ?_ (by intro _; rfl)))
  (k_with "exec For Tuple Tuple" => (with_unfolding_all refine wpAny_For ?_ (by intro _; rfl)))
  (k_with "exec For Tuple Attribute cons nil" => (with_unfolding_all refine wpAny_For ?_ (by intro _; rfl)))
  (k_with "exec For Tuple Attribute" => (with_unfolding_all refine wpAny_For ?_ (by intro _; rfl)))
  (k_with "call builtin:len" => (k_dflt (refine' len_led ?w0qN ?w0qm ?w0qz ?_; (case w0qN => k_asm); (case w0qm => k_mem); (case w0qz => first | assumption | omega))))
  (k_with "subscriptTail Name Name ref int" => (k_dflt (refine' item_led ?w1qN ?w1qm ?w1qa ?w1qb ?w1qx ?_; (case w1qN => k_asm); (case w1qm => k_mem); (case w1qa => omega); (case w1qb => omega); (case w1qx => assumption))))
  (k_with "eval ListComp" => (k_dflt (refine comp_eval (by with_unfolding_all rfl) rfl (by decide) (by intro _; rfl) ?_)))
  (k_with "exec Assign cons ListComp" => (k_dflt (refine comp_assign (by with_unfolding_all rfl) (by with_unfolding_all rfl) rfl (by decide) (by intro _; rfl) ?_)))
  (k_with "eval Name" => ((with_reducible show wpAny _ _ (eval (Expr.Name _ _) (compEnvC _ _ _ _)) _ _ _); k_dflt (refine' ldC ?w2qN ?w2qm ?w2qn ?w2qv ?_ ?w2qa ?w2qb; (case w2qa => rfl); (case w2qb => rfl); (case w2qN => k_asm); (case w2qm => k_mem); (case w2qn => assumption); (case w2qv => with_unfolding_all rfl))))
  (k_with "call ref" => ((first | (with_reducible show wpAny _ _ (call (Value.ref 183) _) _ _ _) | (with_reducible show wpAny _ _ (call (Value.ref 190) _) _ _ _) | (with_reducible show wpAny _ _ (call (Value.ref 197) _) _ _ _) | (with_reducible show wpAny _ _ (call (Value.ref 204) _) _ _ _) | (with_reducible show wpAny _ _ (call (Value.ref 211) _) _ _ _) | (with_reducible show wpAny _ _ (call (Value.ref 218) _) _ _ _) | (with_reducible show wpAny _ _ (call (Value.ref 223) _) _ _ _) | (with_reducible show wpAny _ _ (call (Value.ref 228) _) _ _ _) | (with_reducible show wpAny _ _ (call (Value.ref 235) _) _ _ _) | (with_reducible show wpAny _ _ (call (Value.ref 80) _) _ _ _) | (with_reducible show wpAny _ _ (call (Value.ref 87) _) _ _ _) | (with_reducible show wpAny _ _ (call (Value.ref 92) _) _ _ _) | (with_reducible show wpAny _ _ (call (Value.ref 99) _) _ _ _) | (with_reducible show wpAny _ _ (call (Value.ref 106) _) _ _ _) | (with_reducible show wpAny _ _ (call (Value.ref 120) _) _ _ _) | (with_reducible show wpAny _ _ (call (Value.ref 127) _) _ _ _)); refine hold ?_))
  (k_with "m use" => ((try unfold held); (rename Call _ _ _ _ _ _ => hC); k_dflt (refine' Call.use hC ?w3qB ?w3qF ?w3qX ?w3qN ?w3qT ?w3qk ?w3qd ?w3qu ?_; (case w3qB => k_asm); (case w3qF => k_asm); (case w3qX => k_asm); (case w3qN => k_asm); (case w3qT => k_asm); (case w3qk => first | exact rfl | assumption); (case w3qd => ktr_room); (case w3qu => ktr_units)); clear hC))
  (k_with "m pure" => ((try unfold held); (rename Call _ _ _ _ _ _ => hC); k_dflt (refine' Call.pure hC ?w4qB ?w4qF ?w4qX ?w4qN ?w4qT ?w4qk ?w4qd ?w4qu ?_; (case w4qB => k_asm); (case w4qF => k_asm); (case w4qX => k_asm); (case w4qN => k_asm); (case w4qT => k_asm); (case w4qk => first | exact rfl | assumption); (case w4qd => ktr_room); (case w4qu => ktr_units)); clear hC))
  (k_with "subscriptTail Name Constant ref int" => (k_dflt (refine' item_led ?w5qN ?w5qm ?w5qa ?w5qb ?w5qx ?_; (case w5qN => k_asm); (case w5qm => k_mem); (case w5qa => omega); (case w5qb => omega); (case w5qx => first | assumption | rfl))))
  (k_with "compareOp Eq ref ref" => refine hold ?_)
  (k_with "pyIter ref" => refine hold ?_)
  trivial
local macro_rules | `(tactic| walk_at "subscriptTail Name Slice ref ref") => `(tactic| (k_dflt (refine' slice_from ?F ?N ?m ?a ?z ?_ ?s ?t; (case F => k_asm); (case N => k_asm); (case m => k_mem); (case a => omega); (case z => first | assumption | omega); (case s => with_unfolding_all rfl); (case t => intro _; rfl)); intro D' h' F' N' l1; (try k_lt l1); (try k_sweep)))
local macro_rules | `(tactic| walk_at "subscriptTail Name Slice ref ref") => `(tactic| (k_dflt (refine' slice_upto ?F ?N ?m ?a ?z ?_ ?s ?t; (case F => k_asm); (case N => k_asm); (case m => k_mem); (case a => omega); (case z => first | assumption | omega); (case s => with_unfolding_all rfl); (case t => intro _; rfl)); intro D' h' F' N' l1; (try k_lt l1); (try k_sweep)))
noncomputable def liveIn (alive x : Int) : Bool := decide (Builtin.bitAnd alive (bit x) ≠ 0)
noncomputable def succs (ps : List (Int × Int)) (c : Int) : List Int := (ps.filter fun p => p.1 == c).map (·.2)
noncomputable def ringLoop (alive : Int) (ps : List (Int × Int)) : Nat → List Int → List Int → Option (List Int)
  | 0, way, _ => some way
  | n + 1, way, ahead => match ahead.filter (liveIn alive) with
    | [] => none
    | c :: _ => if way.any (· == c) then some (way.drop (way.idxOf c) ++ [c]) else ringLoop alive ps n (way ++ [c]) (succs ps c)
noncomputable def flipP (ps : List (Int × Int)) : List (Int × Int) := ps.map fun p => (p.2, p.1)
noncomputable def ringOf (ns : List Int) (ps : List (Int × Int)) : Option (List Int) := ringLoop (maskAt ns (flipP ps) (ns.length + 1)) ps (ns.length + 1) [] ns
theorem ring_call (w : World) (f : Tok → Int) (la lb : Addr) (vs ws : List Value) (k1 k2 : Nat) (ns : List Int) (ps : List (Int × Int)) (news) (hla : (la, listOf vs.toArray k1) ∈ news) (hlb : (lb, listOf ws.toArray k2) ∈ news) (hi : IntsF f vs ns) (hps : PairsIn (Okv f) news ws ps)
    (hns : ∀ x ∈ ns, In6 x) (hpp : ∀ p ∈ ps, In6 p.1 ∧ In6 p.2) (hlen : ns.length ≤ 64) (hlen2 : ps.length ≤ 64) :
    Call 5 w 228 [.ref la, .ref lb] news (fun add v => match ringOf ns ps with | none => v = .none | some r => ∃ q vs k, v = .ref q ∧ (q, listOf vs.toArray k) ∈ add ∧ IntsAre vs r) := by
  intro mean mg mb prog p0 loose dp un gd cn cs a ccd cl outer A₀ base h₀ L m s Q E B F X N T hk hd hu ret
  walk_at "m call"
  k_steps
  all_goals (try with_reducible refine kQ _ _ ?_)
  rename Fr _ _ _ _ => F2
  rename News _ _ _ _ => N2
  rename_i g L' _ _ FG B' X' T' lt1 o1 o2 d1 d2
  have hlb1 := List.mem_cons_of_mem (L' + 1 + 1, o1) (List.mem_cons_of_mem (L' + 1, o2) hlb)
  refine comp1 (P := fun j ys T _ => PairsIn (Okv f) T ys (flipP (ps.take j)) ∧ ys.length = j) rfl (by decide) rfl F2 N2 hlb1 ⟨.nil, rfl⟩ ?_ ?_
  · intro D C s' R hD hDC i v ys kk oC T own h tk₀ tk mC hv zr18 htk hsub hoff F₁ N₁ hn
    refine hideG fun kG => ?_
    obtain ⟨hP, hyl⟩ := zr18
    obtain ⟨tp, x, y, u, v', nn, rfl, hpi, htp, hu, hv'⟩ := hps.get hv
    refine kG ?_
    clear kG
    have htp' := hsub.1 _ (.tail _ (.tail _ htp))
    refine hideG fun kG => ?_
    obtain ⟨tx, rfl, _⟩ := id hu
    obtain ⟨ty, rfl, _⟩ := id hv'
    refine kG ?_
    clear kG
    clear F2 N2
    refine assignC_pair (C := C) rfl rfl F₁ N₁ (Nat.ne_of_lt hDC) (fun p hp => hoff p hp _ (.tail _ (.head _))) hn (n := nn) (List.mem_append_left _ htp') rfl rfl rfl fun h3 oC3 F3 N3 hn3 => ?_
    refine tests_nil (if_pos rfl ▸ inner_append ?_)
    clear F₁ N₁ hn
    have hil : i < ps.length := (List.getElem?_eq_some_iff.mp hpi).1
    have hsz1 : ys.toArray.size ≤ sizeLine := by rw [sizeLine_eq]; simp; omega
    have hDC2 : @LT.lt Nat _ D C := hDC
    k_steps
    all_goals (try with_reducible refine kQ _ _ ?_)
    rename Fr _ _ _ _ => F9
    rename News _ _ _ _ => N9
    rename _ ∧ _ ∧ AllLt _ _ => lt9
    rename_i Dn _ _
    rw [List.push_toArray] at N9
    have hall := lt_of_allLt lt9.2.2
    have e1 : flipP (ps.take (i + 1)) = flipP (ps.take i) ++ [(y, x)] := by
      rw [List.take_add_one, hpi]; simp [flipP]
    refine ce_more (P := fun ys T _ => PairsIn (Okv f) T ys (flipP (ps.take (i + 1))) ∧ ys.length = i + 1) (ys ++ [.ref Dn]) (kk + 1) oC3 [(Dn, tupO [.int y ty, .int x tx])] F9 N9 ?_ ?_ ?_ ⟨_, hn3⟩ ⟨?_, by simp [hyl]⟩
    · walk_at "m sub"
    · intro q hq b hb
      rw [List.mem_singleton.mp hq]
      rcases List.mem_cons.mp hb with e | hb
      · rw [e]; exact Nat.ne_of_gt lt9.1
      · rw [List.mem_singleton.mp hb]; exact Nat.ne_of_gt lt9.2.1
    · intro q hq p hp
      rw [List.mem_singleton.mp hq]; exact hall p hp
    · rw [e1]
      exact (hP.mono fun p hp => .tail _ hp).push (.head _) hv' hu
  · rintro D C ys kk oC T h tk₀ tk hD hDC ⟨hP, hyl⟩ htk hsub hoff F₁ N₁ hn
    refine comp_out F₁ N₁ hn (Nat.ne_of_lt hDC) (fun p hp => hoff p hp _ (.tail _ (.head _))) fun h3 F3 N3 => ?_
    clear F2 N2 F₁ N₁
    rw [hps.length, List.take_length] at hP
    refine hideG fun kG => ?_
    obtain ⟨hs1, adds, rfl, hfr⟩ := hsub
    refine kG ?_
    clear kG
    k_steps
    all_goals (try with_reducible refine kQ _ _ ?_)
    have hfl : ∀ p ∈ flipP ps, In6 p.1 ∧ In6 p.2 := by
      intro p hp
      refine hideG fun kG => ?_
      obtain ⟨q, hq, rfl⟩ := List.mem_map.mp hp
      refine kG ?_
      clear kG
      exact ⟨(hpp q hq).2, (hpp q hq).1⟩
    have hM := masks_call w f la D vs ys k1 kk ns (flipP ps) _ (List.mem_cons_of_mem (D, listOf ys.toArray kk) (hs1 _ (.tail _ (.tail _ hla)))) (.head _) hi (hP.mono fun p hp => .tail _ hp) hns hfl hlen
    walk_at "m use"
    intro v add h4 tk4 F4 N4 hfr4 zr7
    refine hideG fun kG => ?_
    obtain ⟨rm, ms, km, rfl, hrm, hms⟩ := zr7
    refine kG ?_
    clear kG
    clear F3 N3
    k_steps
    all_goals (try with_reducible refine kQ _ _ ?_)
    have hlast : ∃ ta, ms.getLast? = some (.int (maskAt ns (flipP ps) (ns.length + 1)) ta) := by
      have hl : ms.length = ns.length + 1 + 1 := by rw [hms.length]; simp [masksOf]
      obtain ⟨ta, h⟩ := hms.get (ns.length + 1) _ (masksOf_get ns (flipP ps) (ns.length + 1))
      exact ⟨ta, by rw [List.getLast?_eq_getElem?, hl]; exact h⟩
    obtain ⟨ta, hlast⟩ := hlast
    refine last_led N4 (List.mem_append_left _ hrm) hlast ?_
    have N5 : News _ _ _ ((L' + 1 + 1, o1) :: (L' + 1, o2) :: (add ++ ((D, listOf ys.toArray kk) :: adds) ++ news)) := news_sub N4 (by walk_at "m sub")
    have hgr : ∀ q ∈ add ++ ((D, listOf ys.toArray kk) :: adds), ∀ p ∈ (L' + 1 + 1, o1) :: (L' + 1, o2) :: news, p.1 < q.1 := by
      intro q hq p hp
      rcases List.mem_append.mp hq with hq | hq
      · exact hfr4 q hq p (.tail _ (List.mem_append_right _ hp))
      · rcases List.mem_cons.mp hq with e | hq
        · rw [e]; exact hD p hp
        · exact hfr q hq p hp
    have hgr2 : ∀ q ∈ add ++ ((D, listOf ys.toArray kk) :: adds), ∀ p ∈ news, p.1 < q.1 := fun q hq p hp => hgr q hq p (.tail _ (.tail _ hp))
    have ho5 : OwnOff (add ++ ((D, listOf ys.toArray kk) :: adds) ++ news) [L' + 1 + 1, L' + 1] := by
      intro q hq b hb
      rcases List.mem_append.mp hq with hq | hq
      · rcases List.mem_cons.mp hb with e | hb
        · rw [e]; exact Nat.ne_of_gt (hgr q hq _ (.head _))
        · rw [List.mem_singleton.mp hb]; exact Nat.ne_of_gt (hgr q hq _ (.tail _ (.head _)))
      · have := lt1 q hq
        rcases List.mem_cons.mp hb with e | hb
        · rw [e]; exact Nat.ne_of_lt (Nat.lt_succ_of_lt (Nat.lt_succ_of_lt this))
        · rw [List.mem_singleton.mp hb]; exact Nat.ne_of_lt (Nat.lt_succ_of_lt this)
    generalize hU : add ++ ((D, listOf ys.toArray kk) :: adds) = U at N5 hgr2 ho5
    clear N4 hrm hgr hU hfr4 hfr hs1 hD hDC hP hyl hoff hlb1
    have hvl : vs.length ≤ 1000 := by have := hi.length; omega
    have hla5 : (la, listOf vs.toArray k1) ∈ news := hla
    k_steps
    all_goals (try with_reducible refine kQ _ _ ?_)
    rename Fr _ _ _ _ => F6
    rename News _ _ _ _ => N6
    rename IsRange _ _ _ _ _ _ _ _ => hr
    rename Obj.data _ = Data.cell (some (Value.int _ _)) => hca
    rename_i oa _ lw _ ltw _ _ _ _ _ _ _ _ _ _
    have hvn : vs.length = ns.length := hi.length
    generalize hal : maskAt ns (flipP ps) (ns.length + 1) = alive at hca hlast
    refine iterRange (n := vs.length + 1) (σ := List Value × Nat × Obj) (fun c => [(lw, listOf c.1.toArray c.2.1), (L' + 1 + 1, c.2.2)]) [lw, L' + 1 + 1]
      (fun j c m T _ => m (Str.ofString "way") = some (.ref lw) ∧ m (Str.ofString "pairs") = some (.ref lb) ∧ (∃ o, c.2.2.data = .cell o) ∧ ∃ wl al ax avs ak, m (Str.ofString "ahead") = some (.ref ax) ∧ (ax, listOf avs.toArray ak) ∈ T ∧ IntsF f avs al ∧ avs.length ≤ 64 ∧ IntsF f c.1 wl ∧ wl.length = j ∧ (∀ x ∈ wl, In6 x) ∧ (∀ x ∈ al, In6 x) ∧ ringLoop alive ps (ns.length + 1 - j) wl al = ringOf ns ps)
      ([], 0, o1) ((L' + 1, oa) :: (U ++ news)) rfl (fun _ => rfl) hr (by omega) F6 (news_sub N6 (by walk_at "m sub")) ?_ ?_ ?_ ?_
    · intro q hq b hb
      rcases List.mem_cons.mp hq with e | hq
      · rw [e]
        rcases List.mem_cons.mp hb with e | hb
        · rw [e]; exact Nat.ne_of_lt ltw.2.1
        · rw [List.mem_singleton.mp hb]; exact Nat.ne_of_lt (Nat.lt_succ_self _)
      · rcases List.mem_cons.mp hb with e | hb
        · rw [e]; exact off_of_lt ltw.2.2 q hq
        · rw [List.mem_singleton.mp hb]; exact ho5 q hq _ (.head _)
    · refine ⟨by with_unfolding_all rfl, by with_unfolding_all rfl, ⟨_, d1⟩, [], ns, la, vs, k1, by with_unfolding_all rfl, .tail _ (List.mem_append_right _ hla), hi, by omega, .nil, rfl, (fun _ h => nomatch h), hns, ?_⟩
      rw [ringOf, hal, Nat.sub_zero]
    · intro j t c m₂ T2 own h2 tk₁ tk₂ hj zr10 htk2 hsub2 hoff2 F7 N7
      refine hideG fun kG => ?_
      obtain ⟨hm1, hm2, hco, wl, al, ax, avs, ak, hm3, hax, hav, hal64, hwl, hwj, hw6, ha6, hring⟩ := zr10
      refine kG ?_
      clear kG
      (try refine opq fun PQ kQ => ?_)
      have hca7 := hsub2.1 _ (.head _)
      have hlb7 : (lb, listOf ws.toArray k2) ∈ T2 := hsub2.1 _ (.tail _ (List.mem_append_right _ hlb))
      replace F7 := fr_pin3 F7 hm1 hm2 hm3
      clear F6 N6
      simp only [List.cons_append, List.nil_append] at N7
      k_steps
      all_goals (try with_reducible refine kQ _ _ ?_)
      rename Fr _ _ _ _ => F8
      rename News _ _ _ _ => N8
      refine comp1 (P := fun i ys T _ => T = (lw, listOf c.1.toArray c.2.1) :: (L' + 1 + 1, c.2.2) :: (T2 ++ own) ∧ IntsF f ys ((al.take i).filter (liveIn alive))) rfl (by decide) rfl F8 N8 (.tail _ (.tail _ (List.mem_append_left _ hax))) ⟨rfl, .nil⟩ ?_ ?_
      · intro D C s' R hD hDC i v ys kk oC T own3 h tk₀ tk mC hv zr18 htk hsub hoff F₁ N₁ hn
        refine hideG fun kG => ?_
        obtain ⟨rfl, hP⟩ := zr18
        obtain ⟨x, hx, hok⟩ := hav.at hv
        obtain ⟨tx, rfl, _⟩ := id hok
        obtain ⟨hx0, hx6⟩ := ha6 x (List.mem_of_getElem? hx)
        refine kG ?_
        clear kG
        have hil : i < al.length := (List.getElem?_eq_some_iff.mp hx).1
        have hyl : ys.length ≤ 64 := by
          rw [hP.length]
          have h1 := List.length_filter_le (liveIn alive) (al.take i)
          have h2 := hav.length
          simp only [List.length_take] at h1; omega
        have hsz1 : ys.toArray.size ≤ sizeLine := by rw [sizeLine_eq]; simp; omega
        have hfil : (al.take (i + 1)).filter (liveIn alive) = (al.take i).filter (liveIn alive) ++ (if liveIn alive x then [x] else []) := by
          rw [List.take_add_one, hx, List.filter_append]
          show _ ++ List.filter (liveIn alive) [x] = _
          congr 1
          simp only [List.filter_cons, List.filter_nil]
        clear F8 N8
        refine assignC_name (C := C) rfl F₁ N₁ (Nat.ne_of_lt hDC) (fun p hp => hoff p hp _ (.tail _ (.head _))) hn rfl rfl fun h3 oC3 F3 N3 hn3 => ?_
        clear F₁ N₁ hn
        have hDC2 : @LT.lt Nat _ D C := hDC
        have hD1 : @LT.lt Nat _ lw D := hD _ (.head _)
        have hD2 : @LT.lt Nat _ (L' + 1 + 1) D := hD _ (.tail _ (.head _))
        have hca9 : (L' + 1, oa) ∈ T2 := hca7
        have hoffn : OwnOff (T2 ++ (own ++ own3)) [D, C] := fun p hp => hoff p (by simp only [List.cons_append, List.append_assoc]; exact .tail _ (.tail _ hp))
        simp only [List.cons_append, List.nil_append, List.append_assoc] at N3
        refine wpAny_tests_one ?_
        k_steps
        all_goals (try with_reducible refine kQ _ _ ?_)
        · refine inner_append ?_
          k_steps
          all_goals (try with_reducible refine kQ _ _ ?_)
          rename Fr _ _ _ _ => F9
          rename News _ _ _ _ => N9
          rw [List.push_toArray] at N9
          refine ce_next (P := fun ys T _ => T = (lw, listOf c.1.toArray c.2.1) :: (L' + 1 + 1, c.2.2) :: (T2 ++ own) ∧ IntsF f ys ((al.take (i + 1)).filter (liveIn alive))) (ys ++ [.int x tx]) (kk + 1) oC3 F9 N9 ?_ ⟨_, hn3⟩ ⟨rfl, ?_⟩
          · walk_at "m sub"
          · rw [hfil, if_pos (by rw [liveIn, bit]; exact decide_eq_true ‹_›)]
            exact hP.push hok
        · rename Fr _ _ _ _ => F9
          rename News _ _ _ _ => N9
          refine ce_next (P := fun ys T _ => T = (lw, listOf c.1.toArray c.2.1) :: (L' + 1 + 1, c.2.2) :: (T2 ++ own) ∧ IntsF f ys ((al.take (i + 1)).filter (liveIn alive))) ys kk oC3 F9 N9 ?_ ⟨_, hn3⟩ ⟨rfl, ?_⟩
          · walk_at "m sub"
          · rw [hfil, if_neg (by rw [liveIn, bit]; simpa using ‹¬ _ ≠ _›), List.append_nil]
            exact hP
      · rintro D C ys kk oC T h tk₀ tk hD hDC ⟨rfl, hP⟩ htk hsub hoff F₁ N₁ hn
        refine comp_out F₁ N₁ hn (Nat.ne_of_lt hDC) (fun p hp => hoff p hp _ (.tail _ (.head _))) fun h3 F3 N3 => ?_
        clear F8 N8 F₁ N₁
        rw [hav.length, List.take_length] at hP
        have hD1 : @LT.lt Nat _ lw D := hD _ (.head _)
        have hD2 : @LT.lt Nat _ (L' + 1 + 1) D := hD _ (.tail _ (.head _))
        have hD3 : ∀ p ∈ T2 ++ own, p.1 < D := fun p hp => hD p (.tail _ (.tail _ hp))
        obtain ⟨oo, hco⟩ := hco
        k_steps
        all_goals (try with_reducible refine kQ _ _ ?_)
        rename Fr _ _ _ _ => F4
        rename News _ _ _ _ => N4
        rename _ ∧ _ ∧ _ ∧ AllLt _ _ => ltl
        rename Obj.data _ = Data.cell (some (Value.ref D)) => hcc
        rename_i oc le _
        refine hideG fun kG => ?_
        obtain ⟨nj, hnj⟩ : ∃ nj, ns.length + 1 - j = nj + 1 := ⟨ns.length - j, by omega⟩
        refine kG ?_
        clear kG
        rw [hnj, ringLoop] at hring
        cases hcs : al.filter (liveIn alive) with
        | nil =>
          rw [hcs] at hP hring
          refine ke_eq_ints (isList_of N4 (.tail _ (.head _))) (isList_of N4 (vs := []) (.head _)) hP.ints .nil (by ktr_units) ?_
          k_steps
          all_goals (try with_reducible refine kQ _ _ ?_)
          change qk (Flow.ret _) _
          k_steps
          all_goals (try with_reducible refine kQ _ _ ?_)
          rename Fr h₀ L _ _ => F9
          rename News h₀ L _ _ => N9
          refine ret _ [] _ _ F9 (news_sub N9 ?_) (fun _ h => nomatch h) ?_
          · intro p hp
            exact .tail _ (.tail _ (.tail _ (.tail _ (List.mem_append_left _ (hsub2.1 p (.tail _ (List.mem_append_right _ hp)))))))
          · rw [← hring]
        | cons c0 rest =>
          rw [hcs] at hP hring
          have hrl : (c0 :: rest).length ≤ 64 := by
            rw [← hcs]; have h1 := List.length_filter_le (liveIn alive) al; have h2 := hav.length; omega
          have hrl2 : rest.length ≤ 64 := by simp only [List.length_cons] at hrl; omega
          have hc6 : In6 c0 := ha6 c0 (List.mem_filter.mp (by rw [hcs]; exact .head _)).1
          refine hideG fun kG => ?_
          obtain ⟨v0, hx0, hok0⟩ := hP.at' (i := 0) (n := c0) rfl
          obtain ⟨t0, rfl, _⟩ := id hok0
          refine kG ?_
          clear kG
          refine ke_eq_ints (isList_of N4 (.tail _ (.head _))) (isList_of N4 (vs := []) (.head _)) hP.ints .nil (by ktr_units) ?_
          k_steps
          all_goals (try with_reducible refine kQ _ _ ?_)
          · exact absurd ‹decide _ = true› (by simp)
          · (try unfold held); k_dflt (refine' Call.pure (contains_call w lw c.1 c.2.1 wl c0 t0 _ ?hm hwl.ints) ?B ?F ?X ?N ?T ?k ?d ?u ?_; (case B => k_asm); (case F => k_asm); (case X => k_asm); (case N => k_asm); (case T => k_asm); (case k => first | exact rfl | assumption); (case d => ktr_room); (case u => ktr_units); (case hm => k_mem))
            rintro v h5 tk5 F5 N5 rfl
            clear F4 N4
            dsimp only at hring
            have hwlen := hwl.length
            have hsz1 : c.1.toArray.size ≤ sizeLine := by rw [sizeLine_eq]; simp; omega
            have hsmw : ∀ n ∈ wl, smallInt n = true := fun n hn => by have := hw6 n hn; simp only [In6] at this; simp [smallInt]; omega
            k_steps
            all_goals (try with_reducible refine kQ _ _ ?_)
            · rename (wl.any _) = true => hany
              rw [hany, if_pos rfl] at hring
              have hmem : c0 ∈ wl := by simpa using hany
              (try unfold held); k_dflt (refine' Call.pure (indexOf_call w f lw c.1 c.2.1 wl c0 t0 _ ?hm hwl hsmw hok0 hmem) ?B ?F ?X ?N ?T ?k ?d ?u ?_; (case B => k_asm); (case F => k_asm); (case X => k_asm); (case N => k_asm); (case T => k_asm); (case k => first | exact rfl | assumption); (case d => ktr_room); (case u => ktr_units); (case hm => k_mem))
              rintro v h6 tk6 F6 N6 ⟨tr, rfl⟩
              clear F5 N5
              have hwI := hwl.ints
              have hPI := hP.ints
              have hc1 : c.1.length ≤ 1000 := by omega
              have hys1 : ys.length ≤ 1000 := by have := hP.length; omega
              have hwD := hwI.drop ((List.idxOf c0 wl : Nat) : Int).toNat
              have hPT := hPI.take ((1 : Int)).toNat
              k_steps
              all_goals (try with_reducible refine kQ _ _ ?_)
              change qk (Flow.ret _) _
              k_steps
              all_goals (try with_reducible refine kQ _ _ ?_)
              rename Fr h₀ L _ _ => F9
              rename News h₀ L _ _ => N9
              rename IntsAre _ (_ ++ _) => hI9
              rename _ ∧ _ ∧ _ ∧ _ ∧ _ ∧ _ ∧ AllLt _ _ => lt9
              rename_i Dc wsc _ _ _ _ _
              refine ret _ [(Dc, listOf wsc.toArray 0)] _ _ F9 (news_sub N9 ?_) ?_ ?_
              · intro p hp
                rcases List.mem_cons.mp hp with e | hp
                · rw [e]; exact .head _
                · exact .tail _ (.tail _ (.tail _ (.tail _ (.tail _ (.tail _ (.tail _ (List.mem_append_left _ (hsub2.1 p (.tail _ (List.mem_append_right _ hp))))))))))
              · intro q hq p hp
                rw [List.mem_singleton.mp hq]
                exact lt_of_allLt lt9.2.2.2.2.2.2 p (List.mem_append_left _ (hsub2.1 p (.tail _ (List.mem_append_right _ hp))))
              · rw [← hring]
                exact ⟨Dc, wsc, 0, rfl, .head _, by simpa using hI9⟩
            · rename (wl.any _) = false => hany
              rw [hany, if_neg Bool.false_ne_true] at hring
              rename Fr _ _ _ _ => F6
              rename News _ _ _ _ => N6
              rw [List.push_toArray] at N6
              refine comp1 (P := fun i ys2 T _ => T = (le, listOf #[] 0) :: (D, listOf ys.toArray kk) :: (lw, listOf (c.1 ++ [Value.int c0 t0]).toArray (c.2.1 + 1)) :: (L' + 1 + 1, oc) :: (T2 ++ own) ∧ IntsF f ys2 (succs (ps.take i) c0) ∧ ys2.length ≤ i) rfl (by decide) rfl F6 N6 (.tail _ (.tail _ (.tail _ (.tail _ (List.mem_append_left _ hlb7))))) ⟨rfl, .nil, Nat.le_refl _⟩ ?_ ?_
              · intro D2 C s' R hD' hDC' i v ys2 kk2 oC2 T own3 h tk₀ tk mC hv zr18 htk hsub' hoff' F₁ N₁ hn'
                refine hideG fun kG => ?_
                obtain ⟨rfl, hQ2, hyl⟩ := zr18
                obtain ⟨tp, x, y, u, v', nn, rfl, hpi, htp, hu, hv'⟩ := hps.get hv
                refine kG ?_
                clear kG
                have htp' : (tp, tupO [u, v'] nn) ∈ T2 := hsub2.1 _ (.tail _ (List.mem_append_right _ htp))
                refine hideG fun kG => ?_
                obtain ⟨tx, rfl, _⟩ := id hu
                obtain ⟨ty, rfl, _⟩ := id hv'
                refine kG ?_
                clear kG
                clear F6 N6
                have hil : i < ps.length := (List.getElem?_eq_some_iff.mp hpi).1
                have hsz2 : ys2.toArray.size ≤ sizeLine := by rw [sizeLine_eq]; simp; omega
                have hsuc : succs (ps.take (i + 1)) c0 = succs (ps.take i) c0 ++ (if x = c0 then [y] else []) := by
                  rw [List.take_add_one, hpi]
                  simp only [succs, Option.toList_some, List.filter_append, List.map_append, List.filter_cons, List.filter_nil]
                  by_cases q : x = c0
                  · simp [q]
                  · simp [q]
                refine assignC_pair (C := C) rfl rfl F₁ N₁ (Nat.ne_of_lt hDC') (fun p hp => hoff' p hp _ (.tail _ (.head _))) hn' (n := nn) (List.mem_append_left _ (.tail _ (.tail _ (.tail _ (.tail _ (List.mem_append_left _ htp')))))) rfl rfl rfl fun h7 oC7 F7' N7' hn7 => ?_
                clear F₁ N₁ hn'
                have hE1 : @LT.lt Nat _ le D2 := hD' _ (.head _)
                have hE2 : @LT.lt Nat _ D D2 := hD' _ (.tail _ (.head _))
                have hE3 : @LT.lt Nat _ lw D2 := hD' _ (.tail _ (.tail _ (.head _)))
                have hE4 : @LT.lt Nat _ (L' + 1 + 1) D2 := hD' _ (.tail _ (.tail _ (.tail _ (.head _))))
                have hE5 : @LT.lt Nat _ D2 C := hDC'
                have hoffn : OwnOff (T2 ++ (own ++ own3)) [D2, C] := fun p hp => hoff' p (by simp only [List.cons_append, List.append_assoc]; exact .tail _ (.tail _ (.tail _ (.tail _ hp))))
                simp only [List.cons_append, List.nil_append, List.append_assoc] at N7'
                refine wpAny_tests_one ?_
                k_steps
                all_goals (try with_reducible refine kQ _ _ ?_)
                · refine inner_append ?_
                  k_steps
                  all_goals (try with_reducible refine kQ _ _ ?_)
                  rename Fr _ _ _ _ => F9
                  rename News _ _ _ _ => N9
                  rw [List.push_toArray] at N9
                  refine ce_next (P := fun ys2 T _ => T = (le, listOf #[] 0) :: (D, listOf ys.toArray kk) :: (lw, listOf (c.1 ++ [Value.int c0 t0]).toArray (c.2.1 + 1)) :: (L' + 1 + 1, oc) :: (T2 ++ own) ∧ IntsF f ys2 (succs (ps.take (i + 1)) c0) ∧ ys2.length ≤ i + 1) (ys2 ++ [.int y ty]) (kk2 + 1) oC7 F9 N9 ?_ ⟨_, hn7⟩ ⟨rfl, ?_, by simp; omega⟩
                  · walk_at "m sub"
                  · rw [hsuc, if_pos ‹x = c0›]; exact hQ2.push hv'
                · rename Fr _ _ _ _ => F9
                  rename News _ _ _ _ => N9
                  refine ce_next (P := fun ys2 T _ => T = (le, listOf #[] 0) :: (D, listOf ys.toArray kk) :: (lw, listOf (c.1 ++ [Value.int c0 t0]).toArray (c.2.1 + 1)) :: (L' + 1 + 1, oc) :: (T2 ++ own) ∧ IntsF f ys2 (succs (ps.take (i + 1)) c0) ∧ ys2.length ≤ i + 1) ys2 kk2 oC7 F9 N9 ?_ ⟨_, hn7⟩ ⟨rfl, ?_, by omega⟩
                  · walk_at "m sub"
                  · rw [hsuc, if_neg ‹x ≠ c0›, List.append_nil]; exact hQ2
              · intro D2 C ys2 kk2 oC2 T h tk₀ tk hD' hDC' zr11 htk hsub' hoff' F₁ N₁ hn'
                refine hideG fun kG => ?_
                obtain ⟨rfl, hQ2, hyl⟩ := zr11
                refine kG ?_
                clear kG
                refine comp_store rfl F₁ N₁ hn' (Nat.ne_of_lt hDC') (fun p hp => hoff' p hp _ (.tail _ (.head _))) rfl rfl fun h7 F7' N7' => ?_
                clear F6 N6 F₁ N₁
                rw [hps.length, List.take_length] at hQ2
                have hwlen2 := hps.length
                k_steps
                all_goals (try with_reducible refine kQ _ _ ?_)
                rename Fr _ _ _ _ => F9
                rename News _ _ _ _ => N9
                refine lp_more (c.1 ++ [Value.int c0 t0], c.2.1 + 1, oc) [(D2, listOf ys2.toArray kk2)] F9 N9 ?_ ?_ ?_ ?_
                · walk_at "m sub"
                · intro q hq b hb
                  rw [List.mem_singleton.mp hq]
                  rcases List.mem_cons.mp hb with e | hb
                  · rw [e]; exact Nat.ne_of_gt (hD' _ (.tail _ (.tail _ (.head _))))
                  · rw [List.mem_singleton.mp hb]; exact Nat.ne_of_gt (hD' _ (.tail _ (.tail _ (.tail _ (.head _)))))
                · intro q hq p hp
                  rw [List.mem_singleton.mp hq]; exact hD' p (.tail _ (.tail _ (.tail _ (.tail _ hp))))
                · refine ⟨by with_unfolding_all rfl, by with_unfolding_all rfl, ⟨_, hcc⟩, wl ++ [c0], succs ps c0, D2, ys2, kk2, by with_unfolding_all rfl, .head _, hQ2, by omega, hwl.push hok0, by simp [hwj], ?_, ?_, ?_⟩
                  · intro x hx
                    rcases List.mem_append.mp hx with hx | hx
                    · exact hw6 x hx
                    · rw [List.mem_singleton.mp hx]; exact hc6
                  · intro x hx
                    refine hideG fun kG => ?_
                    obtain ⟨p, hp, rfl⟩ := List.mem_map.mp hx
                    refine kG ?_
                    clear kG
                    exact (hpp p (List.mem_filter.mp hp).1).2
                  · rw [show ns.length + 1 - (j + 1) = nj by omega]; exact hring
    · intro c m₂ T2 h2 tk₁ tk₂ zr6 htk2 hsub2 hoff2 F7 N7
      refine hideG fun kG => ?_
      obtain ⟨hm1, hm2, hco, wl, al, ax, avs, ak, hm3, hax, hav, hal64, hwl, hwj, hw6, ha6, hring⟩ := zr6
      refine kG ?_
      clear kG
      replace F7 := fr_pin F7 hm1
      clear F6 N6
      k_steps
      all_goals (try with_reducible refine kQ _ _ ?_)
      rename Fr h₀ L _ _ => F9
      rename News h₀ L _ _ => N9
      rw [show ns.length + 1 - (vs.length + 1) = 0 by omega, ringLoop] at hring
      refine ret _ [(lw, listOf c.1.toArray c.2.1)] _ _ F9 (news_sub N9 ?_) ?_ ?_
      · intro p hp
        rcases List.mem_cons.mp hp with e | hp
        · rw [e]; exact .head _
        · exact .tail _ (.tail _ (hsub2.1 p (.tail _ (List.mem_append_right _ hp))))
      · intro q hq p hp
        rw [List.mem_singleton.mp hq]
        exact lt_of_allLt ltw.2.2 p (List.mem_append_right _ hp)
      · rw [← hring]
        exact ⟨lw, c.1, c.2.1, rfl, .head _, hwl.ints⟩


theorem regC7 : True := by
  k_with_none
  w_top off
  (k_with "m sub" => (first | ((repeat' (first | exact sub_nil | with_reducible refine sub_cons ?_ ?_ | with_reducible refine sub_app ?_ ?_)) <;> (first | k_mem | (intro p hp; k_mem))) | (intro p hp; simp only [List.cons_append, List.nil_append, List.append_assoc, List.mem_cons, List.mem_append, List.not_mem_nil, or_false, false_or, List.append_nil] at hp ⊢; grind)))
  (k_with "exec For" => (with_unfolding_all refine wpAny_For ?_ (by intro _; rfl)))
  (k_with "m call" => (refine wpAny_call ?_; (first | (k_dflt k_enter) | fail "no entry")))
  (k_with "compareOp In int ref" => (refine in_list_ints (isList_of (by k_asm) (by k_mem)) (by assumption) ?_))
  (k_with "compareOp NotIn int ref" => (refine notin_list_ints (isList_of (by k_asm) (by k_mem)) (by assumption) ?_))
  (k_with "compareOp Is int int" => (refine is_int (by assumption) (by assumption) (by assumption) ?_))
  (k_with "exec For Name Name cons nil" => (with_unfolding_all refine wpAny_For ?_ (by intro _; rfl)))
  (k_with "exec For Name Name" => (with_unfolding_all refine wpAny_For ?_ (by intro _; rfl)))
  (k_with "exec For Name List cons nil" => (with_unfolding_all refine wpAny_For ?_ (by intro _; rfl)))
  (k_with "exec For Name List" => (with_unfolding_all refine wpAny_For ?_ (by intro _; rfl)))
  (k_with "exec For Name Call cons nil" => (with_unfolding_all refine wpAny_For ?_ (by intro _; rfl)))
  (k_with "exec For Name Call" => (with_unfolding_all refine wpAny_For ?_ (by intro _; rfl)))
  (k_with "exec For Name BinOp cons nil" => (with_unfolding_all refine wpAny_For ?_ (by intro _; rfl)))
  (k_with "exec For Name BinOp" => (with_unfolding_all refine wpAny_For ?_ (by intro _; rfl)))
  (k_with "exec For Name Tuple cons nil" => (with_unfolding_all refine wpAny_For ?_ (by intro _; rfl)))
  (k_with "exec For Name Tuple" => (with_unfolding_all refine wpAny_For ?_ (by intro _; rfl)))
  (k_with "exec For Name Attribute cons nil" => (with_unfolding_all refine wpAny_For ?_ (by intro _; rfl)))
  (k_with "exec For Name Attribute" => (with_unfolding_all refine wpAny_For ?_ (by intro _; rfl)))
  (k_with "exec For Tuple Name cons nil" => (with_unfolding_all refine wpAny_For ?_ (by intro _; rfl)))
  (k_with "exec For Tuple Name" => (with_unfolding_all refine wpAny_For ?_ (by intro _; rfl)))
  (k_with "exec For Tuple List cons nil" => (with_unfolding_all refine wpAny_For ?_ (by intro _; rfl)))
  (k_with "exec For Tuple List" => (with_unfolding_all refine wpAny_For ?_ (by intro _; rfl)))
  (k_with "exec For Tuple Call cons nil" => (with_unfolding_all refine wpAny_For ?_ (by intro _; rfl)))
  (k_with "exec For Tuple Call" => (with_unfolding_all refine wpAny_For ?_ (by intro _; rfl)))
  (k_with "exec For Tuple BinOp cons nil" => (with_unfolding_all refine wpAny_For ?_ (by intro _; rfl)))
  (k_with "exec For Tuple BinOp" => (with_unfolding_all refine wpAny_For ?_ (by intro _; rfl)))
  (k_with "exec For Tuple Tuple cons nil" => (with_unfolding_all refine wpAny_For ?_ (by intro _; rfl)))
  (k_with "exec For Tuple Tuple" => (with_unfolding_all refine wpAny_For ?_ (by intro _; rfl)))
  (k_with "exec For Tuple Attribute cons nil" => (with_unfolding_all refine wpAny_For ?_ (by intro _; rfl)))
  (k_with "exec For Tuple Attribute" => (with_unfolding_all refine wpAny_For ?_ (by intro _; rfl)))
  (k_with "call builtin:len" => (k_dflt (refine' len_led ?w0qN ?w0qm ?w0qz ?_; (case w0qN => k_asm); (case w0qm => k_mem); (case w0qz => first | assumption | omega))))
  (k_with "subscriptTail Name Name ref int" => (k_dflt (refine' item_led ?w1qN ?w1qm ?w1qa ?w1qb ?w1qx ?_; (case w1qN => k_asm); (case w1qm => k_mem); (case w1qa => omega); (case w1qb => omega); (case w1qx => assumption))))
  (k_with "eval ListComp" => (k_dflt (refine comp_eval (by with_unfolding_all rfl) rfl (by decide) (by intro _; rfl) ?_)))
  (k_with "exec Assign cons ListComp" => (k_dflt (refine comp_assign (by with_unfolding_all rfl) (by with_unfolding_all rfl) rfl (by decide) (by intro _; rfl) ?_)))
  (k_with "eval Name" => ((with_reducible show wpAny _ _ (eval (Expr.Name _ _) (compEnvC _ _ _ _)) _ _ _); k_dflt (refine' ldC ?w2qN ?w2qm ?w2qn ?w2qv ?_ ?w2qa ?w2qb; (case w2qa => rfl); (case w2qb => rfl); (case w2qN => k_asm); (case w2qm => k_mem); (case w2qn => assumption); (case w2qv => with_unfolding_all rfl))))
  (k_with "call ref" => ((first | (with_reducible show wpAny _ _ (call (Value.ref 183) _) _ _ _) | (with_reducible show wpAny _ _ (call (Value.ref 190) _) _ _ _) | (with_reducible show wpAny _ _ (call (Value.ref 197) _) _ _ _) | (with_reducible show wpAny _ _ (call (Value.ref 204) _) _ _ _) | (with_reducible show wpAny _ _ (call (Value.ref 211) _) _ _ _) | (with_reducible show wpAny _ _ (call (Value.ref 218) _) _ _ _) | (with_reducible show wpAny _ _ (call (Value.ref 223) _) _ _ _) | (with_reducible show wpAny _ _ (call (Value.ref 228) _) _ _ _) | (with_reducible show wpAny _ _ (call (Value.ref 235) _) _ _ _) | (with_reducible show wpAny _ _ (call (Value.ref 80) _) _ _ _) | (with_reducible show wpAny _ _ (call (Value.ref 87) _) _ _ _) | (with_reducible show wpAny _ _ (call (Value.ref 92) _) _ _ _) | (with_reducible show wpAny _ _ (call (Value.ref 99) _) _ _ _) | (with_reducible show wpAny _ _ (call (Value.ref 106) _) _ _ _) | (with_reducible show wpAny _ _ (call (Value.ref 120) _) _ _ _) | (with_reducible show wpAny _ _ (call (Value.ref 127) _) _ _ _)); refine hold ?_))
  (k_with "m use" => ((try unfold held); (rename Call _ _ _ _ _ _ => hC); k_dflt (refine' Call.use hC ?w3qB ?w3qF ?w3qX ?w3qN ?w3qT ?w3qk ?w3qd ?w3qu ?_; (case w3qB => k_asm); (case w3qF => k_asm); (case w3qX => k_asm); (case w3qN => k_asm); (case w3qT => k_asm); (case w3qk => first | exact rfl | assumption); (case w3qd => ktr_room); (case w3qu => ktr_units)); clear hC))
  (k_with "m pure" => ((try unfold held); (rename Call _ _ _ _ _ _ => hC); k_dflt (refine' Call.pure hC ?w4qB ?w4qF ?w4qX ?w4qN ?w4qT ?w4qk ?w4qd ?w4qu ?_; (case w4qB => k_asm); (case w4qF => k_asm); (case w4qX => k_asm); (case w4qN => k_asm); (case w4qT => k_asm); (case w4qk => first | exact rfl | assumption); (case w4qd => ktr_room); (case w4qu => ktr_units)); clear hC))
  (k_with "subscriptTail Name Constant ref int" => (k_dflt (refine' item_led ?w5qN ?w5qm ?w5qa ?w5qb ?w5qx ?_; (case w5qN => k_asm); (case w5qm => k_mem); (case w5qa => omega); (case w5qb => omega); (case w5qx => first | assumption | rfl))))
  (k_with "compareOp Eq ref ref" => refine hold ?_)
  (k_with "pyIter ref" => refine hold ?_)
  (k_with "subscriptTail Name BinOp ref int" => (k_dflt (refine' item_led ?w1qN ?w1qm ?w1qa ?w1qb ?w1qx ?_; (case w1qN => k_asm); (case w1qm => k_mem); (case w1qa => omega); (case w1qb => omega); (case w1qx => assumption))))
  (k_with "compareOp NotEq ref ref" => refine hold ?_)
  trivial
local macro_rules | `(tactic| walk_at "call type:tuple") => `(tactic| (k_dflt (refine' tup_led ?F ?N ?m ?z ?_; (case F => k_asm); (case N => k_asm); (case m => k_mem); (case z => first | assumption | omega)); intro D' h' F' N' l1; (try k_lt l1); (try k_sweep)))
local macro_rules | `(tactic| walk_at "call builtin:list.extend") => `(tactic| (k_dflt (refine' ext2_led ?F ?N ?b ?U ?z ?_; (case F => k_asm); (case N => k_asm); (case b => k_mem); (case U => k_upd); (case z => first | assumption | omega)); intro h' F' N'; (try k_sweep)))
noncomputable def readyOf (lost : Int) : List Int → List Int
  | [] => []
  | x :: r => if liveIn lost x && (r.count x == 0) then x :: readyOf lost r else readyOf lost r
noncomputable def rowNext (ps : List (Int × Int)) (ready : List Int) : List Int := ready.flatMap (succs ps)
noncomputable def lostAt (ns : List Int) (ps : List (Int × Int)) (t : Nat) : Int := Builtin.bitXor (maskAt ns ps t) (maskAt ns ps (t + 1))
/-- the row ahead of turn t -/
noncomputable def rowAt (ns : List Int) (ps : List (Int × Int)) : Nat → List Int
  | 0 => ns
  | t + 1 => rowNext ps (readyOf (lostAt ns ps t) (rowAt ns ps t))
noncomputable def roundAt (ns : List Int) (ps : List (Int × Int)) (t : Nat) : List Int := readyOf (lostAt ns ps t) (rowAt ns ps t)
noncomputable def roundsOf (ns : List Int) (ps : List (Int × Int)) (j : Nat) : List (List Int) := (List.range j).map (roundAt ns ps)
theorem roundsOf_succ (ns : List Int) (ps : List (Int × Int)) (j : Nat) : roundsOf ns ps (j + 1) = roundsOf ns ps j ++ [roundAt ns ps j] := by simp [roundsOf, List.range_succ]
/-- the answers of rounds: a bool and a tuple of ints for each -/
inductive AnsIn (T : List (Addr × Obj)) : List Value → List (List Int) → Prop
  | nil : AnsIn T [] []
  | cons {a : Addr} {vs ws : List Value} {n : Nat} {r : List Int} {rs : List (List Int)} : (a, tupO ws n) ∈ T → IntsAre ws r → AnsIn T vs rs → AnsIn T (.bool (decide (r ≠ [])) :: .ref a :: vs) (r :: rs)
theorem AnsIn.mono {T T' : List (Addr × Obj)} {vs : List Value} {rs : List (List Int)} (h : AnsIn T vs rs) (k : ∀ p ∈ T, p ∈ T') : AnsIn T' vs rs := by
  induction h with
  | nil => exact .nil
  | cons a b _ ih => exact .cons (k _ a) b ih
theorem AnsIn.push {T : List (Addr × Obj)} {vs ws : List Value} {rs : List (List Int)} {a : Addr} {n : Nat} {r : List Int} (h : AnsIn T vs rs) (k : (a, tupO ws n) ∈ T) (hi : IntsAre ws r) : AnsIn T (vs ++ [.bool (decide (r ≠ [])), .ref a]) (rs ++ [r]) := by
  induction h with
  | nil => exact .cons k hi .nil
  | cons a b _ ih => exact .cons a b ih
theorem AnsIn.length {T : List (Addr × Obj)} {vs : List Value} {rs : List (List Int)} (h : AnsIn T vs rs) : vs.length = 2 * rs.length := by
  induction h with
  | nil => rfl
  | cons _ _ _ ih => simp [ih]; omega
theorem readyOf_len (lost : Int) (row : List Int) : (readyOf lost row).length ≤ row.length := by
  induction row with
  | nil => exact Nat.le_refl _
  | cons x r ih => simp only [readyOf]; split <;> simp <;> omega
theorem succs_cons (p : Int × Int) (ps : List (Int × Int)) (c : Int) : succs (p :: ps) c = if p.1 = c then p.2 :: succs ps c else succs ps c := by
  by_cases h : p.1 = c <;> simp [succs, h]
theorem row_len_cons (p : Int × Int) (ps : List (Int × Int)) (rd : List Int) : (rd.flatMap (succs (p :: ps))).length = (rd.flatMap (succs ps)).length + rd.count p.1 := by
  induction rd with
  | nil => rfl
  | cons c r ih =>
    simp only [List.flatMap_cons, List.length_append, ih, succs_cons, List.count_cons]
    by_cases h : p.1 = c
    · simp [h]; omega
    · have h' : ¬ c = p.1 := fun e => h e.symm
      simp [h, h']; omega
theorem row_len (ps : List (Int × Int)) (rd : List Int) (hn : rd.Nodup) : (rd.flatMap (succs ps)).length ≤ ps.length := by
  induction ps with
  | nil =>
    have : rd.flatMap (succs []) = [] := by simp [succs]
    simp [this]
  | cons p ps ih =>
    rw [row_len_cons]
    have := List.nodup_iff_count.mp hn p.1
    rw [List.length_cons]; omega
theorem readyOf_sub (lost : Int) (row : List Int) : ∀ x ∈ readyOf lost row, x ∈ row := by
  induction row with
  | nil => intro x hx; cases hx
  | cons y r ih =>
    intro x hx
    simp only [readyOf] at hx
    split at hx
    · rcases List.mem_cons.mp hx with e | hx
      · rw [e]; exact .head _
      · exact .tail _ (ih x hx)
    · exact .tail _ (ih x hx)
theorem readyOf_nodup (lost : Int) (row : List Int) : (readyOf lost row).Nodup := by
  induction row with
  | nil => exact .nil
  | cons y r ih =>
    simp only [readyOf]
    split
    · rename_i h
      simp only [Bool.and_eq_true, beq_iff_eq] at h
      refine List.nodup_cons.mpr ⟨fun hm => ?_, ih⟩
      exact absurd (readyOf_sub lost r y hm) (List.count_eq_zero.mp h.2)
    · exact ih
theorem rowAt_len (ns : List Int) (ps : List (Int × Int)) (h1 : ns.length ≤ 64) (h2 : ps.length ≤ 64) (j : Nat) : (rowAt ns ps j).length ≤ 64 := by
  cases j with
  | zero => exact h1
  | succ j => exact Nat.le_trans (row_len ps _ (readyOf_nodup _ _)) h2
theorem rowAt_in6 (ns : List Int) (ps : List (Int × Int)) (h1 : ∀ x ∈ ns, In6 x) (h2 : ∀ p ∈ ps, In6 p.1 ∧ In6 p.2) (j : Nat) : ∀ x ∈ rowAt ns ps j, In6 x := by
  cases j with
  | zero => exact h1
  | succ j =>
    intro x hx
    simp only [rowAt, rowNext, List.mem_flatMap, succs, List.mem_map, List.mem_filter] at hx
    refine hideG fun kG => ?_
    obtain ⟨_, _, p, ⟨hp, _⟩, rfl⟩ := hx
    refine kG ?_
    clear kG
    exact (h2 p hp).2
theorem masksOf_at (ns : List Int) (ps : List (Int × Int)) {j J : Nat} (h : j ≤ J) : (masksOf ns ps J)[j]? = some (maskAt ns ps j) := by
  have : j < J + 1 := by omega
  simp [masksOf, this]
theorem rounds_call (w : World) (f : Tok → Int) (la lb : Addr) (vs ws : List Value) (k1 k2 : Nat) (ns : List Int) (ps : List (Int × Int)) (news) (hla : (la, listOf vs.toArray k1) ∈ news) (hlb : (lb, listOf ws.toArray k2) ∈ news) (hi : IntsF f vs ns) (hps : PairsIn (Okv f) news ws ps)
    (hns : ∀ x ∈ ns, In6 x) (hpp : ∀ p ∈ ps, In6 p.1 ∧ In6 p.2) (hlen : ns.length ≤ 64) (hlen2 : ps.length ≤ 64) :
    Call 5 w 223 [.ref la, .ref lb] news (fun add v => ∃ r vs k, v = .ref r ∧ (r, listOf vs.toArray k) ∈ add ∧ AnsIn (add ++ news) vs (roundsOf ns ps (ns.length + 1))) := by
  intro mean mg mb prog p0 loose dp un gd cn cs a ccd cl outer A₀ base h₀ L m s Q E B F X N T hk hd hu ret
  walk_at "m call"
  k_steps
  all_goals (try with_reducible refine kQ _ _ ?_)
  rename Fr _ _ _ _ => F1
  rename News _ _ _ _ => N1
  rename_i g L' _ _ FG B' X' T' lt1 o1 d1
  (try unfold held); k_dflt (refine' Call.use (masks_call w f la lb vs ws k1 k2 ns ps ((L' + 1, o1) :: news) ?hm1 ?hm2 hi (hps.mono fun p hp => .tail _ hp) hns hpp hlen) ?B ?F ?X ?N ?T ?k ?d ?u ?_; (case B => k_asm); (case F => k_asm); (case X => k_asm); (case N => k_asm); (case T => k_asm); (case k => first | exact rfl | assumption); (case d => ktr_room); (case u => ktr_units); (case hm1 => k_mem); (case hm2 => k_mem))
  intro v add h2 tk2 F2 N2 hfr2 zr7
  refine hideG fun kG => ?_
  obtain ⟨rm, ms, km, rfl, hrm, hms⟩ := zr7
  refine kG ?_
  clear kG
  clear F1 N1
  have hvl : vs.length ≤ 1000 := by have := hi.length; omega
  k_steps
  all_goals (try with_reducible refine kQ _ _ ?_)
  rename Fr _ _ _ _ => F3
  rename News _ _ _ _ => N3
  rename IsRange _ _ _ _ _ _ _ _ => hr
  rename ∀ p : Addr × Obj, p ∈ add ++ (L' + 1, o1) :: news → p.1 < _ => ltw
  rename_i lw _ _ _ _ _ _ _ _ _ _ _
  have hvn : vs.length = ns.length := hi.length
  refine iterRange (n := vs.length + 1) (σ := List Value × Nat) (fun c => [(lw, listOf c.1.toArray c.2)]) [lw]
    (fun j c m T _ => m (Str.ofString "answers") = some (.ref lw) ∧ m (Str.ofString "masks") = some (.ref rm) ∧ AnsIn T c.1 (roundsOf ns ps j) ∧ ∃ ax avs ak, m (Str.ofString "row") = some (.ref ax) ∧ (ax, listOf avs.toArray ak) ∈ T ∧ IntsF f avs (rowAt ns ps j))
    ([], 0) (add ++ (L' + 1, o1) :: news) rfl (fun _ => rfl) hr (by omega) F3 N3 ?_ ?_ ?_ ?_
  · intro q hq b hb
    rw [List.mem_singleton.mp hb]; exact Nat.ne_of_lt (ltw q hq)
  · exact ⟨by with_unfolding_all rfl, by with_unfolding_all rfl, .nil, la, vs, k1, by with_unfolding_all rfl, List.mem_append_right _ (.tail _ hla), hi⟩
  · intro j t c m₂ T2 own h2 tk₁ tk₂ hj zr10 htk2 hsub2 hoff2 F4 N4
    refine hideG fun kG => ?_
    obtain ⟨hm1, hm2, hans, ax, avs, ak, hm3, hax, hav⟩ := zr10
    refine kG ?_
    clear kG
    (try refine opq fun PQ kQ => ?_)
    replace F4 := fr_pin3 F4 hm1 hm2 hm3
    clear F3 N3
    simp only [List.cons_append, List.nil_append] at N4
    have hrm2 : (rm, listOf ms.toArray km) ∈ T2 := hsub2.1 _ (List.mem_append_left _ hrm)
    refine hideG fun kG => ?_
    obtain ⟨x1, t1, e1, hx1⟩ : ∃ x t, x = maskAt ns ps j ∧ ms[((j : Nat) : Int).toNat]? = some (.int x t) := by
      obtain ⟨t, h⟩ := hms.get j _ (masksOf_at ns ps (by omega))
      exact ⟨_, t, rfl, by simpa using h⟩
    obtain ⟨x2, t2, e2, hx2⟩ : ∃ x t, x = maskAt ns ps (j + 1) ∧ ms[(((j : Nat) : Int) + 1).toNat]? = some (.int x t) := by
      obtain ⟨t, h⟩ := hms.get (j + 1) _ (masksOf_at ns ps (by omega))
      exact ⟨_, t, rfl, by rw [show (((j : Nat) : Int) + 1).toNat = j + 1 by omega]; exact h⟩
    refine kG ?_
    clear kG
    k_steps
    all_goals (try with_reducible refine kQ _ _ ?_)
    rename Fr _ _ _ _ => F5
    rename News _ _ _ _ => N5
    rename lw < _ ∧ AllLt _ _ => ltr
    rename_i tl _ _ lr _ _
    have hr6 := rowAt_in6 ns ps hns hpp j
    have hrl := rowAt_len ns ps hlen hlen2 j
    have hrd : roundAt ns ps j = readyOf (Builtin.bitXor x1 x2) (rowAt ns ps j) := by rw [roundAt, lostAt, e1, e2]
    generalize hR : rowAt ns ps j = R at hav hr6 hrl hrd
    have e1' : Builtin.bitXor x1 x2 = lostAt ns ps j := by rw [lostAt, e1, e2]
    generalize Builtin.bitXor x1 x2 = lost at F5 hrd e1'
    have hal : avs.length ≤ 1000 := by have := hav.length; omega
    have hsmR : ∀ n ∈ R, smallInt n = true := fun n hn => by have := hr6 n hn; simp only [In6] at this; simp [smallInt]; omega
    clear F4 N4
    refine iterEnum (σ := List Value × Nat) (fun c => [(lr, listOf c.1.toArray c.2)]) [lr]
      (fun i c2 m T _ => m (Str.ofString "answers") = some (.ref lw) ∧ m (Str.ofString "masks") = some (.ref rm) ∧ m (Str.ofString "row") = some (.ref ax) ∧ m (Str.ofString "ready") = some (.ref lr) ∧ m (Str.ofString "lost") = some (.int lost tl) ∧ ∃ rd, IntsF f c2.1 rd ∧ rd ++ readyOf lost (R.drop i) = roundAt ns ps j ∧ rd.length ≤ i)
      ([], 0) ((lw, listOf c.1.toArray c.2) :: (T2 ++ own)) rfl (fun _ => rfl) rfl rfl rfl F5 N5 (.tail _ (List.mem_append_left _ hax)) ?_ ?_ ?_ ?_
    · intro q hq b hb
      rw [List.mem_singleton.mp hb]
      rcases List.mem_cons.mp hq with e | hq
      · rw [e]; exact Nat.ne_of_lt ltr.1
      · exact Nat.ne_of_lt (lt_of_allLt ltr.2 q hq)
    · exact ⟨by with_unfolding_all rfl, by with_unfolding_all rfl, by with_unfolding_all rfl, by with_unfolding_all rfl, by with_unfolding_all rfl, [], .nil, by rw [hrd]; rfl, Nat.le_refl _⟩
    · intro i v t' c2 m₃ T3 own3 h3 tk₃ tk₄ hv zr11 htk3 hsub3 hoff3 F6 N6
      refine hideG fun kG => ?_
      obtain ⟨hn1, hn2, hn3, hn4, hn5, rd, hrdI, hrdE, hrdL⟩ := zr11
      obtain ⟨x, hx, hok⟩ := hav.at hv
      obtain ⟨tx, rfl, _⟩ := id hok
      obtain ⟨hx0, hx6⟩ := hr6 x (List.mem_of_getElem? hx)
      refine kG ?_
      clear kG
      (try refine opq fun PQ kQ => ?_)
      have hil : i < R.length := (List.getElem?_eq_some_iff.mp hx).1
      have hdrop : R.drop i = x :: R.drop (i + 1) := by
        rw [List.drop_eq_getElem_cons hil, (List.getElem?_eq_some_iff.mp hx).2]
      rw [hdrop, readyOf] at hrdE
      have F7 := fr_pin5 F6 (x0 := Str.ofString "answers") (x1 := Str.ofString "masks") (x2 := Str.ofString "row") (x3 := Str.ofString "ready") (x4 := Str.ofString "lost") (by with_unfolding_all exact hn1) (by with_unfolding_all exact hn2) (by with_unfolding_all exact hn3) (by with_unfolding_all exact hn4) (by with_unfolding_all exact hn5)
      have hax3 : (ax, listOf avs.toArray ak) ∈ T3 := hsub3.1 _ (.tail _ (List.mem_append_left _ hax))
      have hsz1 : c2.1.toArray.size ≤ sizeLine := by rw [sizeLine_eq]; have := hrdI.length; simp; omega
      clear F5 N5 F6
      simp only [List.cons_append, List.nil_append] at N6
      k_steps
      all_goals (try with_reducible refine kQ _ _ ?_)
      · have hdr := hav.drop (((i : Nat) : Int) + 1).toNat
        have htn : (((i : Nat) : Int) + 1).toNat = i + 1 := by omega
        have hsmD : ∀ n ∈ R.drop (((i : Nat) : Int) + 1).toNat, smallInt n = true := fun n hn => hsmR n (List.mem_of_mem_drop hn)
        rename_i Dd _ _ _ _
        (try unfold held); k_dflt (refine' Call.pure (countOf_call w f _ (List.drop (((i : Nat) : Int) + 1).toNat avs) 0 (R.drop (((i : Nat) : Int) + 1).toNat) x tx _ ?hm hdr hsmD hok) ?B ?F ?X ?N ?T ?k ?d ?u ?_; (case B => k_asm); (case F => k_asm); (case X => k_asm); (case N => k_asm); (case T => k_asm); (case k => first | exact rfl | assumption); (case d => ktr_room); (case u => ktr_units); (case hm => k_mem))
        rintro v h8 tk8 F8 N8 ⟨tc, rfl⟩
        rw [htn]
        have hlv : liveIn lost x = true := by rw [liveIn, bit]; exact decide_eq_true ‹_›
        rw [hlv, Bool.true_and] at hrdE
        k_steps
        all_goals (try with_reducible refine kQ _ _ ?_)
        · rename Fr _ _ _ _ => F9
          rename News _ _ _ _ => N9
          rw [List.push_toArray] at N9
          rename ((List.count x _ : Nat) : Int) = 0 => hc0
          have hc1 : List.count x (R.drop (i + 1)) = 0 := by omega
          rw [hc1] at hrdE
          refine lp_next (c2.1 ++ [.int x tx], c2.2 + 1) F9 N9 (by walk_at "m sub") ⟨by with_unfolding_all rfl, by with_unfolding_all rfl, by with_unfolding_all rfl, by with_unfolding_all rfl, by with_unfolding_all rfl, rd ++ [x], hrdI.push hok, ?_, by simp; omega⟩
          rw [List.append_assoc]; exact hrdE
        · rename Fr _ _ _ _ => F9
          rename News _ _ _ _ => N9
          rename ((List.count x _ : Nat) : Int) ≠ 0 => hc0
          refine lp_next (c2.1, c2.2) F9 N9 (by walk_at "m sub") ⟨by with_unfolding_all rfl, by with_unfolding_all rfl, by with_unfolding_all rfl, by with_unfolding_all rfl, by with_unfolding_all rfl, rd, hrdI, ?_, by omega⟩
          rw [if_neg] at hrdE
          · exact hrdE
          · intro e; rw [beq_iff_eq] at e; omega
      · rename Fr _ _ _ _ => F9
        rename News _ _ _ _ => N9
        refine lp_next (c2.1, c2.2) F9 N9 (fun p hp => hp) ⟨by with_unfolding_all rfl, by with_unfolding_all rfl, by with_unfolding_all rfl, by with_unfolding_all rfl, by with_unfolding_all rfl, rd, hrdI, ?_, by omega⟩
        rw [if_neg] at hrdE
        · exact hrdE
        · rw [liveIn, bit, decide_eq_false ‹_›]; simp
    · intro c2 m₃ T3 h3 tk₃ tk₄ zr6 htk3 hsub3 hoff3 F6 N6
      refine hideG fun kG => ?_
      obtain ⟨hn1, hn2, hn3, hn4, hn5, rd, hrdI, hrdE, hrdL⟩ := zr6
      refine kG ?_
      clear kG
      rw [hav.length, List.drop_length, readyOf, List.append_nil] at hrdE
      have F7 := fr_pin3 F6 hn1 hn2 hn4
      have N7 : News _ _ _ ((lr, listOf c2.1.toArray c2.2) :: (lw, listOf c.1.toArray c.2) :: (T2 ++ own)) := news_sub N6 (fun p hp => by
        rcases List.mem_cons.mp hp with e | hp
        · rw [e]; exact .head _
        · exact .tail _ (hsub3.1 _ hp))
      clear F5 N5 F6 N6
      have hrdl : c2.1.length ≤ 1000 := by have h1 := hrdI.length; have h2 := hav.length; omega
      have hrdI2 := hrdI.ints
      have hsz1 : c2.1.toArray.size ≤ sizeLine := by rw [sizeLine_eq]; simp; omega
      have hal2 := hans.length
      have hrl2 : (roundsOf ns ps j).length = j := by simp [roundsOf]
      have hcl : c.1.length ≤ 1000 := by omega
      have hoL : ∀ p ∈ T2 ++ own, p.1 ≠ lw := fun p hp => hoff2 p hp _ (.head _)
      have hsz2 : c.1.toArray.size ≤ sizeLine := by rw [sizeLine_eq]; simp; omega
      k_steps
      all_goals (try with_reducible refine kQ _ _ ?_)
      rename Fr _ _ _ _ => F8
      rename News _ _ _ _ => N8
      refine ke_ne_ints (isList_of N8 (.tail _ (.head _))) (isList_of N8 (vs := []) (.head _)) hrdI2 .nil (by ktr_units) ?_
      k_steps
      all_goals (try with_reducible refine kQ _ _ ?_)
      rename Fr _ _ _ _ => F10
      rename News _ _ _ _ => N10
      rename _ ∧ _ ∧ _ ∧ _ ∧ AllLt _ _ => lt3
      rename _ ∧ _ ∧ _ ∧ AllLt _ _ => lt2
      rename _ ∧ _ ∧ AllLt _ _ => lt4
      rename_i la2 _ Dt _ lx _ _
      have hpc : (L' + 1, o1) ∈ T2 := hsub2.1 _ (List.mem_append_right _ (.head _))
      have hlb2 : (lb, listOf ws.toArray k2) ∈ T2 := hsub2.1 _ (List.mem_append_right _ (.tail _ hlb))
      have hrl64 : c2.1.length ≤ 64 := by have h1 := hrdI.length; have h2 := hav.length; omega
      (try clear F8); (try clear N8); (try clear F7); (try clear N7)
      refine comp2 (P := fun i ys T _ => T = (lx, listOf #[Value.bool (!decide (rd = [])), Value.ref Dt] 0) :: (Dt, tupO c2.1) :: (la2, listOf #[] 0) :: (lr, listOf c2.1.toArray c2.2) :: (lw, listOf (c.1 ++ [Value.bool (!decide (rd = [])), Value.ref Dt]).toArray (c.2 + 1)) :: (T2 ++ own) ∧ IntsF f ys (rowNext ps (rd.take i)) ∧ ys.length ≤ 64 * i)
        rfl (by decide) rfl F10 N10 (.tail _ (.tail _ (.tail _ (.head _)))) ⟨rfl, .nil, Nat.le_refl _⟩ ?_ ?_
      · intro D C s' R' hD hDC i v ys kk oC T own3 h tk₀ tk mC hv zr18 htk hsub hoff F₁ N₁ hn
        refine hideG fun kG => ?_
        obtain ⟨rfl, hP, hyl⟩ := zr18
        obtain ⟨x, hx, hok⟩ := hrdI.at hv
        obtain ⟨tx, rfl, _⟩ := id hok
        refine kG ?_
        clear kG
        have hil : i < c2.1.length := (List.getElem?_eq_some_iff.mp hv).1
        have hrow : rowNext ps (rd.take (i + 1)) = rowNext ps (rd.take i) ++ succs ps x := by
          rw [List.take_add_one, hx]; simp [rowNext]
        clear F10 N10
        refine assignC_name (C := C) rfl F₁ N₁ (Nat.ne_of_lt hDC) (fun p hp => hoff p hp _ (.tail _ (.head _))) hn rfl rfl fun h3 oC3 F3 N3 hn3 => ?_
        clear F₁ N₁ hn
        refine tests_nil (if_pos rfl ▸ inner_two (fun _ => rfl) ?_)
        k_steps
        all_goals (try with_reducible refine kQ _ _ ?_)
        unfold held
        rename Fr _ _ _ _ => F4
        rename News _ _ _ _ => N4
        refine comp2_in (P := fun q ys2 => IntsF f ys2 (rowNext ps (rd.take i) ++ succs (ps.take q) x) ∧ ys2.length ≤ 64 * i + q) (MM := fun mC => mC (Str.ofString "done") = some (.int x tx)) rfl F4 N4 (k := k2) (vs2 := ws) ?_ hoff ⟨_, hn3, by with_unfolding_all rfl⟩ ⟨by simpa [succs] using hP, by omega⟩ ?_ ?_
        · exact List.mem_append_left _ (.tail _ (.tail _ (.tail _ (.tail _ (.tail _ (List.mem_append_left _ hlb2))))))
        · intro s'' q v ys2 kk2 oC2 own4 h4 tk4 mC2 hv2 zr11 hoff4 F₁ N₁ hn4 hM E'
          refine hideG fun kG => ?_
          obtain ⟨hP2, hyl2⟩ := zr11
          obtain ⟨tp, x2, y2, u, v', nn, rfl, hpi, htp, hu, hv'⟩ := hps.get hv2
          refine kG ?_
          clear kG
          have htp' : (tp, tupO [u, v'] nn) ∈ T2 := hsub2.1 _ (List.mem_append_right _ (.tail _ htp))
          refine hideG fun kG => ?_
          obtain ⟨tx2, rfl, _⟩ := id hu
          obtain ⟨ty, rfl, _⟩ := id hv'
          refine kG ?_
          clear kG
          have hil2 : q < ps.length := (List.getElem?_eq_some_iff.mp hpi).1
          have hsz3 : ys2.toArray.size ≤ sizeLine := by rw [sizeLine_eq]; simp; omega
          have hsuc : succs (ps.take (q + 1)) x = succs (ps.take q) x ++ (if x2 = x then [y2] else []) := by
            rw [List.take_add_one, hpi]
            simp only [succs, Option.toList_some, List.filter_append, List.map_append, List.filter_cons, List.filter_nil]
            by_cases q : x2 = x
            · simp [q]
            · simp [q]
          (try clear F3); (try clear N3); clear F4 N4 hn3
          refine assignC_pair (C := C) rfl rfl F₁ N₁ (Nat.ne_of_lt hDC) (fun p hp => hoff4 p hp _ (.tail _ (.head _))) hn4 (n := nn) (List.mem_append_left _ (List.mem_append_left _ (.tail _ (.tail _ (.tail _ (.tail _ (.tail _ (List.mem_append_left _ htp')))))))) rfl rfl rfl fun h7 oC7 F7 N7 hn7 => ?_
          clear F₁ N₁ hn4
          refine wpAny_tests_one ?_
          have hDC2 : @LT.lt Nat _ D C := hDC
          have hE1 : @LT.lt Nat _ lx D := hD _ (.head _)
          have hE2 : @LT.lt Nat _ Dt D := hD _ (.tail _ (.head _))
          have hE3 : @LT.lt Nat _ la2 D := hD _ (.tail _ (.tail _ (.head _)))
          have hE4 : @LT.lt Nat _ lr D := hD _ (.tail _ (.tail _ (.tail _ (.head _))))
          have hE5 : @LT.lt Nat _ lw D := hD _ (.tail _ (.tail _ (.tail _ (.tail _ (.head _)))))
          have hoffn : OwnOff (T2 ++ (own ++ (own3 ++ own4))) [D, C] := fun p hp => hoff4 p (by simp only [List.cons_append, List.append_assoc]; exact .tail _ (.tail _ (.tail _ (.tail _ (.tail _ hp)))))
          simp only [List.cons_append, List.nil_append, List.append_assoc] at N7
          k_steps
          all_goals (try with_reducible refine kQ _ _ ?_)
          · refine inner_append ?_
            k_steps
            all_goals (try with_reducible refine kQ _ _ ?_)
            rename Fr _ _ _ _ => F9
            rename News _ _ _ _ => N9
            rw [List.push_toArray] at N9
            refine ⟨(ys2 ++ [.int y2 ty], kk2 + 1, oC7), _, [], _, _, _, rfl, F9, N9, ?_, (fun _ h => nomatch h), (fun _ h => nomatch h), rfl, ⟨_, hn7, ?_⟩, rfl, ?_, ?_⟩
            · walk_at "m sub"
            · with_unfolding_all exact hM
            · rw [hsuc, if_pos ‹x2 = x›, ← List.append_assoc]; exact hP2.push hv'
            · simp; omega
          · rename Fr _ _ _ _ => F9
            rename News _ _ _ _ => N9
            refine ⟨(ys2, kk2, oC7), _, [], _, _, _, rfl, F9, N9, ?_, (fun _ h => nomatch h), (fun _ h => nomatch h), rfl, ⟨_, hn7, ?_⟩, rfl, ?_, ?_⟩
            · walk_at "m sub"
            · with_unfolding_all exact hM
            · rw [hsuc, if_neg ‹x2 ≠ x›, List.append_nil]; exact hP2
            · show ys2.length ≤ _; omega
        · intro ys2 kk2 oC2 h4 tk4 zr5 F₁ N₁ zr8
          refine hideG fun kG => ?_
          obtain ⟨hP2, hyl2⟩ := zr5
          obtain ⟨mC2, hn4, hM⟩ := zr8
          refine kG ?_
          clear kG
          rw [hps.length, List.take_length, ← hrow] at hP2
          refine ce_next (P := fun ys T _ => T = (lx, listOf #[Value.bool (!decide (rd = [])), Value.ref Dt] 0) :: (Dt, tupO c2.1) :: (la2, listOf #[] 0) :: (lr, listOf c2.1.toArray c2.2) :: (lw, listOf (c.1 ++ [Value.bool (!decide (rd = [])), Value.ref Dt]).toArray (c.2 + 1)) :: (T2 ++ own) ∧ IntsF f ys (rowNext ps (rd.take (i + 1))) ∧ ys.length ≤ 64 * (i + 1)) ys2 kk2 oC2 F₁ N₁ (fun p hp => hp) ⟨_, hn4⟩ ⟨rfl, hP2, ?_⟩
          have := hps.length; omega
      · intro D C ys kk oC T h tk₀ tk hD hDC zr11 htk hsub hoff F₁ N₁ hn
        refine hideG fun kG => ?_
        obtain ⟨rfl, hP, hyl⟩ := zr11
        refine kG ?_
        clear kG
        refine comp_store rfl F₁ N₁ hn (Nat.ne_of_lt hDC) (fun p hp => hoff p hp _ (.tail _ (.head _))) rfl rfl fun h7 F7 N7 => ?_
        clear F10 N10 F₁ N₁
        rw [hrdI.length, List.take_length] at hP
        k_steps
        all_goals (try with_reducible refine kQ _ _ ?_)
        rename Fr _ _ _ _ => F9
        rename News _ _ _ _ => N9
        refine lp_more (c.1 ++ [Value.bool (!decide (rd = [])), Value.ref Dt], c.2 + 1) [(D, listOf ys.toArray kk), (Dt, tupO c2.1)] F9 N9 ?_ ?_ ?_ ?_
        · walk_at "m sub"
        · intro q hq b hb
          rw [List.mem_singleton.mp hb]
          rcases List.mem_cons.mp hq with e | hq
          · rw [e]; exact Nat.ne_of_gt (hD _ (.tail _ (.tail _ (.tail _ (.tail _ (.head _))))))
          · rw [List.mem_singleton.mp hq]; exact Nat.ne_of_gt lt2.2.2.1
        · intro q hq p hp
          rcases List.mem_cons.mp hq with e | hq
          · rw [e]; exact hD p (.tail _ (.tail _ (.tail _ (.tail _ (.tail _ hp)))))
          · rw [List.mem_singleton.mp hq]; exact lt_of_allLt lt2.2.2.2 p hp
        · refine ⟨by with_unfolding_all rfl, by with_unfolding_all rfl, ?_, D, ys, kk, by with_unfolding_all rfl, .head _, ?_⟩
          · rw [roundsOf_succ, ← hrdE]
            have := (hans.mono fun p hp => List.mem_append_right [(D, listOf ys.toArray kk), (Dt, tupO c2.1)] hp).push (.tail _ (.head _)) hrdI2
            simpa using this
          · rw [rowAt, hR, ← e1', ← hrd, ← hrdE]; exact hP
  · intro c m₂ T2 h2 tk₁ tk₂ zr6 htk2 hsub2 hoff2 F4 N4
    refine hideG fun kG => ?_
    obtain ⟨hm1, hm2, hans, ax, avs, ak, hm3, hax, hav⟩ := zr6
    refine kG ?_
    clear kG
    replace F4 := fr_pin F4 hm1
    clear F3 N3
    k_steps
    all_goals (try with_reducible refine kQ _ _ ?_)
    rename Fr h₀ L _ _ => F9
    rename News h₀ L _ _ => N9
    refine hideG fun kG => ?_
    obtain ⟨hs2, adds, rfl, hfr⟩ := hsub2
    refine kG ?_
    clear kG
    rw [hvn] at hans
    refine ret _ ((lw, listOf c.1.toArray c.2) :: (adds ++ (add ++ [(L' + 1, o1)]))) _ _ F9 (news_sub N9 ?_) ?_ ⟨lw, c.1, c.2, rfl, .head _, hans.mono ?_⟩
    · walk_at "m sub"
    · intro q hq p hp
      rcases List.mem_cons.mp hq with e | hq
      · rw [e]; exact ltw p (List.mem_append_right _ (.tail _ hp))
      · rcases List.mem_append.mp hq with hq | hq
        · exact hfr q hq p (List.mem_append_right _ (.tail _ hp))
        · rcases List.mem_append.mp hq with hq | hq
          · exact hfr2 q hq p (.tail _ hp)
          · rw [List.mem_singleton.mp hq]; exact Nat.lt_succ_of_lt (lt1 p hp)
    · walk_at "m sub"


/-! masks -/
theorem or_xor_and : ∀ a b : Nat, (a ||| b) = (a ^^^ b) + (a &&& b) := by
  have key : ∀ n a b : Nat, a < n → (a ||| b) = (a ^^^ b) + (a &&& b) := by
    intro n
    induction n with
    | zero => intro a b h; omega
    | succ n ih =>
      intro a b h
      by_cases h0 : a = 0
      · subst h0; simp
      have h1 := ih (a / 2) (b / 2) (by omega)
      have e1 : (a ||| b) / 2 = (a / 2 ||| b / 2) := Nat.or_div_two
      have e2 : (a ^^^ b) / 2 = (a / 2 ^^^ b / 2) := Nat.xor_div_two
      have e3 : (a &&& b) / 2 = (a / 2 &&& b / 2) := Nat.and_div_two
      have m1 : (a ||| b) % 2 = (a % 2 ||| b % 2) := by simpa using Nat.or_mod_two_pow (a := a) (b := b) (n := 1)
      have m2 : (a ^^^ b) % 2 = (a % 2 ^^^ b % 2) := by simpa using Nat.xor_mod_two_pow (a := a) (b := b) (n := 1)
      have m3 : (a &&& b) % 2 = (a % 2 &&& b % 2) := by simpa using Nat.and_mod_two_pow (a := a) (b := b) (n := 1)
      have mm : (a % 2 ||| b % 2) = (a % 2 ^^^ b % 2) + (a % 2 &&& b % 2) := by
        rcases Nat.mod_two_eq_zero_or_one a with p | p <;> rcases Nat.mod_two_eq_zero_or_one b with q | q <;> rw [p, q] <;> decide
      omega
  exact fun a b => key (a + 1) a b (Nat.lt_succ_self _)
theorem bitOr_nat (a b : Nat) : Builtin.bitOr (a : Int) (b : Int) = ((a ||| b : Nat) : Int) := by
  unfold Builtin.bitOr
  rw [bitAnd_nn (by simp only [Builtin.bitNot]; omega) (by simp only [Builtin.bitNot]; omega)]
  have e : ∀ x : Int, Builtin.bitNot (Builtin.bitNot x) = x := by intro x; simp only [Builtin.bitNot]; omega
  rw [e, e, e]; simp
theorem bitXor_nat (a b : Nat) : Builtin.bitXor (a : Int) (b : Int) = ((a ^^^ b : Nat) : Int) := by
  unfold Builtin.bitXor
  rw [bitOr_nat, bitAnd_pp (by omega) (by omega)]
  have := or_xor_and a b
  simp only [Int.toNat_natCast]; omega
theorem bit_nat (x : Int) : bit x = ((2 ^ x.toNat : Nat) : Int) := by unfold bit; exact (Int.natCast_pow 2 x.toNat).symm
theorem liveIn_nat (a : Nat) (x : Int) : liveIn (a : Int) x = a.testBit x.toNat := by
  unfold liveIn
  rw [bit_nat, bitAnd_pp (Int.natCast_nonneg _) (Int.natCast_nonneg _)]
  simp only [Int.toNat_natCast]
  generalize x.toNat = n
  have h1 : (a &&& 2 ^ n) = (a.testBit n).toNat * 2 ^ n := by
    apply Nat.eq_of_testBit_eq
    intro i
    rw [Nat.testBit_and, Nat.testBit_two_pow]
    by_cases e : n = i
    · subst e
      cases h : a.testBit n <;> simp
    · cases h : a.testBit n <;> simp [e]
  have : 0 < 2 ^ n := Nat.two_pow_pos _
  rw [Bool.eq_iff_iff]
  simp only [decide_eq_true_eq]
  rw [h1]
  cases a.testBit n
  · simp
  · have h2 : ((2 ^ n : Nat) : Int) ≠ 0 := by omega
    simpa using h2
theorem in6_inj {x y : Int} (hx : In6 x) (hy : In6 y) : (x.toNat = y.toNat) ↔ x = y := by
  obtain ⟨a, b⟩ := hx; obtain ⟨c, d⟩ := hy
  omega
/-- does a walk of t steps end at x? -/
noncomputable def Lb (ns : List Int) (ps : List (Int × Int)) : Nat → Int → Bool
  | 0, x => ns.contains x
  | t + 1, x => ps.any fun p => Lb ns ps t p.1 && p.2 == x
theorem mask0_nat (ns : List Int) (a : Nat) (hns : ∀ x ∈ ns, In6 x) : ∃ b : Nat, ns.foldl (fun m x => Builtin.bitOr m (bit x)) (a : Int) = (b : Int) ∧ ∀ x, In6 x → b.testBit x.toNat = (a.testBit x.toNat || ns.contains x) := by
  induction ns generalizing a with
  | nil => exact ⟨a, rfl, fun x _ => by simp⟩
  | cons y r ih =>
    obtain ⟨b, h1, h2⟩ := ih (a ||| 2 ^ y.toNat) (fun x hx => hns x (.tail _ hx))
    refine ⟨b, by rw [List.foldl_cons, bit_nat, bitOr_nat]; exact h1, fun x hx => ?_⟩
    rw [h2 x hx, Nat.testBit_or, Nat.testBit_two_pow, List.contains_cons, Bool.or_assoc]
    have : decide (y.toNat = x.toNat) = (x == y) := by
      rw [Bool.eq_iff_iff]; simp only [decide_eq_true_eq, beq_iff_eq]
      rw [in6_inj (hns y (.head _)) hx]; exact eq_comm
    rw [this]
theorem maskS_nat (ps : List (Int × Int)) (m a : Nat) (hpp : ∀ p ∈ ps, In6 p.1 ∧ In6 p.2) : ∃ b : Nat, ps.foldl (fun acc p => if Builtin.bitAnd (m : Int) (bit p.1) ≠ 0 then Builtin.bitOr acc (bit p.2) else acc) (a : Int) = (b : Int) ∧ ∀ x, In6 x → b.testBit x.toNat = (a.testBit x.toNat || ps.any fun p => m.testBit p.1.toNat && p.2 == x) := by
  induction ps generalizing a with
  | nil => exact ⟨a, rfl, fun x _ => by simp⟩
  | cons p r ih =>
    have hl : decide (Builtin.bitAnd (m : Int) (bit p.1) ≠ 0) = m.testBit p.1.toNat := liveIn_nat m p.1
    by_cases hb : Builtin.bitAnd (m : Int) (bit p.1) ≠ 0
    · obtain ⟨b, h1, h2⟩ := ih (a ||| 2 ^ p.2.toNat) (fun x hx => hpp x (.tail _ hx))
      refine ⟨b, by rw [List.foldl_cons, if_pos hb, bit_nat p.2, bitOr_nat]; exact h1, fun x hx => ?_⟩
      rw [decide_eq_true hb] at hl
      rw [h2 x hx, Nat.testBit_or, Nat.testBit_two_pow, List.any_cons, Bool.or_assoc, ← hl, Bool.true_and]
      have : decide (p.2.toNat = x.toNat) = (p.2 == x) := by
        rw [Bool.eq_iff_iff]; simp only [decide_eq_true_eq, beq_iff_eq]
        exact in6_inj (hpp p (.head _)).2 hx
      rw [this]
    · obtain ⟨b, h1, h2⟩ := ih a (fun x hx => hpp x (.tail _ hx))
      refine ⟨b, by rw [List.foldl_cons, if_neg hb]; exact h1, fun x hx => ?_⟩
      rw [decide_eq_false hb] at hl
      rw [h2 x hx, List.any_cons, ← hl, Bool.false_and, Bool.false_or]
theorem maskAt_nat {ns : List Int} {ps : List (Int × Int)} (hns : ∀ x ∈ ns, In6 x) (hpp : ∀ p ∈ ps, In6 p.1 ∧ In6 p.2) (t : Nat) : ∃ b : Nat, maskAt ns ps t = (b : Int) ∧ ∀ x, In6 x → b.testBit x.toNat = Lb ns ps t x := by
  induction t with
  | zero =>
    obtain ⟨b, h1, h2⟩ := mask0_nat ns 0 hns
    exact ⟨b, h1, fun x hx => by rw [h2 x hx]; simp [Lb]⟩
  | succ t ih =>
    obtain ⟨m, e, hm⟩ := ih
    obtain ⟨b, h1, h2⟩ := maskS_nat ps m 0 hpp
    refine ⟨b, by rw [maskAt, e]; exact h1, fun x hx => ?_⟩
    rw [h2 x hx, Lb, Nat.zero_testBit, Bool.false_or]
    have : ∀ l : List (Int × Int), (∀ p ∈ l, In6 p.1) → l.any (fun p => m.testBit p.1.toNat && p.2 == x) = l.any (fun p => Lb ns ps t p.1 && p.2 == x) := by
      intro l
      induction l with
      | nil => intro _; rfl
      | cons p r ihr =>
        intro h
        rw [List.any_cons, List.any_cons, ihr (fun q hq => h q (.tail _ hq)), hm p.1 (h p (.head _))]
    exact this ps fun p hp => (hpp p hp).1
theorem live_mask {ns : List Int} {ps : List (Int × Int)} (hns : ∀ x ∈ ns, In6 x) (hpp : ∀ p ∈ ps, In6 p.1 ∧ In6 p.2) (t : Nat) (x : Int) (hx : In6 x) : liveIn (maskAt ns ps t) x = Lb ns ps t x := by
  obtain ⟨b, e, h⟩ := maskAt_nat hns hpp t
  rw [e, liveIn_nat, h x hx]
theorem live_lost {ns : List Int} {ps : List (Int × Int)} (hns : ∀ x ∈ ns, In6 x) (hpp : ∀ p ∈ ps, In6 p.1 ∧ In6 p.2) (t : Nat) (x : Int) (hx : In6 x) : liveIn (lostAt ns ps t) x = Bool.xor (Lb ns ps t x) (Lb ns ps (t + 1) x) := by
  obtain ⟨a, e1, h1⟩ := maskAt_nat hns hpp t
  obtain ⟨b, e2, h2⟩ := maskAt_nat hns hpp (t + 1)
  rw [lostAt, e1, e2, bitXor_nat, liveIn_nat, Nat.testBit_xor, h1 x hx, h2 x hx]
section
variable {ns : List Int} {ps : List (Int × Int)}
theorem Lb_succ {t : Nat} {x : Int} : Lb ns ps (t + 1) x = true ↔ ∃ u, (u, x) ∈ ps ∧ Lb ns ps t u = true := by
  rw [Lb, List.any_eq_true]
  constructor
  · rintro ⟨⟨u, v⟩, hp, h⟩
    simp only [Bool.and_eq_true, beq_iff_eq] at h
    obtain ⟨h1, rfl⟩ := h
    exact ⟨u, hp, h1⟩
  · rintro ⟨u, hp, h⟩
    exact ⟨(u, x), hp, by simp [h]⟩
theorem Lb_ns (hps : ∀ p ∈ ps, p.1 ∈ ns ∧ p.2 ∈ ns) {t : Nat} {x : Int} (h : Lb ns ps t x = true) : x ∈ ns := by
  cases t with
  | zero => simpa [Lb] using h
  | succ t => obtain ⟨u, hp, _⟩ := Lb_succ.mp h; exact (hps _ hp).2
theorem Lb_anti (hps : ∀ p ∈ ps, p.1 ∈ ns ∧ p.2 ∈ ns) {t : Nat} : ∀ {x : Int}, Lb ns ps (t + 1) x = true → Lb ns ps t x = true := by
  induction t with
  | zero => intro x h; have := Lb_ns hps h; simpa [Lb] using this
  | succ t ih =>
    intro x h
    obtain ⟨u, hp, h1⟩ := Lb_succ.mp h
    exact Lb_succ.mpr ⟨u, hp, ih h1⟩
end

/-! the rounds -/
noncomputable def decN (s : (Int → Int) × List Int) (y : Int) : (Int → Int) × List Int :=
  (fun z => if z = y then s.1 y - 1 else s.1 z, if s.1 y - 1 = 0 then s.2 ++ [y] else s.2)
noncomputable def doneOne (sc : Int → List Int) (s : (Int → Int) × List Int) (x : Int) : (Int → Int) × List Int := (sc x).foldl decN (fun z => if z = x then -2 else s.1 z, s.2)
noncomputable def doneAll (sc : Int → List Int) (s : (Int → Int) × List Int) (R : List Int) : (Int → Int) × List Int := R.foldl (doneOne sc) s
noncomputable def outAll (np : Int → Int) (R : List Int) : Int → Int := R.foldl (fun np x z => if z = x then -1 else np z) np
noncomputable def lastZ (F : Int → Int) : List Int → List Int
  | [] => []
  | x :: t => if F x = 0 ∧ x ∉ t then x :: lastZ F t else lastZ F t
theorem decN_np (row : List Int) (s : (Int → Int) × List Int) (y : Int) : (row.foldl decN s).1 y = s.1 y - row.count y := by
  induction row generalizing s with
  | nil => simp
  | cons x t ih =>
    rw [List.foldl_cons, ih, List.count_cons]
    simp only [decN]
    by_cases h : y = x
    · subst h; simp; omega
    · have : (x == y) = false := by simpa using fun e => h e.symm
      simp [h, this]
theorem decN_rd (row row2 : List Int) (s : (Int → Int) × List Int) (F : Int → Int) (hF : ∀ y ∈ row ++ row2, F y = s.1 y - (row ++ row2).count y ∧ 0 ≤ F y) :
    (row.foldl decN s).2 ++ lastZ F row2 = s.2 ++ lastZ F (row ++ row2) := by
  induction row generalizing s with
  | nil => rfl
  | cons x t ih =>
    rw [List.foldl_cons, List.cons_append, lastZ]
    have hx := hF x (.head _)
    rw [List.cons_append, List.count_cons_self] at hx
    rw [ih (decN s x)]
    · simp only [decN]
      by_cases hz : s.1 x - 1 = 0
      · have hc : (t ++ row2).count x = 0 := by omega
        have hm : x ∉ t ++ row2 := List.count_eq_zero.mp hc
        rw [if_pos hz, if_pos ⟨by omega, hm⟩, List.append_assoc, List.singleton_append]
      · rw [if_neg hz, if_neg]
        rintro ⟨h1, h2⟩
        have := List.count_eq_zero.mpr h2
        omega
    · intro y hy
      have h := hF y (.tail _ hy)
      rw [List.cons_append, List.count_cons] at h
      simp only [decN]
      by_cases e : y = x
      · subst e; simp at h ⊢; omega
      · have : (x == y) = false := by simpa using fun e' => e e'.symm
        simp [e, this] at h ⊢; omega
theorem doneAll_np (sc : Int → List Int) (R : List Int) (s : (Int → Int) × List Int) (hn : R.Nodup) (hd : ∀ x ∈ R, ∀ y ∈ sc x, y ∉ R) (y : Int) :
    (doneAll sc s R).1 y = if y ∈ R then -2 else s.1 y - (R.flatMap sc).count y := by
  induction R generalizing s with
  | nil => simp [doneAll]
  | cons x t ih =>
    have hn' := List.nodup_cons.mp hn
    show (doneAll sc (doneOne sc s x) t).1 y = _
    rw [ih (doneOne sc s x) hn'.2 (fun a ha b hb hbt => hd a (.tail _ ha) b hb (.tail _ hbt))]
    simp only [doneOne]
    rw [decN_np, List.flatMap_cons, List.count_append]
    by_cases h : y ∈ t
    · simp [h]
    · by_cases e : y = x
      · subst e
        have h1 : (sc y).count y = 0 := List.count_eq_zero.mpr fun hm => hd y (.head _) y hm (.head _)
        have h2 : (t.flatMap sc).count y = 0 := List.count_eq_zero.mpr fun hm => by
          obtain ⟨a, ha, hb⟩ := List.mem_flatMap.mp hm
          exact hd a (.tail _ ha) y hb (.head _)
        simp [h, h1, h2]
      · simp [h, e]; omega
theorem doneAll_rd (sc : Int → List Int) (R : List Int) (s : (Int → Int) × List Int) (F : Int → Int) (hd : ∀ x ∈ R, ∀ y ∈ R.flatMap sc, y ≠ x)
    (hF : ∀ y ∈ R.flatMap sc, F y = s.1 y - (R.flatMap sc).count y ∧ 0 ≤ F y) : (doneAll sc s R).2 = s.2 ++ lastZ F (R.flatMap sc) := by
  induction R generalizing s with
  | nil => simp [doneAll, lastZ]
  | cons x t ih =>
    show (doneAll sc (doneOne sc s x) t).2 = _
    rw [ih (doneOne sc s x)]
    · rw [List.flatMap_cons]
      exact decN_rd (sc x) (t.flatMap sc) (fun z => if z = x then -2 else s.1 z, s.2) F fun y hy => by
        have h1 := hF y (by rw [List.flatMap_cons]; exact hy)
        have h2 := hd x (.head _) y (by rw [List.flatMap_cons]; exact hy)
        rw [List.flatMap_cons] at h1
        simp only [if_neg h2]; exact h1
    · intro a ha y hy
      exact hd a (.tail _ ha) y (by rw [List.flatMap_cons]; exact List.mem_append_right _ hy)
    · intro y hy
      have h1 := hF y (by rw [List.flatMap_cons]; exact List.mem_append_right _ hy)
      have h2 := hd x (.head _) y (by rw [List.flatMap_cons]; exact List.mem_append_right _ hy)
      rw [List.flatMap_cons, List.count_append] at h1
      simp only [doneOne]
      rw [decN_np]
      simp only [if_neg h2]; omega
theorem outAll_eq (R : List Int) (np : Int → Int) (y : Int) : outAll np R y = if y ∈ R then -1 else np y := by
  induction R generalizing np with
  | nil => simp [outAll]
  | cons x t ih =>
    show outAll (fun z => if z = x then -1 else np z) t y = _
    rw [ih]
    by_cases h : y ∈ t
    · simp [h]
    · by_cases e : y = x <;> simp [h, e]
theorem lastZ_ready (F : Int → Int) (lost : Int) (row : List Int) (h : ∀ x ∈ row, F x = 0 ↔ liveIn lost x = true) : lastZ F row = readyOf lost row := by
  induction row with
  | nil => rfl
  | cons x t ih =>
    rw [lastZ, readyOf, ih fun y hy => h y (.tail _ hy)]
    have := h x (.head _)
    by_cases h1 : F x = 0 ∧ x ∉ t
    · rw [if_pos h1, if_pos]
      simp only [Bool.and_eq_true, beq_iff_eq]
      exact ⟨this.mp h1.1, List.count_eq_zero.mpr h1.2⟩
    · rw [if_neg h1, if_neg]
      simp only [Bool.and_eq_true, beq_iff_eq]
      rintro ⟨h2, h3⟩
      exact h1 ⟨this.mpr h2, List.count_eq_zero.mp h3⟩
theorem mem_readyOf {lost : Int} {row : List Int} {x : Int} : x ∈ readyOf lost row ↔ x ∈ row ∧ liveIn lost x = true := by
  induction row with
  | nil => simp [readyOf]
  | cons y t ih =>
    rw [readyOf]
    by_cases h : (liveIn lost y && t.count y == 0) = true
    · rw [if_pos h, List.mem_cons, ih, List.mem_cons]
      simp only [Bool.and_eq_true, beq_iff_eq] at h
      constructor
      · rintro (e | ⟨a, b⟩)
        · subst e; exact ⟨.inl rfl, h.1⟩
        · exact ⟨.inr a, b⟩
      · rintro ⟨e | a, b⟩
        · exact .inl e
        · exact .inr ⟨a, b⟩
    · rw [if_neg h, ih, List.mem_cons]
      constructor
      · rintro ⟨a, b⟩; exact ⟨.inr a, b⟩
      · rintro ⟨e | a, b⟩
        · subst e
          simp only [Bool.and_eq_true, beq_iff_eq, not_and] at h
          exact ⟨List.count_pos_iff.mp (Nat.pos_of_ne_zero (h b)), b⟩
        · exact ⟨a, b⟩
theorem readyOf_filter (lost : Int) (row : List Int) (hn : row.Nodup) : readyOf lost row = row.filter (liveIn lost) := by
  induction row with
  | nil => rfl
  | cons x t ih =>
    have := List.nodup_cons.mp hn
    rw [readyOf, List.filter_cons, ih this.2, List.count_eq_zero.mpr this.1]
    simp
noncomputable def cntB (ns : List Int) (ps : List (Int × Int)) (k : Nat) (y : Int) : Nat := ps.countP fun p => p.2 == y && Lb ns ps k p.1
theorem row_count_cons (p : Int × Int) (l : List (Int × Int)) (R : List Int) (y : Int) : (R.flatMap (succs (p :: l))).count y = (R.flatMap (succs l)).count y + (if p.2 = y then R.count p.1 else 0) := by
  induction R with
  | nil => simp
  | cons c r ih =>
    simp only [List.flatMap_cons, List.count_append, ih, succs_cons, List.count_cons]
    by_cases h : p.1 = c
    · subst h
      by_cases h2 : p.2 = y
      · subst h2; simp; omega
      · have : (p.2 == y) = false := by simpa using h2
        simp [h2, List.count_cons, this]
    · have h' : (c == p.1) = false := by simpa using fun e => h e.symm
      by_cases h2 : p.2 = y <;> simp [h, h', h2] <;> omega
theorem cnt_split (f g : Int → Bool) (R : List Int) (hn : R.Nodup) (hR : ∀ u, f u = true → (u ∈ R ↔ g u = false)) (hR2 : ∀ u ∈ R, f u = true) (hfg : ∀ u, g u = true → f u = true) (l : List (Int × Int)) (y : Int) :
    l.countP (fun p => p.2 == y && f p.1) = l.countP (fun p => p.2 == y && g p.1) + (R.flatMap (succs l)).count y := by
  induction l with
  | nil =>
    have : ∀ R : List Int, R.flatMap (succs []) = [] := by
      intro R
      induction R with
      | nil => rfl
      | cons c r ihr => rw [List.flatMap_cons, ihr]; rfl
    rw [this]; rfl
  | cons p l ih =>
    rw [List.countP_cons, List.countP_cons, row_count_cons, ih]
    by_cases h : p.2 = y
    · subst h
      simp only [beq_self_eq_true, Bool.true_and, if_pos]
      by_cases hf : f p.1 = true
      · by_cases hg : g p.1 = true
        · have : R.count p.1 = 0 := List.count_eq_zero.mpr fun hm => by rw [(hR _ hf).mp hm] at hg; cases hg
          simp [hf, hg, this]; omega
        · have hm : p.1 ∈ R := (hR _ hf).mpr (by simpa using hg)
          have h1 := List.nodup_iff_count.mp hn p.1
          have h2 := List.count_pos_iff.mpr hm
          have : R.count p.1 = 1 := by omega
          simp [hf, hg, this]; omega
      · have hg : ¬ g p.1 = true := fun q => hf (hfg _ q)
        have : R.count p.1 = 0 := List.count_eq_zero.mpr fun hm => hf (hR2 _ hm)
        simp [hf, hg, this]
    · have : (p.2 == y) = false := by simpa using h
      simp [this, h]
section
variable {ns : List Int} {ps : List (Int × Int)}
theorem mem_succs {x y : Int} : y ∈ succs ps x ↔ (x, y) ∈ ps := by
  unfold succs
  rw [List.mem_map]
  constructor
  · rintro ⟨⟨a, b⟩, hp, rfl⟩
    obtain ⟨h1, h2⟩ := List.mem_filter.mp hp
    rw [beq_iff_eq] at h2; dsimp only at h2; subst h2; exact h1
  · intro h; exact ⟨(x, y), List.mem_filter.mpr ⟨h, by simp⟩, rfl⟩
theorem cnt_zero {k : Nat} {y : Int} : cntB ns ps k y = 0 ↔ Lb ns ps (k + 1) y = false := by
  rw [cntB, List.countP_eq_zero, Bool.eq_false_iff, ne_eq, Lb_succ]
  constructor
  · rintro h ⟨u, hp, hu⟩; exact h _ hp (by simp [hu])
  · rintro h p hp hb
    simp only [Bool.and_eq_true, beq_iff_eq] at hb
    obtain ⟨h1, h2⟩ := hb
    exact h ⟨p.1, by rw [← h1]; exact hp, h2⟩
variable (hnd : ns.Nodup) (hps : ∀ p ∈ ps, p.1 ∈ ns ∧ p.2 ∈ ns) (h6 : ∀ x ∈ ns, In6 x)
include hps h6
theorem hpp6 : ∀ p ∈ ps, In6 p.1 ∧ In6 p.2 := fun p hp => ⟨h6 _ (hps p hp).1, h6 _ (hps p hp).2⟩
theorem lost_iff {k : Nat} {x : Int} (hx : x ∈ ns) : liveIn (lostAt ns ps k) x = true ↔ Lb ns ps k x = true ∧ Lb ns ps (k + 1) x = false := by
  rw [live_lost h6 (hpp6 hps h6) k x (h6 x hx)]
  cases h1 : Lb ns ps k x <;> cases h2 : Lb ns ps (k + 1) x
  · simp
  · have := Lb_anti hps h2; rw [h1] at this; cases this
  · simp
  · simp
theorem rowAt_ns (k : Nat) : ∀ x ∈ rowAt ns ps k, x ∈ ns := by
  induction k with
  | zero => exact fun x hx => hx
  | succ k ih =>
    intro x hx
    rw [rowAt, rowNext] at hx
    obtain ⟨u, _, hu⟩ := List.mem_flatMap.mp hx
    exact (hps _ (mem_succs.mp hu)).2
theorem mem_roundAt (k : Nat) : ∀ x, x ∈ roundAt ns ps k ↔ x ∈ ns ∧ Lb ns ps k x = true ∧ Lb ns ps (k + 1) x = false := by
  induction k with
  | zero =>
    intro x
    rw [roundAt, mem_readyOf, rowAt]
    exact and_congr_right fun hx => lost_iff hps h6 hx
  | succ k ih =>
    intro x
    rw [roundAt, mem_readyOf]
    constructor
    · rintro ⟨h1, h2⟩
      have hx := rowAt_ns hps h6 _ _ h1
      exact ⟨hx, (lost_iff hps h6 hx).mp h2⟩
    · rintro ⟨hx, h1, h2⟩
      refine ⟨?_, (lost_iff hps h6 hx).mpr ⟨h1, h2⟩⟩
      obtain ⟨u, hp, hu⟩ := Lb_succ.mp h1
      have hnu : Lb ns ps (k + 1) u = false := by
        cases e : Lb ns ps (k + 1) u with
        | false => rfl
        | true => rw [Lb_succ.mpr ⟨u, hp, e⟩] at h2; cases h2
      rw [rowAt, rowNext]
      exact List.mem_flatMap.mpr ⟨u, (ih u).mpr ⟨(hps _ hp).1, hu, hnu⟩, mem_succs.mpr hp⟩
theorem cnt_step (k : Nat) (y : Int) : cntB ns ps k y = cntB ns ps (k + 1) y + (rowNext ps (roundAt ns ps k)).count y := by
  refine cnt_split (Lb ns ps k) (Lb ns ps (k + 1)) (roundAt ns ps k) (readyOf_nodup _ _) ?_ ?_ (fun u h => Lb_anti hps h) ps y
  · intro u hu
    rw [mem_roundAt hps h6]
    exact ⟨fun h => h.2.2, fun h => ⟨Lb_ns hps hu, hu, h⟩⟩
  · intro u hu
    exact ((mem_roundAt hps h6 k u).mp hu).2.1
/-- the sorter's counts and its ready list ahead of round k -/
noncomputable def roundS (sc : Int → List Int) (s : (Int → Int) × List Int) : (Int → Int) × List Int := doneAll sc (outAll s.1 s.2, []) s.2
noncomputable def np0 (ps : List (Int × Int)) (y : Int) : Int := ps.countP fun p => p.2 == y
noncomputable def sortAt (ns : List Int) (ps : List (Int × Int)) : Nat → (Int → Int) × List Int
  | 0 => (np0 ps, ns.filter fun y => np0 ps y == 0)
  | k + 1 => roundS (succs ps) (sortAt ns ps k)
theorem round_off (k : Nat) : ∀ x ∈ roundAt ns ps k, ∀ y ∈ succs ps x, y ∉ roundAt ns ps k := by
  intro x hx y hy hm
  have h1 := ((mem_roundAt hps h6 k x).mp hx).2.1
  have h2 := ((mem_roundAt hps h6 k y).mp hm).2.2
  rw [Lb_succ.mpr ⟨x, mem_succs.mp hy, h1⟩] at h2; cases h2
theorem row_lb {k : Nat} {y : Int} (hy : y ∈ rowNext ps (roundAt ns ps k)) : y ∈ ns ∧ Lb ns ps (k + 1) y = true := by
  obtain ⟨u, hu, hy⟩ := List.mem_flatMap.mp hy
  exact ⟨(hps _ (mem_succs.mp hy)).2, Lb_succ.mpr ⟨u, mem_succs.mp hy, ((mem_roundAt hps h6 k u).mp hu).2.1⟩⟩
include hnd
theorem sortAt_spec (k : Nat) : (sortAt ns ps k).2 = roundAt ns ps k ∧ ∀ y ∈ ns, (sortAt ns ps k).1 y = if Lb ns ps k y = true then (cntB ns ps k y : Int) else -2 := by
  induction k with
  | zero =>
    have hc : ∀ y, np0 ps y = cntB ns ps 0 y := by
      intro y
      unfold np0 cntB
      congr 1
      refine List.countP_congr fun p hp => ?_
      have : Lb ns ps 0 p.1 = true := by simpa [Lb] using (hps p hp).1
      simp [this]
    constructor
    · show ns.filter (fun y => np0 ps y == 0) = readyOf _ ns
      rw [readyOf_filter _ _ hnd]
      refine List.filter_congr fun x hx => ?_
      rw [Bool.eq_iff_iff, lost_iff hps h6 hx, beq_iff_eq, hc, Int.natCast_eq_zero, cnt_zero]
      have : Lb ns ps 0 x = true := by simpa [Lb] using hx
      simp [this]
    · intro y hy
      have : Lb ns ps 0 y = true := by simpa [Lb] using hy
      rw [if_pos this, ← hc]; rfl
  | succ k ih =>
    obtain ⟨h1, h2⟩ := ih
    have hoff := round_off hps h6 k
    have hfm : (roundAt ns ps k).flatMap (succs ps) = rowNext ps (roundAt ns ps k) := rfl
    constructor
    · show (doneAll (succs ps) (outAll (sortAt ns ps k).1 (sortAt ns ps k).2, []) (sortAt ns ps k).2).2 = _
      rw [h1, doneAll_rd (succs ps) (roundAt ns ps k) _ (fun y => (cntB ns ps (k + 1) y : Int)), List.nil_append, hfm]
      · show _ = readyOf (lostAt ns ps (k + 1)) (rowNext ps (roundAt ns ps k))
        refine lastZ_ready _ _ _ fun x hx => ?_
        obtain ⟨hx1, hx2⟩ := row_lb hps h6 hx
        rw [Int.natCast_eq_zero, cnt_zero, lost_iff hps h6 hx1]
        simp [hx2]
      · intro x hx y hy e
        subst e
        obtain ⟨u, hu, hy⟩ := List.mem_flatMap.mp hy
        exact hoff u hu y hy hx
      · intro y hy
        rw [hfm] at hy ⊢
        obtain ⟨hy1, hy2⟩ := row_lb hps h6 hy
        refine ⟨?_, by omega⟩
        have hm : y ∉ roundAt ns ps k := fun hm => by rw [((mem_roundAt hps h6 k y).mp hm).2.2] at hy2; cases hy2
        dsimp only
        rw [outAll_eq, if_neg hm, h2 y hy1, if_pos (Lb_anti hps hy2), cnt_step hps h6 k y]; omega
    · intro y hy
      show (doneAll (succs ps) (outAll (sortAt ns ps k).1 (sortAt ns ps k).2, []) (sortAt ns ps k).2).1 y = _
      rw [h1, doneAll_np (succs ps) (roundAt ns ps k) _ (readyOf_nodup _ _) hoff]
      by_cases hm : y ∈ roundAt ns ps k
      · rw [if_pos hm, if_neg]
        rw [((mem_roundAt hps h6 k y).mp hm).2.2]; simp
      · rw [if_neg hm, hfm]
        dsimp only
        rw [outAll_eq, if_neg hm, h2 y hy]
        by_cases hl : Lb ns ps k y = true
        · have hl2 : Lb ns ps (k + 1) y = true := by
            cases e : Lb ns ps (k + 1) y with
            | true => rfl
            | false => exact absurd ((mem_roundAt hps h6 k y).mpr ⟨hy, hl, e⟩) hm
          rw [if_pos hl, if_pos hl2, cnt_step hps h6 k y]; omega
        · have hl2 : ¬ Lb ns ps (k + 1) y = true := fun e => hl (Lb_anti hps e)
          rw [if_neg hl, if_neg hl2]
          have : (rowNext ps (roundAt ns ps k)).count y = 0 := List.count_eq_zero.mpr fun hc => hl2 (row_lb hps h6 hc).2
          omega
/-- each node that is done was passed out -/
theorem sortAt_out (k i : Nat) (x : Int) (hx : (sortAt ns ps k).2[i]? = some x) : (doneAll (succs ps) (outAll (sortAt ns ps k).1 (sortAt ns ps k).2, []) ((sortAt ns ps k).2.take i)).1 x = -1 := by
  obtain ⟨h1, h2⟩ := sortAt_spec hnd hps h6 k
  rw [h1] at hx ⊢
  have hnR : (roundAt ns ps k).Nodup := readyOf_nodup (lostAt ns ps k) (rowAt ns ps k)
  have hoff := round_off hps h6 k
  have hxm : x ∈ roundAt ns ps k := List.mem_of_getElem? hx
  have hsplit : roundAt ns ps k = (roundAt ns ps k).take i ++ x :: (roundAt ns ps k).drop (i + 1) := by
    conv => lhs; rw [← List.take_append_drop i (roundAt ns ps k)]
    rw [List.drop_eq_getElem_cons (List.getElem?_eq_some_iff.mp hx).1, (List.getElem?_eq_some_iff.mp hx).2]
  have hnt : x ∉ (roundAt ns ps k).take i := by
    intro hm
    have : (roundAt ns ps k).Nodup := hnR
    rw [hsplit] at this
    exact (List.nodup_append.mp this).2.2 x hm x (.head _) rfl
  rw [doneAll_np _ _ _ (List.Nodup.sublist (List.take_sublist _ _) hnR), if_neg hnt]
  · dsimp only
    rw [outAll_eq, if_pos hxm]
    have : (((roundAt ns ps k).take i).flatMap (succs ps)).count x = 0 := List.count_eq_zero.mpr fun hm => by
      obtain ⟨u, hu, hy⟩ := List.mem_flatMap.mp hm
      exact hoff u (List.mem_of_mem_take hu) x hy hxm
    omega
  · intro a ha b hb hbt
    exact hoff a (List.mem_of_mem_take ha) b hb (List.mem_of_mem_take hbt)
end

section loops
variable {prog : Program} {w : World} {A : Around} {E : Value → Shared → Prop} {s : Shared} {env : Env} {h₀ : Heap} {R : Result → Shared → Prop} {target : Expr} {body orelse : List Stmt}
/-- a turn's end, where the ledger as a whole may be another -/
noncomputable def LmEnd (h₀ : Heap) (L : Addr) (wr : List Addr) (own : List (Addr × Obj)) (P : (Str → Option Value) → List (Addr × Obj) → Nat → Prop) (s s₃ : Shared) : Prop :=
  ∃ m' h' tk T' news', s₃ = { s with heap := h', toks := tk } ∧ Fr h₀ L h' m' ∧ News h₀ L h' news' ∧ (∀ p ∈ T', p ∈ news') ∧ (∀ p ∈ own, p ∈ news') ∧ (∀ p ∈ T', p.1 ∉ wr) ∧ P m' T' tk
noncomputable def LmPost (h₀ : Heap) (L : Addr) (wr : List Addr) (own : List (Addr × Obj)) (P : (Str → Option Value) → List (Addr × Obj) → Nat → Prop) (R : Result → Shared → Prop) (s : Shared) (f : Flow) (s₃ : Shared) : Prop := match f with
  | .next => LmEnd h₀ L wr own P s s₃
  | .cont => LmEnd h₀ L wr own P s s₃
  | .brk => R (.ok .next) s₃
  | .ret v => R (.ok (.ret v)) s₃

theorem forM {I : Addr} {fp wr : List Addr} {n : Nat} {Pw : Nat → Value → Prop} {St : Nat → Heap → Prop} {m : Str → Option Value} (W : Walks prog w A I fp wr n Pw St)
    (P : Nat → (Str → Option Value) → List (Addr × Obj) → Nat → Prop) (T₀ : List (Addr × Obj))
    (hLf : env.locals ∉ fp) (hwr : ∀ b ∈ wr, h₀.get? b = none)
    (hob : ∀ i h, St i h → ∀ b ∈ wr, ∃ o, h.get? b = some o)
    (hgo : ∀ i (s' : Shared) v (Q' : Unit → Shared → Prop), St i s'.heap → Q' () s' → wpAny (model prog w) A (letOwnedTupleGo target (.ref I) v) Q' (notedBy (model prog w) A env fun e s' => R (.error e) s') s')
    (hst : St 0 s.heap) (F : Fr h₀ env.locals s.heap m) (N : News h₀ env.locals s.heap T₀) (hnw : ∀ p ∈ T₀, p.1 ∉ wr) (h0 : P 0 m T₀ s.toks)
    (turn : ∀ i v m₁ T own h tk₀ tk, i < n → Pw i v → P i m₁ T tk₀ → tk₀ ≤ tk → (∀ p ∈ T, p.1 ∉ wr) → (∀ p ∈ own, p.1 ∈ fp) → (∀ b ∈ wr, ∃ o, (b, o) ∈ own) → Fr h₀ env.locals h m₁ → News h₀ env.locals h (T ++ own) →
      wpAny (model prog w) A (assign target env v) (fun _ s₂ => wpAny (model prog w) A (execs body env) (LmPost h₀ env.locals wr own (P (i + 1)) R s) (notedBy (model prog w) A env fun e s' => R (.error e) s') s₂) (notedBy (model prog w) A env fun e s' => R (.error e) s') { s with heap := h, toks := tk })
    (done : ∀ m₁ T h tk₀ tk, P n m₁ T tk₀ → tk₀ ≤ tk → (∀ p ∈ T, p.1 ∉ wr) → Fr h₀ env.locals h m₁ → News h₀ env.locals h T →
      wpAny (model prog w) A (execs orelse env) (fun f s₃ => R (.ok f) s₃) (notedBy (model prog w) A env fun e s' => R (.error e) s') { s with heap := h, toks := tk }) :
    codeAny (model prog w) A (.forLoop target (.ref I) body orelse env) R s := by
  have hLw : env.locals ∉ wr := fun h => hLf (W.sub _ h)
  have old : ∀ b o, h₀.get? b = some o → b ∉ wr := fun b o e hb => by rw [hwr b hb] at e; cases e
  refine codeAny_forLoop_any
    (fun k s' => ∃ h' tk m' T i, s' = { s with heap := h', toks := tk } ∧ St i h' ∧ Fr h₀ env.locals h' m' ∧ News h₀ env.locals h' T ∧ (∀ p ∈ T, p.1 ∉ wr) ∧ P i m' T tk ∧ i ≤ n ∧ k = n + 1 - i) ?_ (n + 1)
    ⟨s.heap, s.toks, m, T₀, 0, rfl, hst, F, N, hnw, h0, Nat.zero_le _, rfl⟩
  intro k s' zr2
  refine hideG fun kG => ?_
  obtain ⟨h', tk, m', T, i, rfl, hst', F', N', hnw', hP, hi, rfl⟩ := zr2
  refine kG ?_
  clear kG
  have next : ∀ h₁ : Heap, (∀ b o, b ∉ wr → h'.get? b = some o → h₁.get? b = some o) → Fr h₀ env.locals h₁ m' ∧ News h₀ env.locals h₁ T := fun h₁ hk₁ =>
    ⟨⟨F'.ns.at' fun o e => hk₁ _ o hLw e, fun b o e => hk₁ b o (old b o e) (F'.keep b o e), F'.above⟩, fun p hp => ⟨hk₁ _ _ (hnw' p hp) (N' p hp).1, (N' p hp).2⟩⟩
  by_cases hlt : i < n
  · refine wpAny_with_toks (n := tk) (Nat.le_refl _) (W.item i _ _ _ hlt hst' fun v h₁ tk₁ hPv hst₁ hk₁ htk => ?_)
    obtain ⟨F₁, N₁⟩ := next h₁ hk₁
    refine hgo (i + 1) _ v _ hst₁ ?_
    have Nown : News h₀ env.locals h₁ (ownOf h₀ fp h₁) := news_ownOf hLf
    have hofp : ∀ p ∈ ownOf h₀ fp h₁, p.1 ∈ fp := fun p hp => ownOf_sub p hp
    refine wpAny_mono (turn i v m' T (ownOf h₀ fp h₁) h₁ tk tk₁ hlt hPv hP htk hnw' hofp (fun b hb => let ⟨o, ho⟩ := hob _ _ hst₁ b hb; ⟨o, mem_ownOf (W.sub _ hb) (hwr _ hb) ho⟩) F₁ (N₁.append Nown)) (fun _ s₂ h₂ => wpAny_mono h₂ (fun f s₃ h₃ => ?_) fun _ _ e => e) fun _ _ e => e
    have fin : LmEnd h₀ env.locals wr (ownOf h₀ fp h₁) (P (i + 1)) s s₃ → ∃ m, m < n + 1 - i ∧ ∃ h' tk m' T i, s₃ = { s with heap := h', toks := tk } ∧ St i h' ∧ Fr h₀ env.locals h' m' ∧ News h₀ env.locals h' T ∧ (∀ p ∈ T, p.1 ∉ wr) ∧ P i m' T tk ∧ i ≤ n ∧ m = n + 1 - i := by
      intro zr0
      refine hideG fun kG => ?_
      obtain ⟨m₃, h₃', tk₃, T', news', rfl, F₃, N₃, hin, ho, hw, hP₃⟩ := zr0
      refine kG ?_
      clear kG
      refine ⟨n + 1 - (i + 1), by omega, h₃', tk₃, m₃, T', i + 1, rfl, ?_, F₃, fun p hp => N₃ p (hin p hp), hw, hP₃, hlt, rfl⟩
      refine W.frame _ _ _ hst₁ fun b hb o e => ?_
      cases hn : h₀.get? b with
      | some o₀ =>
        have : o₀ = o := by have := F₁.keep b o₀ hn; rw [e] at this; exact (Option.some.inj this).symm
        exact this ▸ F₃.keep b o₀ hn
      | none => exact (N₃ _ (ho _ (mem_ownOf hb hn e))).1
    cases f with
    | ret v => exact h₃
    | brk => exact h₃
    | cont => exact fin h₃
    | next => exact fin h₃
  · have hin : i = n := by omega
    subst hin
    refine wpAny_with_toks (n := tk) (Nat.le_refl _) (W.done _ _ _ hst' fun h₁ tk₁ hk₁ htk => ?_)
    obtain ⟨F₁, N₁⟩ := next h₁ hk₁
    exact done m' T h₁ tk tk₁ hP htk hnw' F₁ N₁

theorem mfp2 {I l : Addr} {own : List (Addr × Obj)} (h : ∀ p ∈ own, p.1 ∈ [I, l]) : ∀ p ∈ own, p.1 = I ∨ p.1 = l := fun p hp => by
  rcases List.mem_cons.mp (h p hp) with e | e
  · exact .inl e
  · exact .inr (List.mem_singleton.mp e)

theorem iterListM {l : Addr} {vs : List Value} {k : Nat} {m : Str → Option Value} (P : Nat → (Str → Option Value) → List (Addr × Obj) → Nat → Prop) (T₀ : List (Addr × Obj))
    (hh : A.handled = none) (F : Fr h₀ env.locals s.heap m) (N : News h₀ env.locals s.heap T₀) (hl : (l, listOf vs.toArray k) ∈ T₀) (h0 : P 0 m T₀ s.toks)
    (turn : ∀ I, (∀ p ∈ T₀, p.1 < I) → ∀ i v m₁ T own h tk₀ tk, vs[i]? = some v → P i m₁ T tk₀ → tk₀ ≤ tk → (∀ p ∈ T, p.1 ≠ I) → (∀ p ∈ own, p.1 = I ∨ p.1 = l) → (∃ o, (I, o) ∈ own) → Fr h₀ env.locals h m₁ → News h₀ env.locals h (T ++ own) →
      wpAny (model prog w) A (assign target env v) (fun _ s₂ => wpAny (model prog w) A (execs body env) (LmPost h₀ env.locals [I] own (P (i + 1)) R s) (notedBy (model prog w) A env fun e s' => R (.error e) s') s₂) (notedBy (model prog w) A env fun e s' => R (.error e) s') { s with heap := h, toks := tk })
    (done : ∀ I, (∀ p ∈ T₀, p.1 < I) → ∀ m₁ T h tk₀ tk, P vs.length m₁ T tk₀ → tk₀ ≤ tk → (∀ p ∈ T, p.1 ≠ I) → Fr h₀ env.locals h m₁ → News h₀ env.locals h T →
      wpAny (model prog w) A (execs orelse env) (fun f s₃ => R (.ok f) s₃) (notedBy (model prog w) A env fun e s' => R (.error e) s') { s with heap := h, toks := tk }) :
    wpAny (model prog w) A (pyIter (.ref l)) (fun it s₂ => codeAny (model prog w) A (.forLoop target it body orelse env) R s₂) E s := by
  have hol : s.heap.get? l = some (listOf vs.toArray k) := (N _ hl).1
  have hls : s.heap.IsList l vs.toArray := ⟨_, hol, rfl, k, rfl⟩
  have hne : l ≠ s.heap.objs.size := Nat.ne_of_lt (Heap.lt_size hol)
  refine wpAny_pyIter_list hls ?_
  have Wk := Walks.list (prog := prog) (w := w) hh s.heap.objs.size l hne vs.toArray
  have hlen : vs.toArray.size = vs.length := by simp
  rw [hlen] at Wk
  have hlt : ∀ p ∈ T₀, p.1 < s.heap.objs.size := fun p hp => Heap.lt_size (N p hp).1
  refine forM (s := { s with heap := s.heap.push _ }) Wk P T₀ ?_ ?_ (fun i h hs b hb => by obtain ⟨⟨o, ho, _⟩, _⟩ := hs; exact ⟨o, by rw [List.mem_singleton.mp hb]; exact ho⟩) (fun i s' v Q' hs' hq => go_listiter hs'.1 hq) ⟨⟨_, Heap.get?_push_size _ rfl, rfl, rfl⟩, hls.at fun o e => Heap.get?_push_of_some _ e⟩ (F.push _) (fun p hp => ⟨Heap.get?_push_of_some _ (N p hp).1, (N p hp).2⟩) ?_ h0
    (fun i v m₁ T own h tk₀ tk _ hv hP htk hw hown hio => turn _ hlt i v m₁ T own h tk₀ tk (by simpa using hv) hP htk (fun p hp => by simpa using hw p hp) (mfp2 hown) (hio _ (.head _))) (fun m₁ T h tk₀ tk hP htk hw => done _ hlt m₁ T h tk₀ tk hP htk (fun p hp => by simpa using hw p hp))
  · intro hm
    rcases List.mem_cons.mp hm with e | hm
    · exact absurd F.ns.lt (e ▸ Nat.lt_irrefl _)
    · exact (N _ hl).2.1 ((List.mem_singleton.mp hm).symm)
  · intro b hb
    rw [List.mem_singleton.mp hb]
    exact next_is_new F
  · intro p hp hI
    exact Nat.ne_of_lt (hlt p hp) (List.mem_singleton.mp hI)

theorem iterTupleM {l : Addr} {vs : List Value} {k : Nat} {m : Str → Option Value} (P : Nat → (Str → Option Value) → List (Addr × Obj) → Nat → Prop) (T₀ : List (Addr × Obj))
    (hh : A.handled = none) (F : Fr h₀ env.locals s.heap m) (N : News h₀ env.locals s.heap T₀) (hl : (l, tupO vs k) ∈ T₀) (h0 : P 0 m T₀ s.toks)
    (turn : ∀ I, (∀ p ∈ T₀, p.1 < I) → ∀ i v m₁ T own h tk₀ tk, vs[i]? = some v → P i m₁ T tk₀ → tk₀ ≤ tk → (∀ p ∈ T, p.1 ≠ I) → (∀ p ∈ own, p.1 = I ∨ p.1 = l) → (∃ o, (I, o) ∈ own) → Fr h₀ env.locals h m₁ → News h₀ env.locals h (T ++ own) →
      wpAny (model prog w) A (assign target env v) (fun _ s₂ => wpAny (model prog w) A (execs body env) (LmPost h₀ env.locals [I] own (P (i + 1)) R s) (notedBy (model prog w) A env fun e s' => R (.error e) s') s₂) (notedBy (model prog w) A env fun e s' => R (.error e) s') { s with heap := h, toks := tk })
    (done : ∀ I, (∀ p ∈ T₀, p.1 < I) → ∀ m₁ T h tk₀ tk, P vs.length m₁ T tk₀ → tk₀ ≤ tk → (∀ p ∈ T, p.1 ≠ I) → Fr h₀ env.locals h m₁ → News h₀ env.locals h T →
      wpAny (model prog w) A (execs orelse env) (fun f s₃ => R (.ok f) s₃) (notedBy (model prog w) A env fun e s' => R (.error e) s') { s with heap := h, toks := tk }) :
    wpAny (model prog w) A (pyIter (.ref l)) (fun it s₂ => codeAny (model prog w) A (.forLoop target it body orelse env) R s₂) E s := by
  have hol : s.heap.get? l = some (tupO vs k) := (N _ hl).1
  have hls : s.heap.IsTuple l vs.toArray := ⟨_, hol, rfl, k, rfl⟩
  have hne : l ≠ s.heap.objs.size := Nat.ne_of_lt (Heap.lt_size hol)
  refine wpAny_pyIter_tuple hls ?_
  have Wk := Walks.tuple (prog := prog) (w := w) hh s.heap.objs.size l hne vs.toArray
  have hlen : vs.toArray.size = vs.length := by simp
  rw [hlen] at Wk
  have hlt : ∀ p ∈ T₀, p.1 < s.heap.objs.size := fun p hp => Heap.lt_size (N p hp).1
  refine forM (s := { s with heap := s.heap.push _ }) Wk P T₀ ?_ ?_ (fun i h hs b hb => by obtain ⟨⟨o, ho, _⟩, _⟩ := hs; exact ⟨o, by rw [List.mem_singleton.mp hb]; exact ho⟩) (fun i s' v Q' hs' hq => letGo_tupleiter hs'.1 hq) ⟨⟨_, Heap.get?_push_size _ rfl, rfl, rfl⟩, hls.at fun o e => Heap.get?_push_of_some _ e⟩ (F.push _) (fun p hp => ⟨Heap.get?_push_of_some _ (N p hp).1, (N p hp).2⟩) ?_ h0
    (fun i v m₁ T own h tk₀ tk _ hv hP htk hw hown hio => turn _ hlt i v m₁ T own h tk₀ tk (by simpa using hv) hP htk (fun p hp => by simpa using hw p hp) (mfp2 hown) (hio _ (.head _))) (fun m₁ T h tk₀ tk hP htk hw => done _ hlt m₁ T h tk₀ tk hP htk (fun p hp => by simpa using hw p hp))
  · intro hm
    rcases List.mem_cons.mp hm with e | hm
    · exact absurd F.ns.lt (e ▸ Nat.lt_irrefl _)
    · exact (N _ hl).2.1 ((List.mem_singleton.mp hm).symm)
  · intro b hb
    rw [List.mem_singleton.mp hb]
    exact next_is_new F
  · intro p hp hI
    exact Nat.ne_of_lt (hlt p hp) (List.mem_singleton.mp hI)

theorem iterRangeM {r : Addr} {n : Nat} {t₀ u₀ v₀ : Tok} {m : Str → Option Value} (P : Nat → (Str → Option Value) → List (Addr × Obj) → Nat → Prop) (T₀ : List (Addr × Obj))
    (hh : A.handled = none) (hr : IsRange s.heap r 0 (n : Int) 1 t₀ u₀ v₀) (hn : n ≤ 1000) (F : Fr h₀ env.locals s.heap m) (N : News h₀ env.locals s.heap T₀) (h0 : P 0 m T₀ s.toks)
    (turn : ∀ I, (∀ p ∈ T₀, p.1 < I) → ∀ i t m₁ T own h tk₀ tk, i < n → P i m₁ T tk₀ → tk₀ ≤ tk → (∀ p ∈ T, p.1 ≠ I) → (∀ p ∈ own, p.1 = I) → (∃ o, (I, o) ∈ own) → Fr h₀ env.locals h m₁ → News h₀ env.locals h (T ++ own) →
      wpAny (model prog w) A (assign target env (.int (i : Int) t)) (fun _ s₂ => wpAny (model prog w) A (execs body env) (LmPost h₀ env.locals [I] own (P (i + 1)) R s) (notedBy (model prog w) A env fun e s' => R (.error e) s') s₂) (notedBy (model prog w) A env fun e s' => R (.error e) s') { s with heap := h, toks := tk })
    (done : ∀ I, (∀ p ∈ T₀, p.1 < I) → ∀ m₁ T h tk₀ tk, P n m₁ T tk₀ → tk₀ ≤ tk → (∀ p ∈ T, p.1 ≠ I) → Fr h₀ env.locals h m₁ → News h₀ env.locals h T →
      wpAny (model prog w) A (execs orelse env) (fun f s₃ => R (.ok f) s₃) (notedBy (model prog w) A env fun e s' => R (.error e) s') { s with heap := h, toks := tk }) :
    wpAny (model prog w) A (pyIter (.ref r)) (fun it s₂ => codeAny (model prog w) A (.forLoop target it body orelse env) R s₂) E s := by
  have hsmall : Builtin.Range.small 0 (n : Int) 1 = true := small_one (by decide) (by decide) (by omega) (by omega)
  have hsz : Builtin.Range.rangeSize 0 (n : Int) 1 = (n : Int) := by
    simp [Builtin.Range.rangeSize]; omega
  refine wpAny_pyIter_range hr hsmall ?_
  have hlt : ∀ p ∈ T₀, p.1 < s.heap.objs.size := fun p hp => Heap.lt_size (N p hp).1
  have W : Walks prog w A s.heap.objs.size [s.heap.objs.size] [s.heap.objs.size] n (fun i v => ∃ t, v = .int (0 + i * 1) t)
      (fun i h => IsRangeIter h s.heap.objs.size (0 + (i : Nat) * 1) ((n : Int) - (i : Nat)) 1) := Walks.range hh _ 0 1 n
  refine forM (s := { s with heap := s.heap.push _ }) W P T₀ ?_ ?_ (fun i h hs b hb => by rw [List.mem_singleton.mp hb]; exact ⟨_, hs⟩) (fun i s' v Q' hs' hq => go_any hs' ⟨_, _, rfl, rfl, by decide⟩ hq) (by show IsRangeIter _ _ _ _ _; rw [hsz]; simpa using Heap.get?_push_size _ rfl) (F.push _) (fun p hp => ⟨Heap.get?_push_of_some _ (N p hp).1, (N p hp).2⟩) ?_ h0
    (fun i v m₁ T own h tk₀ tk hi hv hP htk hw hown hio => ?_) (fun m₁ T h tk₀ tk hP htk hw => done _ hlt m₁ T h tk₀ tk hP htk (fun p hp => by simpa using hw p hp))
  · intro hm
    exact absurd F.ns.lt ((List.mem_singleton.mp hm) ▸ Nat.lt_irrefl _)
  · intro b hb
    rw [List.mem_singleton.mp hb]
    exact next_is_new F
  · intro p hp hI
    exact Nat.ne_of_lt (hlt p hp) (List.mem_singleton.mp hI)
  · obtain ⟨t, rfl⟩ := hv
    rw [show (0 : Int) + (i : Int) * 1 = (i : Int) by omega]
    exact turn _ hlt i t m₁ T own h tk₀ tk hi hP htk (fun p hp => by simpa using hw p hp) (fun p hp => List.mem_singleton.mp (hown p hp)) (hio _ (.head _))

theorem iterDictM {K : Type} [DecidableEq K] {knd : KeyKind prog w K} {l : Addr} {o : Obj} {kvs : List (K × Value)} {m : Str → Option Value} (P : Nat → (Str → Option Value) → List (Addr × Obj) → Nat → Prop) (T₀ : List (Addr × Obj))
    (hh : A.handled = none) (F : Fr h₀ env.locals s.heap m) (N : News h₀ env.locals s.heap T₀) (hl : (l, o) ∈ T₀) (hd : o.IsDictOf knd kvs) (lo : (l == sysModules) = false) (h0 : P 0 m T₀ s.toks)
    (turn : ∀ I, (∀ p ∈ T₀, p.1 < I) → ∀ i k x v m₁ T own h tk₀ tk, kvs[i]? = some (k, x) → knd.is k v = true → P i m₁ T tk₀ → tk₀ ≤ tk → (∀ p ∈ T, p.1 ≠ I) → (∀ p ∈ own, p.1 = I ∨ p.1 = l) → (∃ o, (I, o) ∈ own) → Fr h₀ env.locals h m₁ → News h₀ env.locals h (T ++ own) →
      wpAny (model prog w) A (assign target env v) (fun _ s₂ => wpAny (model prog w) A (execs body env) (LmPost h₀ env.locals [I] own (P (i + 1)) R s) (notedBy (model prog w) A env fun e s' => R (.error e) s') s₂) (notedBy (model prog w) A env fun e s' => R (.error e) s') { s with heap := h, toks := tk })
    (done : ∀ I, (∀ p ∈ T₀, p.1 < I) → ∀ m₁ T h tk₀ tk, P kvs.length m₁ T tk₀ → tk₀ ≤ tk → (∀ p ∈ T, p.1 ≠ I) → Fr h₀ env.locals h m₁ → News h₀ env.locals h T →
      wpAny (model prog w) A (execs orelse env) (fun f s₃ => R (.ok f) s₃) (notedBy (model prog w) A env fun e s' => R (.error e) s') { s with heap := h, toks := tk }) :
    wpAny (model prog w) A (pyIter (.ref l)) (fun it s₂ => codeAny (model prog w) A (.forLoop target it body orelse env) R s₂) E s := by
  obtain ⟨ep, hat⟩ := KdkAt.of hd
  have hol : s.heap.get? l = some o := (N _ hl).1
  have hls : s.heap.DictAt knd l kvs ep := hat.dictAt hol
  have hne : l ≠ s.heap.objs.size := Nat.ne_of_lt (Heap.lt_size hol)
  refine wpAny_pyIter_dict lo hls ?_
  have Wk := Walks.dictKeys (prog := prog) (w := w) (knd := knd) hh s.heap.objs.size l hne kvs ep
  have hlt : ∀ p ∈ T₀, p.1 < s.heap.objs.size := fun p hp => Heap.lt_size (N p hp).1
  refine forM (s := { s with heap := s.heap.push _ }) Wk P T₀ ?_ ?_ (fun i h hs b hb => by obtain ⟨⟨o, ho, _⟩, _⟩ := hs; exact ⟨o, by rw [List.mem_singleton.mp hb]; exact ho⟩) (fun i s' v Q' hs' hq => ?_) ⟨⟨_, Heap.get?_push_size _ rfl, rfl, rfl⟩, hls.at' fun o e => Heap.get?_push_of_some _ e⟩ (F.push _) (fun p hp => ⟨Heap.get?_push_of_some _ (N p hp).1, (N p hp).2⟩) ?_ h0
    (fun i v m₁ T own h tk₀ tk _ ⟨k, x, hv, hk⟩ hP htk hw hown hio => turn _ hlt i k x v m₁ T own h tk₀ tk hv hk hP htk (fun p hp => by simpa using hw p hp) (mfp2 hown) (hio _ (.head _))) (fun m₁ T h tk₀ tk hP htk hw => done _ hlt m₁ T h tk₀ tk hP htk (fun p hp => by simpa using hw p hp))
  · intro hm
    rcases List.mem_cons.mp hm with e | hm
    · exact absurd F.ns.lt (e ▸ Nat.lt_irrefl _)
    · exact (N _ hl).2.1 ((List.mem_singleton.mp hm).symm)
  · intro b hb
    rw [List.mem_singleton.mp hb]
    exact next_is_new F
  · refine hideG fun kG => ?_
    obtain ⟨⟨o', ho', hc, hdd⟩, _⟩ := hs'
    refine kG ?_
    clear kG
    exact go_any ho' ⟨_, _, hc, hdd, by decide⟩ hq
  · intro p hp hI
    exact Nat.ne_of_lt (hlt p hp) (List.mem_singleton.mp hI)
end loops
section
variable {prog : Program} {w : World} {A : Around} {E : Value → Shared → Prop} {s : Shared} {h₀ : Heap} {L : Addr} {news : List (Addr × Obj)} {Q : Value → Shared → Prop}
theorem lenT_led {l : Addr} {vs : List Value} {k : Nat} (N : News h₀ L s.heap news) (hm : (l, tupO vs k) ∈ news) (hz : vs.length ≤ 1000) (h : Q (.int vs.length (s.toks + 1)) { s with toks := s.toks + 1 + 1 }) :
    wpAny (model prog w) A (call (.builtin "len") [.ref l]) Q E s :=
  len_tuple ⟨_, (N _ hm).1, rfl, k, rfl⟩ (by simp; omega) (by simpa using h)
end

noncomputable abbrev infO (d : Addr) (x : Int) (tx : Tok) (v : Int) (tv : Tok) (sl : Addr) : Obj := { cls := .ref 40, dict := some d, slots := #[some (.int x tx), some (.int v tv), some (.ref sl)] }
inductive Tg
  | inst | dict | n2i | ready
  | info (x : Int) | succ (x : Int) | idict (x : Int)
/-- a sorter: where it lies, what it holds -/
structure SS where
  sa : Addr
  da : Addr
  na : Addr
  rows : List (Int × Addr × Addr)
  np : Int → Int
  sc : Int → List Int
  rd : Option (Addr × List Int)
  po : Int
  fi : Int
  tag : Addr → Option Tg
noncomputable def rdv : Option (Addr × List Int) → Value
  | none => .none
  | some (a, _) => .ref a
structure Srt (prog : Program) (w : World) (T : List (Addr × Obj)) (S : SS) : Prop where
  inst : (S.sa, instObj 137 S.da) ∈ T
  dict : ∃ k1 k2 k3 k4 t1 t2, (S.da, srtO w k1 k2 k3 k4 S.na (rdv S.rd) (.int S.po t1) (.int S.fi t2)) ∈ T
  n2i : ∃ o, (S.na, o) ∈ T ∧ o.IsDictOf (intKind prog w) (S.rows.map fun r => (r.1, .ref r.2.1))
  nosys : (S.na == sysModules) = false
  node : ∀ r ∈ S.rows, ∃ d tx tv, (r.2.1, infO d r.1 tx (S.np r.1) tv r.2.2) ∈ T ∧ (d, dictOf [] 0) ∈ T ∧ S.tag d = some (.idict r.1)
  succ : ∀ r ∈ S.rows, ∃ vs k, (r.2.2, listOf vs.toArray k) ∈ T ∧ IntsAre vs (S.sc r.1)
  ready : ∀ ra l, S.rd = some (ra, l) → ∃ vs k, (ra, listOf vs.toArray k) ∈ T ∧ IntsAre vs l
  keys : (S.rows.map (·.1)).Nodup
  tsa : S.tag S.sa = some .inst
  tda : S.tag S.da = some .dict
  tna : S.tag S.na = some .n2i
  trd : ∀ ra l, S.rd = some (ra, l) → S.tag ra = some .ready
  tnode : ∀ r ∈ S.rows, S.tag r.2.1 = some (.info r.1) ∧ S.tag r.2.2 = some (.succ r.1)
  dom : ∀ a, S.tag a ≠ none → ∃ o, (a, o) ∈ T
noncomputable def Keep (S : SS) (T : List (Addr × Obj)) (S' : SS) (T' : List (Addr × Obj)) : Prop := ∀ p ∈ T, S.tag p.1 = none → p ∈ T' ∧ S'.tag p.1 = none
theorem Keep.refl (S : SS) (T : List (Addr × Obj)) : Keep S T S T := fun _ h e => ⟨h, e⟩
theorem Keep.trans {S S' S'' : SS} {T T' T'' : List (Addr × Obj)} (h : Keep S T S' T') (k : Keep S' T' S'' T'') : Keep S T S'' T'' := fun p hp e => k p (h p hp e).1 (h p hp e).2
noncomputable def SS.setNp (S : SS) (x v : Int) : SS := { S with np := fun z => if z = x then v else S.np z }
noncomputable def SS.setSc (S : SS) (x : Int) (l : List Int) : SS := { S with sc := fun z => if z = x then l else S.sc z }
noncomputable def SS.addRow (S : SS) (x : Int) (ia sl d : Addr) : SS := { S with rows := S.rows ++ [(x, ia, sl)], tag := fun a => if a = ia then some (.info x) else if a = sl then some (.succ x) else if a = d then some (.idict x) else S.tag a }
noncomputable def SS.setRd (S : SS) (ra : Addr) (l : List Int) : SS := { S with rd := some (ra, l) }
noncomputable def SS.newRd (S : SS) (ra : Addr) (l : List Int) : SS := { S with rd := some (ra, l), tag := fun a => if a = ra then some .ready else S.tag a }
noncomputable def SS.setPo (S : SS) (v : Int) : SS := { S with po := v }
noncomputable def SS.setFi (S : SS) (v : Int) : SS := { S with fi := v }
section
variable {prog : Program} {w : World} {T T' : List (Addr × Obj)} {S : SS}
theorem Srt.sub (h : Srt prog w T S) (k : ∀ p ∈ T, S.tag p.1 ≠ none → p ∈ T') : Srt prog w T' S where
  inst := k _ h.inst (by rw [h.tsa]; simp)
  dict := let ⟨k1, k2, k3, k4, t1, t2, e⟩ := h.dict; ⟨k1, k2, k3, k4, t1, t2, k _ e (by rw [h.tda]; simp)⟩
  n2i := let ⟨o, e, r⟩ := h.n2i; ⟨o, k _ e (by rw [h.tna]; simp), r⟩
  nosys := h.nosys
  node := fun r hr => let ⟨d, tx, tv, e, e2, e3⟩ := h.node r hr; ⟨d, tx, tv, k _ e (by rw [(h.tnode r hr).1]; simp), k _ e2 (by rw [e3]; simp), e3⟩
  succ := fun r hr => let ⟨vs, n, e, i⟩ := h.succ r hr; ⟨vs, n, k _ e (by rw [(h.tnode r hr).2]; simp), i⟩
  ready := fun ra l e => let ⟨vs, n, e', i⟩ := h.ready ra l e; ⟨vs, n, k _ e' (by rw [h.trd ra l e]; simp), i⟩
  keys := h.keys
  tsa := h.tsa
  tda := h.tda
  tna := h.tna
  trd := h.trd
  tnode := h.tnode
  dom := fun a ha => let ⟨o, e⟩ := h.dom a ha; ⟨o, k _ e ha⟩
theorem Srt.mono (h : Srt prog w T S) (k : ∀ p ∈ T, p ∈ T') : Srt prog w T' S := h.sub fun p hp _ => k p hp
theorem Srt.offI {I : Addr} (h : Srt prog w T S) (hI : S.tag I = none) : Srt prog w (off I T) S := h.sub fun p hp e => mem_off.mpr ⟨hp, fun q => e (q ▸ hI)⟩
theorem Srt.fresh {I : Addr} (h : Srt prog w T S) (hI : ∀ p ∈ T, p.1 ≠ I) : S.tag I = none := by
  cases e : S.tag I with
  | none => rfl
  | some t =>
    obtain ⟨o, ho⟩ := h.dom I (by rw [e]; simp)
    exact absurd rfl (hI _ ho)
theorem Srt.row (h : Srt prog w T S) {r r' : Int × Addr × Addr} (hr : r ∈ S.rows) (hr' : r' ∈ S.rows) (e : r.1 = r'.1) : r = r' := by
  have := h.keys
  generalize S.rows = rs at *
  induction rs with
  | nil => cases hr
  | cons a l ih =>
    have hn := List.nodup_cons.mp this
    rcases List.mem_cons.mp hr with h1 | h1
    · rcases List.mem_cons.mp hr' with h2 | h2
      · rw [h1, h2]
      · exact absurd (List.mem_map.mpr ⟨r', h2, by rw [← e, h1]⟩) hn.1
    · rcases List.mem_cons.mp hr' with h2 | h2
      · exact absurd (List.mem_map.mpr ⟨r, h1, by rw [e, h2]⟩) hn.1
      · exact ih h1 h2 hn.2
theorem Srt.getRow (h : Srt prog w T S) {x : Int} (hx : x ∈ S.rows.map (·.1)) : ∃ ia sl, (x, ia, sl) ∈ S.rows ∧ valueAt (S.rows.map fun r => (r.1, Value.ref r.2.1)) x = some (.ref ia) := by
  have hk := h.keys
  clear h
  generalize S.rows = rs at *
  induction rs with
  | nil => cases hx
  | cons a l ih =>
    have hn := List.nodup_cons.mp hk
    by_cases e : a.1 = x
    · subst e
      refine ⟨a.2.1, a.2.2, .head _, ?_⟩
      simp [valueAt]
    · have hx' : x ∈ l.map (·.1) := by
        rcases List.mem_cons.mp hx with h1 | h1
        · exact absurd h1.symm e
        · exact h1
      obtain ⟨ia, sl, h1, h2⟩ := ih hx' hn.2
      refine ⟨ia, sl, .tail _ h1, ?_⟩
      rw [← h2]
      simp [valueAt, e]
theorem Srt.noRow (h : Srt prog w T S) {x : Int} (hx : x ∉ S.rows.map (·.1)) : valueAt (S.rows.map fun r => (r.1, Value.ref r.2.1)) x = none := by
  simp only [valueAt, Option.map_eq_none_iff, List.find?_eq_none]
  intro p hp
  obtain ⟨r, hr, rfl⟩ := List.mem_map.mp hp
  intro e
  exact hx (List.mem_map.mpr ⟨r, hr, by simpa using e⟩)
theorem stored_new {kvs : List (Int × Value)} {x : Int} {v : Value} (h : valueAt kvs x = none) : stored kvs x v = kvs ++ [(x, v)] := by
  unfold stored
  rw [if_neg]
  intro ha
  obtain ⟨p, hp, e⟩ := List.any_eq_true.mp ha
  simp only [valueAt, Option.map_eq_none_iff, List.find?_eq_none] at h
  exact h p hp e
/-- what a ledger keeps when one thing of the sorter is another -/
theorem keep_off {a : Addr} {o : Obj} {S S' : SS} {t : Tg} (ht : S.tag a = some t) (hS : S'.tag = S.tag) : Keep S T S' ((a, o) :: off a T) := fun p hp e =>
  ⟨.tail _ (mem_off.mpr ⟨hp, fun q => by rw [q, ht] at e; cases e⟩), by rw [hS]; exact e⟩
theorem tag_ne {tag : Addr → Option Tg} {a b : Addr} {x y : Option Tg} (h1 : tag a = x) (h2 : tag b = y) (h : x ≠ y) : a ≠ b := fun e => h (by rw [← h1, ← h2, e])
theorem dom_off {tag : Addr → Option Tg} {a : Addr} {o : Obj} (h : ∀ a, tag a ≠ none → ∃ o, (a, o) ∈ T) : ∀ b, tag b ≠ none → ∃ o', (b, o') ∈ (a, o) :: off a T := fun b hb => by
  by_cases e : b = a
  · exact ⟨o, e ▸ .head _⟩
  · obtain ⟨o', h'⟩ := h b hb
    exact ⟨o', .tail _ (mem_off.mpr ⟨h', e⟩)⟩
theorem Srt.setNp (h : Srt prog w T S) {x : Int} {ia sl : Addr} (hr : (x, ia, sl) ∈ S.rows) {d : Addr} (hd : (d, dictOf [] 0) ∈ T) (hdt : S.tag d = some (.idict x)) (tx : Tok) (v : Int) (tv : Tok) : Srt prog w ((ia, infO d x tx v tv sl) :: off ia T) (S.setNp x v) := by
  have ht := (h.tnode _ hr).1
  have k : ∀ {b : Addr} {o : Obj} {t : Tg}, (b, o) ∈ T → S.tag b = some t → t ≠ .info x → (b, o) ∈ (ia, infO d x tx v tv sl) :: off ia T := fun hm hb hne =>
    .tail _ (mem_off.mpr ⟨hm, tag_ne hb ht fun e => hne (Option.some.inj e)⟩)
  exact {
    inst := k h.inst h.tsa (fun e => nomatch e)
    dict := let ⟨k1, k2, k3, k4, t1, t2, e⟩ := h.dict; ⟨k1, k2, k3, k4, t1, t2, k e h.tda (fun e => nomatch e)⟩
    n2i := let ⟨o, e, r⟩ := h.n2i; ⟨o, k e h.tna (fun e => nomatch e), r⟩
    nosys := h.nosys
    node := fun r hr' => by
      by_cases e : r.1 = x
      · have := h.row hr' hr e
        subst this
        refine ⟨d, tx, tv, ?_, k hd hdt (fun e => nomatch e), hdt⟩
        rw [show (S.setNp x v).np (x, ia, sl).1 = v by simp [SS.setNp]]
        exact .head _
      · obtain ⟨d', tx', tv', hm, hm2, hm3⟩ := h.node r hr'
        refine ⟨d', tx', tv', ?_, k hm2 hm3 (fun e => nomatch e), hm3⟩
        rw [show (S.setNp x v).np r.1 = S.np r.1 by simp [SS.setNp, e]]
        exact k hm (h.tnode r hr').1 (fun q => by cases q; exact e rfl)
    succ := fun r hr' => let ⟨vs, n, e, i⟩ := h.succ r hr'; ⟨vs, n, k e (h.tnode r hr').2 (fun e => nomatch e), i⟩
    ready := fun ra l e => let ⟨vs, n, e', i⟩ := h.ready ra l e; ⟨vs, n, k e' (h.trd ra l e) (fun e => nomatch e), i⟩
    keys := h.keys
    tsa := h.tsa
    tda := h.tda
    tna := h.tna
    trd := h.trd
    tnode := h.tnode
    dom := dom_off h.dom }
theorem Srt.setSc (h : Srt prog w T S) {x : Int} {ia sl : Addr} (hr : (x, ia, sl) ∈ S.rows) {vs : List Value} {k : Nat} {l : List Int} (hi : IntsAre vs l) : Srt prog w ((sl, listOf vs.toArray k) :: off sl T) (S.setSc x l) := by
  have ht := (h.tnode _ hr).2
  have k : ∀ {b : Addr} {o : Obj} {t : Tg}, (b, o) ∈ T → S.tag b = some t → t ≠ .succ x → (b, o) ∈ (sl, listOf vs.toArray k) :: off sl T := fun hm hb hne =>
    .tail _ (mem_off.mpr ⟨hm, tag_ne hb ht fun e => hne (Option.some.inj e)⟩)
  exact {
    inst := k h.inst h.tsa (fun e => nomatch e)
    dict := let ⟨k1, k2, k3, k4, t1, t2, e⟩ := h.dict; ⟨k1, k2, k3, k4, t1, t2, k e h.tda (fun e => nomatch e)⟩
    n2i := let ⟨o, e, r⟩ := h.n2i; ⟨o, k e h.tna (fun e => nomatch e), r⟩
    nosys := h.nosys
    node := fun r hr' => let ⟨d, tx, tv, e, e2, e3⟩ := h.node r hr'; ⟨d, tx, tv, k e (h.tnode r hr').1 (fun e => nomatch e), k e2 e3 (fun e => nomatch e), e3⟩
    succ := fun r hr' => by
      by_cases e : r.1 = x
      · have := h.row hr' hr e
        subst this
        refine ⟨vs, _, .head _, ?_⟩
        rw [show (S.setSc x l).sc (x, ia, sl).1 = l by simp [SS.setSc]]
        exact hi
      · obtain ⟨vs', n, hm, i⟩ := h.succ r hr'
        refine ⟨vs', n, k hm (h.tnode r hr').2 (fun q => by cases q; exact e rfl), ?_⟩
        rw [show (S.setSc x l).sc r.1 = S.sc r.1 by simp [SS.setSc, e]]
        exact i
    ready := fun ra l e => let ⟨vs, n, e', i⟩ := h.ready ra l e; ⟨vs, n, k e' (h.trd ra l e) (fun e => nomatch e), i⟩
    keys := h.keys
    tsa := h.tsa
    tda := h.tda
    tna := h.tna
    trd := h.trd
    tnode := h.tnode
    dom := dom_off h.dom }
/-- the sorter's own dict is written anew -/
theorem Srt.setDa (h : Srt prog w T S) (S' : SS) (k1 k2 k3 k4 t1 t2 : Tok) (hS : S'.sa = S.sa ∧ S'.da = S.da ∧ S'.na = S.na ∧ S'.rows = S.rows ∧ S'.np = S.np ∧ S'.sc = S.sc ∧ S'.tag = S.tag ∧ S'.rd = S.rd) :
    Srt prog w ((S.da, srtO w k1 k2 k3 k4 S.na (rdv S.rd) (.int S'.po t1) (.int S'.fi t2)) :: off S.da T) S' := by
  have ht := h.tda
  obtain ⟨sa, da, na, rows, np, sc, rd, po, fi, tag⟩ := S'
  dsimp only at hS
  obtain ⟨rfl, rfl, rfl, rfl, rfl, rfl, rfl, rfl⟩ := hS
  have k : ∀ {b : Addr} {o o' : Obj} {t : Tg}, (b, o) ∈ T → S.tag b = some t → t ≠ .dict → (b, o) ∈ (S.da, o') :: off S.da T := fun hm hb hne =>
    .tail _ (mem_off.mpr ⟨hm, tag_ne hb ht fun e => hne (Option.some.inj e)⟩)
  exact {
    inst := k h.inst h.tsa (fun e => nomatch e)
    dict := ⟨k1, k2, k3, k4, t1, t2, .head _⟩
    n2i := let ⟨o, e, r⟩ := h.n2i; ⟨o, k e h.tna (fun e => nomatch e), r⟩
    nosys := h.nosys
    node := fun r hr' => let ⟨d, tx, tv, e, e2, e3⟩ := h.node r hr'; ⟨d, tx, tv, k e (h.tnode r hr').1 (fun e => nomatch e), k e2 e3 (fun e => nomatch e), e3⟩
    succ := fun r hr' => let ⟨vs, n, e, i⟩ := h.succ r hr'; ⟨vs, n, k e (h.tnode r hr').2 (fun e => nomatch e), i⟩
    ready := fun ra l e => let ⟨vs, n, e', i⟩ := h.ready ra l e; ⟨vs, n, k e' (h.trd ra l e) (fun e => nomatch e), i⟩
    keys := h.keys
    tsa := h.tsa
    tda := h.tda
    tna := h.tna
    trd := h.trd
    tnode := h.tnode
    dom := dom_off h.dom }
/-- the ready list is another -/
theorem Srt.setRd (h : Srt prog w T S) {ra : Addr} {l₀ : List Int} (hrd : S.rd = some (ra, l₀)) {vs : List Value} {k : Nat} {l : List Int} (hi : IntsAre vs l) : Srt prog w ((ra, listOf vs.toArray k) :: off ra T) (S.setRd ra l) := by
  have ht := h.trd _ _ hrd
  have k : ∀ {b : Addr} {o : Obj} {t : Tg}, (b, o) ∈ T → S.tag b = some t → t ≠ .ready → (b, o) ∈ (ra, listOf vs.toArray k) :: off ra T := fun hm hb hne =>
    .tail _ (mem_off.mpr ⟨hm, tag_ne hb ht fun e => hne (Option.some.inj e)⟩)
  exact {
    inst := k h.inst h.tsa (fun e => nomatch e)
    dict := let ⟨k1, k2, k3, k4, t1, t2, e⟩ := h.dict; ⟨k1, k2, k3, k4, t1, t2, by
      have e' := k e h.tda (fun e => nomatch e)
      rw [hrd] at e'
      exact e'⟩
    n2i := let ⟨o, e, r⟩ := h.n2i; ⟨o, k e h.tna (fun e => nomatch e), r⟩
    nosys := h.nosys
    node := fun r hr' => let ⟨d, tx, tv, e, e2, e3⟩ := h.node r hr'; ⟨d, tx, tv, k e (h.tnode r hr').1 (fun e => nomatch e), k e2 e3 (fun e => nomatch e), e3⟩
    succ := fun r hr' => let ⟨vs, n, e, i⟩ := h.succ r hr'; ⟨vs, n, k e (h.tnode r hr').2 (fun e => nomatch e), i⟩
    ready := fun ra' l' e => by cases e; exact ⟨vs, _, .head _, hi⟩
    keys := h.keys
    tsa := h.tsa
    tda := h.tda
    tna := h.tna
    trd := fun ra' l' e => by cases e; exact ht
    tnode := h.tnode
    dom := dom_off h.dom }
/-- a ready list is laid -/
theorem Srt.newRd (h : Srt prog w T S) {ra : Addr} (k1 k2 k3 k4 t1 t2 : Tok) {vs : List Value} {k : Nat} {l : List Int} (hrd : S.rd = none) (hra : S.tag ra = none) (hm : (ra, listOf vs.toArray k) ∈ T) (hi : IntsAre vs l) :
    Srt prog w ((S.da, srtO w k1 k2 k3 k4 S.na (.ref ra) (.int S.po t1) (.int S.fi t2)) :: off S.da T) (S.newRd ra l) := by
  have ht := h.tda
  have k : ∀ {b : Addr} {o o' : Obj} {t : Tg}, (b, o) ∈ T → S.tag b = some t → t ≠ .dict → (b, o) ∈ (S.da, o') :: off S.da T := fun hm hb hne =>
    .tail _ (mem_off.mpr ⟨hm, tag_ne hb ht fun e => hne (Option.some.inj e)⟩)
  have tg : ∀ {b : Addr} {t : Tg}, S.tag b = some t → (S.newRd ra l).tag b = some t := fun {b t} hb => by
    have : ¬ b = ra := fun e => by rw [e, hra] at hb; cases hb
    simp [SS.newRd, this, hb]
  exact {
    inst := k h.inst h.tsa (fun e => nomatch e)
    dict := ⟨k1, k2, k3, k4, t1, t2, .head _⟩
    n2i := let ⟨o, e, r⟩ := h.n2i; ⟨o, k e h.tna (fun e => nomatch e), r⟩
    nosys := h.nosys
    node := fun r hr' => let ⟨d, tx, tv, e, e2, e3⟩ := h.node r hr'; ⟨d, tx, tv, k e (h.tnode r hr').1 (fun e => nomatch e), k e2 e3 (fun e => nomatch e), tg e3⟩
    succ := fun r hr' => let ⟨vs, n, e, i⟩ := h.succ r hr'; ⟨vs, n, k e (h.tnode r hr').2 (fun e => nomatch e), i⟩
    ready := fun ra' l' e => by
      cases e
      exact ⟨vs, _, .tail _ (mem_off.mpr ⟨hm, fun q => by rw [show ra = S.da from q, ht] at hra; cases hra⟩), hi⟩
    keys := h.keys
    tsa := tg h.tsa
    tda := tg h.tda
    tna := tg h.tna
    trd := fun ra' l' e => by cases e; simp [SS.newRd]
    tnode := fun r hr => ⟨tg (h.tnode r hr).1, tg (h.tnode r hr).2⟩
    dom := fun a ha => by
      by_cases e : a = ra
      · subst e
        exact ⟨_, .tail _ (mem_off.mpr ⟨hm, fun q => by rw [show a = S.da from q, ht] at hra; cases hra⟩)⟩
      · exact dom_off h.dom a (by simpa [SS.newRd, e] using ha) }
/-- a node is laid -/
theorem Srt.addRow (h : Srt prog w T S) {o' : Obj} {x : Int} {ia sl d : Addr} {tx tv : Tok} (hx : x ∉ S.rows.map (·.1)) (hia : S.tag ia = none) (hsl : S.tag sl = none) (hdt : S.tag d = none) (hne : ia ≠ sl) (hne2 : d ≠ ia) (hne3 : d ≠ sl) (hnp : S.np x = 0) (hsc : S.sc x = [])
    (h1 : (ia, infO d x tx 0 tv sl) ∈ T) (h2 : (sl, listOf #[] 0) ∈ T) (h3 : (d, dictOf [] 0) ∈ T) (ho : o'.IsDictOf (intKind prog w) (stored (S.rows.map fun r => (r.1, .ref r.2.1)) x (.ref ia))) :
    Srt prog w ((S.na, o') :: off S.na T) (S.addRow x ia sl d) := by
  have ht := h.tna
  have k : ∀ {b : Addr} {o o' : Obj} {t : Tg}, (b, o) ∈ T → S.tag b = some t → t ≠ .n2i → (b, o) ∈ (S.na, o') :: off S.na T := fun hm hb hne =>
    .tail _ (mem_off.mpr ⟨hm, tag_ne hb ht fun e => hne (Option.some.inj e)⟩)
  have kn : ∀ {b : Addr} {o o' : Obj}, (b, o) ∈ T → S.tag b = none → (b, o) ∈ (S.na, o') :: off S.na T := fun hm hb =>
    .tail _ (mem_off.mpr ⟨hm, tag_ne hb ht fun e => nomatch e⟩)
  have tg : ∀ {b : Addr} {t : Tg}, S.tag b = some t → (S.addRow x ia sl d).tag b = some t := fun {b t} hb => by
    have e1 : ¬ b = ia := fun e => by rw [e, hia] at hb; cases hb
    have e2 : ¬ b = sl := fun e => by rw [e, hsl] at hb; cases hb
    have e3 : ¬ b = d := fun e => by rw [e, hdt] at hb; cases hb
    simp [SS.addRow, e1, e2, e3, hb]
  have hrow : ∀ {r}, r ∈ (S.addRow x ia sl d).rows → r ∈ S.rows ∨ r = (x, ia, sl) := fun {r} hr => by
    rcases List.mem_append.mp (show r ∈ S.rows ++ [(x, ia, sl)] from hr) with e | e
    · exact .inl e
    · exact .inr (List.mem_singleton.mp e)
  exact {
    inst := k h.inst h.tsa (fun e => nomatch e)
    dict := let ⟨k1, k2, k3, k4, t1, t2, e⟩ := h.dict; ⟨k1, k2, k3, k4, t1, t2, k e h.tda (fun e => nomatch e)⟩
    n2i := ⟨o', .head _, by
      rw [stored_new (h.noRow hx)] at ho
      simpa [SS.addRow] using ho⟩
    nosys := h.nosys
    node := fun r hr => by
      rcases hrow hr with hr' | e
      · obtain ⟨d', tx', tv', hm, hm2, hm3⟩ := h.node r hr'
        exact ⟨d', tx', tv', k hm (h.tnode r hr').1 (fun e => nomatch e), k hm2 hm3 (fun e => nomatch e), tg hm3⟩
      · subst e
        refine ⟨d, tx, tv, ?_, kn h3 hdt, by simp [SS.addRow, hne2, hne3]⟩
        rw [show (S.addRow x ia sl d).np (x, ia, sl).1 = 0 from hnp]
        exact kn h1 hia
    succ := fun r hr => by
      rcases hrow hr with hr' | e
      · obtain ⟨vs, n, hm, i⟩ := h.succ r hr'
        exact ⟨vs, n, k hm (h.tnode r hr').2 (fun e => nomatch e), i⟩
      · subst e
        refine ⟨[], 0, kn h2 hsl, ?_⟩
        rw [show (S.addRow x ia sl d).sc (x, ia, sl).1 = [] from hsc]
        exact .nil
    ready := fun ra l e => let ⟨vs, n, e', i⟩ := h.ready ra l e; ⟨vs, n, k e' (h.trd ra l e) (fun e => nomatch e), i⟩
    keys := by
      show ((S.rows ++ [(x, ia, sl)]).map (·.1)).Nodup
      rw [List.map_append, List.nodup_append]
      refine ⟨h.keys, by simp, fun a ha b hb => ?_⟩
      have : b = x := by simpa using hb
      subst this
      exact fun e => hx (e ▸ ha)
    tsa := tg h.tsa
    tda := tg h.tda
    tna := tg h.tna
    trd := fun ra l e => tg (h.trd ra l e)
    tnode := fun r hr => by
      rcases hrow hr with hr' | e
      · exact ⟨tg (h.tnode r hr').1, tg (h.tnode r hr').2⟩
      · subst e
        simp [SS.addRow, Ne.symm hne]
    dom := fun a ha => by
      by_cases e : a = ia
      · subst e; exact ⟨_, kn h1 hia⟩
      · by_cases e2 : a = sl
        · subst e2; exact ⟨_, kn h2 hsl⟩
        · by_cases e3 : a = d
          · subst e3; exact ⟨_, kn h3 hdt⟩
          · exact dom_off h.dom a (by simpa [SS.addRow, e, e2, e3] using ha) }
end

section
open PySem PySem.W PyProof.Rows PySem.Calls
theorem meets_bool_new_list (l : Addr) (items : Array Value) (hfit : (items.size : Int) < 2 ^ 63) :
    Meets (Builtin.«bool.__new__» ⟨[.type "bool", .ref l], []⟩) (fun _ R s => s.heap.IsList l items ∧ R (.ok (.ret (.bool (!items.isEmpty)))) { s with toks := s.toks + 1 + 1 }) :=
  Meets.of_wp fun prog w A R s hs => by
    refine hideG fun kG => ?_
    obtain ⟨hp, g, d, tk, os⟩ := s
    obtain ⟨hl, hs⟩ := hs
    refine kG ?_
    clear kG
    have f1 := F.conv_sub_bool
    repeat (any_goals (first | assumption | (with_reducible refine wpAny_truthy_list hl hfit ?_) | wp_step))
    all_goals first | exact ⟨_, rfl, hs⟩ | exact hs | skip
section
variable {prog : Program} {w : World} {A : Around} {E : Value → Shared → Prop} {s : Shared} {h₀ : Heap} {L : Addr} {m : Str → Option Value} {news : List (Addr × Obj)} {Q : Value → Shared → Prop}
theorem boolL_led {l : Addr} {vs : List Value} {k : Nat} (N : News h₀ L s.heap news) (hm : (l, listOf vs.toArray k) ∈ news) (hz : vs.length ≤ 1000) (h : Q (.bool (decide (vs ≠ []))) { s with toks := s.toks + 1 + 1 }) :
    wpAny (model prog w) A (call (.type "bool") [.ref l]) Q E s := by
  refine call_bool_1 (meets_bool_new_list l vs.toArray (by simp; omega)) ⟨isList_of N hm, show wants (fun obj s₁ => s₁.TypeIs obj "bool" ∧ Q obj s₁) E _ _ from ⟨rfl, ?_⟩⟩
  have : (!vs.toArray.isEmpty) = decide (vs ≠ []) := by cases vs <;> simp
  rw [this]; exact h
theorem truthyL_led {Q : Bool → Shared → Prop} {l : Addr} {vs : List Value} {k : Nat} (N : News h₀ L s.heap news) (hm : (l, listOf vs.toArray k) ∈ news) (hz : vs.length ≤ 1000) (h : Q (decide (vs ≠ [])) { s with toks := s.toks + 1 + 1 }) :
    wpAny (model prog w) A (truthy (.ref l)) Q E s := by
  refine wpAny_truthy_list (isList_of N hm) (by simp; omega) ?_
  have : (!vs.toArray.isEmpty) = decide (vs ≠ []) := by cases vs <;> simp
  rw [this]; exact h
theorem clear_led {g : Obj → List (Addr × Obj)} {D : Addr} {vs : List Value} {n : Nat} (F : Fr h₀ L s.heap m) (N : News h₀ L s.heap news) (U : UpdF D (listOf vs.toArray n) news g) (hz : vs.length ≤ 1000)
    (h : ∀ h' k, Fr h₀ L h' m → News h₀ L h' (g (listOf ([] : List Value).toArray k)) → Q .none { s with heap := h' }) : wpAny (model prog w) A (call (.builtin "list.clear") [.ref D]) Q E s := by
  refine hideG fun kG => ?_
  obtain ⟨pre, post, rfl, hg, a, c⟩ := U.split
  refine kG ?_
  clear kG
  have z := N (D, listOf vs.toArray n) (List.mem_append.mpr (.inr (.head _)))
  refine call_meets PySem.F.slot_list_clear ⟨_, z.1, rfl⟩ PySem.F.entry_list_clear (PySem.F.args_list_clear_1 _) (PySem.AutoSeq1.list_clear_list_0 D vs.toArray n (by rw [sizeLine_eq]; simp; omega)) ⟨z.1, ?_⟩
  by_cases e : vs.toArray.size = 0
  · refine h _ n (F.change (Heap.SameBut.update ..) z.2.1 z.2.2) ?_
    rw [hg]
    exact kl_turn0 (fun _ => #[]) N a c rfl (by rw [e]; rfl)
  · refine h _ (n + 1) (F.change (Heap.SameBut.update ..) z.2.1 z.2.2) ?_
    rw [hg]
    exact kl_turn (fun _ => #[]) N a c rfl (fun q => e q.symm)
end
section
variable {prog : Program} {w : World} {A : Around} {E : Value → Shared → Prop} {s : Shared} {env : Env} {h₀ : Heap} {L : Addr} {test : Expr} {body orelse : List Stmt} {Q : Flow → Shared → Prop}
noncomputable def WmPost (h₀ : Heap) (L : Addr) (P : (Str → Option Value) → List (Addr × Obj) → Prop) (Q : Flow → Shared → Prop) (s : Shared) (f : Flow) (s₃ : Shared) : Prop := match f with
  | .next => ∃ m' h' tk T', s₃ = { s with heap := h', toks := tk } ∧ Fr h₀ L h' m' ∧ News h₀ L h' T' ∧ P m' T'
  | .cont => ∃ m' h' tk T', s₃ = { s with heap := h', toks := tk } ∧ Fr h₀ L h' m' ∧ News h₀ L h' T' ∧ P m' T'
  | .brk => Q .next s₃
  | .ret v => Q (.ret v) s₃
theorem whileM {m : Str → Option Value} {T₀ : List (Addr × Obj)} {pos : Pos} (P : Nat → (Str → Option Value) → List (Addr × Obj) → Prop) (n : Nat) (F : Fr h₀ L s.heap m) (N : News h₀ L s.heap T₀) (h0 : P n m T₀)
    (turn : ∀ n m₁ T h tk, P n m₁ T → Fr h₀ L h m₁ → News h₀ L h T → ∀ E',
      (E' = notedBy (model prog w) A env fun e s' => cameBackBy (model prog w) A env E e s') →
      wpAny (model prog w) A (isTrue test env (eval test env)) (fun b s₂ =>
        if b = true then wpAny (model prog w) A (execs body env) (WmPost h₀ L (fun m T => ∃ n', n' < n ∧ P n' m T) Q s) E' s₂
        else wpAny (model prog w) A (execs orelse env) Q E' s₂) E' { s with heap := h, toks := tk }) :
    wpAny (model prog w) A (exec (.While test body orelse pos) env) Q E s := by
  refine wpAny_While (codeAny_whileLoop (fun n s' => ∃ h' tk m' T, s' = { s with heap := h', toks := tk } ∧ Fr h₀ L h' m' ∧ News h₀ L h' T ∧ P n m' T) ?_ n ⟨s.heap, s.toks, m, T₀, rfl, F, N, h0⟩)
  intro n s' zr2
  refine hideG fun kG => ?_
  obtain ⟨h', tk, m', T, rfl, F', N', hP⟩ := zr2
  refine kG ?_
  clear kG
  refine wpAny_mono (turn n m' T h' tk hP F' N' _ rfl) (fun b s₂ h₂ => ?_) fun _ _ e => e
  cases b with
  | false =>
    simp only [Bool.false_eq_true, if_false] at h₂ ⊢
    exact h₂
  | true =>
    simp only [if_true] at h₂ ⊢
    refine wpAny_mono h₂ (fun f s₃ h₃ => ?_) fun _ _ e => e
    cases f with
    | next => obtain ⟨m₂, h₂', tk₂, T', rfl, F₂, N₂, n', hn, hP'⟩ := h₃; exact ⟨n', hn, h₂', tk₂, m₂, T', rfl, F₂, N₂, hP'⟩
    | cont => obtain ⟨m₂, h₂', tk₂, T', rfl, F₂, N₂, n', hn, hP'⟩ := h₃; exact ⟨n', hn, h₂', tk₂, m₂, T', rfl, F₂, N₂, hP'⟩
    | brk => exact h₃
    | ret v => exact h₃
end

end
theorem regD1 : True := by
  k_with_none
  w_top off
  (k_with "m sub" => (first | ((repeat' (first | exact sub_nil | with_reducible refine sub_cons ?_ ?_ | with_reducible refine sub_app ?_ ?_)) <;> (first | k_mem | (intro p hp; k_mem))) | (intro p hp; simp only [List.cons_append, List.nil_append, List.append_assoc, List.mem_cons, List.mem_append, List.not_mem_nil, or_false, false_or, List.append_nil] at hp ⊢; grind)))
  (k_with "exec For" => (with_unfolding_all refine wpAny_For ?_ (by intro _; rfl)))
  (k_with "m call" => (refine wpAny_call ?_; (first | (k_dflt k_enter) | fail "no entry")))
  (k_with "compareOp In int ref" => (refine in_list_ints (isList_of (by k_asm) (by k_mem)) (by assumption) ?_))
  (k_with "compareOp NotIn int ref" => (refine notin_list_ints (isList_of (by k_asm) (by k_mem)) (by assumption) ?_))
  (k_with "compareOp Is int int" => (refine is_int (by assumption) (by assumption) (by assumption) ?_))
  (k_with "exec For Name Name cons nil" => (with_unfolding_all refine wpAny_For ?_ (by intro _; rfl)))
  (k_with "exec For Name Name" => (with_unfolding_all refine wpAny_For ?_ (by intro _; rfl)))
  (k_with "exec For Name List cons nil" => (with_unfolding_all refine wpAny_For ?_ (by intro _; rfl)))
  (k_with "exec For Name List" => (with_unfolding_all refine wpAny_For ?_ (by intro _; rfl)))
  (k_with "exec For Name Call cons nil" => (with_unfolding_all refine wpAny_For ?_ (by intro _; rfl)))
  (k_with "exec For Name Call" => (with_unfolding_all refine wpAny_For ?_ (by intro _; rfl)))
  (k_with "exec For Name BinOp cons nil" => (with_unfolding_all refine wpAny_For ?_ (by intro _; rfl)))
  (k_with "exec For Name BinOp" => (with_unfolding_all refine wpAny_For ?_ (by intro _; rfl)))
  (k_with "exec For Name Tuple cons nil" => (with_unfolding_all refine wpAny_For ?_ (by intro _; rfl)))
  (k_with "exec For Name Tuple" => (with_unfolding_all refine wpAny_For ?_ (by intro _; rfl)))
  (k_with "exec For Name Attribute cons nil" => (with_unfolding_all refine wpAny_For ?_ (by intro _; rfl)))
  (k_with "exec For Name Attribute" => (with_unfolding_all refine wpAny_For ?_ (by intro _; rfl)))
  (k_with "exec For Tuple Name cons nil" => (with_unfolding_all refine wpAny_For ?_ (by intro _; rfl)))
  (k_with "exec For Tuple Name" => (with_unfolding_all refine wpAny_For ?_ (by intro _; rfl)))
  (k_with "exec For Tuple List cons nil" => (with_unfolding_all refine wpAny_For ?_ (by intro _; rfl)))
  (k_with "exec For Tuple List" => (with_unfolding_all refine wpAny_For ?_ (by intro _; rfl)))
  (k_with "exec For Tuple Call cons nil" => (with_unfolding_all refine wpAny_For ?_ (by intro _; rfl)))
  (k_with "exec For Tuple Call" => (with_unfolding_all refine wpAny_For ?_ (by intro _; rfl)))
  (k_with "exec For Tuple BinOp cons nil" => (with_unfolding_all refine wpAny_For ?_ (by intro _; rfl)))
  (k_with "exec For Tuple BinOp" => (with_unfolding_all refine wpAny_For ?_ (by intro _; rfl)))
  (k_with "exec For Tuple Tuple cons nil" => (with_unfolding_all refine wpAny_For ?_ (by intro _; rfl)))
  (k_with "exec For Tuple Tuple" => (with_unfolding_all refine wpAny_For ?_ (by intro _; rfl)))
  (k_with "exec For Tuple Attribute cons nil" => (with_unfolding_all refine wpAny_For ?_ (by intro _; rfl)))
  (k_with "exec For Tuple Attribute" => (with_unfolding_all refine wpAny_For ?_ (by intro _; rfl)))
  (k_with "call builtin:len" => (k_dflt (refine' len_led ?w0qN ?w0qm ?w0qz ?_; (case w0qN => k_asm); (case w0qm => k_mem); (case w0qz => first | assumption | omega))))
  (k_with "subscriptTail Name Name ref int" => (k_dflt (refine' item_led ?w1qN ?w1qm ?w1qa ?w1qb ?w1qx ?_; (case w1qN => k_asm); (case w1qm => k_mem); (case w1qa => omega); (case w1qb => omega); (case w1qx => assumption))))
  (k_with "eval ListComp" => (k_dflt (refine comp_eval (by with_unfolding_all rfl) rfl (by decide) (by intro _; rfl) ?_)))
  (k_with "exec Assign cons ListComp" => (k_dflt (refine comp_assign (by with_unfolding_all rfl) (by with_unfolding_all rfl) rfl (by decide) (by intro _; rfl) ?_)))
  (k_with "eval Name" => ((with_reducible show wpAny _ _ (eval (Expr.Name _ _) (compEnvC _ _ _ _)) _ _ _); k_dflt (refine' ldC ?w2qN ?w2qm ?w2qn ?w2qv ?_ ?w2qa ?w2qb; (case w2qa => rfl); (case w2qb => rfl); (case w2qN => k_asm); (case w2qm => k_mem); (case w2qn => assumption); (case w2qv => with_unfolding_all rfl))))
  (k_with "call ref" => ((first | (with_reducible show wpAny _ _ (call (Value.ref 183) _) _ _ _) | (with_reducible show wpAny _ _ (call (Value.ref 190) _) _ _ _) | (with_reducible show wpAny _ _ (call (Value.ref 197) _) _ _ _) | (with_reducible show wpAny _ _ (call (Value.ref 204) _) _ _ _) | (with_reducible show wpAny _ _ (call (Value.ref 211) _) _ _ _) | (with_reducible show wpAny _ _ (call (Value.ref 218) _) _ _ _) | (with_reducible show wpAny _ _ (call (Value.ref 223) _) _ _ _) | (with_reducible show wpAny _ _ (call (Value.ref 228) _) _ _ _) | (with_reducible show wpAny _ _ (call (Value.ref 235) _) _ _ _) | (with_reducible show wpAny _ _ (call (Value.ref 80) _) _ _ _) | (with_reducible show wpAny _ _ (call (Value.ref 87) _) _ _ _) | (with_reducible show wpAny _ _ (call (Value.ref 92) _) _ _ _) | (with_reducible show wpAny _ _ (call (Value.ref 99) _) _ _ _) | (with_reducible show wpAny _ _ (call (Value.ref 106) _) _ _ _) | (with_reducible show wpAny _ _ (call (Value.ref 120) _) _ _ _) | (with_reducible show wpAny _ _ (call (Value.ref 127) _) _ _ _)); refine hold ?_))
  (k_with "m use" => ((try unfold held); (rename Call _ _ _ _ _ _ => hC); k_dflt (refine' Call.use hC ?w3qB ?w3qF ?w3qX ?w3qN ?w3qT ?w3qk ?w3qd ?w3qu ?_; (case w3qB => k_asm); (case w3qF => k_asm); (case w3qX => k_asm); (case w3qN => k_asm); (case w3qT => k_asm); (case w3qk => first | exact rfl | assumption); (case w3qd => ktr_room); (case w3qu => ktr_units)); clear hC))
  (k_with "m pure" => ((try unfold held); (rename Call _ _ _ _ _ _ => hC); k_dflt (refine' Call.pure hC ?w4qB ?w4qF ?w4qX ?w4qN ?w4qT ?w4qk ?w4qd ?w4qu ?_; (case w4qB => k_asm); (case w4qF => k_asm); (case w4qX => k_asm); (case w4qN => k_asm); (case w4qT => k_asm); (case w4qk => first | exact rfl | assumption); (case w4qd => ktr_room); (case w4qu => ktr_units)); clear hC))
  (k_with "subscriptTail Name Constant ref int" => (k_dflt (refine' item_led ?w5qN ?w5qm ?w5qa ?w5qb ?w5qx ?_; (case w5qN => k_asm); (case w5qm => k_mem); (case w5qa => omega); (case w5qb => omega); (case w5qx => first | assumption | rfl))))
  (k_with "compareOp Eq ref ref" => refine hold ?_)
  (k_with "pyIter ref" => refine hold ?_)
  (k_with "subscriptTail Name BinOp ref int" => (k_dflt (refine' item_led ?w1qN ?w1qm ?w1qa ?w1qb ?w1qx ?_; (case w1qN => k_asm); (case w1qm => k_mem); (case w1qa => omega); (case w1qb => omega); (case w1qx => assumption))))
  (k_with "compareOp NotEq ref ref" => refine hold ?_)
  (k_with "getMethod ref" => ((with_reducible show wpAny _ _ (getMethod (Value.ref _) (Str.ofString "get") _) _ _ _); k_dflt (refine' kdg_method (knd := PySem.intKind _ _) ?w6qN ?w6qm ?w6qd ?_; (case w6qN => k_asm); (case w6qm => k_mem); (case w6qd => assumption))))
  (k_with "call builtin:dict.get" => (k_dflt (refine' kdg_get1 (knd := PySem.intKind _ _) ?w7qN ?w7qm ?w7qd ?w7ql ?w7qk _ ?w7qx ?_; (case w7qN => k_asm); (case w7qm => k_mem); (case w7qd => assumption); (case w7ql => assumption); (case w7qk => exact intKind_is _ _ _ _); (case w7qx => assumption)); (try dsimp only [Option.getD])))
  (k_with "call builtin:len" => (k_dflt (refine' lenT_led ?w8qN ?w8qm ?w8qz ?_; (case w8qN => k_asm); (case w8qm => k_mem); (case w8qz => first | assumption | omega))))
  trivial
local macro_rules | `(tactic| k_all) => `(tactic| first | assumption | (intro p hp; refine neN ?_; first | (have q := ltA ((by assumption)) p hp; omega) | (have q := ltA (And.right ((by assumption))) p hp; omega) | (have q := ltA (And.right (And.right ((by assumption)))) p hp; omega) | (have q := ltA (And.right (And.right (And.right ((by assumption))))) p hp; omega) | (have q := ltA (And.right (And.right (And.right (And.right ((by assumption)))))) p hp; omega) | (have q := ltA (And.right (And.right (And.right (And.right (And.right ((by assumption))))))) p hp; omega) | (have q := ltA (And.right (And.right (And.right (And.right (And.right (And.right ((by assumption)))))))) p hp; omega) | (have q := ltA (And.right (And.right (And.right (And.right (And.right (And.right (And.right ((by assumption))))))))) p hp; omega) | (have q := ltA (And.right (And.right (And.right (And.right (And.right (And.right (And.right (And.right ((by assumption)))))))))) p hp; omega) | (have q := ltF (by assumption) p hp; omega)) | exact List.forall_mem_append.mpr ⟨by k_all, by k_all⟩ | exact off_ne)
local macro_rules | `(tactic| walk_at "setItem ref int") => `(tactic| ((with_reducible show wpAny _ _ (PySem.setItem (Value.ref _) (Value.int _ _) _) _ _ _); k_dflt (refine' kda_set (knd := PySem.intKind _ _) ?F ?N ?U ?d (intKind_is _ _ _ _) ?z ?_; (case F => k_asm); (case N => k_asm); (case U => k_updF); (case d => assumption); (case z => first | assumption | (rw [sizeLine_eq]; omega))); intro h' o' F' N' hd'; (try dsimp only at N')))
local macro_rules | `(tactic| k_enter) => `(tactic| (kp_kind "rest"; (refine' kp_rest ?k1 ?k2 ?k3 ?k4 ?k5 ?kA ?kF ?kK ?k6 ?k7 ?k8 ?kV ?kP ?kG ?kB ?_ ?c2 ?c3 ?c4 ?c5; (case kA => exact rfl); (case kF => exact rfl); (case kK => first | exact rfl | assumption); (case k1 => k_asm); (case k2 => k_asm); (case k3 => k_asm); (case k4 => k_asm); (case k5 => k_asm); (case k6 => k_is); (case k7 => k_is); (case k8 => k_room); (case kV => exact rfl); (case kP => exact rfl); (case kG => exact fun _ => rfl); (case kB => exact fun _ => locs rfl); (case c5 => decide); (case c2 => exact rfl); (case c3 => exact rfl); (case c4 => exact rfl); k_whole; intro D' g' L' h' l1 FG' F' N' B' X' T'; (try k_lt l1); (try dsimp only); (try k_unmd); (try k_fold))))
noncomputable def addK (l : List Int) (x : Int) : List Int := if x ∈ l then l else l ++ [x]
noncomputable def Same (S S' : SS) : Prop := S'.sa = S.sa ∧ S'.da = S.da ∧ S'.na = S.na ∧ S'.rd = S.rd ∧ S'.po = S.po ∧ S'.fi = S.fi
theorem Same.refl (S : SS) : Same S S := ⟨rfl, rfl, rfl, rfl, rfl, rfl⟩
theorem Same.trans {S S' S'' : SS} (h : Same S S') (k : Same S' S'') : Same S S'' := by
  refine hideG fun kG => ?_
  obtain ⟨a, b, c, d, e, f⟩ := h
  obtain ⟨a', b', c', d', e', f'⟩ := k
  refine kG ?_
  clear kG
  exact ⟨a'.trans a, b'.trans b, c'.trans c, d'.trans d, e'.trans e, f'.trans f⟩
theorem info_new {w : World} {prog : Program} {S : SS} {T₀ : List (Addr × Obj)} (h : Srt prog w T₀ S) {x : Int} {t tv : Tok} {ia sl d : Addr} {o' : Obj} (hx : x ∉ S.rows.map (·.1)) (hz : S.np x = 0 ∧ S.sc x = [])
    (l1 : S.na < d ∧ AllLt d (off S.na T₀)) (l2 : d < ia) (l3 : ia < sl) (ho : o'.IsDictOf (intKind prog w) (stored (S.rows.map fun r => (r.1, .ref r.2.1)) x (.ref ia))) :
    Srt prog w ((sl, listOf #[] 0) :: (ia, infO d x t 0 tv sl) :: (d, dictOf [] 0) :: (S.na, o') :: off S.na T₀) (S.addRow x ia sl d) ∧ Keep S T₀ (S.addRow x ia sl d) ((sl, listOf #[] 0) :: (ia, infO d x t 0 tv sl) :: (d, dictOf [] 0) :: (S.na, o') :: off S.na T₀) := by
  have hlt : ∀ p ∈ T₀, p.1 < d := fun p hp => by
    by_cases e : p.1 = S.na
    · rw [e]; exact l1.1
    · exact lt_of_allLt l1.2 p (mem_off.mpr ⟨hp, e⟩)
  have fr : ∀ a, @LE.le Nat _ d a → ∀ p ∈ T₀, p.1 ≠ a := fun a ha p hp => Nat.ne_of_lt (Nat.lt_of_lt_of_le (hlt p hp) ha)
  have hia : S.tag ia = none := h.fresh (fr ia (Nat.le_of_lt l2))
  have hdt : S.tag d = none := h.fresh (fr d (Nat.le_refl _))
  have hsl : S.tag sl = none := h.fresh (fr sl (Nat.le_of_lt (Nat.lt_trans l2 l3)))
  have n1 : ia ≠ S.na := Ne.symm (Nat.ne_of_lt (Nat.lt_trans l1.1 l2))
  have n2 : sl ≠ S.na := Ne.symm (Nat.ne_of_lt (Nat.lt_trans l1.1 (Nat.lt_trans l2 l3)))
  have n3 : d ≠ S.na := Ne.symm (Nat.ne_of_lt l1.1)
  have hT : Srt prog w ((sl, listOf #[] 0) :: (ia, infO d x t 0 tv sl) :: (d, dictOf [] 0) :: T₀) S := h.mono fun p hp => .tail _ (.tail _ (.tail _ hp))
  refine ⟨(hT.addRow hx hia hsl hdt (Nat.ne_of_lt l3) (Nat.ne_of_lt l2) (Nat.ne_of_lt (Nat.lt_trans l2 l3)) hz.1 hz.2 (.tail _ (.head _)) (.head _) (.tail _ (.tail _ (.head _))) ho).mono fun p hp => ?_, fun p hp e => ⟨?_, ?_⟩⟩
  · rcases List.mem_cons.mp hp with e | hp
    · rw [e]; exact .tail _ (.tail _ (.tail _ (.head _)))
    · obtain ⟨hp, hn⟩ := mem_off.mp hp
      rcases List.mem_cons.mp hp with e | hp
      · rw [e]; exact .head _
      · rcases List.mem_cons.mp hp with e | hp
        · rw [e]; exact .tail _ (.head _)
        · rcases List.mem_cons.mp hp with e | hp
          · rw [e]; exact .tail _ (.tail _ (.head _))
          · exact .tail _ (.tail _ (.tail _ (.tail _ (mem_off.mpr ⟨hp, hn⟩))))
  · exact .tail _ (.tail _ (.tail _ (.tail _ (mem_off.mpr ⟨hp, fun q => by rw [q, h.tna] at e; cases e⟩))))
  · have e1 := fr ia (Nat.le_of_lt l2) p hp
    have e2 := fr sl (Nat.le_of_lt (Nat.lt_trans l2 l3)) p hp
    have e3 := fr d (Nat.le_refl _) p hp
    simp [SS.addRow, e1, e2, e3, e]
theorem info_call (w : World) (prog : Program) (S : SS) (T₀ : List (Addr × Obj)) (h : Srt prog w T₀ S) (hl : S.rows.length ≤ 64) (x : Int) (t : Tok) (hz : x ∉ S.rows.map (·.1) → S.np x = 0 ∧ S.sc x = []) :
    CallM prog 9 w 80 [.ref S.sa, .int x t] T₀ (fun T' v => ∃ S' ia sl, v = .ref ia ∧ (x, ia, sl) ∈ S'.rows ∧ Srt prog w T' S' ∧ Keep S T₀ S' T' ∧ Same S S' ∧ S'.np = S.np ∧ S'.sc = S.sc ∧ S'.rows.map (·.1) = addK (S.rows.map (·.1)) x) := by
  have h1 := h.inst
  refine hideG fun kG => ?_
  obtain ⟨k1, k2, k3, k4, t1, t2, h2⟩ := h.dict
  obtain ⟨o, h3, ho⟩ := h.n2i
  refine kG ?_
  clear kG
  have hs := h.nosys
  by_cases hx : x ∈ S.rows.map (·.1)
  · refine hideG fun kG => ?_
    obtain ⟨ia, sl, hr, hv⟩ := h.getRow hx
    refine kG ?_
    clear kG
    intro mean mg mb p0 loose dp un gd cn cs a ccd cl outer A₀ base h₀ L m s Q E B F X N T hk hd hu ret exc
    walk_at "m call"
    k_steps
    all_goals (try with_reducible refine kQ _ _ ?_)
    rename Fr h₀ L _ _ => F9
    rename News h₀ L _ _ => N9
    refine ret _ _ _ _ F9 N9 ⟨S, ia, sl, rfl, hr, h, Keep.refl _ _, Same.refl _, rfl, rfl, ?_⟩
    rw [addK, if_pos hx]
  · have hv := h.noRow hx
    intro mean mg mb p0 loose dp un gd cn cs a ccd cl outer A₀ base h₀ L m s Q E B F X N T hk hd hu ret exc
    replace N := news_off N h3
    have h1' := mem_off.mpr ⟨h1, tag_ne h.tsa h.tna (fun e => nomatch e)⟩
    have h2' := mem_off.mpr ⟨h2, tag_ne h.tda h.tna (fun e => nomatch e)⟩
    have hoff : ∀ p ∈ off S.na T₀, p.1 ≠ S.na := off_ne
    have hlen : (S.rows.map fun r => (r.1, Value.ref r.2.1)).length ≤ 64 := by simpa using hl
    walk_at "m call"
    k_steps
    all_goals (try with_reducible refine kQ _ _ ?_)
    rename Fr h₀ L _ _ => F9
    rename News h₀ L _ _ => N9
    rename Obj.IsDictOf _ _ (stored _ _ _) => hd9
    rename _ ∧ _ ∧ _ ∧ AllLt _ _ => l3
    rename S.na < _ ∧ AllLt _ _ => l1
    rename _ < _ => l2
    obtain ⟨hS, hK⟩ := info_new h (t := t) (tv := _) hx (hz hx) l1 l2 l3.1 hd9
    refine ret _ _ _ _ F9 N9 ⟨_, _, _, rfl, List.mem_append_right _ (.head _), hS, hK, ⟨rfl, rfl, rfl, rfl, rfl, rfl⟩, rfl, rfl, ?_⟩
    rw [addK, if_neg hx]
    simp [SS.addRow]


theorem regD2 : True := by
  k_with_none
  w_top off
  (k_with "m sub" => (first | ((repeat' (first | exact sub_nil | with_reducible refine sub_cons ?_ ?_ | with_reducible refine sub_app ?_ ?_)) <;> (first | k_mem | (intro p hp; k_mem))) | (intro p hp; simp only [List.cons_append, List.nil_append, List.append_assoc, List.mem_cons, List.mem_append, List.not_mem_nil, or_false, false_or, List.append_nil] at hp ⊢; grind)))
  (k_with "exec For" => (with_unfolding_all refine wpAny_For ?_ (by intro _; rfl)))
  (k_with "m call" => (refine wpAny_call ?_; (first | (k_dflt k_enter) | fail "no entry")))
  (k_with "compareOp In int ref" => (refine in_list_ints (isList_of (by k_asm) (by k_mem)) (by assumption) ?_))
  (k_with "compareOp NotIn int ref" => (refine notin_list_ints (isList_of (by k_asm) (by k_mem)) (by assumption) ?_))
  (k_with "compareOp Is int int" => (refine is_int (by assumption) (by assumption) (by assumption) ?_))
  (k_with "exec For Name Name cons nil" => (with_unfolding_all refine wpAny_For ?_ (by intro _; rfl)))
  (k_with "exec For Name Name" => (with_unfolding_all refine wpAny_For ?_ (by intro _; rfl)))
  (k_with "exec For Name List cons nil" => (with_unfolding_all refine wpAny_For ?_ (by intro _; rfl)))
  (k_with "exec For Name List" => (with_unfolding_all refine wpAny_For ?_ (by intro _; rfl)))
  (k_with "exec For Name Call cons nil" => (with_unfolding_all refine wpAny_For ?_ (by intro _; rfl)))
  (k_with "exec For Name Call" => (with_unfolding_all refine wpAny_For ?_ (by intro _; rfl)))
  (k_with "exec For Name BinOp cons nil" => (with_unfolding_all refine wpAny_For ?_ (by intro _; rfl)))
  (k_with "exec For Name BinOp" => (with_unfolding_all refine wpAny_For ?_ (by intro _; rfl)))
  (k_with "exec For Name Tuple cons nil" => (with_unfolding_all refine wpAny_For ?_ (by intro _; rfl)))
  (k_with "exec For Name Tuple" => (with_unfolding_all refine wpAny_For ?_ (by intro _; rfl)))
  (k_with "exec For Name Attribute cons nil" => (with_unfolding_all refine wpAny_For ?_ (by intro _; rfl)))
  (k_with "exec For Name Attribute" => (with_unfolding_all refine wpAny_For ?_ (by intro _; rfl)))
  (k_with "exec For Tuple Name cons nil" => (with_unfolding_all refine wpAny_For ?_ (by intro _; rfl)))
  (k_with "exec For Tuple Name" => (with_unfolding_all refine wpAny_For ?_ (by intro _; rfl)))
  (k_with "exec For Tuple List cons nil" => (with_unfolding_all refine wpAny_For ?_ (by intro _; rfl)))
  (k_with "exec For Tuple List" => (with_unfolding_all refine wpAny_For ?_ (by intro _; rfl)))
  (k_with "exec For Tuple Call cons nil" => (with_unfolding_all refine wpAny_For ?_ (by intro _; rfl)))
  (k_with "exec For Tuple Call" => (with_unfolding_all refine wpAny_For ?_ (by intro _; rfl)))
  (k_with "exec For Tuple BinOp cons nil" => (with_unfolding_all refine wpAny_For ?_ (by intro _; rfl)))
  (k_with "exec For Tuple BinOp" => (with_unfolding_all refine wpAny_For ?_ (by intro _; rfl)))
  (k_with "exec For Tuple Tuple cons nil" => (with_unfolding_all refine wpAny_For ?_ (by intro _; rfl)))
  (k_with "exec For Tuple Tuple" => (with_unfolding_all refine wpAny_For ?_ (by intro _; rfl)))
  (k_with "exec For Tuple Attribute cons nil" => (with_unfolding_all refine wpAny_For ?_ (by intro _; rfl)))
  (k_with "exec For Tuple Attribute" => (with_unfolding_all refine wpAny_For ?_ (by intro _; rfl)))
  (k_with "call builtin:len" => (k_dflt (refine' len_led ?w0qN ?w0qm ?w0qz ?_; (case w0qN => k_asm); (case w0qm => k_mem); (case w0qz => first | assumption | omega))))
  (k_with "subscriptTail Name Name ref int" => (k_dflt (refine' item_led ?w1qN ?w1qm ?w1qa ?w1qb ?w1qx ?_; (case w1qN => k_asm); (case w1qm => k_mem); (case w1qa => omega); (case w1qb => omega); (case w1qx => assumption))))
  (k_with "eval ListComp" => (k_dflt (refine comp_eval (by with_unfolding_all rfl) rfl (by decide) (by intro _; rfl) ?_)))
  (k_with "exec Assign cons ListComp" => (k_dflt (refine comp_assign (by with_unfolding_all rfl) (by with_unfolding_all rfl) rfl (by decide) (by intro _; rfl) ?_)))
  (k_with "eval Name" => ((with_reducible show wpAny _ _ (eval (Expr.Name _ _) (compEnvC _ _ _ _)) _ _ _); k_dflt (refine' ldC ?w2qN ?w2qm ?w2qn ?w2qv ?_ ?w2qa ?w2qb; (case w2qa => rfl); (case w2qb => rfl); (case w2qN => k_asm); (case w2qm => k_mem); (case w2qn => assumption); (case w2qv => with_unfolding_all rfl))))
  (k_with "call ref" => ((first | (with_reducible show wpAny _ _ (call (Value.ref 183) _) _ _ _) | (with_reducible show wpAny _ _ (call (Value.ref 190) _) _ _ _) | (with_reducible show wpAny _ _ (call (Value.ref 197) _) _ _ _) | (with_reducible show wpAny _ _ (call (Value.ref 204) _) _ _ _) | (with_reducible show wpAny _ _ (call (Value.ref 211) _) _ _ _) | (with_reducible show wpAny _ _ (call (Value.ref 218) _) _ _ _) | (with_reducible show wpAny _ _ (call (Value.ref 223) _) _ _ _) | (with_reducible show wpAny _ _ (call (Value.ref 228) _) _ _ _) | (with_reducible show wpAny _ _ (call (Value.ref 235) _) _ _ _) | (with_reducible show wpAny _ _ (call (Value.ref 80) _) _ _ _) | (with_reducible show wpAny _ _ (call (Value.ref 87) _) _ _ _) | (with_reducible show wpAny _ _ (call (Value.ref 92) _) _ _ _) | (with_reducible show wpAny _ _ (call (Value.ref 99) _) _ _ _) | (with_reducible show wpAny _ _ (call (Value.ref 106) _) _ _ _) | (with_reducible show wpAny _ _ (call (Value.ref 120) _) _ _ _) | (with_reducible show wpAny _ _ (call (Value.ref 127) _) _ _ _)); refine hold ?_))
  (k_with "m use" => ((try unfold held); (rename Call _ _ _ _ _ _ => hC); k_dflt (refine' Call.use hC ?w3qB ?w3qF ?w3qX ?w3qN ?w3qT ?w3qk ?w3qd ?w3qu ?_; (case w3qB => k_asm); (case w3qF => k_asm); (case w3qX => k_asm); (case w3qN => k_asm); (case w3qT => k_asm); (case w3qk => first | exact rfl | assumption); (case w3qd => ktr_room); (case w3qu => ktr_units)); clear hC))
  (k_with "m pure" => ((try unfold held); (rename Call _ _ _ _ _ _ => hC); k_dflt (refine' Call.pure hC ?w4qB ?w4qF ?w4qX ?w4qN ?w4qT ?w4qk ?w4qd ?w4qu ?_; (case w4qB => k_asm); (case w4qF => k_asm); (case w4qX => k_asm); (case w4qN => k_asm); (case w4qT => k_asm); (case w4qk => first | exact rfl | assumption); (case w4qd => ktr_room); (case w4qu => ktr_units)); clear hC))
  (k_with "subscriptTail Name Constant ref int" => (k_dflt (refine' item_led ?w5qN ?w5qm ?w5qa ?w5qb ?w5qx ?_; (case w5qN => k_asm); (case w5qm => k_mem); (case w5qa => omega); (case w5qb => omega); (case w5qx => first | assumption | rfl))))
  (k_with "compareOp Eq ref ref" => refine hold ?_)
  (k_with "pyIter ref" => refine hold ?_)
  (k_with "subscriptTail Name BinOp ref int" => (k_dflt (refine' item_led ?w1qN ?w1qm ?w1qa ?w1qb ?w1qx ?_; (case w1qN => k_asm); (case w1qm => k_mem); (case w1qa => omega); (case w1qb => omega); (case w1qx => assumption))))
  (k_with "compareOp NotEq ref ref" => refine hold ?_)
  (k_with "getMethod ref" => ((with_reducible show wpAny _ _ (getMethod (Value.ref _) (Str.ofString "get") _) _ _ _); k_dflt (refine' kdg_method (knd := PySem.intKind _ _) ?w6qN ?w6qm ?w6qd ?_; (case w6qN => k_asm); (case w6qm => k_mem); (case w6qd => assumption))))
  (k_with "call builtin:dict.get" => (k_dflt (refine' kdg_get1 (knd := PySem.intKind _ _) ?w7qN ?w7qm ?w7qd ?w7ql ?w7qk _ ?w7qx ?_; (case w7qN => k_asm); (case w7qm => k_mem); (case w7qd => assumption); (case w7ql => assumption); (case w7qk => exact intKind_is _ _ _ _); (case w7qx => assumption)); (try dsimp only [Option.getD])))
  (k_with "call builtin:len" => (k_dflt (refine' lenT_led ?w8qN ?w8qm ?w8qz ?_; (case w8qN => k_asm); (case w8qm => k_mem); (case w8qz => first | assumption | omega))))
  trivial
theorem mem_addK {l : List Int} {x z : Int} : z ∈ addK l x ↔ z ∈ l ∨ z = x := by
  unfold addK
  split
  · rename_i h
    exact ⟨.inl, fun q => q.elim id fun e => e ▸ h⟩
  · simp
theorem mem_addKs {ys : List Int} : ∀ {l : List Int} {z : Int}, z ∈ ys.foldl addK l ↔ z ∈ l ∨ z ∈ ys := by
  induction ys with
  | nil => intro l z; simp
  | cons y r ih =>
    intro l z
    rw [List.foldl_cons, ih, mem_addK, List.mem_cons, or_assoc]
theorem len_addK (l : List Int) (x : Int) : (addK l x).length ≤ l.length + 1 := by
  unfold addK
  split <;> simp
theorem len_addKs (ys : List Int) : ∀ l : List Int, (ys.foldl addK l).length ≤ l.length + ys.length := by
  induction ys with
  | nil => intro l; simp
  | cons y r ih =>
    intro l
    have h1 := ih (addK l y)
    have h2 := len_addK l y
    rw [List.foldl_cons, List.length_cons]; omega
theorem keep_end {S0 Si S2 : SS} {T0 T own T2 : List (Addr × Obj)} {I : Addr} (hK : Keep S0 T0 Si T) (hTI : ∀ p ∈ T, p.1 ≠ I) (hK2 : Keep Si (T ++ own) S2 T2) : Keep S0 T0 S2 (off I T2) := fun p hp e =>
  have h1 := hK p hp e
  have h2 := hK2 p (List.mem_append_left _ h1.1) h1.2
  ⟨mem_off.mpr ⟨h2.1, hTI p h1.1⟩, h2.2⟩
/-- what is told of a sorter behind an add -/
structure Added (S S' : SS) (x : Int) (ys : List Int) (n i : Nat) : Prop where
  same : Same S S'
  keys : S'.rows.map (·.1) = (ys.take i).foldl addK (addK (S.rows.map (·.1)) x)
  np : S'.np = fun z => S.np z + if z = x then (n : Int) else 0
  sc : S'.sc = fun z => S.sc z ++ List.replicate ((ys.take i).count z) x
theorem add_call (w : World) (prog : Program) (S : SS) (T₀ : List (Addr × Obj)) (h : Srt prog w T₀ S) (x : Int) (t : Tok) (vs : List Value) (ys : List Int) (hvs : IntsAre vs ys) (hl : S.rows.length + ys.length + 1 ≤ 64) (hrd : S.rd = none) (hz : ∀ z, z ∉ S.rows.map (·.1) → S.np z = 0 ∧ S.sc z = []) (hsl : ∀ z, (S.sc z).length ≤ 500) :
    CallM prog 12 w 87 (.ref S.sa :: .int x t :: vs) T₀ (fun T' v => v = .none ∧ ∃ S', Srt prog w T' S' ∧ Keep S T₀ S' T' ∧ Added S S' x ys ys.length ys.length) := by
  have h1 := h.inst
  refine hideG fun kG => ?_
  obtain ⟨k1, k2, k3, k4, t1, t2, h2⟩ := h.dict
  refine kG ?_
  clear kG
  rw [hrd] at h2
  dsimp only [rdv] at h2
  intro mean mg mb p0 loose dp un gd cn cs a ccd cl outer A₀ base h₀ L m s Q E B F X N T hk hd hu ret exc
  refine wpAny_call ?_
  refine' kp_rest (vs := vs) (g₁ := fun D => some [(Str.ofString "self", .ref S.sa), (Str.ofString "node", .int x t), (Str.ofString "predecessors", .ref D)]) (binds := fun D => [(Str.ofString "self", .ref S.sa), (Str.ofString "node", .int x t), (Str.ofString "predecessors", .ref D)]) ?k1 ?k2 ?k3 ?k4 ?k5 ?kA ?kF ?kK ?k6 ?k7 ?k8 ?kV ?kP ?kG ?kB ?_ ?c2 ?c3 ?c4 ?c5
  (case kA => exact rfl); (case kF => exact rfl); (case kK => first | exact rfl | assumption); (case k1 => k_asm); (case k2 => k_asm); (case k3 => k_asm); (case k4 => k_asm); (case k5 => k_asm); (case k6 => k_is); (case k7 => k_is); (case k8 => k_room); (case kV => exact rfl); 
  (case kP =>
    have e : newTuple vs = newObjAsIs (.type "tuple") (.seq vs.toArray) none := by
      unfold newTuple newObj; dsimp only
      rw [if_neg (by rw [sizeLine_eq]; have := hvs.length; simp; omega)]
    have e2 : ∀ a b : Value, List.drop 2 (a :: b :: vs) = vs := fun _ _ => rfl
    unfold bindArgs
    simp only [Option.isNone_some, Bool.and_false, Bool.false_eq_true, if_false, List.map_cons, List.map_nil, List.nil_append, List.length_cons, List.length_nil, Nat.zero_add, Nat.reduceAdd, e2, e]
    exact rfl)
  (case kG => exact fun _ => rfl); (case kB => exact fun _ => locs rfl); (case c5 => decide); (case c2 => exact rfl); (case c3 => exact rfl); (case c4 => exact rfl)
  k_whole
  intro Dp g' L' h' l1 FG' F' N' B' X' T'
  try dsimp only
  try k_unmd
  try k_fold
  have hvl := hvs.length
  have hS0 : Srt prog w ((Dp, tupO vs) :: T₀) S := h.mono fun p hp => .tail _ hp
  have hDp : S.tag Dp = none := h.fresh fun p hp => Nat.ne_of_lt (l1 p hp)
  k_steps
  all_goals (try with_reducible refine kQ _ _ ?_)
  (try unfold held); k_dflt (refine' CallM.use (info_call w prog S ((Dp, tupO vs) :: T₀) hS0 (by omega) x t (hz x)) ?B ?F ?X ?N ?T ?k ?d ?u ?_; (case B => k_asm); (case F => k_asm); (case X => k_asm); (case N => k_asm); (case T => k_asm); (case k => first | exact rfl | assumption); (case d => ktr_room); (case u => ktr_units); skip)
  intro v T1 h5 tk5 F5 N5 zr6
  refine hideG fun kG => ?_
  obtain ⟨S1, ia, sl, rfl, hr1, hS1, hK1, hsame1, hnp1, hsc1, hkeys1⟩ := zr6
  refine kG ?_
  clear kG
  clear F' N'
  refine hideG fun kG => ?_
  obtain ⟨hp1, hp1t⟩ := hK1 (Dp, tupO vs) (.head _) hDp
  obtain ⟨d, tx, tv, hm1, hd1, hd1t⟩ := hS1.node _ hr1
  refine kG ?_
  clear kG
  have ht1 := (hS1.tnode _ hr1).1
  dsimp only at hm1 ht1 hd1t
  have hd1' : (d, dictOf [] 0) ∈ off ia T1 := mem_off.mpr ⟨hd1, tag_ne hd1t ht1 (fun e => nomatch e)⟩
  replace N5 := news_off N5 hm1
  have hp1' : (Dp, tupO vs) ∈ off ia T1 := mem_off.mpr ⟨hp1, tag_ne hp1t ht1 (fun e => nomatch e)⟩
  k_steps
  all_goals (try with_reducible refine kQ _ _ ?_)
  rename Fr _ _ _ _ => F6
  rename News _ _ _ _ => N6
  have hS2 := fun tv' => hS1.setNp hr1 hd1 hd1t tx (S1.np x + (vs.length : Int)) tv'
  have hK2 := fun tv' => hK1.trans (keep_off (o := infO d x tx (S1.np x + (vs.length : Int)) tv' sl) (S' := S1.setNp x (S1.np x + (vs.length : Int))) ht1 rfl)
  unfold held
  refine iterTupleM (vs := vs) (k := 0) (fun i m T tk => m (Str.ofString "self") = some (.ref S.sa) ∧ m (Str.ofString "node") = some (.int x t) ∧ ∃ Si, Srt prog w T Si ∧ Keep S ((Dp, tupO vs) :: T₀) Si T ∧ Added S Si x ys ys.length i) _ rfl F6 N6 (.tail _ hp1') ⟨by with_unfolding_all rfl, by with_unfolding_all rfl, _, hS2 _, hK2 _, ?_⟩ ?_ ?_
  · refine ⟨hsame1, hkeys1, ?_, ?_⟩
    · funext z
      show (if z = x then S1.np x + (vs.length : Int) else S1.np z) = _
      rw [hnp1, hvl]
      by_cases e : z = x
      · subst e; simp
      · simp [e]
    · funext z
      show S1.sc z = _
      rw [hsc1]; simp
  · intro I hI i v m₁ T2 own h7 tk₀ tk7 hv zr11 htk hTI hown hIo F₁ N₁
    refine hideG fun kG => ?_
    obtain ⟨hm1, hm2, Si, hSi, hKi, hAi⟩ := zr11
    obtain ⟨y, hy, hok⟩ := (show ∃ y, ys[i]? = some y ∧ ∃ u, v = .int y u from by
      obtain ⟨y, u, e, hy⟩ := hvs.at i v hv
      exact ⟨y, hy, u, e⟩)
    obtain ⟨u, rfl⟩ := hok
    refine kG ?_
    clear kG
    (try refine opq fun PQ kQ => ?_)
    have hil : i < ys.length := (List.getElem?_eq_some_iff.mp hy).1
    have hIt : Si.tag I = none := hSi.fresh hTI
    have hDt : Si.tag Dp = none := (hKi (Dp, tupO vs) (.head _) hDp).2
    have hSo : Srt prog w (T2 ++ own) Si := hSi.mono fun p hp => List.mem_append_left _ hp
    have hsa : Si.sa = S.sa := hAi.same.1
    have hin := hSo.inst
    refine hideG fun kG => ?_
    obtain ⟨_, _, _, _, _, _, hdi⟩ := hSo.dict
    refine kG ?_
    clear kG
    have hrl : Si.rows.length ≤ 64 := by
      have h1 := len_addKs (ys.take i) (addK (S.rows.map (·.1)) x)
      have h2 := len_addK (S.rows.map (·.1)) x
      have h3 := congrArg List.length hAi.keys
      simp only [List.length_map, List.length_take] at h1 h2 h3; omega
    have hzi : y ∉ Si.rows.map (·.1) → Si.np y = 0 ∧ Si.sc y = [] := by
      intro hny
      rw [hAi.keys, mem_addKs, mem_addK] at hny
      have h1 : y ∉ S.rows.map (·.1) := fun e => hny (.inl (.inl e))
      have h2 : y ≠ x := fun e => hny (.inl (.inr e))
      have h3 : y ∉ ys.take i := fun e => hny (.inr e)
      obtain ⟨hz1, hz2⟩ := hz y h1
      rw [hAi.np, hAi.sc]
      simp [hz1, hz2, h2, List.count_eq_zero.mpr h3]
    have F₂ := fr_pin2 F₁ hm1 hm2
    rw [← hsa] at F₂
    clear F6 N6 F₁
    k_steps
    all_goals (try with_reducible refine kQ _ _ ?_)
    (try unfold held); k_dflt (refine' CallM.use (info_call w prog Si (T2 ++ own) hSo hrl y u hzi) ?B ?F ?X ?N ?T ?k ?d ?u ?_; (case B => k_asm); (case F => k_asm); (case X => k_asm); (case N => k_asm); (case T => k_asm); (case k => first | exact rfl | assumption); (case d => ktr_room); (case u => ktr_units); skip)
    intro v T3 h8 tk8 F8 N8 zr6
    refine hideG fun kG => ?_
    obtain ⟨S3, ia3, sl3, rfl, hr3, hS3, hK3, hsame3, hnp3, hsc3, hkeys3⟩ := zr6
    refine kG ?_
    clear kG
    clear N₁
    refine hideG fun kG => ?_
    obtain ⟨d3, tx3, tv3, hm3, hd3, hd3t⟩ := hS3.node _ hr3
    obtain ⟨vs3, k3, hl3, hi3⟩ := hS3.succ _ hr3
    obtain ⟨ht3, ht3'⟩ := hS3.tnode _ hr3
    refine kG ?_
    clear kG
    dsimp only at hm3 hd3t hl3 hi3 ht3 ht3'
    have hm3' := mem_off.mpr ⟨hm3, tag_ne ht3 ht3' (fun e => nomatch e)⟩
    have hd3' := mem_off.mpr ⟨hd3, tag_ne hd3t ht3' (fun e => nomatch e)⟩
    replace N8 := news_off N8 hl3
    have hoff : ∀ p ∈ off sl3 T3, p.1 ≠ sl3 := off_ne
    have hsz : vs3.toArray.size ≤ sizeLine := by
      rw [sizeLine_eq]
      have h1 := hi3.length
      have h2 : (S3.sc y).length ≤ 600 := by
        rw [hsc3, hAi.sc]
        have h3 := hsl y
        have h4 := List.count_le_length (a := y) (l := ys.take i)
        simp only [List.length_append, List.length_replicate, List.length_take] at h4 ⊢
        omega
      simp; omega
    k_steps
    all_goals (try with_reducible refine kQ _ _ ?_)
    rename Fr _ _ _ _ => F9
    rename News _ _ _ _ => N9
    rw [List.push_toArray] at N9
    obtain ⟨oI, hIo⟩ := hIo
    have hS4 := hS3.setSc hr3 (k := k3 + 1) (hi3.append (.cons x t .nil))
    have hK4 := hK3.trans (keep_off (o := listOf (vs3 ++ [Value.int x t]).toArray (k3 + 1)) (S' := S3.setSc y (S3.sc y ++ [x])) ht3' rfl)
    have hI4 := (hK4 _ (List.mem_append_right _ hIo) hIt).2
    refine ⟨_, _, _, off I _, _, rfl, F9, N9, fun p hp => (mem_off.mp hp).1, ?_, ?_, by rw [← hsa]; with_unfolding_all rfl, by with_unfolding_all rfl, _, hS4.offI hI4, keep_end hKi hTI hK4, ?_⟩
    · intro p hp
      refine (hK4 p (List.mem_append_right _ hp) ?_).1
      rcases hown p hp with e | e
      · rw [e]; exact hIt
      · rw [e]; exact hDt
    · intro p hp hb
      exact (mem_off.mp hp).2 (List.mem_singleton.mp hb)
    · have htk1 : ys.take (i + 1) = ys.take i ++ [y] := by rw [List.take_add_one, hy]; rfl
      refine ⟨(hAi.same.trans hsame3).trans ⟨rfl, rfl, rfl, rfl, rfl, rfl⟩, ?_, hnp3.trans hAi.np, ?_⟩
      · show S3.rows.map (·.1) = _
        rw [hkeys3, hAi.keys, htk1, List.foldl_append]; rfl
      · funext z
        show (if z = y then S3.sc y ++ [x] else S3.sc z) = _
        rw [hsc3, hAi.sc, htk1, List.count_append, List.count_singleton]
        by_cases e : z = y
        · subst e; simp [List.replicate_succ']
        · have : (y == z) = false := by simpa using fun e' => e e'.symm
          simp [e, this]
  · intro I hI m₁ T2 h7 tk₀ tk7 zr7 htk hTI F₁ N₁
    refine hideG fun kG => ?_
    obtain ⟨hm1, hm2, Si, hSi, hKi, hAi⟩ := zr7
    refine kG ?_
    clear kG
    clear F6 N6
    k_steps
    all_goals (try with_reducible refine kQ _ _ ?_)
    rename Fr h₀ L _ _ => F9
    rename News h₀ L _ _ => N9
    rw [hvl] at hAi
    exact ret _ _ _ _ F9 N9 ⟨rfl, Si, hSi, fun p hp e => hKi p (.tail _ hp) e, hAi⟩


theorem regD3 : True := by
  k_with_none
  w_top off
  (k_with "m sub" => (first | ((repeat' (first | exact sub_nil | with_reducible refine sub_cons ?_ ?_ | with_reducible refine sub_app ?_ ?_)) <;> (first | k_mem | (intro p hp; k_mem))) | (intro p hp; simp only [List.cons_append, List.nil_append, List.append_assoc, List.mem_cons, List.mem_append, List.not_mem_nil, or_false, false_or, List.append_nil] at hp ⊢; grind)))
  (k_with "exec For" => (with_unfolding_all refine wpAny_For ?_ (by intro _; rfl)))
  (k_with "m call" => (refine wpAny_call ?_; (first | (k_dflt k_enter) | fail "no entry")))
  (k_with "compareOp In int ref" => (refine in_list_ints (isList_of (by k_asm) (by k_mem)) (by assumption) ?_))
  (k_with "compareOp NotIn int ref" => (refine notin_list_ints (isList_of (by k_asm) (by k_mem)) (by assumption) ?_))
  (k_with "compareOp Is int int" => (refine is_int (by assumption) (by assumption) (by assumption) ?_))
  (k_with "exec For Name Name cons nil" => (with_unfolding_all refine wpAny_For ?_ (by intro _; rfl)))
  (k_with "exec For Name Name" => (with_unfolding_all refine wpAny_For ?_ (by intro _; rfl)))
  (k_with "exec For Name List cons nil" => (with_unfolding_all refine wpAny_For ?_ (by intro _; rfl)))
  (k_with "exec For Name List" => (with_unfolding_all refine wpAny_For ?_ (by intro _; rfl)))
  (k_with "exec For Name Call cons nil" => (with_unfolding_all refine wpAny_For ?_ (by intro _; rfl)))
  (k_with "exec For Name Call" => (with_unfolding_all refine wpAny_For ?_ (by intro _; rfl)))
  (k_with "exec For Name BinOp cons nil" => (with_unfolding_all refine wpAny_For ?_ (by intro _; rfl)))
  (k_with "exec For Name BinOp" => (with_unfolding_all refine wpAny_For ?_ (by intro _; rfl)))
  (k_with "exec For Name Tuple cons nil" => (with_unfolding_all refine wpAny_For ?_ (by intro _; rfl)))
  (k_with "exec For Name Tuple" => (with_unfolding_all refine wpAny_For ?_ (by intro _; rfl)))
  (k_with "exec For Name Attribute cons nil" => (with_unfolding_all refine wpAny_For ?_ (by intro _; rfl)))
  (k_with "exec For Name Attribute" => (with_unfolding_all refine wpAny_For ?_ (by intro _; rfl)))
  (k_with "exec For Tuple Name cons nil" => (with_unfolding_all refine wpAny_For ?_ (by intro _; rfl)))
  (k_with "exec For Tuple Name" => (with_unfolding_all refine wpAny_For ?_ (by intro _; rfl)))
  (k_with "exec For Tuple List cons nil" => (with_unfolding_all refine wpAny_For ?_ (by intro _; rfl)))
  (k_with "exec For Tuple List" => (with_unfolding_all refine wpAny_For ?_ (by intro _; rfl)))
  (k_with "exec For Tuple Call cons nil" => (with_unfolding_all refine wpAny_For ?_ (by intro _; rfl)))
  (k_with "exec For Tuple Call" => (with_unfolding_all refine wpAny_For ?_ (by intro _; rfl)))
  (k_with "exec For Tuple BinOp cons nil" => (with_unfolding_all refine wpAny_For ?_ (by intro _; rfl)))
  (k_with "exec For Tuple BinOp" => (with_unfolding_all refine wpAny_For ?_ (by intro _; rfl)))
  (k_with "exec For Tuple Tuple cons nil" => (with_unfolding_all refine wpAny_For ?_ (by intro _; rfl)))
  (k_with "exec For Tuple Tuple" => (with_unfolding_all refine wpAny_For ?_ (by intro _; rfl)))
  (k_with "exec For Tuple Attribute cons nil" => (with_unfolding_all refine wpAny_For ?_ (by intro _; rfl)))
  (k_with "exec For Tuple Attribute" => (with_unfolding_all refine wpAny_For ?_ (by intro _; rfl)))
  (k_with "call builtin:len" => (k_dflt (refine' len_led ?w0qN ?w0qm ?w0qz ?_; (case w0qN => k_asm); (case w0qm => k_mem); (case w0qz => first | assumption | omega))))
  (k_with "subscriptTail Name Name ref int" => (k_dflt (refine' item_led ?w1qN ?w1qm ?w1qa ?w1qb ?w1qx ?_; (case w1qN => k_asm); (case w1qm => k_mem); (case w1qa => omega); (case w1qb => omega); (case w1qx => assumption))))
  (k_with "eval ListComp" => (k_dflt (refine comp_eval (by with_unfolding_all rfl) rfl (by decide) (by intro _; rfl) ?_)))
  (k_with "exec Assign cons ListComp" => (k_dflt (refine comp_assign (by with_unfolding_all rfl) (by with_unfolding_all rfl) rfl (by decide) (by intro _; rfl) ?_)))
  (k_with "eval Name" => ((with_reducible show wpAny _ _ (eval (Expr.Name _ _) (compEnvC _ _ _ _)) _ _ _); k_dflt (refine' ldC ?w2qN ?w2qm ?w2qn ?w2qv ?_ ?w2qa ?w2qb; (case w2qa => rfl); (case w2qb => rfl); (case w2qN => k_asm); (case w2qm => k_mem); (case w2qn => assumption); (case w2qv => with_unfolding_all rfl))))
  (k_with "call ref" => ((first | (with_reducible show wpAny _ _ (call (Value.ref 183) _) _ _ _) | (with_reducible show wpAny _ _ (call (Value.ref 190) _) _ _ _) | (with_reducible show wpAny _ _ (call (Value.ref 197) _) _ _ _) | (with_reducible show wpAny _ _ (call (Value.ref 204) _) _ _ _) | (with_reducible show wpAny _ _ (call (Value.ref 211) _) _ _ _) | (with_reducible show wpAny _ _ (call (Value.ref 218) _) _ _ _) | (with_reducible show wpAny _ _ (call (Value.ref 223) _) _ _ _) | (with_reducible show wpAny _ _ (call (Value.ref 228) _) _ _ _) | (with_reducible show wpAny _ _ (call (Value.ref 235) _) _ _ _) | (with_reducible show wpAny _ _ (call (Value.ref 80) _) _ _ _) | (with_reducible show wpAny _ _ (call (Value.ref 87) _) _ _ _) | (with_reducible show wpAny _ _ (call (Value.ref 92) _) _ _ _) | (with_reducible show wpAny _ _ (call (Value.ref 99) _) _ _ _) | (with_reducible show wpAny _ _ (call (Value.ref 106) _) _ _ _) | (with_reducible show wpAny _ _ (call (Value.ref 120) _) _ _ _) | (with_reducible show wpAny _ _ (call (Value.ref 127) _) _ _ _)); refine hold ?_))
  (k_with "m use" => ((try unfold held); (rename Call _ _ _ _ _ _ => hC); k_dflt (refine' Call.use hC ?w3qB ?w3qF ?w3qX ?w3qN ?w3qT ?w3qk ?w3qd ?w3qu ?_; (case w3qB => k_asm); (case w3qF => k_asm); (case w3qX => k_asm); (case w3qN => k_asm); (case w3qT => k_asm); (case w3qk => first | exact rfl | assumption); (case w3qd => ktr_room); (case w3qu => ktr_units)); clear hC))
  (k_with "m pure" => ((try unfold held); (rename Call _ _ _ _ _ _ => hC); k_dflt (refine' Call.pure hC ?w4qB ?w4qF ?w4qX ?w4qN ?w4qT ?w4qk ?w4qd ?w4qu ?_; (case w4qB => k_asm); (case w4qF => k_asm); (case w4qX => k_asm); (case w4qN => k_asm); (case w4qT => k_asm); (case w4qk => first | exact rfl | assumption); (case w4qd => ktr_room); (case w4qu => ktr_units)); clear hC))
  (k_with "subscriptTail Name Constant ref int" => (k_dflt (refine' item_led ?w5qN ?w5qm ?w5qa ?w5qb ?w5qx ?_; (case w5qN => k_asm); (case w5qm => k_mem); (case w5qa => omega); (case w5qb => omega); (case w5qx => first | assumption | rfl))))
  (k_with "compareOp Eq ref ref" => refine hold ?_)
  (k_with "pyIter ref" => refine hold ?_)
  (k_with "subscriptTail Name BinOp ref int" => (k_dflt (refine' item_led ?w1qN ?w1qm ?w1qa ?w1qb ?w1qx ?_; (case w1qN => k_asm); (case w1qm => k_mem); (case w1qa => omega); (case w1qb => omega); (case w1qx => assumption))))
  (k_with "compareOp NotEq ref ref" => refine hold ?_)
  (k_with "getMethod ref" => ((with_reducible show wpAny _ _ (getMethod (Value.ref _) (Str.ofString "get") _) _ _ _); k_dflt (refine' kdg_method (knd := PySem.intKind _ _) ?w6qN ?w6qm ?w6qd ?_; (case w6qN => k_asm); (case w6qm => k_mem); (case w6qd => assumption))))
  (k_with "call builtin:dict.get" => (k_dflt (refine' kdg_get1 (knd := PySem.intKind _ _) ?w7qN ?w7qm ?w7qd ?w7ql ?w7qk _ ?w7qx ?_; (case w7qN => k_asm); (case w7qm => k_mem); (case w7qd => assumption); (case w7ql => assumption); (case w7qk => exact intKind_is _ _ _ _); (case w7qx => assumption)); (try dsimp only [Option.getD])))
  (k_with "call builtin:len" => (k_dflt (refine' lenT_led ?w8qN ?w8qm ?w8qz ?_; (case w8qN => k_asm); (case w8qm => k_mem); (case w8qz => first | assumption | omega))))
  (k_with "call type:bool" => (k_dflt (refine' boolL_led ?w9qN ?w9qm ?w9qz ?_; (case w9qN => k_asm); (case w9qm => k_mem); (case w9qz => first | assumption | omega))))
  (k_with "subscriptTail Name Name ref int" => (k_dflt (refine' kda_item (knd := PySem.intKind _ _) ?w10qN ?w10qm ?w10qd (intKind_is _ _ _ _) ?w10qv ?_; (case w10qN => k_asm); (case w10qm => k_mem); (case w10qd => assumption); (case w10qv => assumption))))
  (k_with "subscriptTail Name Name ref int" => (k_dflt (refine' item_led ?w1qN ?w1qm ?w1qa ?w1qb ?w1qx ?_; (case w1qN => k_asm); (case w1qm => k_mem); (case w1qa => omega); (case w1qb => omega); (case w1qx => assumption))))
  (k_with "exec While Constant cons nil" => refine hold ?_)
  (k_with "exec While Constant" => refine hold ?_)
  (k_with "exec While Name cons cons" => refine hold ?_)
  (k_with "exec While Name" => refine hold ?_)
  (k_with "exec While" => refine hold ?_)
  (k_with "call ref nil" => refine hold ?_)
  (k_with "call ref nil nil" => refine hold ?_)
  (k_with "subscriptTail Name UnaryOp ref int" => (k_dflt (refine' last_led ?w11qN ?w11qm ?w11qx ?_; (case w11qN => k_asm); (case w11qm => k_mem); (case w11qx => first | assumption | exact List.getLast?_concat))))
  (k_with "truthy ref" => ((with_reducible show wpAny _ _ (truthy (Value.ref _)) _ _ _); k_dflt (refine' truthyL_led ?w12qN ?w12qm ?w12qz ?_; (case w12qN => k_asm); (case w12qm => k_mem); (case w12qz => first | assumption | omega))))
  (k_with "compareOp In int ref" => (k_dflt (refine' inset_led (knd := PySem.intKind _ _) ?w13qN ?w13qm ?w13qd ?w13qz (intKind_is _ _ _ _) rfl ?_; (case w13qN => k_asm); (case w13qm => k_mem); (case w13qd => assumption); (case w13qz => kse_small)); (try dsimp only)))
  (k_with "compareOp In int ref" => (k_dflt (refine' kda_in (knd := PySem.intKind _ _) ?w14qN ?w14qm ?w14qd ?w14ql (intKind_is _ _ _ _) _ ?w14qv ?_; (case w14qN => k_asm); (case w14qm => k_mem); (case w14qd => assumption); (case w14ql => assumption); (case w14qv => assumption))))
  (k_with "compareOp In int ref" => (k_dflt (refine' inset_b (knd := PySem.intKind _ _) ?w15qN ?w15qm ?w15qd ?w15qz (intKind_is _ _ _ _) rfl _ ?w15qv ?_; (case w15qN => k_asm); (case w15qm => k_mem); (case w15qd => assumption); (case w15qz => kse_small); (case w15qv => assumption))))
  trivial
local macro_rules | `(tactic| walk_at "call builtin:list.clear") => `(tactic| (k_dflt (refine' clear_led ?F ?N ?U ?z ?_; (case F => k_asm); (case N => k_asm); (case U => k_updF); (case z => first | assumption | omega)); intro h' k' F' N'; (try dsimp only at N'); (try k_sweep)))
local macro_rules | `(tactic| walk_at "delItem ref int") => `(tactic| (k_dflt (refine' kob_del (knd := PySem.intKind _ _) ?F ?N ?U ?d (intKind_is _ _ _ _) ?v ?z ?_; (case F => k_asm); (case N => k_asm); (case U => k_updF); (case d => assumption); (case v => assumption); (case z => first | assumption | (rw [sizeLine_eq]; omega))); intro h' o' F' N' hd'; (try dsimp only at N')))
theorem active_call (w : World) (prog : Program) (S : SS) (T₀ : List (Addr × Obj)) (h : Srt prog w T₀ S) (ra : Addr) (l : List Int) (hrd : S.rd = some (ra, l)) (hfp : ¬ S.fi < S.po) (hll : l.length ≤ 64) :
    CallM prog 9 w 106 [.ref S.sa] T₀ (fun T' v => T' = T₀ ∧ v = .bool (decide (l ≠ []))) := by
  have h1 := h.inst
  refine hideG fun kG => ?_
  obtain ⟨k1, k2, k3, k4, t1, t2, h2⟩ := h.dict
  refine kG ?_
  clear kG
  rw [hrd] at h2
  dsimp only [rdv] at h2
  refine hideG fun kG => ?_
  obtain ⟨vs, k, h3, hi⟩ := h.ready _ _ hrd
  refine kG ?_
  clear kG
  have hvl := hi.length
  intro mean mg mb p0 loose dp un gd cn cs a ccd cl outer A₀ base h₀ L m s Q E B F X N T hk hd hu ret exc
  walk_at "m call"
  k_steps
  all_goals (try with_reducible refine kQ _ _ ?_)
  rename Fr h₀ L _ _ => F9
  rename News h₀ L _ _ => N9
  refine ret _ _ _ _ F9 N9 ⟨rfl, ?_⟩
  have : decide (vs ≠ []) = decide (l ≠ []) := by
    have e1 : vs = [] ↔ l = [] := by rw [← List.length_eq_zero_iff, ← List.length_eq_zero_iff, hvl]
    simp [e1]
  rw [this]
theorem outAll_snoc (np : Int → Int) (R : List Int) (x : Int) : outAll np (R ++ [x]) = fun z => if z = x then -1 else outAll np R z := by
  unfold outAll; rw [List.foldl_append]; rfl
theorem news_off2 {h₀ h : Heap} {L a b : Addr} {o1 o2 : Obj} {T : List (Addr × Obj)} (N : News h₀ L h T) (h1 : (a, o1) ∈ T) (h2 : (b, o2) ∈ T) : News h₀ L h ((a, o1) :: (b, o2) :: off b (off a T)) := fun p hp => by
  rcases List.mem_cons.mp hp with e | hp
  · rw [e]; exact N _ h1
  · rcases List.mem_cons.mp hp with e | hp
    · rw [e]; exact N _ h2
    · exact N _ (mem_off.mp (mem_off.mp hp).1).1
theorem srt_rd_da {prog : Program} {w : World} {T : List (Addr × Obj)} {S : SS} (h : Srt prog w T S) {ra : Addr} {l₀ l : List Int} (hrd : S.rd = some (ra, l₀)) {ws : List Value} (hi : IntsAre ws l) (k : Nat) (k1 k2 k3 k4 t1 t2 : Tok) (po fi : Int) :
    Srt prog w ((ra, listOf ws.toArray k) :: (S.da, srtO w k1 k2 k3 k4 S.na (.ref ra) (.int po t1) (.int fi t2)) :: off S.da (off ra T)) { S with rd := some (ra, l), po := po, fi := fi } ∧
      Keep S T { S with rd := some (ra, l), po := po, fi := fi } ((ra, listOf ws.toArray k) :: (S.da, srtO w k1 k2 k3 k4 S.na (.ref ra) (.int po t1) (.int fi t2)) :: off S.da (off ra T)) := by
  refine ⟨((h.setRd hrd (k := k) hi).setDa { S with rd := some (ra, l), po := po, fi := fi } k1 k2 k3 k4 t1 t2 ⟨rfl, rfl, rfl, rfl, rfl, rfl, rfl, rfl⟩).mono fun p hp => ?_, fun p hp e => ⟨.tail _ (.tail _ (mem_off.mpr ⟨mem_off.mpr ⟨hp, fun q => ?_⟩, fun q => ?_⟩)), e⟩⟩
  · rcases List.mem_cons.mp hp with e | hp
    · rw [e]; exact .tail _ (.head _)
    · obtain ⟨hp, hn⟩ := mem_off.mp hp
      rcases List.mem_cons.mp hp with e | hp
      · rw [e]; exact .head _
      · exact .tail _ (.tail _ (mem_off.mpr ⟨hp, hn⟩))
  · rw [q, h.trd _ _ hrd] at e; cases e
  · rw [q, h.tda] at e; cases e
theorem ready_call (w : World) (prog : Program) (S : SS) (T₀ : List (Addr × Obj)) (h : Srt prog w T₀ S) (ra : Addr) (l : List Int) (hrd : S.rd = some (ra, l)) (hll : l.length ≤ 64) (hkl : ∀ x ∈ l, x ∈ S.rows.map (·.1)) :
    CallM prog 9 w 99 [.ref S.sa] T₀ (fun T' v => ∃ R vs S', v = .ref R ∧ (R, tupO vs) ∈ T' ∧ IntsAre vs l ∧ Srt prog w T' S' ∧ S'.tag R = none ∧ Keep S T₀ S' T' ∧ S' = { S with np := outAll S.np l, rd := some (ra, []), po := S.po + l.length } ∧ ∀ p ∈ T₀, p.1 ≠ R) := by
  have h1 := h.inst
  refine hideG fun kG => ?_
  obtain ⟨k1, k2, k3, k4, t1, t2, h2⟩ := h.dict
  refine kG ?_
  clear kG
  rw [hrd] at h2
  dsimp only [rdv] at h2
  refine hideG fun kG => ?_
  obtain ⟨vs, k, h3, hi⟩ := h.ready _ _ hrd
  refine kG ?_
  clear kG
  have hvl := hi.length
  intro mean mg mb p0 loose dp un gd cn cs a ccd cl outer A₀ base h₀ L m s Q E B F X N T hk hd hu ret exc
  walk_at "m call"
  k_steps
  all_goals (try with_reducible refine kQ _ _ ?_)
  unfold held
  rename Fr _ _ _ _ => F6
  rename News _ _ _ _ => N6
  rename ∀ p ∈ T₀, p.1 < _ => l1
  rename_i Dp _ _ _
  have hS0 : Srt prog w ((Dp, tupO vs) :: T₀) S := h.mono fun p hp => .tail _ hp
  have hDp : S.tag Dp = none := h.fresh fun p hp => Nat.ne_of_lt (l1 p hp)
  refine iterTupleM (vs := vs) (k := 0) (fun i m T tk => m (Str.ofString "self") = some (.ref S.sa) ∧ m (Str.ofString "result") = some (.ref Dp) ∧ m (Str.ofString "n2i") = some (.ref S.na) ∧ ∃ Si, Srt prog w T Si ∧ Keep S ((Dp, tupO vs) :: T₀) Si T ∧ Si = { S with np := outAll S.np (l.take i) }) _ rfl F6 N6 (.head _) ⟨by with_unfolding_all rfl, by with_unfolding_all rfl, by with_unfolding_all rfl, S, hS0, Keep.refl _ _, by simp [outAll]⟩ ?_ ?_
  · intro I hI i v m₁ T2 own h7 tk₀ tk7 hv zr11 htk hTI hown hIo F₁ N₁
    refine hideG fun kG => ?_
    obtain ⟨hm1, hm2, hm3, Si, hSi, hKi, hAi⟩ := zr11
    obtain ⟨x, u, rfl, hx⟩ := hi.at i v hv
    refine kG ?_
    clear kG
    (try refine opq fun PQ kQ => ?_)
    have hIt : Si.tag I = none := hSi.fresh hTI
    have hDt : Si.tag Dp = none := (hKi (Dp, tupO vs) (.head _) hDp).2
    have hSo : Srt prog w (T2 ++ own) Si := hSi.mono fun p hp => List.mem_append_left _ hp
    have hrows : Si.rows = S.rows := by rw [hAi]
    refine hideG fun kG => ?_
    obtain ⟨ia, sl, hr, hval⟩ := hSo.getRow (x := x) (by rw [hrows]; exact hkl x (List.mem_of_getElem? hx))
    obtain ⟨d, tx, tv, hmi, hmd, hdt⟩ := hSo.node _ hr
    refine kG ?_
    clear kG
    have ht := (hSo.tnode _ hr).1
    refine hideG fun kG => ?_
    obtain ⟨o, hn, ho⟩ := hSo.n2i
    refine kG ?_
    clear kG
    have hna : Si.na = S.na := by rw [hAi]
    dsimp only at hmi ht hdt
    have hn' := mem_off.mpr ⟨hn, tag_ne hSo.tna ht (fun e => nomatch e)⟩
    have hd' := mem_off.mpr ⟨hmd, tag_ne hdt ht (fun e => nomatch e)⟩
    replace N₁ := news_off N₁ hmi
    have hoff : ∀ p ∈ off ia (T2 ++ own), p.1 ≠ ia := off_ne
    rw [← hna] at hm3
    have F₂ := fr_pin3 F₁ hm1 hm2 hm3
    clear F6 N6 F₁
    k_steps
    all_goals (try with_reducible refine kQ _ _ ?_)
    rename Fr _ _ _ _ => F9
    rename News _ _ _ _ => N9
    obtain ⟨oI, hIo⟩ := hIo
    have hS4 := fun tv' => hSo.setNp hr hmd hdt tx (-1) tv'
    have hK4 := fun tv' => (keep_off (T := T2 ++ own) (o := infO d x tx (-1) tv' sl) (S' := Si.setNp x (-1)) ht rfl)
    refine ⟨_, _, _, off I _, _, rfl, F9, N9, fun p hp => (mem_off.mp hp).1, ?_, ?_, by with_unfolding_all rfl, by with_unfolding_all rfl, by rw [← hna]; with_unfolding_all rfl, _, (hS4 _).offI hIt, keep_end hKi hTI (hK4 _), ?_⟩
    · intro p hp
      refine (hK4 _ p (List.mem_append_right _ hp) ?_).1
      rcases hown p hp with e | e
      · rw [e]; exact hIt
      · rw [e]; exact hDt
    · intro p hp hb
      exact (mem_off.mp hp).2 (List.mem_singleton.mp hb)
    · have htk1 : l.take (i + 1) = l.take i ++ [x] := by rw [List.take_add_one, hx]; rfl
      rw [htk1, outAll_snoc, SS.setNp, hAi]
  · intro I hI m₁ T2 h7 tk₀ tk7 zr7 htk hTI F₁ N₁
    refine hideG fun kG => ?_
    obtain ⟨hm1, hm2, hm3, Si, hSi, hKi, hAi⟩ := zr7
    refine kG ?_
    clear kG
    have hDm := hKi (Dp, tupO vs) (.head _) hDp
    have hsa : Si.sa = S.sa := by rw [hAi]
    have hrdi : Si.rd = some (ra, l) := by rw [hAi]; exact hrd
    have hpo : Si.po = S.po := by rw [hAi]
    refine hideG fun kG => ?_
    obtain ⟨j1, j2, j3, j4, u1, u2, hdi⟩ := hSi.dict
    obtain ⟨ws, k', hrl, hwi⟩ := hSi.ready _ _ hrdi
    refine kG ?_
    clear kG
    rw [hrdi] at hdi
    dsimp only [rdv] at hdi
    have hin := hSi.inst
    have tra := hSi.trd _ _ hrdi
    have n1 : Si.sa ≠ ra := tag_ne hSi.tsa tra (fun e => nomatch e)
    have n2 : Si.sa ≠ Si.da := tag_ne hSi.tsa hSi.tda (fun e => nomatch e)
    have n3 : Si.da ≠ ra := tag_ne hSi.tda tra (fun e => nomatch e)
    have n4 : Dp ≠ ra := tag_ne hDm.2 tra (fun e => nomatch e)
    have n5 : Dp ≠ Si.da := tag_ne hDm.2 hSi.tda (fun e => nomatch e)
    replace N₁ := news_off2 N₁ hrl hdi
    have hin' := mem_off.mpr ⟨mem_off.mpr ⟨hin, n1⟩, n2⟩
    have hDm' := mem_off.mpr ⟨mem_off.mpr ⟨hDm.1, n4⟩, n5⟩
    have o1 : ∀ p ∈ off Si.da (off ra T2), p.1 ≠ ra := fun p hp => (mem_off.mp (mem_off.mp hp).1).2
    have o2 : ∀ p ∈ off Si.da (off ra T2), p.1 ≠ Si.da := off_ne
    have n3' := Ne.symm n3
    rw [← hsa] at hm1
    have hwl := hwi.length
    have F₂ := fr_pin2 F₁ hm1 hm2
    clear F6 N6 F₁
    k_steps
    all_goals (try with_reducible refine kQ _ _ ?_)
    rename Fr h₀ L _ _ => F9
    rename News h₀ L _ _ => N9
    have hfin := fun k t1 t2 => srt_rd_da hSi hrdi (ws := []) (l := []) .nil k j1 j2 j3 j4 t1 t2 (Si.po + (vs.length : Int)) Si.fi
    refine ret _ _ _ _ F9 N9 ⟨Dp, vs, _, rfl, .tail _ (.tail _ hDm'), hi, (hfin _ _ _).1, hDm.2, fun p hp e => (hfin _ _ _).2 p (hKi p (.tail _ hp) e).1 (hKi p (.tail _ hp) e).2, ?_, fun p hp => Nat.ne_of_lt (l1 p hp)⟩
    rw [hAi, hvl, List.take_length]


section
open PySem PySem.W PyProof.Rows PySem.Calls
/-- CallM, of the code of the call -/
noncomputable def CodeM (prog : Program) (d : Nat) (w : World) (f : Addr) (args : List Value) (news : List (Addr × Obj)) (RES : List (Addr × Obj) → Value → Prop) (EXC : List (Addr × Obj) → Value → Prop := fun _ _ => False) : Prop :=
  ∀ (mean : ExcName → Option Value) (mg mb : Str → Option Value) (p0 : Program) (loose : List Str) (dp un : Nat) (gd : Option (List Code)) (cn : Str) (cs : Scope) (a : Addr) (ccd : Value) (cl : List (Str × Addr)) (outer : List Env) (A₀ : Around) (base h₀ : Heap) (L : Addr) (m : Str → Option Value) (s : Shared) (Q E : Value → Shared → Prop),
    Below A₀ base outer h₀ → Fr h₀ L s.heap m → (hd.heap_1 w.params).In h₀ → News h₀ L s.heap news → Top p0 loose mean mg mb h₀ → cs.kind = .function → dp + d < recursionLimit → un + 20 * d < cLine →
    (∀ v news' h' tk', Fr h₀ L h' m → News h₀ L h' news' → RES news' v → Q v { s with heap := h', toks := tk' }) →
    (∀ v news' h' tk', Fr h₀ L h' m → News h₀ L h' news' → EXC news' v → E v { s with heap := h', toks := tk' }) →
    codeAny (model prog w) (ktrTop dp un gd cn cs L a ccd cl outer) (.call (.ref f) ⟨args, []⟩) (fun r s' => match r with | .ok (.ret v) => Q v s' | .ok _ => False | .error e => E e s') s
theorem CodeM.call {prog : Program} {d : Nat} {w : World} {f : Addr} {args : List Value} {news : List (Addr × Obj)} {RES EXC : List (Addr × Obj) → Value → Prop} (C : CodeM prog d w f args news RES EXC) : CallM prog d w f args news RES EXC :=
  fun _ _ _ _ _ _ _ _ _ _ _ _ _ _ _ _ _ _ _ _ _ _ B F X N T hk hd hu ret exc => wpAny_call (C _ _ _ _ _ _ _ _ _ _ _ _ _ _ _ _ _ _ _ _ _ _ B F X N T hk hd hu ret exc)
section
variable {prog : Program} {w : World} {A : Around} {E : Value → Shared → Prop} {s : Shared} {h₀ : Heap} {L : Addr} {m : Str → Option Value} {news : List (Addr × Obj)} {Q : Value → Shared → Prop}
/-- o.m(*e): the method is bound first -/
theorem starMethod_ {M : Model} {env : Env} {x : Str} {np : Pos} {name : Str} {apos pos p : Pos} {e : Expr}
    (h : wpAny M A (eval (.Name x np) env) (fun ov s₁ => wpAny M A (getAttr ov name true) (fun f s₂ => wpAny M A (callWith pos f [] (backTo pos (starEach [.Starred e p] env)) []) Q E s₂) E s₁) E s)
    (he : eval (.Call (.Attribute (.Name x np) name apos) [.Starred e p] [] pos) env = (do
      let ov ← eval (.Name x np) env
      standAt apos.atName
      let (f, first) ← holding [ov] (do pure (← getAttr ov name true, ([] : List Value)))
      callWith pos f first (backTo pos (starEach [.Starred e p] env)) []) := by rfl) :
    wpAny M A (eval (.Call (.Attribute (.Name x np) name apos) [.Starred e p] [] pos) env) Q E s := by
  rw [he]
  refine wpAny_bind (wpAny_mono h (fun ov s₁ h₁ => wpAny_bind (wpAny_standAt (wpAny_bind (wpAny_holding (wpAny_bind (wpAny_mono h₁ (fun f s₂ h₂ => wpAny_pure ?_) fun _ _ x => x)))))) fun _ _ x => x)
  exact h₂
/-- the bound method is called with what lies in a tuple -/
theorem star_bound {env : Env} {K : Frag} {pos p np : Pos} {q f R : Addr} {self : Value} {x : Str} {vs : List Value} {k : Nat} (X : K.In h₀) (hf : fnIn K f = true)
    (F : Fr h₀ L s.heap m) (N : News h₀ L s.heap news) (hm : (q, methodObj (.ref f) self) ∈ news) (hR : (R, tupO vs k) ∈ news) (hz : vs.length ≤ 1000)
    (hx : ∀ {Q' : Value → Shared → Prop}, Q' (.ref R) s → wpAny (model prog w) A (eval (.Name x np) env) Q' E s)
    (h : ∀ h', Fr h₀ L h' m → News h₀ L h' news → codeAny (model prog w) A (.call (.ref f) ⟨self :: vs, []⟩) (fun r s' => match r with | .ok (.ret v) => Q v s' | .ok _ => False | .error e => E e s') { s with heap := h' }) :
    wpAny (model prog w) A (callWith pos (.ref q) [] (backTo pos (starEach [.Starred (.Name x np) p] env)) []) Q E s := by
  have he : starEach [.Starred (.Name x np) p] env = [(true, eval (.Name x np) env)] := by rfl
  rw [he]
  refine ks_call (P := MethP K q f self) rfl (keeps_M hf) (ks_lone (hx ?_))
  refine star_seq (ws := vs) F N hR rfl rfl (.inr rfl) (by simp) (by rw [sizeLine_eq]; simp; omega) fun h' F' N' => ⟨⟨(N' _ hm).1, X.keeps F'.keep⟩, ?_⟩
  exact wpAny_call (ks_codeAny_call_bound (N' _ hm).1 (h h' F' N'))
end

end
theorem regD4 : True := by
  k_with_none
  w_top off
  (k_with "m sub" => (first | ((repeat' (first | exact sub_nil | with_reducible refine sub_cons ?_ ?_ | with_reducible refine sub_app ?_ ?_)) <;> (first | k_mem | (intro p hp; k_mem))) | (intro p hp; simp only [List.cons_append, List.nil_append, List.append_assoc, List.mem_cons, List.mem_append, List.not_mem_nil, or_false, false_or, List.append_nil] at hp ⊢; grind)))
  (k_with "exec For" => (with_unfolding_all refine wpAny_For ?_ (by intro _; rfl)))
  (k_with "m call" => (refine wpAny_call ?_; (first | (k_dflt k_enter) | fail "no entry")))
  (k_with "compareOp In int ref" => (refine in_list_ints (isList_of (by k_asm) (by k_mem)) (by assumption) ?_))
  (k_with "compareOp NotIn int ref" => (refine notin_list_ints (isList_of (by k_asm) (by k_mem)) (by assumption) ?_))
  (k_with "compareOp Is int int" => (refine is_int (by assumption) (by assumption) (by assumption) ?_))
  (k_with "exec For Name Name cons nil" => (with_unfolding_all refine wpAny_For ?_ (by intro _; rfl)))
  (k_with "exec For Name Name" => (with_unfolding_all refine wpAny_For ?_ (by intro _; rfl)))
  (k_with "exec For Name List cons nil" => (with_unfolding_all refine wpAny_For ?_ (by intro _; rfl)))
  (k_with "exec For Name List" => (with_unfolding_all refine wpAny_For ?_ (by intro _; rfl)))
  (k_with "exec For Name Call cons nil" => (with_unfolding_all refine wpAny_For ?_ (by intro _; rfl)))
  (k_with "exec For Name Call" => (with_unfolding_all refine wpAny_For ?_ (by intro _; rfl)))
  (k_with "exec For Name BinOp cons nil" => (with_unfolding_all refine wpAny_For ?_ (by intro _; rfl)))
  (k_with "exec For Name BinOp" => (with_unfolding_all refine wpAny_For ?_ (by intro _; rfl)))
  (k_with "exec For Name Tuple cons nil" => (with_unfolding_all refine wpAny_For ?_ (by intro _; rfl)))
  (k_with "exec For Name Tuple" => (with_unfolding_all refine wpAny_For ?_ (by intro _; rfl)))
  (k_with "exec For Name Attribute cons nil" => (with_unfolding_all refine wpAny_For ?_ (by intro _; rfl)))
  (k_with "exec For Name Attribute" => (with_unfolding_all refine wpAny_For ?_ (by intro _; rfl)))
  (k_with "exec For Tuple Name cons nil" => (with_unfolding_all refine wpAny_For ?_ (by intro _; rfl)))
  (k_with "exec For Tuple Name" => (with_unfolding_all refine wpAny_For ?_ (by intro _; rfl)))
  (k_with "exec For Tuple List cons nil" => (with_unfolding_all refine wpAny_For ?_ (by intro _; rfl)))
  (k_with "exec For Tuple List" => (with_unfolding_all refine wpAny_For ?_ (by intro _; rfl)))
  (k_with "exec For Tuple Call cons nil" => (with_unfolding_all refine wpAny_For ?_ (by intro _; rfl)))
  (k_with "exec For Tuple Call" => (with_unfolding_all refine wpAny_For ?_ (by intro _; rfl)))
  (k_with "exec For Tuple BinOp cons nil" => (with_unfolding_all refine wpAny_For ?_ (by intro _; rfl)))
  (k_with "exec For Tuple BinOp" => (with_unfolding_all refine wpAny_For ?_ (by intro _; rfl)))
  (k_with "exec For Tuple Tuple cons nil" => (with_unfolding_all refine wpAny_For ?_ (by intro _; rfl)))
  (k_with "exec For Tuple Tuple" => (with_unfolding_all refine wpAny_For ?_ (by intro _; rfl)))
  (k_with "exec For Tuple Attribute cons nil" => (with_unfolding_all refine wpAny_For ?_ (by intro _; rfl)))
  (k_with "exec For Tuple Attribute" => (with_unfolding_all refine wpAny_For ?_ (by intro _; rfl)))
  (k_with "call builtin:len" => (k_dflt (refine' len_led ?w0qN ?w0qm ?w0qz ?_; (case w0qN => k_asm); (case w0qm => k_mem); (case w0qz => first | assumption | omega))))
  (k_with "subscriptTail Name Name ref int" => (k_dflt (refine' item_led ?w1qN ?w1qm ?w1qa ?w1qb ?w1qx ?_; (case w1qN => k_asm); (case w1qm => k_mem); (case w1qa => omega); (case w1qb => omega); (case w1qx => assumption))))
  (k_with "eval ListComp" => (k_dflt (refine comp_eval (by with_unfolding_all rfl) rfl (by decide) (by intro _; rfl) ?_)))
  (k_with "exec Assign cons ListComp" => (k_dflt (refine comp_assign (by with_unfolding_all rfl) (by with_unfolding_all rfl) rfl (by decide) (by intro _; rfl) ?_)))
  (k_with "eval Name" => ((with_reducible show wpAny _ _ (eval (Expr.Name _ _) (compEnvC _ _ _ _)) _ _ _); k_dflt (refine' ldC ?w2qN ?w2qm ?w2qn ?w2qv ?_ ?w2qa ?w2qb; (case w2qa => rfl); (case w2qb => rfl); (case w2qN => k_asm); (case w2qm => k_mem); (case w2qn => assumption); (case w2qv => with_unfolding_all rfl))))
  (k_with "call ref" => ((first | (with_reducible show wpAny _ _ (call (Value.ref 183) _) _ _ _) | (with_reducible show wpAny _ _ (call (Value.ref 190) _) _ _ _) | (with_reducible show wpAny _ _ (call (Value.ref 197) _) _ _ _) | (with_reducible show wpAny _ _ (call (Value.ref 204) _) _ _ _) | (with_reducible show wpAny _ _ (call (Value.ref 211) _) _ _ _) | (with_reducible show wpAny _ _ (call (Value.ref 218) _) _ _ _) | (with_reducible show wpAny _ _ (call (Value.ref 223) _) _ _ _) | (with_reducible show wpAny _ _ (call (Value.ref 228) _) _ _ _) | (with_reducible show wpAny _ _ (call (Value.ref 235) _) _ _ _) | (with_reducible show wpAny _ _ (call (Value.ref 80) _) _ _ _) | (with_reducible show wpAny _ _ (call (Value.ref 87) _) _ _ _) | (with_reducible show wpAny _ _ (call (Value.ref 92) _) _ _ _) | (with_reducible show wpAny _ _ (call (Value.ref 99) _) _ _ _) | (with_reducible show wpAny _ _ (call (Value.ref 106) _) _ _ _) | (with_reducible show wpAny _ _ (call (Value.ref 120) _) _ _ _) | (with_reducible show wpAny _ _ (call (Value.ref 127) _) _ _ _)); refine hold ?_))
  (k_with "m use" => ((try unfold held); (rename Call _ _ _ _ _ _ => hC); k_dflt (refine' Call.use hC ?w3qB ?w3qF ?w3qX ?w3qN ?w3qT ?w3qk ?w3qd ?w3qu ?_; (case w3qB => k_asm); (case w3qF => k_asm); (case w3qX => k_asm); (case w3qN => k_asm); (case w3qT => k_asm); (case w3qk => first | exact rfl | assumption); (case w3qd => ktr_room); (case w3qu => ktr_units)); clear hC))
  (k_with "m pure" => ((try unfold held); (rename Call _ _ _ _ _ _ => hC); k_dflt (refine' Call.pure hC ?w4qB ?w4qF ?w4qX ?w4qN ?w4qT ?w4qk ?w4qd ?w4qu ?_; (case w4qB => k_asm); (case w4qF => k_asm); (case w4qX => k_asm); (case w4qN => k_asm); (case w4qT => k_asm); (case w4qk => first | exact rfl | assumption); (case w4qd => ktr_room); (case w4qu => ktr_units)); clear hC))
  (k_with "subscriptTail Name Constant ref int" => (k_dflt (refine' item_led ?w5qN ?w5qm ?w5qa ?w5qb ?w5qx ?_; (case w5qN => k_asm); (case w5qm => k_mem); (case w5qa => omega); (case w5qb => omega); (case w5qx => first | assumption | rfl))))
  (k_with "compareOp Eq ref ref" => refine hold ?_)
  (k_with "pyIter ref" => refine hold ?_)
  (k_with "subscriptTail Name BinOp ref int" => (k_dflt (refine' item_led ?w1qN ?w1qm ?w1qa ?w1qb ?w1qx ?_; (case w1qN => k_asm); (case w1qm => k_mem); (case w1qa => omega); (case w1qb => omega); (case w1qx => assumption))))
  (k_with "compareOp NotEq ref ref" => refine hold ?_)
  (k_with "getMethod ref" => ((with_reducible show wpAny _ _ (getMethod (Value.ref _) (Str.ofString "get") _) _ _ _); k_dflt (refine' kdg_method (knd := PySem.intKind _ _) ?w6qN ?w6qm ?w6qd ?_; (case w6qN => k_asm); (case w6qm => k_mem); (case w6qd => assumption))))
  (k_with "call builtin:dict.get" => (k_dflt (refine' kdg_get1 (knd := PySem.intKind _ _) ?w7qN ?w7qm ?w7qd ?w7ql ?w7qk _ ?w7qx ?_; (case w7qN => k_asm); (case w7qm => k_mem); (case w7qd => assumption); (case w7ql => assumption); (case w7qk => exact intKind_is _ _ _ _); (case w7qx => assumption)); (try dsimp only [Option.getD])))
  (k_with "call builtin:len" => (k_dflt (refine' lenT_led ?w8qN ?w8qm ?w8qz ?_; (case w8qN => k_asm); (case w8qm => k_mem); (case w8qz => first | assumption | omega))))
  (k_with "call type:bool" => (k_dflt (refine' boolL_led ?w9qN ?w9qm ?w9qz ?_; (case w9qN => k_asm); (case w9qm => k_mem); (case w9qz => first | assumption | omega))))
  (k_with "subscriptTail Name Name ref int" => (k_dflt (refine' kda_item (knd := PySem.intKind _ _) ?w10qN ?w10qm ?w10qd (intKind_is _ _ _ _) ?w10qv ?_; (case w10qN => k_asm); (case w10qm => k_mem); (case w10qd => assumption); (case w10qv => assumption))))
  (k_with "subscriptTail Name Name ref int" => (k_dflt (refine' item_led ?w1qN ?w1qm ?w1qa ?w1qb ?w1qx ?_; (case w1qN => k_asm); (case w1qm => k_mem); (case w1qa => omega); (case w1qb => omega); (case w1qx => assumption))))
  (k_with "exec While Constant cons nil" => refine hold ?_)
  (k_with "exec While Constant" => refine hold ?_)
  (k_with "exec While Name cons cons" => refine hold ?_)
  (k_with "exec While Name" => refine hold ?_)
  (k_with "exec While" => refine hold ?_)
  (k_with "call ref nil" => refine hold ?_)
  (k_with "call ref nil nil" => refine hold ?_)
  (k_with "subscriptTail Name UnaryOp ref int" => (k_dflt (refine' last_led ?w11qN ?w11qm ?w11qx ?_; (case w11qN => k_asm); (case w11qm => k_mem); (case w11qx => first | assumption | exact List.getLast?_concat))))
  (k_with "truthy ref" => ((with_reducible show wpAny _ _ (truthy (Value.ref _)) _ _ _); k_dflt (refine' truthyL_led ?w12qN ?w12qm ?w12qz ?_; (case w12qN => k_asm); (case w12qm => k_mem); (case w12qz => first | assumption | omega))))
  (k_with "compareOp In int ref" => (k_dflt (refine' inset_led (knd := PySem.intKind _ _) ?w13qN ?w13qm ?w13qd ?w13qz (intKind_is _ _ _ _) rfl ?_; (case w13qN => k_asm); (case w13qm => k_mem); (case w13qd => assumption); (case w13qz => kse_small)); (try dsimp only)))
  (k_with "compareOp In int ref" => (k_dflt (refine' kda_in (knd := PySem.intKind _ _) ?w14qN ?w14qm ?w14qd ?w14ql (intKind_is _ _ _ _) _ ?w14qv ?_; (case w14qN => k_asm); (case w14qm => k_mem); (case w14qd => assumption); (case w14ql => assumption); (case w14qv => assumption))))
  (k_with "compareOp In int ref" => (k_dflt (refine' inset_b (knd := PySem.intKind _ _) ?w15qN ?w15qm ?w15qd ?w15qz (intKind_is _ _ _ _) rfl _ ?w15qv ?_; (case w15qN => k_asm); (case w15qm => k_mem); (case w15qd => assumption); (case w15qz => kse_small); (case w15qv => assumption))))
  trivial
theorem srt_np_rd {prog : Program} {w : World} {T : List (Addr × Obj)} {S : SS} (h : Srt prog w T S) {ra : Addr} {l₀ l : List Int} (hrd : S.rd = some (ra, l₀)) {ws : List Value} (hi : IntsAre ws l) (k : Nat)
    {x : Int} {ia sl : Addr} (hr : (x, ia, sl) ∈ S.rows) {d : Addr} (hd : (d, dictOf [] 0) ∈ T) (hdt : S.tag d = some (.idict x)) (tx : Tok) (v : Int) (tv : Tok) :
    Srt prog w ((ia, infO d x tx v tv sl) :: (ra, listOf ws.toArray k) :: off ra (off ia T)) { S with np := fun z => if z = x then v else S.np z, rd := some (ra, l) } ∧
      Keep S T { S with np := fun z => if z = x then v else S.np z, rd := some (ra, l) } ((ia, infO d x tx v tv sl) :: (ra, listOf ws.toArray k) :: off ra (off ia T)) := by
  have hne : ia ≠ ra := tag_ne (h.tnode _ hr).1 (h.trd _ _ hrd) (fun e => nomatch e)
  refine ⟨((h.setNp hr hd hdt tx v tv).setRd (l₀ := l₀) hrd (k := k) hi).mono fun p hp => ?_, fun p hp e => ⟨.tail _ (.tail _ (mem_off.mpr ⟨mem_off.mpr ⟨hp, fun q => ?_⟩, fun q => ?_⟩)), e⟩⟩
  · rcases List.mem_cons.mp hp with e | hp
    · rw [e]; exact .tail _ (.head _)
    · obtain ⟨hp, hn⟩ := mem_off.mp hp
      rcases List.mem_cons.mp hp with e | hp
      · rw [e]; exact .head _
      · exact .tail _ (.tail _ (mem_off.mpr ⟨hp, hn⟩))
  · rw [q, show S.tag ia = some (.info x) from (h.tnode _ hr).1] at e; cases e
  · rw [q, h.trd _ _ hrd] at e; cases e
theorem decN_len (row : List Int) (s : (Int → Int) × List Int) : (row.foldl decN s).2.length ≤ s.2.length + row.length := by
  induction row generalizing s with
  | nil => simp
  | cons y r ih =>
    have h1 := ih (decN s y)
    have h2 : (decN s y).2.length ≤ s.2.length + 1 := by simp only [decN]; split <;> simp
    rw [List.foldl_cons, List.length_cons]; omega
theorem doneAll_len (sc : Int → List Int) (R : List Int) (s : (Int → Int) × List Int) : (doneAll sc s R).2.length ≤ s.2.length + (R.flatMap sc).length := by
  induction R generalizing s with
  | nil => simp [doneAll]
  | cons x r ih =>
    have h1 := ih (doneOne sc s x)
    have h2 := decN_len (sc x) (fun z => if z = x then -2 else s.1 z, s.2)
    show (doneAll sc (doneOne sc s x) r).2.length ≤ _
    rw [List.flatMap_cons, List.length_append]
    simp only [doneOne] at h1 ⊢
    dsimp only at h2
    omega
theorem doneAll_snoc (sc : Int → List Int) (s : (Int → Int) × List Int) (R : List Int) (x : Int) : doneAll sc s (R ++ [x]) = doneOne sc (doneAll sc s R) x := by
  unfold doneAll; rw [List.foldl_append]; rfl
theorem flat_part (sc : Int → List Int) (R : List Int) (i : Nat) (x : Int) (hx : R[i]? = some x) : ((R.take i).flatMap sc).length + (sc x).length ≤ (R.flatMap sc).length := by
  have hsplit : R = R.take i ++ x :: R.drop (i + 1) := by
    conv => lhs; rw [← List.take_append_drop i R]
    rw [List.drop_eq_getElem_cons (List.getElem?_eq_some_iff.mp hx).1, (List.getElem?_eq_some_iff.mp hx).2]
  conv => rhs; rw [hsplit]
  simp only [List.flatMap_append, List.flatMap_cons, List.length_append]; omega
theorem done_code (w : World) (prog : Program) (S : SS) (T₀ : List (Addr × Obj)) (h : Srt prog w T₀ S) (ra : Addr) (l : List Int) (hrd : S.rd = some (ra, l)) (vs : List Value) (R : List Int) (hi : IntsAre vs R) (hRl : R.length ≤ 64) (hR : ∀ x ∈ R, x ∈ S.rows.map (·.1))
    (hsc : ∀ x ∈ S.rows.map (·.1), ∀ y ∈ S.sc x, y ∈ S.rows.map (·.1)) (hfl : l.length + (R.flatMap S.sc).length ≤ 500) (hout : ∀ i x, R[i]? = some x → (doneAll S.sc (S.np, l) (R.take i)).1 x = -1) :
    CodeM prog 9 w 120 (.ref S.sa :: vs) T₀ (fun T' v => v = .none ∧ ∃ S', Srt prog w T' S' ∧ Keep S T₀ S' T' ∧ S' = { S with np := (doneAll S.sc (S.np, l) R).1, rd := some (ra, (doneAll S.sc (S.np, l) R).2), fi := S.fi + R.length }) := by
  have h1 := h.inst
  refine hideG fun kG => ?_
  obtain ⟨k1, k2, k3, k4, t1, t2, h2⟩ := h.dict
  refine kG ?_
  clear kG
  rw [hrd] at h2
  dsimp only [rdv] at h2
  have hvl := hi.length
  intro mean mg mb p0 loose dp un gd cn cs a ccd cl outer A₀ base h₀ L m s Q E B F X N T hk hd hu ret exc
  refine' kp_rest (vs := vs) (g₁ := fun D => some [(Str.ofString "self", .ref S.sa), (Str.ofString "nodes", .ref D)]) (binds := fun D => [(Str.ofString "self", .ref S.sa), (Str.ofString "nodes", .ref D)]) ?k1 ?k2 ?k3 ?k4 ?k5 ?kA ?kF ?kK ?k6 ?k7 ?k8 ?kV ?kP ?kG ?kB ?_ ?c2 ?c3 ?c4 ?c5
  (case kA => exact rfl); (case kF => exact rfl); (case kK => first | exact rfl | assumption); (case k1 => k_asm); (case k2 => k_asm); (case k3 => k_asm); (case k4 => k_asm); (case k5 => k_asm); (case k6 => k_is); (case k7 => k_is); (case k8 => k_room); (case kV => exact rfl); 
  (case kP =>
    have e : newTuple vs = newObjAsIs (.type "tuple") (.seq vs.toArray) none := by
      unfold newTuple newObj; dsimp only
      rw [if_neg (by rw [sizeLine_eq]; have := hi.length; simp; omega)]
    have e2 : ∀ a : Value, List.drop 1 (a :: vs) = vs := fun _ => rfl
    unfold bindArgs
    simp only [Option.isNone_some, Bool.and_false, Bool.false_eq_true, if_false, List.map_cons, List.map_nil, List.nil_append, List.length_cons, List.length_nil, Nat.zero_add, Nat.reduceAdd, e2, e]
    exact rfl)
  (case kG => exact fun _ => rfl); (case kB => exact fun _ => locs rfl); (case c5 => decide); (case c2 => exact rfl); (case c3 => exact rfl); (case c4 => exact rfl)
  k_whole
  intro Dp g' L' h' l1 FG' F' N' B' X' T'
  try dsimp only
  try k_unmd
  try k_fold
  have hS0 : Srt prog w ((Dp, tupO vs) :: T₀) S := h.mono fun p hp => .tail _ hp
  have hDp : S.tag Dp = none := h.fresh fun p hp => Nat.ne_of_lt (l1 p hp)
  k_steps
  all_goals (try with_reducible refine kQ _ _ ?_)
  unfold held
  rename Fr _ _ _ _ => F6
  rename News _ _ _ _ => N6
  refine iterTupleM (vs := vs) (k := 0) (fun i m T tk => m (Str.ofString "self") = some (.ref S.sa) ∧ m (Str.ofString "n2i") = some (.ref S.na) ∧ ∃ Si, Srt prog w T Si ∧ Keep S ((Dp, tupO vs) :: T₀) Si T ∧
    Si = { S with np := (doneAll S.sc (S.np, l) (R.take i)).1, rd := some (ra, (doneAll S.sc (S.np, l) (R.take i)).2), fi := S.fi + i }) _ rfl F6 N6 (.head _) ⟨by with_unfolding_all rfl, by with_unfolding_all rfl, S, hS0, Keep.refl _ _, by simp [doneAll, ← hrd]⟩ ?_ ?_
  · intro I hI i v m₁ T2 own h7 tk₀ tk7 hv zr11 htk hTI hown hIo F₁ N₁
    refine hideG fun kG => ?_
    obtain ⟨hm1, hm2, Si, hSi, hKi, hAi⟩ := zr11
    obtain ⟨x, u, rfl, hx⟩ := hi.at i v hv
    refine kG ?_
    clear kG
    (try refine opq fun PQ kQ => ?_)
    have hIt : Si.tag I = none := hSi.fresh hTI
    have hDt : Si.tag Dp = none := (hKi (Dp, tupO vs) (.head _) hDp).2
    have hSo : Srt prog w (T2 ++ own) Si := hSi.mono fun p hp => List.mem_append_left _ hp
    have hrows : Si.rows = S.rows := by rw [hAi]
    have hscs : Si.sc = S.sc := by rw [hAi]
    have hkx : x ∈ Si.rows.map (·.1) := by rw [hrows]; exact hR x (List.mem_of_getElem? hx)
    have hnpx : Si.np x = -1 := by rw [hAi]; exact hout i x hx
    refine hideG fun kG => ?_
    obtain ⟨ia, sl, hr, hval⟩ := hSo.getRow hkx
    obtain ⟨d, tx, tv, hmi, hmd, hdt⟩ := hSo.node _ hr
    obtain ⟨vsl, kl, hsl, hsi⟩ := hSo.succ _ hr
    refine kG ?_
    clear kG
    have ht := (hSo.tnode _ hr).1
    have ht2 := (hSo.tnode _ hr).2
    refine hideG fun kG => ?_
    obtain ⟨o, hn, ho⟩ := hSo.n2i
    refine kG ?_
    clear kG
    have hna : Si.na = S.na := by rw [hAi]
    have hsa : Si.sa = S.sa := by rw [hAi]
    have hnosys := hSo.nosys
    dsimp only at hmi ht hdt hsl hsi ht2
    rw [hnpx] at hmi
    have hn' := mem_off.mpr ⟨hn, tag_ne hSo.tna ht (fun e => nomatch e)⟩
    have hd' := mem_off.mpr ⟨hmd, tag_ne hdt ht (fun e => nomatch e)⟩
    have hsl' := mem_off.mpr ⟨hsl, tag_ne ht2 ht (fun e => nomatch e)⟩
    replace N₁ := news_off N₁ hmi
    have hoff : ∀ p ∈ off ia (T2 ++ own), p.1 ≠ ia := off_ne
    rw [← hna] at hm2
    rw [← hsa] at hm1
    have F₂ := fr_pin2 F₁ hm1 hm2
    clear F6 N6 F₁
    k_steps
    all_goals (try with_reducible refine kQ _ _ ?_)
    unfold held
    rename Fr _ _ _ _ => F8
    rename News _ _ _ _ => N8
    have hS1 := fun tv' => hSo.setNp hr hmd hdt tx (-2) tv'
    have hK1 := fun tv' => (keep_off (T := T2 ++ own) (o := infO d x tx (-2) tv' sl) (S' := Si.setNp x (-2)) ht rfl)
    have hp0 : doneAll S.sc (S.np, l) (R.take (i + 1)) = doneOne S.sc (doneAll S.sc (S.np, l) (R.take i)) x := by
      rw [List.take_add_one, hx]; exact doneAll_snoc _ _ _ _
    have hil : i < R.length := (List.getElem?_eq_some_iff.mp hx).1
    generalize hg0 : doneAll S.sc (S.np, l) (R.take i) = g0 at hAi hp0
    have hg0l : g0.2.length + (S.sc x).length ≤ 500 := by
      have h1 := doneAll_len S.sc (R.take i) (S.np, l)
      have h2 := flat_part S.sc R i x hx
      rw [hg0] at h1
      dsimp only at h1
      omega
    rw [hscs] at hsi
    refine iterListM (vs := vsl) (k := kl) (fun j m T tk => m (Str.ofString "self") = some (.ref S.sa) ∧ m (Str.ofString "n2i") = some (.ref S.na) ∧ ∃ Sj, Srt prog w T Sj ∧ Keep Si (T2 ++ own) Sj T ∧
      Sj = { Si with np := (((S.sc x).take j).foldl decN (fun z => if z = x then -2 else g0.1 z, g0.2)).1, rd := some (ra, (((S.sc x).take j).foldl decN (fun z => if z = x then -2 else g0.1 z, g0.2)).2) }) _ rfl F8 N8 (.tail _ hsl') ⟨by rw [← hsa]; with_unfolding_all rfl, by rw [← hna]; with_unfolding_all rfl, _, hS1 _, hK1 _, by rw [SS.setNp, hAi]; simp⟩ ?_ ?_
    · intro I2 hI2 j v m₂ T3 own3 h8 tk₁ tk8 hv zr11 htk' hTI2 hown3 hIo2 F₁ N₁
      refine hideG fun kG => ?_
      obtain ⟨hm1', hm2', Sj, hSj, hKj, hAj⟩ := zr11
      obtain ⟨y, u2, rfl, hy⟩ := hsi.at j v hv
      refine kG ?_
      clear kG
      (try refine opq fun PQ kQ => ?_)
      have hIt2 : Sj.tag I2 = none := hSj.fresh hTI2
      have hSo2 : Srt prog w (T3 ++ own3) Sj := hSj.mono fun p hp => List.mem_append_left _ hp
      have hrowsj : Sj.rows = S.rows := by rw [hAj]; exact hrows
      have htagj : Sj.tag = Si.tag := by rw [hAj]
      have hky : y ∈ Sj.rows.map (·.1) := by rw [hrowsj]; exact hsc x (hR x (List.mem_of_getElem? hx)) y (List.mem_of_getElem? hy)
      refine hideG fun kG => ?_
      obtain ⟨ia2, sl2, hr2, hval2⟩ := hSo2.getRow hky
      obtain ⟨d2, tx2, tv2, hmi2, hmd2, hdt2⟩ := hSo2.node _ hr2
      refine kG ?_
      clear kG
      have ht' := (hSo2.tnode _ hr2).1
      refine hideG fun kG => ?_
      obtain ⟨o2, hn2, ho2⟩ := hSo2.n2i
      refine kG ?_
      clear kG
      have hna2 : Sj.na = S.na := by rw [hAj]; exact hna
      have hsa2 : Sj.sa = S.sa := by rw [hAj]; exact hsa
      have hjl : j < (S.sc x).length := (List.getElem?_eq_some_iff.mp hy).1
      have htk1 : (S.sc x).take (j + 1) = (S.sc x).take j ++ [y] := by rw [List.take_add_one, hy]; rfl
      have hgl := decN_len ((S.sc x).take j) (fun z => if z = x then -2 else g0.1 z, g0.2)
      generalize hgj : ((S.sc x).take j).foldl decN (fun z => if z = x then -2 else g0.1 z, g0.2) = gj at hAj hgl
      have hgn : ((S.sc x).take (j + 1)).foldl decN (fun z => if z = x then -2 else g0.1 z, g0.2) = decN gj y := by rw [htk1, List.foldl_append, hgj]; rfl
      have hrdj : Sj.rd = some (ra, gj.2) := by rw [hAj]
      have hnpj : Sj.np = gj.1 := by rw [hAj]
      refine hideG fun kG => ?_
      obtain ⟨j1, j2, j3, j4, w1, w2, hdi⟩ := hSo2.dict
      obtain ⟨ws, k', hrl, hwi⟩ := hSo2.ready _ _ hrdj
      refine kG ?_
      clear kG
      rw [hrdj] at hdi
      dsimp only [rdv] at hdi
      have hin := hSo2.inst
      have tra := hSo2.trd _ _ hrdj
      dsimp only at hmi2 ht' hdt2
      have hwl := hwi.length
      have hws : ws.length ≤ 600 := by
        simp only [List.length_take] at hgl; omega
      have hsz : ws.toArray.size ≤ sizeLine := by rw [sizeLine_eq]; simp; omega
      have m1 : ∀ {b : Addr} {o : Obj} {t : Tg}, (b, o) ∈ T3 ++ own3 → Sj.tag b = some t → t ≠ .info y → t ≠ .ready → (b, o) ∈ off ra (off ia2 (T3 ++ own3)) := fun hb hbt h1 h2 =>
        mem_off.mpr ⟨mem_off.mpr ⟨hb, tag_ne hbt ht' fun e => h1 (Option.some.inj e)⟩, tag_ne hbt tra fun e => h2 (Option.some.inj e)⟩
      have hin' := m1 hin hSo2.tsa (fun e => nomatch e) (fun e => nomatch e)
      have hdi' := m1 hdi hSo2.tda (fun e => nomatch e) (fun e => nomatch e)
      have hn2' := m1 hn2 hSo2.tna (fun e => nomatch e) (fun e => nomatch e)
      have hmd2' := m1 hmd2 hdt2 (fun e => nomatch e) (fun e => nomatch e)
      have nir : ia2 ≠ ra := tag_ne ht' tra (fun e => nomatch e)
      have nri := Ne.symm nir
      replace N₁ := news_off2 N₁ hmi2 hrl
      have o1 : ∀ p ∈ off ra (off ia2 (T3 ++ own3)), p.1 ≠ ia2 := fun p hp => (mem_off.mp (mem_off.mp hp).1).2
      have o2' : ∀ p ∈ off ra (off ia2 (T3 ++ own3)), p.1 ≠ ra := off_ne
      rw [← hna2] at hm2'
      rw [← hsa2] at hm1'
      have F₃ := fr_pin2 F₁ hm1' hm2'
      clear F8 N8 F₁
      k_steps
      all_goals (try with_reducible refine kQ _ _ ?_)
      all_goals (
        rename Fr _ _ _ _ => F9
        rename News _ _ _ _ => N9
        try rw [List.push_toArray] at N9)
      · have hz : gj.1 y - 1 = 0 := by rw [← hnpj]; assumption
        obtain ⟨oI2, hIo2⟩ := hIo2
        have hq := fun tv' => srt_np_rd hSo2 hrdj (hwi.append (.cons y u2 .nil)) (k' + 1) hr2 hmd2 hdt2 tx2 (Sj.np y - 1) tv'
        refine ⟨_, _, _, off I2 _, _, rfl, F9, N9, fun p hp => (mem_off.mp hp).1, ?_, ?_, by rw [← hsa2]; with_unfolding_all rfl, by rw [← hna2]; with_unfolding_all rfl, _, (hq _).1.offI hIt2, keep_end hKj hTI2 (hq _).2, ?_⟩
        · intro p hp
          refine .tail _ (.tail _ (mem_off.mpr ⟨mem_off.mpr ⟨List.mem_append_right _ hp, fun e => ?_⟩, fun e => ?_⟩))
          · rcases hown3 p hp with q | q
            · rw [← q, e, ht'] at hIt2; cases hIt2
            · exact tag_ne (show Si.tag ia2 = some (.info y) by rw [← htagj]; exact ht') ht2 (fun e => nomatch e) (e.symm.trans q)
          · rcases hown3 p hp with q | q
            · rw [← q, e, tra] at hIt2; cases hIt2
            · exact tag_ne (show Si.tag ra = some .ready by rw [← htagj]; exact tra) ht2 (fun e => nomatch e) (e.symm.trans q)
        · intro p hp hb
          exact (mem_off.mp hp).2 (List.mem_singleton.mp hb)
        · rw [hgn]; simp only [decN]; rw [if_pos hz, hAj]
      · have hz : ¬ gj.1 y - 1 = 0 := by rw [← hnpj]; assumption
        obtain ⟨oI2, hIo2⟩ := hIo2
        have hq := fun tv' => srt_np_rd hSo2 hrdj hwi k' hr2 hmd2 hdt2 tx2 (Sj.np y - 1) tv'
        refine ⟨_, _, _, off I2 _, _, rfl, F9, N9, fun p hp => (mem_off.mp hp).1, ?_, ?_, by rw [← hsa2]; with_unfolding_all rfl, by rw [← hna2]; with_unfolding_all rfl, _, (hq _).1.offI hIt2, keep_end hKj hTI2 (hq _).2, ?_⟩
        · intro p hp
          refine .tail _ (.tail _ (mem_off.mpr ⟨mem_off.mpr ⟨List.mem_append_right _ hp, fun e => ?_⟩, fun e => ?_⟩))
          · rcases hown3 p hp with q | q
            · rw [← q, e, ht'] at hIt2; cases hIt2
            · exact tag_ne (show Si.tag ia2 = some (.info y) by rw [← htagj]; exact ht') ht2 (fun e => nomatch e) (e.symm.trans q)
          · rcases hown3 p hp with q | q
            · rw [← q, e, tra] at hIt2; cases hIt2
            · exact tag_ne (show Si.tag ra = some .ready by rw [← htagj]; exact tra) ht2 (fun e => nomatch e) (e.symm.trans q)
        · intro p hp hb
          exact (mem_off.mp hp).2 (List.mem_singleton.mp hb)
        · rw [hgn]; simp only [decN]; rw [if_neg hz, hAj]
    · intro I2 hI2 m₂ T3 h8 tk₁ tk8 zr7 htk' hTI2 F₁ N₁
      refine hideG fun kG => ?_
      obtain ⟨hm1', hm2', Sj, hSj, hKj, hAj⟩ := zr7
      refine kG ?_
      clear kG
      have hsl2 := hsi.length
      rw [hsl2, List.take_length] at hAj
      have hrdj : Sj.rd = some (ra, (doneOne S.sc g0 x).2) := by rw [hAj]; rfl
      have hsa2 : Sj.sa = S.sa := by rw [hAj]; exact hsa
      have hna2 : Sj.na = S.na := by rw [hAj]; exact hna
      have htagj : Sj.tag = Si.tag := by rw [hAj]
      refine hideG fun kG => ?_
      obtain ⟨j1, j2, j3, j4, w1, w2, hdi⟩ := hSj.dict
      refine kG ?_
      clear kG
      rw [hrdj] at hdi
      dsimp only [rdv] at hdi
      have hin' := mem_off.mpr ⟨hSj.inst, tag_ne hSj.tsa hSj.tda (fun e => nomatch e)⟩
      replace N₁ := news_off N₁ hdi
      have o1 : ∀ p ∈ off Sj.da T3, p.1 ≠ Sj.da := off_ne
      rw [← hsa2] at hm1'
      rw [← hna2] at hm2'
      have F₃ := fr_pin2 F₁ hm1' hm2'
      clear F8 N8 F₁
      k_steps
      all_goals (try with_reducible refine kQ _ _ ?_)
      rename Fr _ _ _ _ => F9
      rename News _ _ _ _ => N9
      obtain ⟨oI, hIo⟩ := hIo
      have hq := fun w1 w2 => hSj.setDa { Sj with fi := Sj.fi + 1 } j1 j2 j3 j4 w1 w2 ⟨rfl, rfl, rfl, rfl, rfl, rfl, rfl, rfl⟩
      rw [hrdj] at hq
      have hkq := fun w1 w2 => hKj.trans (keep_off (o := srtO w j1 j2 j3 j4 Sj.na (.ref ra) (.int Sj.po w1) (.int (Sj.fi + 1) w2)) (S' := { Sj with fi := Sj.fi + 1 }) hSj.tda rfl)
      refine ⟨_, _, _, off I _, _, rfl, F9, N9, fun p hp => (mem_off.mp hp).1, ?_, ?_, by rw [← hsa2]; with_unfolding_all rfl, by rw [← hna2]; with_unfolding_all rfl, _, (hq _ _).offI (by show Sj.tag I = none; rw [htagj]; exact hIt), keep_end hKi hTI (hkq _ _), ?_⟩
      · intro p hp
        refine (hkq _ _ p (List.mem_append_right _ hp) ?_).1
        rcases hown p hp with e | e
        · rw [e]; exact hIt
        · rw [e]; exact hDt
      · intro p hp hb
        exact (mem_off.mp hp).2 (List.mem_singleton.mp hb)
      · have e : S.fi + ((i + 1 : Nat) : Int) = S.fi + (i : Int) + 1 := by omega
        rw [hp0, e, hAj, hAi]
        simp only [doneOne]
  · intro I hI m₁ T2 h7 tk₀ tk7 zr7 htk hTI F₁ N₁
    refine hideG fun kG => ?_
    obtain ⟨hm1, hm2, Si, hSi, hKi, hAi⟩ := zr7
    refine kG ?_
    clear kG
    clear F6 N6
    k_steps
    all_goals (try with_reducible refine kQ _ _ ?_)
    rename Fr h₀ L _ _ => F9
    rename News h₀ L _ _ => N9
    refine ret _ _ _ _ F9 N9 ⟨rfl, Si, hSi, fun p hp e => hKi p (.tail _ hp) e, ?_⟩
    rw [hvl, List.take_length] at hAi
    exact hAi


section
open PySem PySem.W PyProof.Rows PySem.Calls PySem.W.KFB
theorem li_next : typeLookup (.type "list_iterator") "__next__" = pure (some (.builtin "list_iterator.__next__")) := by rw [typeLookup_type, builtinLookup_eq_fast]; kernel_rfl
theorem li_ga : typeLookup (.type "list_iterator") "__getattribute__" = pure (some (.builtin "object.__getattribute__")) := by rw [typeLookup_type, builtinLookup_eq_fast]; kernel_rfl
theorem li_gn : typeLookup (.type "list_iterator") "__getattr__" = pure none := by rw [typeLookup_type, builtinLookup_eq_fast]; kernel_rfl
theorem li_ty : typeOf (.builtin "list_iterator.__next__") = pure (.type "wrapper_descriptor") := by first | rfl | kernel_rfl
theorem li_get : typeLookup (.type "wrapper_descriptor") "__get__" = pure (some (.builtin "wrapper_descriptor.__get__")) := by rw [typeLookup_type, builtinLookup_eq_fast]; kernel_rfl
theorem li_set : typeLookup (.type "wrapper_descriptor") "__set__" = pure none := by rw [typeLookup_type, builtinLookup_eq_fast]; kernel_rfl
theorem li_del : typeLookup (.type "wrapper_descriptor") "__delete__" = pure none := by rw [typeLookup_type, builtinLookup_eq_fast]; kernel_rfl
theorem slot_li_ga : Slot "list_iterator" "__getattribute__" "object.__getattribute__" :=
  .of (owner := "object") (n := "__getattribute__") li_ga (by decide +kernel) (by decide +kernel) (by decide +kernel)
    (by first | exact .inl (by decide +kernel) | exact .inr (by decide +kernel)) (by rw [isSubtype_type]; kernel_rfl)
theorem entry_oga : entryFor table "object.__getattribute__" = some Builtin.«object.__getattribute__» := entryFor_of_tree (by kernel_rfl)
theorem args_oga (a b : Value) : argsOk "object.__getattribute__" ⟨[a, b], []⟩ := by unfold argsOk; kernel_rfl
theorem slot_wd : Slot "wrapper_descriptor" "__get__" "wrapper_descriptor.__get__" :=
  .of (owner := "wrapper_descriptor") (n := "__get__") li_get (by decide +kernel) (by decide +kernel) (by decide +kernel)
    (by first | exact .inl (by decide +kernel) | exact .inr (by decide +kernel)) (by rw [isSubtype_type]; kernel_rfl)
theorem entry_wd : entryFor table "wrapper_descriptor.__get__" = some Builtin.«wrapper_descriptor.__get__» := entryFor_of_tree (by kernel_rfl)
theorem args_wd (a b c : Value) : argsOk "wrapper_descriptor.__get__" ⟨[a, b, c], []⟩ := by unfold argsOk; kernel_rfl
theorem li_sub : isSubtype (.type "list_iterator") (.type "list_iterator") = pure true := by rw [isSubtype_type]; kernel_rfl
section
variable {M : Model} {A : Around} {E : Value → Shared → Prop} {s : Shared}
theorem run_wd {a : Addr} {P : Fin → Shared → Prop} (hT : s.TypeIs (.ref a) "list_iterator") (h : P (.done (.ret (.ref s.heap.objs.size))) { s with heap := s.heap.push { cls := .type "method-wrapper", data := .fields #[.builtin "list_iterator.__next__", .ref a] } }) :
    wpAny M A (Builtin.«wrapper_descriptor.__get__» ⟨[.builtin "list_iterator.__next__", .ref a, .type "list_iterator"], []⟩) P E s := by
  unfold Builtin.«wrapper_descriptor.__get__»
  refine wpAny_bind (wpAny_of_eq (a := (.builtin "list_iterator.__next__", some (.ref a), some (.type "list_iterator"))) (by first | rfl | kernel_rfl) ?_)
  refine wpAny_bind (m := (kfb_private% "checkInstance") _ _) ?_
  refine wpAny_bind (m := (kfb_private% "nameAndClass") _) (wpAny_of_eq (a := (Str.ofString "__next__", .type "list_iterator")) (by first | rfl | kernel_rfl) ?_)
  refine wpAny_bind (wpAny_isInstance hT li_sub ?_)
  refine wpAny_pure ?_
  exact wpAny_bind (wpAny_newObj_type (wpAny_pure h))
end
theorem getAttr_next {prog : Program} {w : World} {A : Around} {E : Value → Shared → Prop} {s : Shared} {a l : Addr} {i : Nat} {Q : Value → Shared → Prop} (hx : s.heap.get? a = some { cls := .type "list_iterator", data := .fields #[.ref l, .int i 0] }) (h : ∀ tk, Q (.ref s.heap.objs.size) { s with heap := s.heap.push { cls := .type "method-wrapper", data := .fields #[.builtin "list_iterator.__next__", .ref a] }, toks := tk }) :
    wpAny (model prog w) A (getAttr (.ref a) "__next__" true) Q E s := by
  obtain ⟨hp, g, d, tk, os⟩ := s
  have hT : ∀ tk', (⟨hp, g, d, tk', os⟩ : Shared).TypeIs (.ref a) "list_iterator" := fun _ => ⟨_, hx, rfl⟩
  have f1 := li_next
  have f2 := li_ga
  have f3 := li_gn
  have f4 := li_ty
  have f5 := li_get
  have f6 := slot_li_ga.bind (.ref a)
  have f7 := li_set
  have f8 := li_del
  unfold getAttr getAttrBy
  repeat (any_goals (first | assumption | exact hT _ | ((with_reducible show wpAny _ _ (call (Value.builtin "object.__getattribute__") _ _) _ _ _); refine wpAny_call_entry slot_li_ga (hT _) entry_oga ?_ (args_oga _ _)) | ((with_reducible show wpAny _ _ (call (Value.builtin "wrapper_descriptor.__get__") _ _) _ _ _); refine wpAny_call_entry slot_wd rfl entry_wd (run_wd (hT _) ?_) (args_wd _ _ _)) | wp_step))
  refine ⟨_, rfl, wpAny_pure ⟨_, rfl, ?_⟩⟩
  show wpAny _ _ (handedOut (.ref _)) _ _ _
  unfold handedOut
  repeat (any_goals (first | assumption | wp_step))
  exact h _

end
section
open PySem PySem.W PyProof.Rows PySem.Calls PySem.W.KFB
noncomputable abbrev iterO (l : Addr) (i : Nat) : Obj := { cls := .type "list_iterator", data := .fields #[.ref l, .int i 0] }
noncomputable abbrev wrapO (a : Addr) : Obj := { cls := .type "method-wrapper", data := .fields #[.builtin "list_iterator.__next__", .ref a] }
theorem check_lin (I : Addr) : checkBoundCall "list_iterator.__next__" ⟨[.ref I], []⟩ = pure () := by first | kernel_rfl | rfl
theorem quiet_lin {as : Args} : (Code.builtin "list_iterator.__next__" as).quiet = true := Code.quiet_builtin _ (by decide +kernel)
section
variable {prog : Program} {w : World} {A : Around} {E : Value → Shared → Prop} {s : Shared} {h₀ : Heap} {L W I sl : Addr} {m : Str → Option Value} {news : List (Addr × Obj)} {g : Obj → List (Addr × Obj)} {vs : List Value} {k pos : Nat} {Q : Value → Shared → Prop}
theorem call_wrap (ho : s.heap.get? W = some (wrapO I))
    (tree : wpAny (model prog w) A.in1 (Builtin.«list_iterator.__next__» ⟨[.ref I], []⟩) (fun fin s' => match fin with | .done (.ret v) => Q v s' | _ => False) E s) : wpAny (model prog w) A (call (.ref W) []) Q E s := by
  refine wpAny_call (codeAny_of_tree ?_)
  show wpAny _ A.in1 (callAny (.ref W) ⟨[], []⟩) _ _ s
  simp only [callAny]
  refine wpAny_bind (wpAny_load ho ?_)
  refine if_so rfl ?_
  refine wpAny_bind (wpAny_of_eq (a := ()) (check_lin I) ?_)
  refine wpAny_bind (wpAny_pure (wpAny_pure ?_))
  refine ⟨quiet_lin, codeAny_builtin entry_listiter_next (wpAny_mono tree (fun fin s' h => ?_) fun _ _ e => e)⟩
  rcases fin with (_ | _ | _ | v) | c'
  · exact h.elim
  · exact h.elim
  · exact h.elim
  · exact h
  · exact h.elim
theorem next_item {x : Value} (F : Fr h₀ L s.heap m) (N : News h₀ L s.heap news) (hW : (W, wrapO I) ∈ news) (U : UpdF I (iterO sl pos) news g) (hl : (sl, listOf vs.toArray k) ∈ news) (hx : vs[pos]? = some x)
    (h : ∀ h', Fr h₀ L h' m → News h₀ L h' (g (iterO sl (pos + 1))) → Q x { s with heap := h' }) : wpAny (model prog w) A (call (.ref W) []) Q E s := by
  obtain ⟨pre, post, rfl, hg, a, b⟩ := U.split
  have hm := N (I, iterO sl pos) (List.mem_append_right _ (.head _))
  have ho : s.heap.get? I = some (iterO sl pos) := hm.1
  have hol := (N _ hl).1
  refine call_wrap (N _ hW).1 ?_
  show wpAny _ _ (field (.ref I) 0 >>= _) _ _ s
  refine wpAny_bind (wpAny_field ho rfl (x := .ref sl) rfl ?_)
  show wpAny _ _ (if (Value.ref sl == Value.none) = true then _ else _) _ _ s
  rw [if_neg (show ¬ ((Value.ref sl == Value.none) = true) from Bool.false_ne_true)]
  show wpAny _ _ (field (.ref I) 1 >>= _) _ _ s
  refine wpAny_bind (wpAny_field ho rfl (x := .int pos 0) rfl ?_)
  show wpAny _ _ (seqItems? (.ref sl) >>= _) _ _ s
  refine wpAny_bind (wpAny_seqItems hol rfl ?_)
  have hx' : vs.toArray[pos]? = some x := by simpa using hx
  simp only [Int.toNat_natCast, hx']
  refine wpAny_bind (wpAny_setField ho rfl (by simp) (wpAny_pure (h _ (F.change (Heap.SameBut.update ..) hm.2.1 hm.2.2) ?_)))
  rw [hg]
  refine N.setIn a b (Heap.SameBut.update ..) ?_
  have := Heap.get?_update_self (fun o => o.mapFields fun vs => vs.setIfInBounds 1 (rawInt ((pos : Int) + 1))) ho rfl
  refine this.trans ?_
  simp [Obj.mapFields, rawInt]
theorem next_stop (hh : A.handled = none) (F : Fr h₀ L s.heap m) (N : News h₀ L s.heap news) (hW : (W, wrapO I) ∈ news) (U : UpdF I (iterO sl pos) news g) (hl : (sl, listOf vs.toArray k) ∈ news) (hx : vs[pos]? = none)
    (h : ∀ h₁ h' e oI, Fr h₀ L h₁ m → News h₀ L h₁ (g oI) → Heap.NewExc h₁ h' e "StopIteration" → E (.ref e) { s with heap := h' }) : wpAny (model prog w) A (call (.ref W) []) Q E s := by
  obtain ⟨pre, post, rfl, hg, a, b⟩ := U.split
  have hm := N (I, iterO sl pos) (List.mem_append_right _ (.head _))
  have ho : s.heap.get? I = some (iterO sl pos) := hm.1
  have hol := (N _ hl).1
  refine call_wrap (N _ hW).1 ?_
  show wpAny _ _ (field (.ref I) 0 >>= _) _ _ s
  refine wpAny_bind (wpAny_field ho rfl (x := .ref sl) rfl ?_)
  show wpAny _ _ (if (Value.ref sl == Value.none) = true then _ else _) _ _ s
  rw [if_neg (show ¬ ((Value.ref sl == Value.none) = true) from Bool.false_ne_true)]
  show wpAny _ _ (field (.ref I) 1 >>= _) _ _ s
  refine wpAny_bind (wpAny_field ho rfl (x := .int pos 0) rfl ?_)
  show wpAny _ _ (seqItems? (.ref sl) >>= _) _ _ s
  refine wpAny_bind (wpAny_seqItems hol rfl ?_)
  have hx' : vs.toArray[pos]? = none := by simpa using hx
  simp only [Int.toNat_natCast, hx']
  refine wpAny_bind (wpAny_rule (wpAny_bind (wpAny_setField ho rfl (by simp) ?_)))
  show wpAny _ _ (newExc (.type "StopIteration") [] >>= _) _ _ _
  refine wpAny_bind ?_
  simp only [newExc, newTuple]
  refine wpAny_bind (wpAny_newObj_type ?_ (by size_fits))
  refine wpAny_bind (m := firstArgMember _ _) (wpAny_of_eq (a := Value.none) (by first | rfl | (simp only [firstArgMember]; rfl)) ?_)
  refine wpAny_newObj_type ?_ (by size_fits)
  simp only [raiseNew]
  refine wpAny_bind (wpAny_handled ?_)
  first | rw [show A.in1.handled = none from hh] | rw [hh]
  refine wpAny_bind (wpAny_pure (wpAny_throw ?_))
  refine h (s.heap.update I (Obj.mapFields fun vs => vs.setIfInBounds 0 Value.none)) _ _ _ (F.change (Heap.SameBut.update ..) hm.2.1 hm.2.2) ((hg _).symm ▸ N.setIn a b (Heap.SameBut.update ..) (Heap.get?_update_self _ ho (Obj.isFreed_of_fields (Obj.data_mapFields rfl _)))) ?_
  refine ⟨fun b o e => Heap.get?_push_of_some _ (Heap.get?_push_of_some _ e), ?_, ⟨_, _, Heap.get?_push_size _ rfl, rfl, rfl⟩⟩
  exact Heap.get?_none_of_le (by rw [Heap.size_push]; exact Nat.le_succ _)
theorem iter_led (F : Fr h₀ L s.heap m) (N : News h₀ L s.heap news) (hl : (sl, listOf vs.toArray k) ∈ news)
    (h : ∀ (I : Addr) h', Fr h₀ L h' m → News h₀ L h' ((I, iterO sl 0) :: news) → (∀ p ∈ news, p.1 < I) → Q (.ref I) { s with heap := h' }) :
    wpAny (model prog w) A (call (.builtin "iter") [.ref sl]) Q E s := by
  refine call_function_entry (by decide +kernel) (by decide +kernel) kdk_entry_iter (kdk_args_iter _) ?_
  unfold Builtin.«iter»
  refine wpAny_bind (m := someArgs "iter" 1 2 _) (wpAny_of_eq (a := [Value.ref sl]) (by first | rfl | kernel_rfl!) ?_)
  show wpAny _ _ (pyIter (.ref sl) >>= _) _ _ _
  refine wpAny_bind (wpAny_pyIter_list (isList_of N hl) ?_)
  exact wpAny_pure ⟨_, rfl, h _ _ (F.push _) (News.push F N _ rfl) (fun q hq => Heap.lt_size (N q hq).1)⟩
theorem next_led {i : Nat} (F : Fr h₀ L s.heap m) (N : News h₀ L s.heap news) (hl : (I, iterO sl i) ∈ news)
    (h : ∀ (W : Addr) h' tk, Fr h₀ L h' m → News h₀ L h' ((W, wrapO I) :: news) → (∀ p ∈ news, p.1 < W) → Q (.ref W) { s with heap := h', toks := tk }) :
    wpAny (model prog w) A (getAttr (.ref I) "__next__" true) Q E s :=
  getAttr_next (N _ hl).1 fun tk => h _ _ tk (F.push _) (News.push F N _ rfl) (fun q hq => Heap.lt_size (N q hq).1)
end

end
section
open PySem PySem.W PyProof.Rows PySem.Calls
/-- a call of the text's def at f, within which an exception may be caught: the frames below it may bear frame objects -/
noncomputable def CallS (prog : Program) (d : Nat) (w : World) (f : Addr) (args : List Value) (news : List (Addr × Obj)) (RES : List (Addr × Obj) → Value → Prop) : Prop :=
  ∀ (mean : ExcName → Option Value) (mg mb : Str → Option Value) (p0 : Program) (loose : List Str) (dp un : Nat) (gd : Option (List Code)) (cn : Str) (cs : Scope) (a : Addr) (ccd : Value) (outer : List Env) (A₀ : Around) (base h₀ : Heap) (L : Addr) (m : Str → Option Value) (s : Shared) (Q E : Value → Shared → Prop),
    Below A₀ base outer h₀ → Fr h₀ L s.heap m → (hd.heap_1 w.params).In h₀ → News h₀ L s.heap news → Top p0 loose mean mg mb h₀ → (hd.heap_1 w.params).In base → Top p0 loose mean mg mb base → KtsDicts (outer.filterMap (·.frame)) h₀ → cs.kind = .function → dp + d < recursionLimit → un + 20 * d < cLine →
    (∀ v news' g' h' tk', KtsTurn (outer.filterMap (·.frame)) h₀ g' → Fr g' L h' m → News g' L h' news' → Below A₀ base outer g' → (hd.heap_1 w.params).In g' → Top p0 loose mean mg mb g' → KtsDicts (outer.filterMap (·.frame)) g' → RES news' v → Q v { s with heap := h', toks := tk' }) →
    wpAny (model prog w) (ktrTop dp un gd cn cs L a ccd [] outer) (call (.ref f) args) Q E s
theorem callWith_wrap {prog : Program} {w : World} {A : Around} {E : Value → Shared → Prop} {s : Shared} {W I : Addr} {p p' : Pos} {env : Env} {Q : Value → Shared → Prop} (ho : s.heap.get? W = some (wrapO I)) (h : wpAny (model prog w) A (call (.ref W) []) Q E s) :
    wpAny (model prog w) A (callWith p (.ref W) [] (backTo p' (starEach [] env)) []) Q E s := by
  have key : wpAny (model prog w) A (evalArgs (.ref W) true (backTo p' (starEach [] env)) []) (fun x s₁ => x = ⟨[], []⟩ ∧ s₁ = s) (fun _ _ => False) s := by
    first | exact wpAny_pure ⟨rfl, rfl⟩ | exact wpAny_of_eq (a := (⟨[], []⟩ : Args)) (by first | rfl | kernel_rfl) ⟨rfl, rfl⟩
  unfold callWith
  refine wpAny_bind (wpAny_holding (wpAny_mono key (fun x s₁ h₁ => wpAny_bind (wpAny_standAt ?_)) fun _ _ x => x.elim))
  obtain ⟨rfl, rfl⟩ := h₁
  simp only [show (backTo p' (starEach [] env)).any (·.1) = false by rfl, List.any_nil, Bool.or_false]
  refine wpAny_bind (m := keeperOf (.ref W)) ?_
  unfold keeperOf
  refine wpAny_bind (wpAny_load ho ?_)
  simp only [show (Value.type "method-wrapper" != Value.type "method") = true by decide, show (Value.type "method-wrapper" == Value.type "builtin_function_or_method" || Value.type "method-wrapper" == Value.type "method-wrapper") = true by decide, if_true]
  refine wpAny_pure ?_
  exact wpAny_bind (wpAny_mono h (fun r s₂ hr => wpAny_bind (wpAny_holding (wpAny_point (wpAny_pure hr)))) fun _ _ x => x)
open PyProof.Rows.TI
theorem frs_of {base g : Heap} : ∀ {l : List Env}, g.FunFrames base l → KtsDicts (l.filterMap (·.frame)) g → ∃ frs, Frs l frs ∧ (∀ p ∈ frs, g.get? p.1 = some p.2) ∧ frs.map (·.1) = l.filterMap (·.frame)
  | [], _, _ => ⟨[], trivial, (fun _ h => nomatch h), rfl⟩
  | env :: l, ⟨hk, ⟨L, o, hf, _, ho, _⟩, hr⟩, D => by
    have hL : L ∈ (env :: l).filterMap (·.frame) := List.mem_filterMap.mpr ⟨env, .head _, hf⟩
    obtain ⟨frs, h1, h2, h3⟩ := frs_of hr fun b hb => D b (by
      obtain ⟨e, he, hb⟩ := List.mem_filterMap.mp hb
      exact List.mem_filterMap.mpr ⟨e, .tail _ he, hb⟩)
    obtain ⟨o', es, n, ho', hd⟩ := D L hL
    rw [ho] at ho'
    cases ho'
    refine ⟨(L, o) :: frs, ⟨hk, hf, ⟨es, n, hd⟩, h1⟩, ?_, ?_⟩
    · intro p hp
      rcases List.mem_cons.mp hp with e | hp
      · rw [e]; exact ho
      · exact h2 p hp
    · show L :: frs.map (·.1) = (env :: l).filterMap (·.frame)
      rw [h3]
      show _ = List.filterMap _ (env :: l)
      rw [List.filterMap_cons, hf]
theorem frs_up_fst : ∀ {a b : List (Addr × Obj)}, SameUp a b → b.map (·.1) = a.map (·.1)
  | [], [], _ => rfl
  | [], _ :: _, h => h.elim
  | _ :: _, [], h => h.elim
  | p :: ps, q :: qs, ⟨h1, _, h3⟩ => by
    show q.1 :: qs.map (·.1) = p.1 :: ps.map (·.1)
    rw [h1, frs_up_fst h3]
section
variable {A : Around} {base g h : Heap} {l : List Env} {L : Addr} {m : Str → Option Value} {T frs : List (Addr × Obj)} {K : Frag} {p0 : Program} {loose : List Str} {mean : ExcName → Option Value} {mg mb : Str → Option Value}
/-- the base without the frames below -/
theorem to_hb (B : Below A base l g) (F : Fr g L h m) (N : News g L h T) (hf : ∀ p ∈ frs, g.get? p.1 = some p.2) (hm : frs.map (·.1) = l.filterMap (·.frame)) :
    Fr (hideAll g (frs.map (·.1))) L h m ∧ News (hideAll g (frs.map (·.1))) L h (T ++ frs) ∧ base.StaysIn (hideAll g (frs.map (·.1))) ∧ (∀ p ∈ T, p.1 ∉ frs.map (·.1)) := by
  have nL : g.get? L = none := kts_self F
  have off : ∀ p ∈ T, p.1 ∉ frs.map (·.1) := fun p hp hq => by
    obtain ⟨q, hq, e⟩ := List.mem_map.mp hq
    have := hf q hq
    rw [e, (N p hp).2.2] at this; cases this
  refine ⟨⟨F.ns, fun b o e => F.keep b o (of_hideAll _ e), by rw [hideAll_size]; exact F.above⟩, fun p hp => ?_, fun b o e => hideAll_get _ (B.stays b o e) fun hb => ?_, off⟩
  · rcases List.mem_append.mp hp with hp | hp
    · refine ⟨(N p hp).1, (N p hp).2.1, ?_⟩
      cases q : (hideAll g (frs.map (·.1))).get? p.1 with
      | none => rfl
      | some o => have := of_hideAll _ q; rw [(N p hp).2.2] at this; cases this
    · exact ⟨F.keep _ _ (hf p hp), (fun e => by have := hf p hp; rw [e, nL] at this; cases this), hideAll_none _ (List.mem_map_of_mem hp)⟩
  · rw [hm] at hb
    rw [(B.frames.mem hb).1] at e; cases e
/-- back to a base with the frames, as they are now -/
theorem from_hb {frs' T' : List (Addr × Obj)} {h' : Heap} {m' : Str → Option Value} (F₀ : Fr g L h m) (hf : ∀ p ∈ frs, g.get? p.1 = some p.2) (SU : SameUp frs frs') (F : Fr (hideAll g (frs.map (·.1))) L h' m') (N : News (hideAll g (frs.map (·.1))) L h' (T' ++ frs')) (hoff : ∀ p ∈ T', p.1 ∉ frs.map (·.1)) :
    ∃ g', KtsTurn (frs.map (·.1)) g g' ∧ Fr g' L h' m' ∧ News g' L h' T' := by
  obtain ⟨T₁, S₁⟩ := kts_turn_at (h := h') (fs := frs.map (·.1)) (g := g)
    (fun b hb => by
      obtain ⟨p, hp, rfl⟩ := List.mem_map.mp hb
      exact ⟨_, hf p hp⟩)
    (fun b o e hb => F.keep b o (hideAll_get _ e hb))
    (fun b o e hb => by
      obtain ⟨p, hp, rfl⟩ := List.mem_map.mp hb
      have := hf p hp
      rw [e] at this
      cases this
      obtain ⟨sl, hs⟩ := SU.back p hp
      exact ⟨sl, (N _ (List.mem_append_right _ hs)).1⟩)
  refine ⟨_, T₁, ⟨F.ns, S₁, by rw [T₁.size]; exact F₀.above⟩, fun p hp => ⟨(N p (List.mem_append_left _ hp)).1, (N p (List.mem_append_left _ hp)).2.1, T₁.none_ _ ?_⟩⟩
  cases q : g.get? p.1 with
  | none => rfl
  | some o =>
    have := hideAll_get _ q (hoff p hp)
    rw [(N p (List.mem_append_left _ hp)).2.2] at this; cases this
end

end
section
open PySem PySem.W PyProof.Rows PySem.Calls
open PyProof.Rows.TI
theorem st_exc : isSubtype (.type "StopIteration") (.type "BaseException") = pure true := by rw [isSubtype_type]; kernel_rfl
theorem st_nt : isSubtype (.type ((Manifest.find? "StopIteration").elim "type" fun y => y.metatype)) (.type "tuple") = pure false := by
  rw [show ((Manifest.find? "StopIteration").elim "type" fun y => y.metatype) = "type" by kernel_rfl]
  rw [isSubtype_type]; kernel_rfl
theorem st_boot : bootBuiltins "StopIteration" = some (.type "StopIteration") := by first | exact PyProof.Rows.Boot.«StopIteration» | decide +kernel
section
variable {prog : Program} {w : World} {A₀ : Around} {E : Value → Shared → Prop} {s' : Shared} {hb h : Heap} {L a e : Addr} {m : Str → Option Value} {name : Str} {scope : Scope} {cd : Value} {l : List Env} {frs new : List (Addr × Obj)}
  {b₀ : Stmt} {suite : List Stmt} {pos np : Pos} {rest : List ExceptHandler} {Q : Flow → Shared → Prop} {p0 : Program} {loose : List Str} {mean : ExcName → Option Value} {mg mb : Str → Option Value} {KF : Frag}
theorem caught_here (hfr : A₀.frames = some l) (Fs : Frs l frs) (hx : Heap.NewExc h s'.heap e "StopIteration") (F : Fr hb L h m) (N : News hb L h (new ++ frs)) (hap : ∀ p ∈ new, p.1 ∉ frs.map (·.1)) (X : KF.In hb) (T : Top p0 loose mean mg mb hb) (ex : nsIn KF mainGlobals "StopIteration" = some none)
    (k : ∀ h' frs', SameUp frs frs' → Frs l frs' → Fr hb L h' m → News hb L h' (new ++ frs') → wpAny (model prog w) ((A₀.deeper (envOf name scope L a cd)).mark (some (.ref e))) (execs (b₀ :: suite) (envOf name scope L a cd)) Q E { s' with heap := h' })
    (hk : scope.kind = .function := by rfl) (hxk : (envOf name scope L a cd).kindOf "StopIteration" = some .globalImplicit := by rfl)
    (hE : PassesOwnAt (model prog w) ((A₀.deeper (envOf name scope L a cd)).mark (some (.ref e))) (A₀.deeper (envOf name scope L a cd)) (envOf name scope L a cd) E := by passes_own) :
    wpAny (model prog w) (A₀.deeper (envOf name scope L a cd)) (noteFrame (.ref e) (envOf name scope L a cd))
      (fun _ s₂ => wpAny (model prog w) (A₀.deeper (envOf name scope L a cd)) (setFlight (.ref e) none) (fun _ s₃ =>
        wpAny (model prog w) (A₀.deeper (envOf name scope L a cd)) (handleBy (.ref e) (envOf name scope L a cd) (.ExceptHandler (some (.Name "StopIteration" np)) none (b₀ :: suite) pos :: rest)) Q E s₃) E s₂) E s' := by
  refine TLg.noted_newA (new := new) hfr Fs hx F N (fun p hp hm => ?_) (fun h' frs' SU Fs' H => ?_) hk
  · rcases List.mem_cons.mp hm with e | hm
    · exact (N p (List.mem_append_left _ hp)).2.1 e
    · exact hap p hp hm
  · refine H.land fun h₂ H₂ => ?_
    refine wpAny_handleBy_builtin (X := "StopIteration") (T := "StopIteration") (b := true) st_exc st_nt PySem.isSubtype_stop (wpAny_passesOwnAt hE (name_B H₂.held.fr X (topRead_of T) ex st_boot (by decide) ⟨rfl, H₂.isA, ?_⟩ hk hxk (by decide)))
    rw [if_pos rfl]
    exact H₂.lands fun h₃ F₃ N₃ => wpAny_passesOwnAt hE (k h₃ frs' SU Fs' F₃ N₃)
end
section
variable {prog : Program} {w : World} {A : Around} {E : Value → Shared → Prop} {s : Shared} {h₀ : Heap} {L sa : Addr} {news : List (Addr × Obj)} {so : Obj} {K : Type} [DecidableEq K] [BEq K] [LawfulBEq K] {knd : KeyKind prog w K} {S : K → Bool} {n : Nat} {k : K} {key : Value}
theorem inset_led {Q : Value → Shared → Prop} (N : News h₀ L s.heap news) (hm : (sa, so) ∈ news) (hso : so.SetObjOf knd S n) (hb : n < scanBound) (hkey : knd.is k key = true) (hsc : key.scannable = true) (h : Q (.bool (S k)) { s with toks := s.toks + 1 }) :
    wpAny (model prog w) A (compareOp .In key (.ref sa)) Q E s := by
  obtain ⟨pre, post, rfl⟩ := List.append_of_mem hm
  exact in_sl1 N hso hb hkey hsc h
end
section
variable {prog : Program} {w : World} {A : Around} {E : Value → Shared → Prop} {s : Shared} {h₀ : Heap} {L sa : Addr} {news : List (Addr × Obj)} {so : Obj} {K : Type} [DecidableEq K] [BEq K] [LawfulBEq K] {knd : KeyKind prog w K} {S : K → Bool} {n : Nat} {k : K} {key : Value}
theorem inset_b {Q : Value → Shared → Prop} (N : News h₀ L s.heap news) (hm : (sa, so) ∈ news) (hso : so.SetObjOf knd S n) (hb : n < scanBound) (hkey : knd.is k key = true) (hsc : key.scannable = true) (b : Bool) (hS : S k = b) (h : Q (.bool b) { s with toks := s.toks + 1 }) :
    wpAny (model prog w) A (compareOp .In key (.ref sa)) Q E s := inset_led N hm hso hb hkey hsc (by rw [hS]; exact h)
end
/-- a ledger without some addresses -/
noncomputable def offL (ds : List Addr) (T : List (Addr × Obj)) : List (Addr × Obj) := T.filter fun p => decide (p.1 ∉ ds)
theorem mem_offL {ds : List Addr} {T : List (Addr × Obj)} {p : Addr × Obj} : p ∈ offL ds T ↔ p ∈ T ∧ p.1 ∉ ds := by simp [offL]
theorem offL_ne {ds : List Addr} {T : List (Addr × Obj)} {d : Addr} (hd : d ∈ ds) : ∀ p ∈ offL ds T, p.1 ≠ d := fun p hp e => (mem_offL.mp hp).2 (e ▸ hd)

end
noncomputable def go (sc : Int → List Int) : Nat → Option Int → List (Int × List Int) → List Int → Option (Sum (List Int) (List Int))
  | 0, _, _, _ => none
  | n + 1, some x, stk, seen =>
    if x ∈ seen then (if x ∈ stk.map (·.1) then some (.inl ((stk.map (·.1)).reverse.drop ((stk.map (·.1)).reverse.idxOf x) ++ [x])) else go sc n none stk seen)
    else go sc n none ((x, sc x) :: stk) (x :: seen)
  | n + 1, none, [], seen => some (.inr seen)
  | n + 1, none, (x, []) :: rest, seen => go sc n none rest seen
  | n + 1, none, (x, y :: ys) :: rest, seen => go sc n (some y) ((x, ys) :: rest) seen
noncomputable def findL (sc : Int → List Int) (n : Nat) : List Int → List Int → Option (Option (List Int))
  | [], _ => some none
  | x :: r, seen => if x ∈ seen then findL sc n r seen else match go sc n (some x) [] seen with
    | none => none
    | some (.inl c) => some (some c)
    | some (.inr seen') => findL sc n r seen'
structure En where
  x : Int
  W : Addr
  I : Addr
  sl : Addr
  pos : Nat
inductive Ft
  | ls | li | sn | dn
  | it (x : Int) | wr (x : Int)
structure FcA where
  ls : Addr
  li : Addr
  sn : Addr
  dn : Addr
noncomputable def stkOf (sc : Int → List Int) (es : List En) : List (Int × List Int) := (es.map fun e => (e.x, (sc e.x).drop e.pos)).reverse
theorem stkOf_snoc (sc : Int → List Int) (es : List En) (e : En) : stkOf sc (es ++ [e]) = (e.x, (sc e.x).drop e.pos) :: stkOf sc es := by simp [stkOf]
theorem stkOf_fst (sc : Int → List Int) (es : List En) : (stkOf sc es).map (·.1) = (es.map (·.x)).reverse := by simp [stkOf]
structure Fc (prog : Program) (w : World) (ns : List Int) (sc : Int → List Int) (T₀ T : List (Addr × Obj)) (A : FcA) (es : List En) (seen : List Int) (tag : Addr → Option Ft) : Prop where
  st : ∃ vs k, (A.ls, listOf vs.toArray k) ∈ T ∧ IntsAre vs (es.map (·.x))
  it : ∃ k, (A.li, listOf (es.map fun e => Value.ref e.W).toArray k) ∈ T
  sn : ∃ o, (A.sn, o) ∈ T ∧ o.SetObjOf (intKind prog w) (fun k => decide (k ∈ seen)) seen.length
  dn : ∃ o vs, (A.dn, o) ∈ T ∧ o.IsDictOf (intKind prog w) ((es.map (·.x)).zip vs) ∧ vs.length = es.length ∧ ∀ (i : Nat) (v : Value), vs[i]? = some v → ∃ t, v = .int (i : Int) t
  dsys : (A.dn == sysModules) = false
  en : ∀ e ∈ es, (e.W, wrapO e.I) ∈ T ∧ (e.I, iterO e.sl e.pos) ∈ T ∧ tag e.W = some (.wr e.x) ∧ tag e.I = some (.it e.x)
  src : ∀ e ∈ es, ∃ vs k, (e.sl, listOf vs.toArray k) ∈ T₀ ∧ IntsAre vs (sc e.x)
  nd : (es.map (·.x)).Nodup
  sub : ∀ e ∈ es, e.x ∈ seen
  snd : seen.Nodup
  sns : ∀ x ∈ seen, x ∈ ns
  tls : tag A.ls = some .ls
  tli : tag A.li = some .li
  tsn : tag A.sn = some .sn
  tdn : tag A.dn = some .dn
  base : ∀ p ∈ T₀, p ∈ T ∧ tag p.1 = none
  dom : ∀ a, tag a ≠ none → ∃ o, (a, o) ∈ T
theorem ft_ne {tag : Addr → Option Ft} {a b : Addr} {x y : Option Ft} (h1 : tag a = x) (h2 : tag b = y) (h : x ≠ y) : a ≠ b := fun e => h (by rw [← h1, ← h2, e])
theorem nodup_len {l ns : List Int} (h : l.Nodup) (k : ∀ x ∈ l, x ∈ ns) : l.length ≤ ns.length := by
  induction l generalizing ns with
  | nil => exact Nat.zero_le _
  | cons x r ih =>
    have hn := List.nodup_cons.mp h
    have hx := k x (.head _)
    have h1 := ih (ns := ns.erase x) hn.2 fun y hy => by
      have : y ≠ x := fun e => hn.1 (e ▸ hy)
      exact (List.mem_erase_of_ne this).mpr (k y (.tail _ hy))
    rw [List.length_erase_of_mem hx] at h1
    have : 0 < ns.length := List.length_pos_of_mem hx
    rw [List.length_cons]; omega
theorem zip_val : ∀ (w : List Int) (vs : List Value) (x : Int) (b : Nat), vs.length = w.length → (∀ (i : Nat) (v : Value), vs[i]? = some v → ∃ t, v = .int ((b + i : Nat) : Int) t) → (x ∈ w → ∃ t, valueAt (w.zip vs) x = some (.int ((b + w.idxOf x : Nat) : Int) t)) ∧ (x ∉ w → valueAt (w.zip vs) x = none)
  | [], _, x, b, _, _ => ⟨(fun h => nomatch h), fun _ => rfl⟩
  | y :: w, [], x, b, hl, _ => by simp at hl
  | y :: w, v :: vs, x, b, hl, hv => by
    have ih := zip_val w vs x (b + 1) (by simpa using hl) fun i v' hv' => by
      obtain ⟨t, e⟩ := hv (i + 1) v' (by simpa using hv')
      exact ⟨t, by rw [e]; congr 1; omega⟩
    constructor
    · intro hm
      by_cases e : y = x
      · subst e
        obtain ⟨t, ht⟩ := hv 0 v rfl
        refine ⟨t, ?_⟩
        simp [valueAt, ht]
      · have hm' : x ∈ w := by
          rcases List.mem_cons.mp hm with h | h
          · exact absurd h.symm e
          · exact h
        obtain ⟨t, ht⟩ := ih.1 hm'
        refine ⟨t, ?_⟩
        have e2 : (y == x) = false := by simpa using e
        rw [List.idxOf_cons, e2]
        simp only [cond_false]
        rw [show b + (w.idxOf x + 1) = b + 1 + w.idxOf x by omega, ← ht]
        simp [valueAt, e]
    · intro hm
      have e : ¬ y = x := fun q => hm (q ▸ .head _)
      rw [← ih.2 fun q => hm (.tail _ q)]
      simp [valueAt, e]
section
variable {prog : Program} {w : World} {ns : List Int} {sc : Int → List Int} {T₀ T T2 : List (Addr × Obj)} {A : FcA} {es : List En} {seen : List Int} {tag : Addr → Option Ft}
theorem Fc.fresh (h : Fc prog w ns sc T₀ T A es seen tag) {a : Addr} (k : ∀ p ∈ T, p.1 ≠ a) : tag a = none := by
  cases e : tag a with
  | none => rfl
  | some t =>
    obtain ⟨o, ho⟩ := h.dom a (by rw [e]; simp)
    exact absurd rfl (k _ ho)
theorem Fc.len (h : Fc prog w ns sc T₀ T A es seen tag) : seen.length ≤ ns.length ∧ es.length ≤ ns.length := by
  refine ⟨nodup_len h.snd h.sns, ?_⟩
  have := nodup_len h.nd fun x hx => by
    obtain ⟨e, he, rfl⟩ := List.mem_map.mp hx
    exact h.sns _ (h.sub e he)
  simpa using this
theorem Fc.val (h : Fc prog w ns sc T₀ T A es seen tag) : ∃ o kvs, (A.dn, o) ∈ T ∧ o.IsDictOf (intKind prog w) kvs ∧ kvs.length = es.length ∧ (∀ x ∈ es.map (·.x), ∃ t, valueAt kvs x = some (.int (((es.map (·.x)).idxOf x : Nat) : Int) t)) ∧ (∀ x, x ∉ es.map (·.x) → valueAt kvs x = none) ∧
    ∃ vs, kvs = (es.map (·.x)).zip vs ∧ vs.length = es.length ∧ ∀ (i : Nat) (v : Value), vs[i]? = some v → ∃ t, v = .int (i : Int) t := by
  obtain ⟨o, vs, h1, h2, h3, h4⟩ := h.dn
  have hz := fun x => zip_val (es.map (·.x)) vs x 0 (by simpa using h3) fun i v hv => by simpa using h4 i v hv
  refine ⟨o, _, h1, h2, by simp [h3], fun x hx => ?_, fun x hx => (hz x).2 hx, vs, rfl, h3, h4⟩
  obtain ⟨t, ht⟩ := (hz x).1 hx
  exact ⟨t, by rw [ht]; simp⟩
theorem Fc.push (h : Fc prog w ns sc T₀ T A es seen tag) {x : Int} {W I sl : Addr} {u : Tok} (hx : x ∉ seen) (hxn : x ∈ ns) (fI : ∀ p ∈ T, p.1 ≠ I) (fW : ∀ p ∈ T, p.1 ≠ W) (hIW : I ≠ W) {vs : List Value} {k k' k2 : Nat} {o o' od od' : Obj} {kvs : List (Int × Value)} {t : Tok}
    (hst : (A.ls, listOf vs.toArray k) ∈ T2 ∧ IntsAre vs ((es.map (·.x)) ++ [x])) (hit : (A.li, listOf ((es.map fun e => Value.ref e.W) ++ [Value.ref W]).toArray k2) ∈ T2)
    (hsn : (A.sn, o') ∈ T2 ∧ o'.SetObjOf (intKind prog w) (fun k => decide (k ∈ seen) || decide (k = x)) (if decide (x ∈ seen) = true then seen.length else seen.length + 1))
    (hdn : (A.dn, od') ∈ T2 ∧ ∃ vs, od'.IsDictOf (intKind prog w) (stored ((es.map (·.x)).zip vs) x (.int (es.length : Int) t)) ∧ vs.length = es.length ∧ ∀ (i : Nat) (v : Value), vs[i]? = some v → ∃ t, v = .int (i : Int) t)
    (hW : (W, wrapO I) ∈ T2) (hI : (I, iterO sl 0) ∈ T2) (hsl : ∃ vs k, (sl, listOf vs.toArray k) ∈ T₀ ∧ IntsAre vs (sc x))
    (hk : ∀ p ∈ T, p.1 ≠ A.ls → p.1 ≠ A.li → p.1 ≠ A.sn → p.1 ≠ A.dn → p ∈ T2) :
    Fc prog w ns sc T₀ T2 A (es ++ [⟨x, W, I, sl, 0⟩]) (x :: seen) (fun a => if a = I then some (.it x) else if a = W then some (.wr x) else tag a) := by
  have tg : ∀ {a : Addr} {f : Option Ft} {o : Obj}, (a, o) ∈ T → tag a = f → (fun a => if a = I then some (Ft.it x) else if a = W then some (.wr x) else tag a) a = f := fun {a f o} hm ha => by
    have e1 : ¬ a = I := fI _ hm
    have e2 : ¬ a = W := fW _ hm
    simp [e1, e2, ha]
  have hxe : x ∉ es.map (·.x) := fun hm => by
    obtain ⟨e, he, rfl⟩ := List.mem_map.mp hm
    exact hx (h.sub e he)
  obtain ⟨_, _, hst0, _⟩ := h.st
  obtain ⟨_, hit0⟩ := h.it
  obtain ⟨_, hsn0, _⟩ := h.sn
  obtain ⟨_, _, hdn0, _⟩ := h.dn
  exact {
    st := ⟨vs, k, hst.1, by simpa using hst.2⟩
    it := ⟨k2, by simpa using hit⟩
    sn := ⟨o', hsn.1, by
      have h2 := hsn.2
      rw [if_neg (by simpa using hx)] at h2
      have : (fun k => decide (k ∈ seen) || decide (k = x)) = fun k => decide (k ∈ x :: seen) := by
        funext k
        rw [Bool.eq_iff_iff]; simp [or_comm]
      rw [this] at h2
      exact h2⟩
    dn := by
      obtain ⟨h1, vs', h2, h3, h4⟩ := hdn
      refine ⟨od', vs' ++ [.int (es.length : Int) t], h1, ?_, by simp [h3], fun i v hv => ?_⟩
      · have hz := zip_val (es.map (·.x)) vs' x 0 (by simpa using h3) fun i v hv => by simpa using h4 i v hv
        rw [stored_new (hz.2 hxe)] at h2
        rw [List.map_append, List.map_singleton, List.zip_append (by simpa using h3.symm)]
        exact h2
      · by_cases hi : i < vs'.length
        · rw [List.getElem?_append_left hi] at hv
          exact h4 i v hv
        · rw [List.getElem?_append_right (by omega)] at hv
          have hi2 : i - vs'.length = 0 := by
            cases q : i - vs'.length with
            | zero => rfl
            | succ n => rw [q] at hv; simp at hv
          rw [hi2] at hv
          simp at hv
          exact ⟨t, by rw [← hv]; congr 1; omega⟩
    dsys := h.dsys
    en := fun e he => by
      rcases List.mem_append.mp he with he | he
      · obtain ⟨h1, h2, h3, h4⟩ := h.en e he
        have a1 : ∀ {f : Ft} {b : Addr}, tag b = some f → f ≠ .wr e.x → e.W ≠ b := fun hb hf => ft_ne h3 hb fun q => hf (Option.some.inj q).symm
        have a2 : ∀ {f : Ft} {b : Addr}, tag b = some f → f ≠ .it e.x → e.I ≠ b := fun hb hf => ft_ne h4 hb fun q => hf (Option.some.inj q).symm
        exact ⟨hk _ h1 (a1 h.tls (fun q => nomatch q)) (a1 h.tli (fun q => nomatch q)) (a1 h.tsn (fun q => nomatch q)) (a1 h.tdn (fun q => nomatch q)),
          hk _ h2 (a2 h.tls (fun q => nomatch q)) (a2 h.tli (fun q => nomatch q)) (a2 h.tsn (fun q => nomatch q)) (a2 h.tdn (fun q => nomatch q)), tg h1 h3, tg h2 h4⟩
      · rw [List.mem_singleton.mp he]
        exact ⟨hW, hI, by simp [Ne.symm hIW], by simp⟩
    src := fun e he => by
      rcases List.mem_append.mp he with he | he
      · exact h.src e he
      · rw [List.mem_singleton.mp he]; exact hsl
    nd := by
      rw [List.map_append, List.nodup_append]
      refine ⟨h.nd, by simp, fun a ha b hb => ?_⟩
      have : b = x := by simpa using hb
      subst this
      exact fun e => hxe (e ▸ ha)
    sub := fun e he => by
      rcases List.mem_append.mp he with he | he
      · exact .tail _ (h.sub e he)
      · rw [List.mem_singleton.mp he]; exact .head _
    snd := List.nodup_cons.mpr ⟨hx, h.snd⟩
    sns := fun y hy => by
      rcases List.mem_cons.mp hy with e | hy
      · rw [e]; exact hxn
      · exact h.sns y hy
    tls := tg hst0 h.tls
    tli := tg hit0 h.tli
    tsn := tg hsn0 h.tsn
    tdn := tg hdn0 h.tdn
    base := fun p hp => by
      obtain ⟨h1, h2⟩ := h.base p hp
      have a1 : ∀ {f : Ft} {b : Addr}, tag b = some f → p.1 ≠ b := fun hb => ft_ne h2 hb (fun q => nomatch q)
      exact ⟨hk p h1 (a1 h.tls) (a1 h.tli) (a1 h.tsn) (a1 h.tdn), tg (o := p.2) h1 h2⟩
    dom := fun a ha => by
      by_cases e1 : a = I
      · exact ⟨_, e1 ▸ hI⟩
      · by_cases e2 : a = W
        · exact ⟨_, e2 ▸ hW⟩
        · obtain ⟨o, ho⟩ := h.dom a (by simpa [e1, e2] using ha)
          by_cases q1 : a = A.ls
          · exact ⟨_, q1 ▸ hst.1⟩
          · by_cases q2 : a = A.li
            · exact ⟨_, q2 ▸ hit⟩
            · by_cases q3 : a = A.sn
              · exact ⟨_, q3 ▸ hsn.1⟩
              · by_cases q4 : a = A.dn
                · exact ⟨_, q4 ▸ hdn.1⟩
                · exact ⟨o, hk _ ho q1 q2 q3 q4⟩ }
theorem Fc.item (h : Fc prog w ns sc T₀ T A (es ++ [⟨x, W, I, sl, pos⟩]) seen tag) (hI : (I, iterO sl (pos + 1)) ∈ T2) (hk : ∀ p ∈ T, p.1 ≠ I → p ∈ T2) :
    Fc prog w ns sc T₀ T2 A (es ++ [⟨x, W, I, sl, pos + 1⟩]) seen tag := by
  obtain ⟨he1, he2, he3, he4⟩ := h.en ⟨x, W, I, sl, pos⟩ (List.mem_append_right _ (.head _))
  dsimp only at he1 he2 he3 he4
  have ne : ∀ {f : Ft} {b : Addr}, tag b = some f → f ≠ .it x → b ≠ I := fun hb hf => ft_ne hb he4 fun q => hf (Option.some.inj q)
  have hmap : (es ++ [(⟨x, W, I, sl, pos + 1⟩ : En)]).map (·.x) = (es ++ [(⟨x, W, I, sl, pos⟩ : En)]).map (·.x) := by simp
  have hmapW : ((es ++ [(⟨x, W, I, sl, pos + 1⟩ : En)]).map fun e => Value.ref e.W) = ((es ++ [(⟨x, W, I, sl, pos⟩ : En)]).map fun e => Value.ref e.W) := by simp
  have hnx : ∀ e ∈ es, e.x ≠ x := fun e he q => by
    have := h.nd
    rw [List.map_append, List.nodup_append] at this
    exact this.2.2 e.x (List.mem_map_of_mem he) x (by simp) q
  exact {
    st := let ⟨vs, k, a, b⟩ := h.st; ⟨vs, k, hk _ a (ne h.tls (fun q => nomatch q)), by rw [hmap]; exact b⟩
    it := let ⟨k, a⟩ := h.it; ⟨k, by rw [hmapW]; exact hk _ a (ne h.tli (fun q => nomatch q))⟩
    sn := let ⟨o, a, b⟩ := h.sn; ⟨o, hk _ a (ne h.tsn (fun q => nomatch q)), b⟩
    dn := let ⟨o, vs, a, b, c, d⟩ := h.dn; ⟨o, vs, hk _ a (ne h.tdn (fun q => nomatch q)), by rw [hmap]; exact b, by simpa using c, d⟩
    dsys := h.dsys
    en := fun e he => by
      rcases List.mem_append.mp he with he' | he
      · obtain ⟨h1, h2, h3, h4⟩ := h.en e (List.mem_append_left _ he')
        exact ⟨hk _ h1 (ne h3 (fun q => nomatch q)), hk _ h2 (ne h4 (fun q => hnx e he' (by injection q))), h3, h4⟩
      · rw [List.mem_singleton.mp he]
        exact ⟨hk _ he1 (ne he3 (fun q => nomatch q)), hI, he3, he4⟩
    src := fun e he => by
      rcases List.mem_append.mp he with he | he
      · exact h.src e (List.mem_append_left _ he)
      · rw [List.mem_singleton.mp he]; exact h.src ⟨x, W, I, sl, pos⟩ (List.mem_append_right _ (.head _))
    nd := by rw [hmap]; exact h.nd
    sub := fun e he => by
      rcases List.mem_append.mp he with he | he
      · exact h.sub e (List.mem_append_left _ he)
      · rw [List.mem_singleton.mp he]; exact h.sub ⟨x, W, I, sl, pos⟩ (List.mem_append_right _ (.head _))
    snd := h.snd
    sns := h.sns
    tls := h.tls
    tli := h.tli
    tsn := h.tsn
    tdn := h.tdn
    base := fun p hp => ⟨hk p (h.base p hp).1 (ft_ne (h.base p hp).2 he4 (fun q => nomatch q)), (h.base p hp).2⟩
    dom := fun a ha => by
      by_cases e : a = I
      · exact ⟨_, e ▸ hI⟩
      · obtain ⟨o, ho⟩ := h.dom a ha
        exact ⟨o, hk _ ho e⟩ }
theorem Fc.pop (h : Fc prog w ns sc T₀ T A (es ++ [⟨x, W, I, sl, pos⟩]) seen tag) {vs : List Value} {k k2 : Nat} {oI od' : Obj} (hI : (I, oI) ∈ T2) (hst : (A.ls, listOf vs.toArray k) ∈ T2 ∧ IntsAre vs (es.map (·.x))) (hit : (A.li, listOf (es.map fun e => Value.ref e.W).toArray k2) ∈ T2)
    (hdn : (A.dn, od') ∈ T2 ∧ ∃ vs, od'.IsDictOf (intKind prog w) (without (((es ++ [(⟨x, W, I, sl, pos⟩ : En)]).map (·.x)).zip vs) x) ∧ vs.length = es.length + 1 ∧ ∀ (i : Nat) (v : Value), vs[i]? = some v → ∃ t, v = .int (i : Int) t)
    (hk : ∀ p ∈ T, p.1 ≠ I → p.1 ≠ A.ls → p.1 ≠ A.li → p.1 ≠ A.dn → p ∈ T2) : Fc prog w ns sc T₀ T2 A es seen tag := by
  obtain ⟨he1, he2, he3, he4⟩ := h.en ⟨x, W, I, sl, pos⟩ (List.mem_append_right _ (.head _))
  dsimp only at he1 he2 he3 he4
  have hnd := h.nd
  rw [List.map_append, List.nodup_append] at hnd
  have hnx : ∀ e ∈ es, e.x ≠ x := fun e he q => hnd.2.2 e.x (List.mem_map_of_mem he) x (by simp) q
  have hxe : x ∉ es.map (·.x) := fun hm => by
    obtain ⟨e, he, q⟩ := List.mem_map.mp hm
    exact hnx e he q
  have kk : ∀ {b : Addr} {o : Obj} {f : Ft}, (b, o) ∈ T → tag b = some f → f ≠ .it x → f ≠ .ls → f ≠ .li → f ≠ .dn → (b, o) ∈ T2 := fun hm hb h1 h2 h3 h4 =>
    hk _ hm (ft_ne hb he4 fun q => h1 (Option.some.inj q)) (ft_ne hb h.tls fun q => h2 (Option.some.inj q)) (ft_ne hb h.tli fun q => h3 (Option.some.inj q)) (ft_ne hb h.tdn fun q => h4 (Option.some.inj q))
  exact {
    st := ⟨vs, k, hst.1, hst.2⟩
    it := ⟨k2, hit⟩
    sn := let ⟨o, a, b⟩ := h.sn; ⟨o, kk a h.tsn (fun q => nomatch q) (fun q => nomatch q) (fun q => nomatch q) (fun q => nomatch q), b⟩
    dn := by
      obtain ⟨h1, vs', h2, h3, h4⟩ := hdn
      have hvn : vs' ≠ [] := by intro e; rw [e] at h3; simp at h3
      obtain ⟨ws, v, rfl⟩ : ∃ ws v, vs' = ws ++ [v] := ⟨vs'.dropLast, vs'.getLast hvn, (List.dropLast_concat_getLast hvn).symm⟩
      have hwl : ws.length = es.length := by simpa using h3
      refine ⟨od', ws, h1, ?_, hwl, fun i v' hv => h4 i v' ?_⟩
      · rw [List.map_append, List.map_singleton, List.zip_append (by simpa using hwl.symm)] at h2
        have : without ((es.map (·.x)).zip ws ++ [x].zip [v]) x = (es.map (·.x)).zip ws := by
          unfold without
          rw [List.filter_append]
          have e1 : ([x].zip [v]).filter (fun kv => !decide (kv.1 = x)) = [] := by simp
          have e2 : ((es.map (·.x)).zip ws).filter (fun kv => !decide (kv.1 = x)) = (es.map (·.x)).zip ws := by
            rw [List.filter_eq_self]
            intro kv hkv
            obtain ⟨a, b⟩ := kv
            have := (List.of_mem_zip hkv).1
            have hne : ¬ a = x := fun q => hxe (q ▸ this)
            simp [hne]
          first
            | rw [e1, e2, List.append_nil]
            | (simp only [ne_eq, decide_not] at *; rw [e1, e2, List.append_nil])
        rw [this] at h2
        exact h2
      · have hi := (List.getElem?_eq_some_iff.mp hv).1
        rw [List.getElem?_append_left hi]; exact hv
    dsys := h.dsys
    en := fun e he => by
      obtain ⟨h1, h2, h3, h4⟩ := h.en e (List.mem_append_left _ he)
      exact ⟨kk h1 h3 (fun q => nomatch q) (fun q => nomatch q) (fun q => nomatch q) (fun q => nomatch q), kk h2 h4 (fun q => by cases q; exact hnx e he rfl) (fun q => nomatch q) (fun q => nomatch q) (fun q => nomatch q), h3, h4⟩
    src := fun e he => h.src e (List.mem_append_left _ he)
    nd := hnd.1
    sub := fun e he => h.sub e (List.mem_append_left _ he)
    snd := h.snd
    sns := h.sns
    tls := h.tls
    tli := h.tli
    tsn := h.tsn
    tdn := h.tdn
    base := fun p hp => ⟨hk p (h.base p hp).1 (ft_ne (h.base p hp).2 he4 (fun q => nomatch q)) (ft_ne (h.base p hp).2 h.tls (fun q => nomatch q)) (ft_ne (h.base p hp).2 h.tli (fun q => nomatch q)) (ft_ne (h.base p hp).2 h.tdn (fun q => nomatch q)), (h.base p hp).2⟩
    dom := fun a ha => by
      obtain ⟨o, ho⟩ := h.dom a ha
      by_cases e : a = I
      · exact ⟨_, e ▸ hI⟩
      · by_cases q1 : a = A.ls
        · exact ⟨_, q1 ▸ hst.1⟩
        · by_cases q2 : a = A.li
          · exact ⟨_, q2 ▸ hit⟩
          · by_cases q4 : a = A.dn
            · exact ⟨_, q4 ▸ hdn.1⟩
            · exact ⟨o, hk _ ho e q1 q2 q4⟩ }
end

section
variable {prog : Program} {w : World} {A : Around} {E : Value → Shared → Prop} {s : Shared} {env : Env} {h₀ : Heap} {L : Addr} {R : Result → Shared → Prop} {target : Expr}
theorem compLoopV {elt : Expr} {gens : List Comprehension} {d : Nat} {ifs : List Expr} {scope : Scope} {pos p : Pos} {inner : Sem Unit} {I l D C : Addr} {ys : List Value} {kk : Nat} {K : Type} [DecidableEq K] {knd : KeyKind prog w K} {o : Obj} {kvs : List (K × Value)} {ep : Nat} {oC : Obj} {m : Str → Option Value} {T₀ : List (Addr × Obj)}
    (P : Nat → List Value → List (Addr × Obj) → Nat → Prop)
    (heq : compTurn (.ListComp elt gens scope pos) d (.ref I) (.ref D) env = compStepT target ifs (.ref I) env p inner (.compLoop (.ListComp elt gens scope pos) d (.ref I) (.ref D) env))
    (hh : A.handled = none) (hit : s.heap.IsValIter I l 0 kvs.length ep) (hls : s.heap.DictAt knd l kvs ep) (hI : h₀.get? I = none) (hIL : I ≠ L) (hIT : ∀ p ∈ T₀, p.1 ≠ I) (hID : I ≠ D) (hIC : I ≠ C)
    (F : Fr h₀ L s.heap m) (N : News h₀ L s.heap ((D, listOf ys.toArray kk) :: (C, oC) :: T₀)) (hl : (l, o) ∈ T₀) (hoff : OwnOff T₀ [D, C]) (hnC : ∃ mC, NsO oC mC) (h0 : P 0 ys T₀ s.toks)
    (turn : ∀ i v ys kk oC T own h tk₀ tk mC, (∃ x, kvs[i]? = some (x, v)) → P i ys T tk₀ → tk₀ ≤ tk → Grown T₀ T → OwnOff (T ++ own) [D, C] → Fr h₀ L h m → News h₀ L h ((D, listOf ys.toArray kk) :: (C, oC) :: (T ++ own)) → NsO oC mC →
      wpAny (model prog w) A (assign target env v) (fun _ s₂ => wpAny (model prog w) A (forIn ifs true fun c r => if r = true then do let ok ← isTrue c env (eval c env); pure (ForInStep.yield ok) else pure (ForInStep.yield r)) (fun ok s₃ =>
        if ok = true then wpAny (model prog w) A inner (fun _ s₅ => LpEnd h₀ L [D, C] (fun c : List Value × Nat × Obj => [(D, listOf c.1.toArray c.2.1), (C, c.2.2)]) own T (fun c m' T tk => m' = m ∧ (∃ mC, NsO c.2.2 mC) ∧ P (i + 1) c.1 T tk) s s₅) (notedBy (model prog w) A env fun e s' => R (.error e) s') s₃
        else LpEnd h₀ L [D, C] (fun c : List Value × Nat × Obj => [(D, listOf c.1.toArray c.2.1), (C, c.2.2)]) own T (fun c m' T tk => m' = m ∧ (∃ mC, NsO c.2.2 mC) ∧ P (i + 1) c.1 T tk) s s₃)
        (notedBy (model prog w) A env fun e s' => R (.error e) s') s₂) (notedBy (model prog w) A env fun e s' => R (.error e) s') { s with heap := h, toks := tk })
    (done : ∀ ys kk oC T h tk₀ tk, P kvs.length ys T tk₀ → tk₀ ≤ tk → Grown T₀ T → OwnOff T [D, C] → Fr h₀ L h m → News h₀ L h ((D, listOf ys.toArray kk) :: (C, oC) :: T) → (∃ mC, NsO oC mC) → R (.ok .next) { s with heap := h, toks := tk }) :
    codeAny (model prog w) A (.compLoop (.ListComp elt gens scope pos) d (.ref I) (.ref D) env) R s := by
  have hlI : l ≠ I := hIT _ hl
  have Wk := Walks.dictValues (prog := prog) (w := w) (knd := knd) hh I l hlI kvs ep
  refine compW (σ := List Value × Nat × Obj) heq Wk (fun c => [(D, listOf c.1.toArray c.2.1), (C, c.2.2)]) [D, C] (fun i c m' T tk => m' = m ∧ (∃ mC, NsO c.2.2 mC) ∧ P i c.1 T tk) (ys, kk, oC) T₀ (fun _ => rfl) ?_ ?_ ?_ ?_ (fun i s' v Q' hs' hq => letGo_valiter hs'.1 hq) ⟨hit, hls⟩ F N ?_ hoff ⟨rfl, hnC, h0⟩ ?_ ?_
  · intro hm
    rcases List.mem_cons.mp hm with e | hm
    · exact hIL e.symm
    · exact (N _ (.tail _ (.tail _ hl))).2.1 (List.mem_singleton.mp hm).symm
  · intro b hb
    rw [List.mem_singleton.mp hb]; exact hI
  · intro i h hs b hb
    refine hideG fun kG => ?_
    obtain ⟨⟨o, ho, _⟩, _⟩ := hs
    refine kG ?_
    clear kG
    exact ⟨o, by rw [List.mem_singleton.mp hb]; exact ho⟩
  · intro b hb ha
    rcases List.mem_cons.mp hb with e | hm
    · subst e
      rcases List.mem_cons.mp ha with e | ha
      · exact hID e
      · exact hIC (List.mem_singleton.mp ha)
    · exact hoff _ hl b ha (List.mem_singleton.mp hm).symm
  · intro p hp hb
    exact hIT p hp (List.mem_singleton.mp hb)
  · intro i v c m₁ T own h tk₀ tk _ hv zr11 htk hsub hoff' F₁ N₁
    refine hideG fun kG => ?_
    obtain ⟨rfl, ⟨mC, hnC⟩, hP⟩ := zr11
    refine kG ?_
    clear kG
    exact turn i v c.1 c.2.1 c.2.2 T own h tk₀ tk mC hv hP htk hsub hoff' F₁ N₁ hnC
  · intro c m₁ T h tk₀ tk zr6 htk hsub hoff' F₁ N₁
    refine hideG fun kG => ?_
    obtain ⟨rfl, hnC, hP⟩ := zr6
    refine kG ?_
    clear kG
    exact done c.1 c.2.1 c.2.2 T h tk₀ tk hP htk hsub hoff' F₁ N₁ hnC
end
section
variable {prog : Program} {w : World} {A : Around} {E : Value → Shared → Prop} {s : Shared} {env : Env} {h₀ : Heap} {L : Addr}
theorem compV1 {elt target iter : Expr} {ifs : List Expr} {scope : Scope} {pos : Pos} {cl : List (Str × Addr)} {l V : Addr} {K : Type} [DecidableEq K] {knd : KeyKind prog w K} {o : Obj} {kvs : List (K × Value)} {m : Str → Option Value} {T₀ : List (Addr × Obj)} {CR : Value → Addr → Result → Shared → Prop}
    (P : Nat → List Value → List (Addr × Obj) → Nat → Prop) (hh : A.handled = none) (hcell : ∀ y ∈ scope.names, y.2 ≠ .cell) (hkind : scope.kind = .function)
    (F : Fr h₀ L s.heap m) (N : News h₀ L s.heap T₀) (hv : (V, { cls := .type "dict_values", data := .fields #[.ref l] }) ∈ T₀) (hl : (l, o) ∈ T₀) (hd : o.IsDictOf knd kvs) (h0 : P 0 [] T₀ s.toks)
    (turn : ∀ (D C : Addr) (s' : Heap) (R : Result → Shared → Prop), (∀ p ∈ T₀, p.1 < D) → D < C → ∀ i v ys kk oC T own h tk₀ tk mC, (∃ x, kvs[i]? = some (x, v)) → P i ys T tk₀ → tk₀ ≤ tk → Grown T₀ T → OwnOff (T ++ own) [D, C] → Fr h₀ L h m → News h₀ L h ((D, listOf ys.toArray kk) :: (C, oC) :: (T ++ own)) → NsO oC mC →
      wpAny (model prog w) A (assign target (compEnvC scope cl C env) v) (fun _ s₂ => wpAny (model prog w) A (forIn ifs true fun c r => if r = true then do let ok ← isTrue c (compEnvC scope cl C env) (eval c (compEnvC scope cl C env)); pure (ForInStep.yield ok) else pure (ForInStep.yield r)) (fun ok s₃ =>
        if ok = true then wpAny (model prog w) A (do let _ ← call (.builtin "list.append") [.ref D, ← eval elt (compEnvC scope cl C env)]) (fun _ s₅ => LpEnd h₀ L [D, C] (fun c : List Value × Nat × Obj => [(D, listOf c.1.toArray c.2.1), (C, c.2.2)]) own T (fun c m' T tk => m' = m ∧ (∃ mC, NsO c.2.2 mC) ∧ P (i + 1) c.1 T tk) { s with heap := s' } s₅) (notedBy (model prog w) A (compEnvC scope cl C env) fun e s' => R (.error e) s') s₃
        else LpEnd h₀ L [D, C] (fun c : List Value × Nat × Obj => [(D, listOf c.1.toArray c.2.1), (C, c.2.2)]) own T (fun c m' T tk => m' = m ∧ (∃ mC, NsO c.2.2 mC) ∧ P (i + 1) c.1 T tk) { s with heap := s' } s₃)
        (notedBy (model prog w) A (compEnvC scope cl C env) fun e s' => R (.error e) s') s₂) (notedBy (model prog w) A (compEnvC scope cl C env) fun e s' => R (.error e) s') { s with heap := h, toks := tk })
    (done : ∀ D C ys kk oC T h tk₀ tk, (∀ p ∈ T₀, p.1 < D) → D < C → P kvs.length ys T tk₀ → tk₀ ≤ tk → Grown T₀ T → OwnOff T [D, C] → Fr h₀ L h m → News h₀ L h ((D, listOf ys.toArray kk) :: (C, oC) :: T) → (∃ mC, NsO oC mC) → CR (.ref D) C (.ok .next) { s with heap := h, toks := tk }) :
    wpAny (model prog w) A (pyIter (.ref V)) (fun it s₂ => wpAny (model prog w) A (newList []) (fun acc s₃ => wpAny (model prog w) A (newFunctionEnv scope env.globals cl [] env.qual none .none (some env)) (fun cenv s₄ =>
      codeAny (model prog w) A (.compStart (.ListComp elt [⟨target, iter, ifs, 0⟩] scope pos) 0 it acc { cenv with scope := relabel scope env }) (CR acc cenv.locals) s₄) E s₃) E s₂) E s := by
  obtain ⟨ep, hat⟩ := KdkAt.of hd
  have hls : s.heap.DictAt knd l kvs ep := hat.dictAt (N _ hl).1
  refine wpAny_pyIter_values ⟨_, (N _ hv).1, rfl, rfl⟩ hls ?_
  have hlt : ∀ p ∈ T₀, p.1 < s.heap.objs.size := fun p hp => Heap.lt_size (N p hp).1
  have hLs : L < s.heap.objs.size := F.ns.lt
  refine comp_in (s₂ := { s with heap := s.heap.push _ }) hcell hkind (F.push _) (fun p hp => ⟨Heap.get?_push_of_some _ (N p hp).1, (N p hp).2⟩) fun D C oC h₁ F₁ N₁ hnC hD hDC hk => ?_
  have hDs : s.heap.objs.size < D := by
    have : (s.heap.push { cls := .type "dict_valueiterator", data := .fields #[.ref l, .int 0 0, .int kvs.length 0, .int ep 0] }).objs.size = s.heap.objs.size + 1 := Heap.size_push ..
    exact Nat.lt_of_lt_of_le (by rw [this]; exact Nat.lt_succ_self _) hD
  have hit : h₁.IsValIter s.heap.objs.size l 0 kvs.length ep := ⟨_, hk _ _ (Heap.get?_push_size _ rfl), rfl, rfl⟩
  have hls₁ : h₁.DictAt knd l kvs ep := hls.at' fun o e => hk _ _ (Heap.get?_push_of_some _ e)
  have loop : codeAny (model prog w) A (.compLoop (.ListComp elt [⟨target, iter, ifs, 0⟩] scope pos) 0 (.ref s.heap.objs.size) (.ref D) (compEnvC scope cl C env)) (CR (.ref D) C) { s with heap := h₁ } := by
    refine compLoopV P (compTurn_one ..) hh hit hls₁ (next_is_new F) (Nat.ne_of_gt hLs) (fun p hp => Nat.ne_of_lt (hlt p hp)) (Nat.ne_of_lt hDs) (Nat.ne_of_lt (Nat.lt_trans hDs hDC)) F₁ N₁ hl ?_ ⟨_, hnC⟩ h0
      (fun i v ys kk oC T own h tk₀ tk mC => turn D C h₁ (CR (.ref D) C) (fun p hp => Nat.lt_trans (hlt p hp) hDs) hDC i v ys kk oC T own h tk₀ tk mC) (fun ys kk oC T h tk₀ tk => done D C ys kk oC T h tk₀ tk (fun p hp => Nat.lt_trans (hlt p hp) hDs) hDC)
    intro p hp b hb
    rcases List.mem_cons.mp hb with e | hb
    · rw [e]; exact Nat.ne_of_lt (Nat.lt_trans (hlt p hp) hDs)
    · rw [List.mem_singleton.mp hb]; exact Nat.ne_of_lt (Nat.lt_trans (Nat.lt_trans (hlt p hp) hDs) hDC)
  exact codeAny_compStart_list loop (wpAny_pyIter_valiter hit loop)
end

section
open PySem PySem.W PyProof.Rows PySem.Calls
/-- a base whose frames are as a later heap has them -/
theorem turn_down {A₀ : Around} {base h₀ g g8 : Heap} {outer : List Env} {cn : Str} {cs : Scope} {L a : Addr} {ccd : Value} {m : Str → Option Value} {K : Frag} {p0 : Program} {loose : List Str} {mean : ExcName → Option Value} {mg mb : Str → Option Value}
    (B : Below A₀ base outer h₀) (XB : K.In base) (TB : Top p0 loose mean mg mb base) (D : KtsDicts (outer.filterMap (·.frame)) h₀) (F₀ : Fr h₀ L g m) (T' : KtsTurn ((envOf cn cs L a ccd :: outer).filterMap (·.frame)) g g8) :
    ∃ g', KtsTurn (outer.filterMap (·.frame)) h₀ g' ∧ Fr g' L g8 m ∧ Below A₀ base outer g' ∧ K.In g' ∧ Top p0 loose mean mg mb g' ∧ KtsDicts (outer.filterMap (·.frame)) g' := by
  have nL₀ : h₀.get? L = none := kts_self F₀
  obtain ⟨oL, es, ep, hLg, hLd, hLk, hLf⟩ := F₀.ns
  obtain ⟨sl, hs⟩ := T'.up hLg
  obtain ⟨T₁, S₁⟩ := kts_turn_at (h := g8) (fs := outer.filterMap (·.frame)) (g := h₀)
    (fun b hb => by
      obtain ⟨_, o, ho', _⟩ := B.frames.mem hb
      exact ⟨o, ho'⟩)
    (fun b o e nmem => T'.other b o (F₀.keep b o e) (fun q => by
      rcases kts_mem q with z | z
      · rw [z, nL₀] at e
        cases e
      · exact nmem z))
    (fun b o e hm => T'.up (F₀.keep b o e))
  have B₃ : Below A₀ base outer (ktsHeap g8 (outer.filterMap (·.frame)) h₀) := ⟨B.stack, fun b o e => T₁.other b o (B.stays b o e) (fun hm => by
    rw [(B.frames.mem hm).1] at e
    cases e), B.frames.of_keeps fun b o e _ => by
    obtain ⟨sl', hs'⟩ := T₁.up e
    exact ⟨_, hs', rfl⟩⟩
  exact ⟨_, T₁, ⟨⟨_, es, ep, hs, hLd, hLk, hLf⟩, S₁, by rw [T₁.size]; exact F₀.above⟩, B₃, XB.keeps B₃.stays, TB.keeps B₃.stays, D.turn T₁⟩
/-- CallS for a def that may raise an exception of the own class at C -/
noncomputable def CallX (prog : Program) (d : Nat) (w : World) (f : Addr) (args : List Value) (C : Addr) (news : List (Addr × Obj)) (RES : List (Addr × Obj) → Value → Prop) (EXC : List (Addr × Obj) → Prop) : Prop :=
  ∀ (mean : ExcName → Option Value) (mg mb : Str → Option Value) (p0 : Program) (loose : List Str) (dp un : Nat) (gd : Option (List Code)) (cn : Str) (cs : Scope) (a : Addr) (ccd : Value) (outer : List Env) (A₀ : Around) (base h₀ : Heap) (L : Addr) (m : Str → Option Value) (s : Shared) (Q E : Value → Shared → Prop),
    Below A₀ base outer h₀ → Fr h₀ L s.heap m → (hd.heap_1 w.params).In h₀ → News h₀ L s.heap news → Top p0 loose mean mg mb h₀ → (hd.heap_1 w.params).In base → Top p0 loose mean mg mb base → KtsDicts (outer.filterMap (·.frame)) h₀ → cs.kind = .function → dp + d < recursionLimit → un + 20 * d < cLine →
    (∀ v news' g' h' tk', KtsTurn (outer.filterMap (·.frame)) h₀ g' → Fr g' L h' m → News g' L h' news' → Below A₀ base outer g' → (hd.heap_1 w.params).In g' → Top p0 loose mean mg mb g' → KtsDicts (outer.filterMap (·.frame)) g' → RES news' v → Q v { s with heap := h', toks := tk' }) →
    (∀ e t vs news' g' G h' tk', KtsTurn (outer.filterMap (·.frame)) h₀ g' → Fr g' L G m → Below A₀ base outer g' → (hd.heap_1 w.params).In g' → Top p0 loose mean mg mb g' → KtsDicts (outer.filterMap (·.frame)) g' →
      RaisedS base G (envOf cn cs L a ccd :: outer) e (.ref C) t vs news' h' → G.UpToSlots h' → EXC news' → E (.ref e) { s with heap := h', toks := tk' }) →
    wpAny (model prog w) (ktrTop dp un gd cn cs L a ccd [] outer) (call (.ref f) args) Q E s
theorem CallX.use {prog : Program} {d : Nat} {w : World} {f C : Addr} {args : List Value} {news : List (Addr × Obj)} {RES : List (Addr × Obj) → Value → Prop} {EXC : List (Addr × Obj) → Prop} (H : CallX prog d w f args C news RES EXC) {mean : ExcName → Option Value} {mg mb : Str → Option Value} {p0 : Program} {loose : List Str} {dp un : Nat} {gd : Option (List Code)} {cn : Str} {cs : Scope} {a : Addr} {ccd : Value} {outer : List Env} {A₀ : Around} {base h₀ : Heap} {L : Addr} {m : Str → Option Value} {s : Shared} {Q E : Value → Shared → Prop}
    (B : Below A₀ base outer h₀) (F : Fr h₀ L s.heap m) (X : (hd.heap_1 w.params).In h₀) (N : News h₀ L s.heap news) (T : Top p0 loose mean mg mb h₀) (XB : (hd.heap_1 w.params).In base) (TB : Top p0 loose mean mg mb base) (D : KtsDicts (outer.filterMap (·.frame)) h₀) (hk : cs.kind = .function) (hd0 : dp + d < recursionLimit) (hu : un + 20 * d < cLine)
    (ret : ∀ v news' g' h' tk', KtsTurn (outer.filterMap (·.frame)) h₀ g' → Fr g' L h' m → News g' L h' news' → Below A₀ base outer g' → (hd.heap_1 w.params).In g' → Top p0 loose mean mg mb g' → KtsDicts (outer.filterMap (·.frame)) g' → RES news' v → Q v { s with heap := h', toks := tk' })
    (exc : ∀ e t vs news' g' G h' tk', KtsTurn (outer.filterMap (·.frame)) h₀ g' → Fr g' L G m → Below A₀ base outer g' → (hd.heap_1 w.params).In g' → Top p0 loose mean mg mb g' → KtsDicts (outer.filterMap (·.frame)) g' →
      RaisedS base G (envOf cn cs L a ccd :: outer) e (.ref C) t vs news' h' → G.UpToSlots h' → EXC news' → E (.ref e) { s with heap := h', toks := tk' }) :
    wpAny (model prog w) (ktrTop dp un gd cn cs L a ccd [] outer) (call (.ref f) args) Q E s :=
  H _ _ _ _ _ _ _ _ _ _ _ _ _ _ _ _ _ _ _ _ _ B F X N T XB TB D hk hd0 hu ret exc
theorem CallS.use {prog : Program} {d : Nat} {w : World} {f : Addr} {args : List Value} {news : List (Addr × Obj)} {RES : List (Addr × Obj) → Value → Prop} (C : CallS prog d w f args news RES) {mean : ExcName → Option Value} {mg mb : Str → Option Value} {p0 : Program} {loose : List Str} {dp un : Nat} {gd : Option (List Code)} {cn : Str} {cs : Scope} {a : Addr} {ccd : Value} {outer : List Env} {A₀ : Around} {base h₀ : Heap} {L : Addr} {m : Str → Option Value} {s : Shared} {Q E : Value → Shared → Prop}
    (B : Below A₀ base outer h₀) (F : Fr h₀ L s.heap m) (X : (hd.heap_1 w.params).In h₀) (N : News h₀ L s.heap news) (T : Top p0 loose mean mg mb h₀) (XB : (hd.heap_1 w.params).In base) (TB : Top p0 loose mean mg mb base) (D : KtsDicts (outer.filterMap (·.frame)) h₀) (hk : cs.kind = .function) (hd0 : dp + d < recursionLimit) (hu : un + 20 * d < cLine)
    (ret : ∀ v news' g' h' tk', KtsTurn (outer.filterMap (·.frame)) h₀ g' → Fr g' L h' m → News g' L h' news' → Below A₀ base outer g' → (hd.heap_1 w.params).In g' → Top p0 loose mean mg mb g' → KtsDicts (outer.filterMap (·.frame)) g' → RES news' v → Q v { s with heap := h', toks := tk' }) :
    wpAny (model prog w) (ktrTop dp un gd cn cs L a ccd [] outer) (call (.ref f) args) Q E s :=
  C _ _ _ _ _ _ _ _ _ _ _ _ _ _ _ _ _ _ _ _ _ B F X N T XB TB D hk hd0 hu ret

end
/-! the depth-first search: what it finds is the ring -/
section
variable {ns : List Int} {ps : List (Int × Int)}
theorem mem_flip {x y : Int} : (y, x) ∈ flipP ps ↔ (x, y) ∈ ps := by
  unfold flipP
  rw [List.mem_map]
  constructor
  · rintro ⟨⟨a, b⟩, hp, e⟩
    cases e; exact hp
  · intro h; exact ⟨_, h, rfl⟩
theorem flip_in (hps : ∀ p ∈ ps, p.1 ∈ ns ∧ p.2 ∈ ns) : ∀ p ∈ flipP ps, p.1 ∈ ns ∧ p.2 ∈ ns := by
  rintro ⟨a, b⟩ hp
  have := hps _ (mem_flip.mp hp)
  exact ⟨this.2, this.1⟩
/-- is there a walk of t steps from x on? -/
noncomputable def Bw (ns : List Int) (ps : List (Int × Int)) (t : Nat) (x : Int) : Bool := Lb ns (flipP ps) t x
theorem Bw_succ {t : Nat} {x : Int} : Bw ns ps (t + 1) x = true ↔ ∃ y ∈ succs ps x, Bw ns ps t y = true := by
  unfold Bw
  rw [Lb_succ]
  constructor
  · rintro ⟨u, hp, h⟩; exact ⟨u, mem_succs.mpr (mem_flip.mp hp), h⟩
  · rintro ⟨u, hp, h⟩; exact ⟨u, mem_flip.mpr (mem_succs.mp hp), h⟩
theorem Bw_anti (hps : ∀ p ∈ ps, p.1 ∈ ns ∧ p.2 ∈ ns) {t : Nat} {x : Int} (h : Bw ns ps (t + 1) x = true) : Bw ns ps t x = true := Lb_anti (flip_in hps) h
theorem Bw_zero {x : Int} : Bw ns ps 0 x = true ↔ x ∈ ns := by simp [Bw, Lb]
theorem Bw_ns (hps : ∀ p ∈ ps, p.1 ∈ ns ∧ p.2 ∈ ns) {t : Nat} {x : Int} (h : Bw ns ps t x = true) : x ∈ ns := Lb_ns (flip_in hps) h
theorem countP_lt {p q : Int → Bool} {l : List Int} (h : ∀ x, q x = true → p x = true) {x : Int} (hx : x ∈ l) (h1 : p x = true) (h2 : q x = false) : l.countP q < l.countP p := by
  induction l with
  | nil => cases hx
  | cons a r ih =>
    have hle : r.countP q ≤ r.countP p := List.countP_mono_left fun x _ hq => h x hq
    rw [List.countP_cons, List.countP_cons]
    rcases List.mem_cons.mp hx with e | hx
    · subst e
      rw [h1, h2]; simp; omega
    · have := ih hx
      cases e1 : q a
      · simp; omega
      · rw [h a e1]; simp; omega
theorem Bw_stab (hps : ∀ p ∈ ps, p.1 ∈ ns ∧ p.2 ∈ ns) (t : Nat) : (∀ x, Bw ns ps t x = true → Bw ns ps (t + 1) x = true) ∨ ns.countP (Bw ns ps t) + t ≤ ns.length := by
  induction t with
  | zero => right; exact List.countP_le_length
  | succ t ih =>
    rcases ih with h | h
    · left
      intro x hx
      obtain ⟨y, hy, h1⟩ := Bw_succ.mp hx
      exact Bw_succ.mpr ⟨y, hy, h y h1⟩
    · by_cases hs : ∀ x, Bw ns ps t x = true → Bw ns ps (t + 1) x = true
      · left
        intro x hx
        obtain ⟨y, hy, h1⟩ := Bw_succ.mp hx
        exact Bw_succ.mpr ⟨y, hy, hs y h1⟩
      · right
        obtain ⟨x, hx⟩ := Classical.not_forall.mp hs
        obtain ⟨h1, h2⟩ := Classical.not_imp.mp hx
        have := countP_lt (l := ns) (p := Bw ns ps t) (q := Bw ns ps (t + 1)) (fun x h => Bw_anti hps h) (Bw_ns hps h1) h1 (by simpa using h2)
        omega
theorem Bw_next (hps : ∀ p ∈ ps, p.1 ∈ ns ∧ p.2 ∈ ns) {x : Int} (h : Bw ns ps (ns.length + 1) x = true) : ∃ y ∈ succs ps x, Bw ns ps (ns.length + 1) y = true := by
  rcases Bw_stab hps (ns.length + 1) with h' | h'
  · exact Bw_succ.mp (h' x h)
  · omega
theorem go_mono {sc : Int → List Int} {n m : Nat} {c : Option Int} {stk : List (Int × List Int)} {seen : List Int} {r : Sum (List Int) (List Int)} (h : go sc n c stk seen = some r) : go sc (n + m) c stk seen = some r := by
  induction n generalizing c stk seen with
  | zero => simp [go] at h
  | succ n ih =>
    rw [show n + 1 + m = (n + m) + 1 by omega]
    cases c with
    | some x =>
      rw [go] at h ⊢
      by_cases h1 : x ∈ seen
      · rw [if_pos h1] at h ⊢
        by_cases h2 : x ∈ stk.map (·.1)
        · rw [if_pos h2] at h ⊢; exact h
        · rw [if_neg h2] at h ⊢; exact ih h
      · rw [if_neg h1] at h ⊢; exact ih h
    | none =>
      match stk with
      | [] => rw [go] at h ⊢; exact h
      | (x, []) :: rest => rw [go] at h ⊢; exact ih h
      | (x, y :: ys) :: rest => rw [go] at h ⊢; exact ih h
/-- the machine goes from one state to another -/
noncomputable def Goes (sc : Int → List Int) (c : Option Int) (stk : List (Int × List Int)) (seen : List Int) (c' : Option Int) (stk' : List (Int × List Int)) (seen' : List Int) : Prop :=
  ∃ k, ∀ n, go sc (n + k) c stk seen = go sc n c' stk' seen'
theorem Goes.trans {sc : Int → List Int} {c c' c'' : Option Int} {s s' s'' : List (Int × List Int)} {e e' e'' : List Int} (h : Goes sc c s e c' s' e') (k : Goes sc c' s' e' c'' s'' e'') : Goes sc c s e c'' s'' e'' := by
  obtain ⟨a, ha⟩ := h
  obtain ⟨b, hb⟩ := k
  exact ⟨b + a, fun n => by rw [show n + (b + a) = (n + b) + a by omega, ha, hb]⟩
theorem Goes.refl {sc : Int → List Int} {c : Option Int} {s : List (Int × List Int)} {e : List Int} : Goes sc c s e c s e := ⟨0, fun _ => rfl⟩
theorem Goes.ends {sc : Int → List Int} {c c' : Option Int} {s s' : List (Int × List Int)} {e e' : List Int} {r : Sum (List Int) (List Int)} (h : Goes sc c s e c' s' e') (k : ∃ n, go sc n c' s' e' = some r) : ∃ n, go sc n c s e = some r := by
  obtain ⟨a, ha⟩ := h
  obtain ⟨n, hn⟩ := k
  exact ⟨n + a, by rw [ha, hn]⟩
variable (hps : ∀ p ∈ ps, p.1 ∈ ns ∧ p.2 ∈ ns)
include hps
/-- a dead node is visited and left -/
theorem go_dead (t : Nat) : ∀ (x : Int) (stk : List (Int × List Int)) (seen : List Int), x ∈ ns → Bw ns ps t x = false → (∀ z ∈ stk.map (·.1), Bw ns ps t z = true) →
    ∃ seen', Goes (succs ps) (some x) stk seen none stk seen' ∧ (∀ z ∈ seen, z ∈ seen') ∧ (∀ z ∈ seen', z ∈ seen ∨ Bw ns ps t z = false) := by
  induction t with
  | zero =>
    intro x stk seen hx hb
    rw [Bw_zero.mpr hx] at hb; cases hb
  | succ t ih =>
    intro x stk seen hx hb hstk
    by_cases hB : Bw ns ps t x = true
    · by_cases hs : x ∈ seen
      · have hxs : x ∉ stk.map (·.1) := fun hm => by rw [hstk x hm] at hb; cases hb
        exact ⟨seen, ⟨1, fun n => by rw [go, if_pos hs, if_neg hxs]⟩, fun _ h => h, fun _ h => .inl h⟩
      · have hkids : ∀ (ys : List Int) (seen : List Int), (∀ y ∈ ys, y ∈ succs ps x) → ∃ seen', Goes (succs ps) none ((x, ys) :: stk) seen none ((x, []) :: stk) seen' ∧ (∀ z ∈ seen, z ∈ seen') ∧ (∀ z ∈ seen', z ∈ seen ∨ Bw ns ps t z = false) := by
          intro ys
          induction ys with
          | nil => exact fun seen _ => ⟨seen, Goes.refl, fun _ h => h, fun _ h => .inl h⟩
          | cons y r ihr =>
            intro seen hys
            have hyb : Bw ns ps t y = false := by
              cases e : Bw ns ps t y with
              | false => rfl
              | true => rw [Bw_succ.mpr ⟨y, hys y (.head _), e⟩] at hb; cases hb
            have hyn : y ∈ ns := (hps _ (mem_succs.mp (hys y (.head _)))).2
            obtain ⟨s1, g1, a1, b1⟩ := ih y ((x, r) :: stk) seen hyn hyb (fun z hz => by
              rcases List.mem_cons.mp hz with e | hz
              · rw [e]; exact hB
              · exact Bw_anti hps (hstk z hz))
            obtain ⟨s2, g2, a2, b2⟩ := ihr s1 fun y hy => hys y (.tail _ hy)
            refine ⟨s2, Goes.trans ⟨1, fun n => by rw [go]⟩ (g1.trans g2), fun z hz => a2 z (a1 z hz), fun z hz => ?_⟩
            rcases b2 z hz with h | h
            · exact b1 z h
            · exact .inr h
        obtain ⟨s1, g1, a1, b1⟩ := hkids (succs ps x) (x :: seen) fun _ h => h
        refine ⟨s1, Goes.trans ⟨1, fun n => by rw [go, if_neg hs]⟩ (g1.trans ⟨1, fun n => by rw [go]⟩), fun z hz => a1 z (.tail _ hz), fun z hz => ?_⟩
        rcases b1 z hz with h | h
        · rcases List.mem_cons.mp h with e | h
          · rw [e]; exact .inr hb
          · exact .inl h
        · right
          cases e : Bw ns ps (t + 1) z with
          | false => rfl
          | true => rw [Bw_anti hps e] at h; cases h
    · obtain ⟨s1, g1, a1, b1⟩ := ih x stk seen hx (by simpa using hB) fun z hz => Bw_anti hps (hstk z hz)
      refine ⟨s1, g1, a1, fun z hz => ?_⟩
      rcases b1 z hz with h | h
      · exact .inl h
      · right
        cases e : Bw ns ps (t + 1) z with
        | false => rfl
        | true => rw [Bw_anti hps e] at h; cases h
/-- from an alive node on: the ring -/
theorem go_ring (alive : Int) (hal : ∀ x ∈ ns, liveIn alive x = Bw ns ps (ns.length + 1) x) (n : Nat) : ∀ (way ahead : List Int) (x : Int) (stk : List (Int × List Int)) (seen r : List Int), ringLoop alive ps n way ahead = some r → ns.length < n + way.length →
    (((x, ahead) :: stk).map (·.1)).reverse = way → (∀ y ∈ ahead, y ∈ succs ps x) → (∃ y ∈ ahead, Bw ns ps (ns.length + 1) y = true) → way.Nodup → (∀ z ∈ way, Bw ns ps (ns.length + 1) z = true ∧ z ∈ seen) → (∀ z ∈ seen, z ∈ way ∨ Bw ns ps (ns.length + 1) z = false) →
    ∃ k, go (succs ps) k none ((x, ahead) :: stk) seen = some (.inl r) := by
  induction n with
  | zero =>
    intro way ahead x stk seen r h hn hw hsub hex hnd hway hseen
    have := nodup_len hnd fun z hz => Bw_ns hps (hway z hz).1
    omega
  | succ n ih =>
    intro way ahead x stk seen r h hn hw hsub hex hnd hway hseen
    induction ahead generalizing seen with
    | nil => obtain ⟨y, hy, _⟩ := hex; cases hy
    | cons y ys ihys =>
      have hyn : y ∈ ns := (hps _ (mem_succs.mp (hsub y (.head _)))).2
      have hw' : (((x, ys) :: stk).map (·.1)).reverse = way := hw
      have hmw : ∀ z, z ∈ ((x, ys) :: stk).map (·.1) ↔ z ∈ way := fun z => by rw [← hw', List.mem_reverse]
      refine Goes.ends (c' := some y) (s' := (x, ys) :: stk) (e' := seen) ⟨1, fun n => by rw [go]⟩ ?_
      rw [ringLoop, List.filter_cons, hal y hyn] at h
      by_cases hB : Bw ns ps (ns.length + 1) y = true
      · rw [if_pos hB] at h
        dsimp only at h
        by_cases hs : y ∈ seen
        · have hyw : y ∈ way := by
            rcases hseen y hs with h1 | h1
            · exact h1
            · rw [hB] at h1; cases h1
          have hany : way.any (· == y) = true := List.any_eq_true.mpr ⟨y, hyw, by simp⟩
          rw [if_pos hany] at h
          cases h
          refine ⟨1, ?_⟩
          rw [go, if_pos hs, if_pos ((hmw y).mpr hyw), hw']
        · have hyw : y ∉ way := fun hm => hs (hway y hm).2
          have hany : ¬ way.any (· == y) = true := fun e => by
            obtain ⟨z, hz, e⟩ := List.any_eq_true.mp e
            rw [beq_iff_eq] at e
            exact hyw (e ▸ hz)
          rw [if_neg hany] at h
          refine Goes.ends (c' := none) (s' := (y, succs ps y) :: (x, ys) :: stk) (e' := y :: seen) ⟨1, fun n => by rw [go, if_neg hs]⟩ ?_
          refine ih (way ++ [y]) (succs ps y) y ((x, ys) :: stk) (y :: seen) r h (by rw [List.length_append]; simp; omega) (by rw [← hw']; simp) (fun _ h => h) (Bw_next hps hB) ?_ ?_ ?_
          · rw [List.nodup_append]
            refine ⟨hnd, by simp, fun a ha b hb e => ?_⟩
            have : b = y := by simpa using hb
            subst this; exact hyw (e ▸ ha)
          · intro z hz
            rcases List.mem_append.mp hz with hz | hz
            · exact ⟨(hway z hz).1, .tail _ (hway z hz).2⟩
            · rw [List.mem_singleton.mp hz]; exact ⟨hB, .head _⟩
          · intro z hz
            rcases List.mem_cons.mp hz with e | hz
            · left; rw [e]; simp
            · rcases hseen z hz with h1 | h1
              · left; exact List.mem_append_left _ h1
              · exact .inr h1
      · rw [if_neg hB] at h
        obtain ⟨s1, g1, a1, b1⟩ := go_dead hps (ns.length + 1) y ((x, ys) :: stk) seen hyn (by simpa using hB) (fun z hz => (hway z ((hmw z).mp hz)).1)
        refine g1.ends (ihys s1 (by rw [ringLoop]; exact h) hw' (fun y hy => hsub y (.tail _ hy)) ?_ (fun z hz => ⟨(hway z hz).1, a1 z (hway z hz).2⟩) fun z hz => ?_)
        · obtain ⟨z, hz, hz2⟩ := hex
          rcases List.mem_cons.mp hz with e | hz
          · subst e; exact absurd hz2 hB
          · exact ⟨z, hz, hz2⟩
        · rcases b1 z hz with h1 | h1
          · exact hseen z h1
          · exact .inr h1
theorem findL_mono {sc : Int → List Int} {n m : Nat} {l seen : List Int} {r : Option (List Int)} (h : findL sc n l seen = some r) : findL sc (n + m) l seen = some r := by
  induction l generalizing seen with
  | nil => rw [findL] at h ⊢; exact h
  | cons x l ih =>
    rw [findL] at h ⊢
    by_cases hx : x ∈ seen
    · rw [if_pos hx] at h ⊢; exact ih h
    · rw [if_neg hx] at h ⊢
      cases e : go sc n (some x) [] seen with
      | none => rw [e] at h; cases h
      | some v =>
        rw [e] at h
        rw [go_mono e]
        cases v with
        | inl c => exact h
        | inr s => exact ih h
theorem findL_ring (alive : Int) (hal : ∀ x ∈ ns, liveIn alive x = Bw ns ps (ns.length + 1) x) : ∀ (l seen : List Int), (∀ x ∈ l, x ∈ ns) → (∀ z ∈ seen, Bw ns ps (ns.length + 1) z = false) → ∃ n, findL (succs ps) n l seen = some (ringLoop alive ps (ns.length + 1) [] l) := by
  intro l
  induction l with
  | nil => exact fun seen _ _ => ⟨0, rfl⟩
  | cons x l ih =>
    intro seen hl hseen
    have hxn := hl x (.head _)
    by_cases hB : Bw ns ps (ns.length + 1) x = true
    · have hs : x ∉ seen := fun hm => by rw [hseen x hm] at hB; cases hB
      have hr : ringLoop alive ps (ns.length + 1) [] (x :: l) = ringLoop alive ps ns.length [x] (succs ps x) := by
        rw [ringLoop, List.filter_cons, hal x hxn, if_pos hB]; rfl
      cases hr2 : ringLoop alive ps ns.length [x] (succs ps x) with
      | none =>
        exfalso
        have key : ∀ (n : Nat) (way ahead : List Int), (∀ y ∈ ahead, y ∈ ns) → (∃ y ∈ ahead, Bw ns ps (ns.length + 1) y = true) → ringLoop alive ps n way ahead ≠ none := by
          intro n
          induction n with
          | zero => intro way ahead _ _ e; rw [ringLoop] at e; cases e
          | succ n ihn =>
            intro way ahead ha ⟨y, hy, hy2⟩ e
            rw [ringLoop] at e
            have hm : y ∈ ahead.filter (liveIn alive) := List.mem_filter.mpr ⟨hy, by rw [hal y (ha y hy)]; exact hy2⟩
            cases hf : ahead.filter (liveIn alive) with
            | nil => rw [hf] at hm; cases hm
            | cons c r =>
              have hc : c ∈ ahead.filter (liveIn alive) := by rw [hf]; exact .head _
              obtain ⟨hc1, hc2⟩ := List.mem_filter.mp hc
              rw [hf] at e
              dsimp only at e
              split at e
              · cases e
              · rw [hal c (ha c hc1)] at hc2
                exact ihn _ _ (fun z hz => (hps _ (mem_succs.mp hz)).2) (Bw_next hps hc2) e
        exact key _ _ _ (fun z hz => (hps _ (mem_succs.mp hz)).2) (Bw_next hps hB) hr2
      | some r =>
        obtain ⟨k, hk⟩ := go_ring hps alive hal ns.length [x] (succs ps x) x [] (x :: seen) r hr2 (by simp) rfl (fun _ h => h) (Bw_next hps hB) (by simp) (fun z hz => by
          rw [List.mem_singleton.mp hz]; exact ⟨hB, .head _⟩) (fun z hz => by
          rcases List.mem_cons.mp hz with e | hz
          · left; rw [e]; simp
          · exact .inr (hseen z hz))
        refine ⟨k + 1, ?_⟩
        rw [hr, hr2, findL, if_neg hs, go, if_neg hs, hk]
    · have hr : ringLoop alive ps (ns.length + 1) [] (x :: l) = ringLoop alive ps (ns.length + 1) [] l := by
        rw [ringLoop, List.filter_cons, hal x hxn, if_neg hB, ringLoop]
      rw [hr]
      by_cases hs : x ∈ seen
      · obtain ⟨n, hn⟩ := ih seen (fun y hy => hl y (.tail _ hy)) hseen
        exact ⟨n, by rw [findL, if_pos hs, hn]⟩
      · obtain ⟨s1, ⟨k, hk⟩, a1, b1⟩ := go_dead hps (ns.length + 1) x [] seen hxn (by simpa using hB) (fun z hz => nomatch hz)
        obtain ⟨n, hn⟩ := ih s1 (fun y hy => hl y (.tail _ hy)) fun z hz => (b1 z hz).elim (hseen z) id
        have hg : go (succs ps) (1 + k) (some x) [] seen = some (.inr s1) := by rw [hk, go]
        refine ⟨n + (1 + k), ?_⟩
        rw [findL, if_neg hs, show n + (1 + k) = (1 + k) + n by omega, go_mono hg]
        show findL (succs ps) (1 + k + n) l s1 = _
        rw [show 1 + k + n = n + (1 + k) by omega]
        exact findL_mono hps hn
theorem find_ring (h6 : ∀ x ∈ ns, In6 x) : ∃ n, findL (succs ps) n ns [] = some (ringOf ns ps) := by
  refine findL_ring hps _ (fun x hx => ?_) ns [] (fun _ h => h) (fun _ h => nomatch h)
  exact live_mask h6 (fun p hp => ⟨h6 _ (flip_in hps p hp).1, h6 _ (flip_in hps p hp).2⟩) _ x (h6 x hx)
end
theorem ringLoop_out (alive : Int) (ps : List (Int × Int)) (n : Nat) : ∀ (way ahead r : List Int), ringLoop alive ps n way ahead = some r → (0 < n ∨ way ≠ []) → r ≠ [] ∧ r.length ≤ way.length + n + 1 := by
  induction n with
  | zero =>
    intro way ahead r h hw
    rw [ringLoop] at h; cases h
    rcases hw with hw | hw
    · omega
    · exact ⟨hw, by omega⟩
  | succ n ih =>
    intro way ahead r h _
    rw [ringLoop] at h
    split at h
    · cases h
    · rename_i c _ _
      split at h
      · cases h
        refine ⟨by simp, ?_⟩
        rw [List.length_append, List.length_drop, List.length_singleton]; omega
      · have := ih _ _ _ h (.inr (by simp))
        rw [List.length_append, List.length_singleton] at this
        exact ⟨this.1, by omega⟩
theorem ringOf_out {ns : List Int} {ps : List (Int × Int)} {r : List Int} (h : ringOf ns ps = some r) : r ≠ [] ∧ r.length ≤ ns.length + 2 := by
  have := ringLoop_out _ _ _ _ _ _ h (.inl (Nat.succ_pos _))
  exact ⟨this.1, by have := this.2; simp at this; omega⟩

noncomputable def StIn (p : Int × Int) : Prop := -1 ≤ p.1 ∧ p.1 < 6 ∧ 0 ≤ p.2 ∧ p.2 < 6
noncomputable def psOf (st : List (Int × Int)) : List (Int × Int) := st.filter fun p => decide (0 ≤ p.1)
theorem psOf_snoc (st : List (Int × Int)) (p : Int × Int) : psOf (st ++ [p]) = psOf st ++ if 0 ≤ p.1 then [p] else [] := by
  unfold psOf
  rw [List.filter_append]
  congr 1
  by_cases h : 0 ≤ p.1 <;> simp [h]
theorem np0_snoc (ps : List (Int × Int)) (p : Int × Int) (y : Int) : np0 (ps ++ [p]) y = np0 ps y + if y = p.2 then 1 else 0 := by
  unfold np0
  rw [List.countP_append, List.countP_singleton]
  by_cases h : p.2 = y
  · subst h; simp
  · have h1 : (p.2 == y) = false := by simpa using h
    have h2 : ¬ y = p.2 := fun e => h e.symm
    simp [h1, h2]
theorem succs_snoc (ps : List (Int × Int)) (p : Int × Int) (z : Int) : succs (ps ++ [p]) z = succs ps z ++ if z = p.1 then [p.2] else [] := by
  unfold succs
  rw [List.filter_append, List.map_append]
  congr 1
  by_cases h : p.1 = z
  · subst h; simp
  · have h1 : (p.1 == z) = false := by simpa using h
    have h2 : ¬ z = p.1 := fun e => h e.symm
    simp [h1, h2]
theorem any_mem {l : List Int} {x : Int} : l.any (· == x) = decide (x ∈ l) := by
  rw [Bool.eq_iff_iff, List.any_eq_true, decide_eq_true_eq]
  constructor
  · rintro ⟨y, hy, e⟩; rw [beq_iff_eq] at e; exact e ▸ hy
  · intro h; exact ⟨x, h, by simp⟩
theorem add1_pos {l : List Int} {x : Int} (h : 0 ≤ x) : add1 l x = if x ∈ l then l else l ++ [x] := by
  unfold add1
  rw [any_mem]
  by_cases hm : x ∈ l <;> simp [h, hm]
theorem add1_neg {l : List Int} {x : Int} (h : ¬ 0 ≤ x) : add1 l x = l := by
  unfold add1
  rw [if_neg fun q => h q.1]
theorem mem_add1 {l : List Int} {x z : Int} : z ∈ add1 l x ↔ z ∈ l ∨ (0 ≤ x ∧ z = x) := by
  by_cases h : 0 ≤ x
  · rw [add1_pos h]
    split
    · rename_i hm
      exact ⟨.inl, fun q => q.elim id fun e => e.2 ▸ hm⟩
    · simp [h]
  · rw [add1_neg h]; simp [h]
theorem add1_nodup {l : List Int} {x : Int} (h : l.Nodup) : (add1 l x).Nodup := by
  by_cases h0 : 0 ≤ x
  · rw [add1_pos h0]
    split
    · exact h
    · rename_i hm
      rw [List.nodup_append]
      refine ⟨h, by simp, fun a ha b hb e => ?_⟩
      have : b = x := by simpa using hb
      subst this; exact hm (e ▸ ha)
  · rw [add1_neg h0]; exact h
/-- what is told of the nodes named -/
theorem named_facts (st : List (Int × Int)) (h : ∀ p ∈ st, StIn p) : (namedOf st).Nodup ∧ (∀ x ∈ namedOf st, In6 x) ∧ (∀ p ∈ psOf st, p.1 ∈ namedOf st ∧ p.2 ∈ namedOf st) := by
  have key : ∀ (n : Nat) (st : List (Int × Int)), st.length = n → (∀ p ∈ st, StIn p) → (namedOf st).Nodup ∧ (∀ x ∈ namedOf st, In6 x) ∧ (∀ p ∈ psOf st, p.1 ∈ namedOf st ∧ p.2 ∈ namedOf st) := by
    intro n
    induction n with
    | zero =>
      intro st hl h
      have : st = [] := List.length_eq_zero_iff.mp hl
      subst this
      exact ⟨.nil, (fun x hx => nomatch hx), fun x hx => nomatch hx⟩
    | succ n ih =>
      intro st hl h
      have hne : st ≠ [] := by intro e; rw [e] at hl; simp at hl
      obtain ⟨r, p, rfl⟩ : ∃ r p, st = r ++ [p] := ⟨st.dropLast, st.getLast hne, (List.dropLast_concat_getLast hne).symm⟩
      obtain ⟨h1, h2, h3⟩ := ih r (by simpa using hl) fun q hq => h q (List.mem_append_left _ hq)
      obtain ⟨a, b, c, d⟩ := h p (by simp)
      rw [namedOf_snoc]
      refine ⟨add1_nodup (add1_nodup h1), fun x hx => ?_, fun q hq => ?_⟩
      · rcases mem_add1.mp hx with hx | ⟨h0, e0⟩
        · rcases mem_add1.mp hx with hx | ⟨h0, e0⟩
          · exact h2 x hx
          · rw [e0]; exact ⟨c, d⟩
        · rw [e0]; exact ⟨h0, b⟩
      · rw [psOf_snoc] at hq
        rcases List.mem_append.mp hq with hq | hq
        · obtain ⟨e1, e2⟩ := h3 q hq
          exact ⟨mem_add1.mpr (.inl (mem_add1.mpr (.inl e1))), mem_add1.mpr (.inl (mem_add1.mpr (.inl e2)))⟩
        · by_cases h0 : 0 ≤ p.1
          · rw [if_pos h0] at hq
            rw [List.mem_singleton.mp hq]
            exact ⟨mem_add1.mpr (.inr ⟨h0, rfl⟩), mem_add1.mpr (.inl (mem_add1.mpr (.inr ⟨c, rfl⟩)))⟩
          · rw [if_neg h0] at hq; cases hq
  exact key _ st rfl h
theorem psOf_len (st : List (Int × Int)) : (psOf st).length ≤ st.length := List.length_filter_le _ _
theorem succs_len (ps : List (Int × Int)) (z : Int) : (succs ps z).length ≤ ps.length := by
  unfold succs
  rw [List.length_map]; exact List.length_filter_le _ _
theorem none_named {ns : List Int} {ps : List (Int × Int)} (h : ∀ p ∈ ps, p.1 ∈ ns ∧ p.2 ∈ ns) {z : Int} (hz : z ∉ ns) : np0 ps z = 0 ∧ succs ps z = [] := by
  constructor
  · unfold np0
    rw [Int.natCast_eq_zero, List.countP_eq_zero]
    intro p hp e
    rw [beq_iff_eq] at e
    exact hz (e ▸ (h p hp).2)
  · cases e : succs ps z with
    | nil => rfl
    | cons y r =>
      have : y ∈ succs ps z := by rw [e]; exact .head _
      exact absurd (h _ (mem_succs.mp this)).1 hz
theorem stepOf_in (x : Int) : StIn (stepOf x) := by
  have m6 : ∀ y : Int, 0 ≤ Int.fmod y 6 ∧ Int.fmod y 6 < 6 := fun y => ⟨Int.fmod_nonneg_of_pos _ (by decide), Int.fmod_lt_of_pos _ (by decide)⟩
  unfold stepOf
  split
  · exact ⟨by have := (m6 (Int.fdiv (Int.fdiv x 6) 4)).1; show -1 ≤ Int.fmod _ 6; omega, (m6 _).2, (m6 _).1, (m6 _).2⟩
  · split
    · rename_i h
      have h1 : 0 ≤ Int.fmod (Int.fdiv (Int.fdiv x 6) 4) (Int.fmod x 6) := Int.fmod_nonneg_of_pos _ h
      have h2 : Int.fmod (Int.fdiv (Int.fdiv x 6) 4) (Int.fmod x 6) < Int.fmod x 6 := Int.fmod_lt_of_pos _ h
      have h3 := m6 x
      exact ⟨by show -1 ≤ Int.fmod _ _; omega, by show Int.fmod _ _ < 6; omega, h3.1, h3.2⟩
    · exact ⟨Int.le_refl _, by show (-1 : Int) < 6; decide, (m6 _).1, (m6 _).2⟩
theorem stepsOf_in (ns : List Int) : ∀ p ∈ stepsOf ns, StIn p := by
  intro p hp
  obtain ⟨x, _, rfl⟩ := List.mem_map.mp hp
  exact stepOf_in x
theorem stepsOf_len (ns : List Int) : (stepsOf ns).length ≤ 12 := by
  unfold stepsOf
  rw [List.length_map, List.length_append, List.length_take]
  simp; omega
/-- a sorter that was told steps -/
structure Told (S : SS) (sa : Addr) (st : List (Int × Int)) : Prop where
  sa : S.sa = sa
  rd : S.rd = none
  po : S.po = 0
  fi : S.fi = 0
  keys : S.rows.map (·.1) = namedOf st
  np : S.np = np0 (psOf st)
  sc : S.sc = succs (psOf st)
theorem Told.snoc {S S' : SS} {sa : Addr} {st : List (Int × Int)} {x y : Int} (h : Told S sa st) (hy : 0 ≤ y) (k : Added S S' y (if 0 ≤ x then [x] else []) (if 0 ≤ x then [x] else []).length (if 0 ≤ x then [x] else []).length) : Told S' sa (st ++ [(x, y)]) := by
  obtain ⟨⟨s1, s2, s3, s4, s5, s6⟩, hk, hn, hc⟩ := k
  refine ⟨s1.trans h.sa, s4.trans h.rd, s5.trans h.po, s6.trans h.fi, ?_, ?_, ?_⟩
  · rw [hk, h.keys, namedOf_snoc, List.take_length]
    dsimp only
    by_cases h0 : 0 ≤ x
    · rw [if_pos h0, add1_pos h0, add1_pos hy]; rfl
    · rw [if_neg h0, add1_neg h0, add1_pos hy]; rfl
  · rw [hn, h.np, psOf_snoc]
    funext z
    by_cases h0 : 0 ≤ x
    · rw [if_pos h0, if_pos h0, np0_snoc]; rfl
    · rw [if_neg h0, if_neg h0, List.append_nil]; simp
  · rw [hc, h.sc, psOf_snoc]
    funext z
    by_cases h0 : 0 ≤ x
    · rw [if_pos h0, if_pos h0, succs_snoc, List.take_length]
      dsimp only
      by_cases e : x = z
      · subst e; simp
      · have e1 : (x == z) = false := by simpa using e
        have e2 : ¬ z = x := fun q => e q.symm
        simp [List.count_cons, e1, e2]
    · rw [if_neg h0, if_neg h0, List.append_nil]; simp

theorem regD5 : True := by
  k_with_none
  w_top off
  (k_with "m sub" => (first | ((repeat' (first | exact sub_nil | with_reducible refine sub_cons ?_ ?_ | with_reducible refine sub_app ?_ ?_)) <;> (first | k_mem | (intro p hp; k_mem))) | (intro p hp; simp only [List.cons_append, List.nil_append, List.append_assoc, List.mem_cons, List.mem_append, List.not_mem_nil, or_false, false_or, List.append_nil] at hp ⊢; grind)))
  (k_with "exec For" => (with_unfolding_all refine wpAny_For ?_ (by intro _; rfl)))
  (k_with "m call" => (refine wpAny_call ?_; (first | (k_dflt k_enter) | fail "no entry")))
  (k_with "compareOp In int ref" => (refine in_list_ints (isList_of (by k_asm) (by k_mem)) (by assumption) ?_))
  (k_with "compareOp NotIn int ref" => (refine notin_list_ints (isList_of (by k_asm) (by k_mem)) (by assumption) ?_))
  (k_with "compareOp Is int int" => (refine is_int (by assumption) (by assumption) (by assumption) ?_))
  (k_with "exec For Name Name cons nil" => (with_unfolding_all refine wpAny_For ?_ (by intro _; rfl)))
  (k_with "exec For Name Name" => (with_unfolding_all refine wpAny_For ?_ (by intro _; rfl)))
  (k_with "exec For Name List cons nil" => (with_unfolding_all refine wpAny_For ?_ (by intro _; rfl)))
  (k_with "exec For Name List" => (with_unfolding_all refine wpAny_For ?_ (by intro _; rfl)))
  (k_with "exec For Name Call cons nil" => (with_unfolding_all refine wpAny_For ?_ (by intro _; rfl)))
  (k_with "exec For Name Call" => (with_unfolding_all refine wpAny_For ?_ (by intro _; rfl)))
  (k_with "exec For Name BinOp cons nil" => (with_unfolding_all refine wpAny_For ?_ (by intro _; rfl)))
  (k_with "exec For Name BinOp" => (with_unfolding_all refine wpAny_For ?_ (by intro _; rfl)))
  (k_with "exec For Name Tuple cons nil" => (with_unfolding_all refine wpAny_For ?_ (by intro _; rfl)))
  (k_with "exec For Name Tuple" => (with_unfolding_all refine wpAny_For ?_ (by intro _; rfl)))
  (k_with "exec For Name Attribute cons nil" => (with_unfolding_all refine wpAny_For ?_ (by intro _; rfl)))
  (k_with "exec For Name Attribute" => (with_unfolding_all refine wpAny_For ?_ (by intro _; rfl)))
  (k_with "exec For Tuple Name cons nil" => (with_unfolding_all refine wpAny_For ?_ (by intro _; rfl)))
  (k_with "exec For Tuple Name" => (with_unfolding_all refine wpAny_For ?_ (by intro _; rfl)))
  (k_with "exec For Tuple List cons nil" => (with_unfolding_all refine wpAny_For ?_ (by intro _; rfl)))
  (k_with "exec For Tuple List" => (with_unfolding_all refine wpAny_For ?_ (by intro _; rfl)))
  (k_with "exec For Tuple Call cons nil" => (with_unfolding_all refine wpAny_For ?_ (by intro _; rfl)))
  (k_with "exec For Tuple Call" => (with_unfolding_all refine wpAny_For ?_ (by intro _; rfl)))
  (k_with "exec For Tuple BinOp cons nil" => (with_unfolding_all refine wpAny_For ?_ (by intro _; rfl)))
  (k_with "exec For Tuple BinOp" => (with_unfolding_all refine wpAny_For ?_ (by intro _; rfl)))
  (k_with "exec For Tuple Tuple cons nil" => (with_unfolding_all refine wpAny_For ?_ (by intro _; rfl)))
  (k_with "exec For Tuple Tuple" => (with_unfolding_all refine wpAny_For ?_ (by intro _; rfl)))
  (k_with "exec For Tuple Attribute cons nil" => (with_unfolding_all refine wpAny_For ?_ (by intro _; rfl)))
  (k_with "exec For Tuple Attribute" => (with_unfolding_all refine wpAny_For ?_ (by intro _; rfl)))
  (k_with "call builtin:len" => (k_dflt (refine' len_led ?w0qN ?w0qm ?w0qz ?_; (case w0qN => k_asm); (case w0qm => k_mem); (case w0qz => first | assumption | omega))))
  (k_with "subscriptTail Name Name ref int" => (k_dflt (refine' item_led ?w1qN ?w1qm ?w1qa ?w1qb ?w1qx ?_; (case w1qN => k_asm); (case w1qm => k_mem); (case w1qa => omega); (case w1qb => omega); (case w1qx => assumption))))
  (k_with "eval ListComp" => (k_dflt (refine comp_eval (by with_unfolding_all rfl) rfl (by decide) (by intro _; rfl) ?_)))
  (k_with "exec Assign cons ListComp" => (k_dflt (refine comp_assign (by with_unfolding_all rfl) (by with_unfolding_all rfl) rfl (by decide) (by intro _; rfl) ?_)))
  (k_with "eval Name" => ((with_reducible show wpAny _ _ (eval (Expr.Name _ _) (compEnvC _ _ _ _)) _ _ _); k_dflt (refine' ldC ?w2qN ?w2qm ?w2qn ?w2qv ?_ ?w2qa ?w2qb; (case w2qa => rfl); (case w2qb => rfl); (case w2qN => k_asm); (case w2qm => k_mem); (case w2qn => assumption); (case w2qv => with_unfolding_all rfl))))
  (k_with "call ref" => ((first | (with_reducible show wpAny _ _ (call (Value.ref 183) _) _ _ _) | (with_reducible show wpAny _ _ (call (Value.ref 190) _) _ _ _) | (with_reducible show wpAny _ _ (call (Value.ref 197) _) _ _ _) | (with_reducible show wpAny _ _ (call (Value.ref 204) _) _ _ _) | (with_reducible show wpAny _ _ (call (Value.ref 211) _) _ _ _) | (with_reducible show wpAny _ _ (call (Value.ref 218) _) _ _ _) | (with_reducible show wpAny _ _ (call (Value.ref 223) _) _ _ _) | (with_reducible show wpAny _ _ (call (Value.ref 228) _) _ _ _) | (with_reducible show wpAny _ _ (call (Value.ref 235) _) _ _ _) | (with_reducible show wpAny _ _ (call (Value.ref 80) _) _ _ _) | (with_reducible show wpAny _ _ (call (Value.ref 87) _) _ _ _) | (with_reducible show wpAny _ _ (call (Value.ref 92) _) _ _ _) | (with_reducible show wpAny _ _ (call (Value.ref 99) _) _ _ _) | (with_reducible show wpAny _ _ (call (Value.ref 106) _) _ _ _) | (with_reducible show wpAny _ _ (call (Value.ref 120) _) _ _ _) | (with_reducible show wpAny _ _ (call (Value.ref 127) _) _ _ _)); refine hold ?_))
  (k_with "m use" => ((try unfold held); (rename Call _ _ _ _ _ _ => hC); k_dflt (refine' Call.use hC ?w3qB ?w3qF ?w3qX ?w3qN ?w3qT ?w3qk ?w3qd ?w3qu ?_; (case w3qB => k_asm); (case w3qF => k_asm); (case w3qX => k_asm); (case w3qN => k_asm); (case w3qT => k_asm); (case w3qk => first | exact rfl | assumption); (case w3qd => ktr_room); (case w3qu => ktr_units)); clear hC))
  (k_with "m pure" => ((try unfold held); (rename Call _ _ _ _ _ _ => hC); k_dflt (refine' Call.pure hC ?w4qB ?w4qF ?w4qX ?w4qN ?w4qT ?w4qk ?w4qd ?w4qu ?_; (case w4qB => k_asm); (case w4qF => k_asm); (case w4qX => k_asm); (case w4qN => k_asm); (case w4qT => k_asm); (case w4qk => first | exact rfl | assumption); (case w4qd => ktr_room); (case w4qu => ktr_units)); clear hC))
  (k_with "subscriptTail Name Constant ref int" => (k_dflt (refine' item_led ?w5qN ?w5qm ?w5qa ?w5qb ?w5qx ?_; (case w5qN => k_asm); (case w5qm => k_mem); (case w5qa => omega); (case w5qb => omega); (case w5qx => first | assumption | rfl))))
  (k_with "compareOp Eq ref ref" => refine hold ?_)
  (k_with "pyIter ref" => refine hold ?_)
  (k_with "subscriptTail Name BinOp ref int" => (k_dflt (refine' item_led ?w1qN ?w1qm ?w1qa ?w1qb ?w1qx ?_; (case w1qN => k_asm); (case w1qm => k_mem); (case w1qa => omega); (case w1qb => omega); (case w1qx => assumption))))
  (k_with "compareOp NotEq ref ref" => refine hold ?_)
  (k_with "getMethod ref" => ((with_reducible show wpAny _ _ (getMethod (Value.ref _) (Str.ofString "get") _) _ _ _); k_dflt (refine' kdg_method (knd := PySem.intKind _ _) ?w6qN ?w6qm ?w6qd ?_; (case w6qN => k_asm); (case w6qm => k_mem); (case w6qd => assumption))))
  (k_with "call builtin:dict.get" => (k_dflt (refine' kdg_get1 (knd := PySem.intKind _ _) ?w7qN ?w7qm ?w7qd ?w7ql ?w7qk _ ?w7qx ?_; (case w7qN => k_asm); (case w7qm => k_mem); (case w7qd => assumption); (case w7ql => assumption); (case w7qk => exact intKind_is _ _ _ _); (case w7qx => assumption)); (try dsimp only [Option.getD])))
  (k_with "call builtin:len" => (k_dflt (refine' lenT_led ?w8qN ?w8qm ?w8qz ?_; (case w8qN => k_asm); (case w8qm => k_mem); (case w8qz => first | assumption | omega))))
  (k_with "call type:bool" => (k_dflt (refine' boolL_led ?w9qN ?w9qm ?w9qz ?_; (case w9qN => k_asm); (case w9qm => k_mem); (case w9qz => first | assumption | omega))))
  (k_with "subscriptTail Name Name ref int" => (k_dflt (refine' kda_item (knd := PySem.intKind _ _) ?w10qN ?w10qm ?w10qd (intKind_is _ _ _ _) ?w10qv ?_; (case w10qN => k_asm); (case w10qm => k_mem); (case w10qd => assumption); (case w10qv => assumption))))
  (k_with "subscriptTail Name Name ref int" => (k_dflt (refine' item_led ?w1qN ?w1qm ?w1qa ?w1qb ?w1qx ?_; (case w1qN => k_asm); (case w1qm => k_mem); (case w1qa => omega); (case w1qb => omega); (case w1qx => assumption))))
  (k_with "exec While Constant cons nil" => refine hold ?_)
  (k_with "exec While Constant" => refine hold ?_)
  (k_with "exec While Name cons cons" => refine hold ?_)
  (k_with "exec While Name" => refine hold ?_)
  (k_with "exec While" => refine hold ?_)
  (k_with "call ref nil" => refine hold ?_)
  (k_with "call ref nil nil" => refine hold ?_)
  (k_with "subscriptTail Name UnaryOp ref int" => (k_dflt (refine' last_led ?w11qN ?w11qm ?w11qx ?_; (case w11qN => k_asm); (case w11qm => k_mem); (case w11qx => first | assumption | exact List.getLast?_concat))))
  (k_with "truthy ref" => ((with_reducible show wpAny _ _ (truthy (Value.ref _)) _ _ _); k_dflt (refine' truthyL_led ?w12qN ?w12qm ?w12qz ?_; (case w12qN => k_asm); (case w12qm => k_mem); (case w12qz => first | assumption | omega))))
  (k_with "compareOp In int ref" => (k_dflt (refine' inset_led (knd := PySem.intKind _ _) ?w13qN ?w13qm ?w13qd ?w13qz (intKind_is _ _ _ _) rfl ?_; (case w13qN => k_asm); (case w13qm => k_mem); (case w13qd => assumption); (case w13qz => kse_small)); (try dsimp only)))
  (k_with "compareOp In int ref" => (k_dflt (refine' kda_in (knd := PySem.intKind _ _) ?w14qN ?w14qm ?w14qd ?w14ql (intKind_is _ _ _ _) _ ?w14qv ?_; (case w14qN => k_asm); (case w14qm => k_mem); (case w14qd => assumption); (case w14ql => assumption); (case w14qv => assumption))))
  (k_with "compareOp In int ref" => (k_dflt (refine' inset_b (knd := PySem.intKind _ _) ?w15qN ?w15qm ?w15qd ?w15qz (intKind_is _ _ _ _) rfl _ ?w15qv ?_; (case w15qN => k_asm); (case w15qm => k_mem); (case w15qd => assumption); (case w15qz => kse_small); (case w15qv => assumption))))
  (k_with "callWith ref" => ((with_reducible show wpAny _ _ (callWith _ (Value.ref _) [] (backTo _ (starEach [] _)) []) _ _ _); refine hold ?_))
  trivial
local macro_rules | `(tactic| walk_at "call builtin:iter") => `(tactic| (k_dflt (refine' iter_led ?F ?N ?m ?_; (case F => k_asm); (case N => k_asm); (case m => k_mem)); intro I' h' F' N' l1; (try k_lt l1); (try k_sweep)))
local macro_rules | `(tactic| walk_at "getAttr ref") => `(tactic| ((with_reducible show wpAny _ _ (getAttr (Value.ref _) (Str.ofString "__next__") true) _ _ _); k_dflt (refine' next_led ?F ?N ?m ?_; (case F => k_asm); (case N => k_asm); (case m => k_mem)); intro W' h' tk' F' N' l1; (try k_lt l1); (try k_sweep)))
theorem ints_concat {vs : List Value} {ns : List Int} {x : Int} (h : IntsAre vs (ns ++ [x])) : ∃ ws t, vs = ws ++ [Value.int x t] ∧ IntsAre ws ns := by
  induction ns generalizing vs with
  | nil =>
    cases h with
    | cons _ _ h' => cases h'; exact ⟨[], _, rfl, .nil⟩
  | cons y r ih =>
    cases h with
    | cons _ _ h' =>
      refine hideG fun kG => ?_
      obtain ⟨ws, t, rfl, hw⟩ := ih h'
      refine kG ?_
      clear kG
      exact ⟨_ :: ws, t, rfl, .cons _ _ hw⟩
/-- what the loops of _find_cycle keep -/
noncomputable def FcInv (prog : Program) (w : World) (l : List Env) (frs : List (Addr × Obj)) (ns : List Int) (sc : Int → List Int) (T₀ : List (Addr × Obj)) (na : Addr) (A : FcA) (es : List En) (seen : List Int) (m : Str → Option Value) (T : List (Addr × Obj)) : Prop :=
  m (Str.ofString "n2i") = some (.ref na) ∧ m (Str.ofString "stack") = some (.ref A.ls) ∧ m (Str.ofString "itstack") = some (.ref A.li) ∧ m (Str.ofString "seen") = some (.ref A.sn) ∧ m (Str.ofString "node2stacki") = some (.ref A.dn) ∧
  ∃ T' frs' tag, T = T' ++ frs' ∧ TI.SameUp frs frs' ∧ TI.Frs l frs' ∧ (∀ p ∈ T', p.1 ∉ frs.map (·.1)) ∧ Fc prog w ns sc T₀ T' A es seen tag
noncomputable def resOk (res : Option (List Int)) (T₀ T' : List (Addr × Obj)) (v : Value) : Prop := match res with
  | none => v = .none ∧ T' = T₀
  | some c => ∃ q vs k, v = .ref q ∧ T' = (q, listOf vs.toArray k) :: T₀ ∧ (∀ p ∈ T₀, p.1 < q) ∧ IntsAre vs c
theorem fc_own {prog : Program} {w : World} {ns : List Int} {sc : Int → List Int} {T₀ T own : List (Addr × Obj)} {A : FcA} {es : List En} {seen : List Int} {tag : Addr → Option Ft} (h : Fc prog w ns sc T₀ T A es seen tag) (ho : ∀ p ∈ own, tag p.1 = none) : Fc prog w ns sc (own ++ T₀) (T ++ own) A es seen tag where
  st := let ⟨a, b, c, d⟩ := h.st; ⟨a, b, List.mem_append_left _ c, d⟩
  it := let ⟨a, c⟩ := h.it; ⟨a, List.mem_append_left _ c⟩
  sn := let ⟨a, c, d⟩ := h.sn; ⟨a, List.mem_append_left _ c, d⟩
  dn := let ⟨a, b, c, d⟩ := h.dn; ⟨a, b, List.mem_append_left _ c, d⟩
  dsys := h.dsys
  en := fun e he => let ⟨a, b, c⟩ := h.en e he; ⟨List.mem_append_left _ a, List.mem_append_left _ b, c⟩
  src := fun e he => let ⟨a, b, c, d⟩ := h.src e he; ⟨a, b, List.mem_append_right _ c, d⟩
  nd := h.nd
  sub := h.sub
  snd := h.snd
  sns := h.sns
  tls := h.tls
  tli := h.tli
  tsn := h.tsn
  tdn := h.tdn
  base := fun p hp => (List.mem_append.mp hp).elim (fun q => ⟨List.mem_append_right _ q, ho p q⟩) fun q => ⟨List.mem_append_left _ (h.base p q).1, (h.base p q).2⟩
  dom := fun a ha => let ⟨o, e⟩ := h.dom a ha; ⟨o, List.mem_append_left _ e⟩
theorem fc_unown {prog : Program} {w : World} {ns : List Int} {sc : Int → List Int} {T₀ T own : List (Addr × Obj)} {A : FcA} {seen : List Int} {tag : Addr → Option Ft} {I : Addr} (h : Fc prog w ns sc (own ++ T₀) T A [] seen tag) (hI : tag I = none) (h0 : ∀ p ∈ T₀, p.1 ≠ I) : Fc prog w ns sc T₀ (off I T) A [] seen tag where
  st := let ⟨a, b, c, d⟩ := h.st; ⟨a, b, mem_off.mpr ⟨c, ft_ne h.tls hI (fun q => nomatch q)⟩, d⟩
  it := let ⟨a, c⟩ := h.it; ⟨a, mem_off.mpr ⟨c, ft_ne h.tli hI (fun q => nomatch q)⟩⟩
  sn := let ⟨a, c, d⟩ := h.sn; ⟨a, mem_off.mpr ⟨c, ft_ne h.tsn hI (fun q => nomatch q)⟩, d⟩
  dn := let ⟨a, b, c, d⟩ := h.dn; ⟨a, b, mem_off.mpr ⟨c, ft_ne h.tdn hI (fun q => nomatch q)⟩, d⟩
  dsys := h.dsys
  en := fun e he => nomatch he
  src := fun e he => nomatch he
  nd := h.nd
  sub := h.sub
  snd := h.snd
  sns := h.sns
  tls := h.tls
  tli := h.tli
  tsn := h.tsn
  tdn := h.tdn
  base := fun p hp => ⟨mem_off.mpr ⟨(h.base p (List.mem_append_right _ hp)).1, h0 p hp⟩, (h.base p (List.mem_append_right _ hp)).2⟩
  dom := fun a ha => let ⟨o, e⟩ := h.dom a ha; ⟨o, mem_off.mpr ⟨e, fun q => ha (by rw [show a = I from q]; exact hI)⟩⟩
theorem ret_led2 {h₀ h : Heap} {L D l' D1 : Addr} {oD oL o1 : Obj} {T T₀ frs2 : List (Addr × Obj)} (N : News h₀ L h ((D, oD) :: (l', oL) :: (D1, o1) :: (T ++ frs2))) (hb : ∀ p ∈ T₀, p ∈ T) : News h₀ L h (((D, oD) :: T₀) ++ frs2) := fun p hp => by
  rcases List.mem_cons.mp hp with e | hp
  · rw [e]; exact N _ (.head _)
  · rcases List.mem_append.mp hp with hp | hp
    · exact N p (.tail _ (.tail _ (.tail _ (List.mem_append_left _ (hb p hp)))))
    · exact N p (.tail _ (.tail _ (.tail _ (List.mem_append_right _ hp))))
theorem push_fc {prog : Program} {w : World} {ns : List Int} {sc : Int → List Int} {T₀ T frs2 : List (Addr × Obj)} {A : FcA} {es : List En} {seen : List Int} {tag : Addr → Option Ft} (hF : Fc prog w ns sc T₀ T A es seen tag) {x : Int} {W I slx : Addr} {u t : Tok} {vst : List Value} {k k2 : Nat} {o' od' : Obj} {kvs : List (Int × Value)} {fs : List Addr}
    (hx : x ∉ seen) (hxn : x ∈ ns) (hf : ∀ p ∈ T, p.1 ∉ fs) (hff : fs = frs2.map (·.1)) (hsi : IntsAre vst (es.map (·.x)))
    (l1 : A.sn < I ∧ A.li < I ∧ A.dn < I ∧ A.ls < I ∧ AllLt I (offL [A.sn, A.li, A.dn, A.ls] T ++ frs2)) (l2 : I < W ∧ A.sn < W ∧ A.li < W ∧ A.dn < W ∧ A.ls < W ∧ AllLt W (offL [A.sn, A.li, A.dn, A.ls] T ++ frs2))
    (hs : o'.SetObjOf (intKind prog w) (fun k => decide (k ∈ seen) || decide (k = x)) (if decide (x ∈ seen) = true then seen.length else seen.length + 1))
    (hd : od'.IsDictOf (intKind prog w) (stored kvs x (.int (vst.length : Int) t))) (hk : ∃ vs, kvs = (es.map (·.x)).zip vs ∧ vs.length = es.length ∧ ∀ (i : Nat) (v : Value), vs[i]? = some v → ∃ t, v = .int (i : Int) t)
    (hsl : ∃ vs k, (slx, listOf vs.toArray k) ∈ T₀ ∧ IntsAre vs (sc x)) :
    ∃ e T2 tag', e.x = x ∧ e.pos = 0 ∧ (W, wrapO I) :: (I, iterO slx 0) :: (A.sn, o') :: (A.li, listOf ((es.map fun e => Value.ref e.W) ++ [Value.ref W]).toArray k2) :: (A.dn, od') :: (A.ls, listOf (vst ++ [Value.int x u]).toArray k) :: (offL [A.sn, A.li, A.dn, A.ls] T ++ frs2) = T2 ++ frs2 ∧ (∀ p ∈ T2, p.1 ∉ fs) ∧ Fc prog w ns sc T₀ T2 A (es ++ [e]) (x :: seen) tag' := by
  have lI := lt_of_allLt l1.2.2.2.2
  have lW := lt_of_allLt l2.2.2.2.2.2
  have hcase : ∀ {a : Addr}, A.sn < a ∧ A.li < a ∧ A.dn < a ∧ A.ls < a → (∀ p ∈ offL [A.sn, A.li, A.dn, A.ls] T ++ frs2, p.1 < a) → ∀ p ∈ T, p.1 ≠ a := fun {a} h1 h2 p hp => by
    by_cases hm : p.1 ∈ [A.sn, A.li, A.dn, A.ls]
    · rcases List.mem_cons.mp hm with e | hm
      · rw [e]; exact Nat.ne_of_lt h1.1
      · rcases List.mem_cons.mp hm with e | hm
        · rw [e]; exact Nat.ne_of_lt h1.2.1
        · rcases List.mem_cons.mp hm with e | hm
          · rw [e]; exact Nat.ne_of_lt h1.2.2.1
          · rw [List.mem_singleton.mp hm]; exact Nat.ne_of_lt h1.2.2.2
    · exact Nat.ne_of_lt (h2 p (List.mem_append_left _ (mem_offL.mpr ⟨hp, hm⟩)))
  have fI := hcase ⟨l1.1, l1.2.1, l1.2.2.1, l1.2.2.2.1⟩ lI
  have fW := hcase ⟨l2.2.1, l2.2.2.1, l2.2.2.2.1, l2.2.2.2.2.1⟩ lW
  have hIW : I ≠ W := Nat.ne_of_lt l2.1
  refine hideG fun kG => ?_
  obtain ⟨vs, rfl, hvl, hv⟩ := hk
  obtain ⟨vst0, k0, hst, _⟩ := hF.st
  obtain ⟨kli, hit⟩ := hF.it
  obtain ⟨so, hso, _⟩ := hF.sn
  obtain ⟨od, _, hod, _⟩ := hF.dn
  refine kG ?_
  clear kG
  have hlen : vst.length = es.length := by have := hsi.length; simpa using this
  rw [hlen] at hd
  refine ⟨⟨x, W, I, slx, 0⟩, (W, wrapO I) :: (I, iterO slx 0) :: (A.sn, o') :: (A.li, listOf ((es.map fun e => Value.ref e.W) ++ [Value.ref W]).toArray k2) :: (A.dn, od') :: (A.ls, listOf (vst ++ [Value.int x u]).toArray k) :: offL [A.sn, A.li, A.dn, A.ls] T, _, rfl, rfl, rfl, fun p hp hm => ?_,
    hF.push (u := u) (k' := 0) (o := so) (od := od) (kvs := []) hx hxn fI fW hIW ⟨.tail _ (.tail _ (.tail _ (.tail _ (.tail _ (.head _))))), hsi.append (.cons x u .nil)⟩ (.tail _ (.tail _ (.tail _ (.head _)))) ⟨.tail _ (.tail _ (.head _)), hs⟩ ⟨.tail _ (.tail _ (.tail _ (.tail _ (.head _)))), vs, hd, hvl, hv⟩ (.head _) (.tail _ (.head _)) hsl
      fun p hp a1 a2 a3 a4 => .tail _ (.tail _ (.tail _ (.tail _ (.tail _ (.tail _ (mem_offL.mpr ⟨hp, by simp [a1, a2, a3, a4]⟩)))))) ⟩
  have hI' : I ∉ fs := fun q => by
    rw [hff] at q
    refine hideG fun kG => ?_
    obtain ⟨r, hr, e⟩ := List.mem_map.mp q
    refine kG ?_
    clear kG
    have := lI r (List.mem_append_right _ hr)
    rw [e] at this; exact absurd this (Nat.lt_irrefl _)
  have hW' : W ∉ fs := fun q => by
    rw [hff] at q
    refine hideG fun kG => ?_
    obtain ⟨r, hr, e⟩ := List.mem_map.mp q
    refine kG ?_
    clear kG
    have := lW r (List.mem_append_right _ hr)
    rw [e] at this; exact absurd this (Nat.lt_irrefl _)
  rcases List.mem_cons.mp hp with e | hp
  · rw [e] at hm; exact hW' hm
  · rcases List.mem_cons.mp hp with e | hp
    · rw [e] at hm; exact hI' hm
    · rcases List.mem_cons.mp hp with e | hp
      · rw [e] at hm; exact hf _ hso hm
      · rcases List.mem_cons.mp hp with e | hp
        · rw [e] at hm; exact hf _ hit hm
        · rcases List.mem_cons.mp hp with e | hp
          · rw [e] at hm; exact hf _ hod hm
          · rcases List.mem_cons.mp hp with e | hp
            · rw [e] at hm; exact hf _ hst hm
            · exact hf p (mem_offL.mp hp).1 hm
theorem pop_led {prog : Program} {w : World} {A : Around} {E : Value → Shared → Prop} {s : Shared} {h₀ : Heap} {L D : Addr} {m : Str → Option Value} {news news' : List (Addr × Obj)} {vs : List Value} {v : Value} {n : Nat} {Q : Value → Shared → Prop} (F : Fr h₀ L s.heap m) (N : News h₀ L s.heap news) (U : Upd D (listOf (vs ++ [v]).toArray n) (listOf vs.toArray (n + 1)) news news') (hz : (vs ++ [v]).length ≤ 1000)
    (h : ∀ h', Fr h₀ L h' m → News h₀ L h' news' → Q v { s with heap := h' }) : wpAny (model prog w) A (call (.builtin "list.pop") [.ref D]) Q E s :=
  kl_pop F N (kpa_last v vs) U (by rw [sizeLine_eq]; simp at hz ⊢; omega) h
local macro_rules | `(tactic| walk_at "call builtin:list.pop") => `(tactic| (k_dflt (refine' pop_led ?F ?N ?U ?z ?_; (case F => k_asm); (case N => k_asm); (case U => k_upd); (case z => assumption)); intro h' F' N'; (try dsimp only [List.nil_append, List.cons_append] at N'); (try k_sweep)))
theorem find_call (w : World) (prog : Program) (S : SS) (T₀ : List (Addr × Obj)) (h : Srt prog w T₀ S) (hl : S.rows.length ≤ 64) (hsc : ∀ x ∈ S.rows.map (·.1), ∀ y ∈ S.sc x, y ∈ S.rows.map (·.1)) (n : Nat) (res : Option (List Int)) (hres : findL S.sc n (S.rows.map (·.1)) [] = some res) :
    CallS prog 9 w 127 [.ref S.sa] T₀ (resOk res T₀) := by
  have h1 := h.inst
  refine hideG fun kG => ?_
  obtain ⟨k1, k2, k3, k4, t1, t2, h2⟩ := h.dict
  obtain ⟨o, hn, ho⟩ := h.n2i
  refine kG ?_
  clear kG
  have hnosys := h.nosys
  intro mean mg mb p0 loose dp un gd cn cs a ccd outer A₀ base h₀ L m s Q E B F X N T XB TB D hk hd hu ret
  refine wpAny_call ?_
  refine' code_defS (g₀ := h₀) B F X N T XB TB D KtsTurn.refl ?kA ?k6 ?k7 ?k8 ?k9 ?kB ?_ ?cK ?c2 ?c3 ?c4 ?c5
  (case kA => exact rfl); (case k6 => k_is); (case k7 => k_is); (case k8 => k_room); (case k9 => exact BindsTo.of_eq rfl); (case kB => exact locs rfl); (case cK => first | exact rfl | assumption); (case c2 => exact rfl); (case c3 => exact rfl); (case c4 => exact rfl); (case c5 => decide)
  k_whole
  intro g L' h' FG' F' N' B' X' T' D'
  try dsimp only
  try k_fold
  refine hideG fun kG => ?_
  obtain ⟨frs, Fs, hfg, hfm⟩ := frs_of B'.frames D'
  obtain ⟨F1, N1, st1, off1⟩ := to_hb B' F' N' hfg hfm
  refine kG ?_
  clear kG
  have X1 := XB.keeps st1
  have T1 := TB.keeps st1
  have F0 := F'
  refine hideG fun kG => ?_
  obtain ⟨hb, hhb⟩ : ∃ hb, hb = hideAll g (frs.map (·.1)) := ⟨_, rfl⟩
  refine kG ?_
  clear kG
  rw [← hhb] at F1 N1 st1 X1 T1
  clear N' X' T' F'
  have h1' := List.mem_append_left frs h1
  have h2' := List.mem_append_left frs h2
  k_steps
  all_goals (try with_reducible refine kQ _ _ ?_)
  unfold held
  rename Fr _ _ _ _ => F6
  rename News _ _ _ _ => N6
  rename_i _ ls _ lA _ _ li _ lB _ sn _ led hs1 hz lC _ dn _ od lo _ _ hid _ lD _
  have hmp : S.rows.map (·.1) = (S.rows.map fun r => (r.1, Value.ref r.2.1)).map (·.1) := by simp
  generalize hns : S.rows.map (·.1) = ns at hres hsc
  have hnl : ns.length ≤ 64 := by rw [← hns]; simpa using hl
  have aT : ∀ {d : Addr} {T : List (Addr × Obj)}, AllLt d T → ∀ p ∈ T, @LT.lt Nat _ p.1 d := fun hA p hp => ltA hA p hp
  have lA' : ∀ p ∈ T₀ ++ frs, @LT.lt Nat _ p.1 ls := ltF lA
  have lB' := aT lB.2
  have lC' := aT lC.2.2
  have lD' := aT lD.2.2.2
  have e1 : @LT.lt Nat _ ls li := lB.1
  have e2 : @LT.lt Nat _ li sn := lC.1
  have e3 : @LT.lt Nat _ sn dn := lD.1
  have n1 : dn ≠ sn := by show @Ne Nat _ _; omega
  have n2 : dn ≠ li := by show @Ne Nat _ _; omega
  have n3 : dn ≠ ls := by show @Ne Nat _ _; omega
  have n4 : sn ≠ li := by show @Ne Nat _ _; omega
  have n5 : sn ≠ ls := by show @Ne Nat _ _; omega
  have n6 : li ≠ ls := by show @Ne Nat _ _; omega
  have hT0 : ∀ p ∈ T₀ ++ frs, p.1 ≠ ls ∧ p.1 ≠ li ∧ p.1 ≠ sn ∧ p.1 ≠ dn := fun p hp => by
    have a1 := lA' p hp; have a2 := lB' p hp; have a3 := lC' p hp; have a4 := lD' p hp
    refine ⟨?_, ?_, ?_, ?_⟩ <;> (show @Ne Nat _ _; omega)
  have hFc : Fc prog w ns S.sc T₀ ((dn, od) :: (sn, { cls := .type "set", data := .set #[] 0 (.fresh 0 0 led) }) :: (li, listOf ([] : List Value).toArray 0) :: (ls, listOf ([] : List Value).toArray 0) :: T₀) ⟨ls, li, sn, dn⟩ [] []
      (fun a => if a = ls then some .ls else if a = li then some .li else if a = sn then some .sn else if a = dn then some .dn else none) := {
    st := ⟨[], 0, .tail _ (.tail _ (.tail _ (.head _))), .nil⟩
    it := ⟨0, .tail _ (.tail _ (.head _))⟩
    sn := ⟨_, .tail _ (.head _), by simpa using hs1⟩
    dn := ⟨od, [], .head _, hid, rfl, fun i v hv => by simp at hv⟩
    dsys := lo
    en := fun e he => nomatch he
    src := fun e he => nomatch he
    nd := .nil
    sub := fun e he => nomatch he
    snd := .nil
    sns := fun e he => nomatch he
    tls := by simp
    tli := by simp [n6]
    tsn := by simp [n5, n4]
    tdn := by simp [n1, n2, n3]
    base := fun p hp => by
      refine hideG fun kG => ?_
      obtain ⟨a1, a2, a3, a4⟩ := hT0 p (List.mem_append_left _ hp)
      refine kG ?_
      clear kG
      exact ⟨.tail _ (.tail _ (.tail _ (.tail _ hp))), by simp [a1, a2, a3, a4]⟩
    dom := fun a ha => by
      by_cases q1 : a = ls
      · rw [q1]; exact ⟨_, .tail _ (.tail _ (.tail _ (.head _)))⟩
      · by_cases q2 : a = li
        · rw [q2]; exact ⟨_, .tail _ (.tail _ (.head _))⟩
        · by_cases q3 : a = sn
          · rw [q3]; exact ⟨_, .tail _ (.head _)⟩
          · by_cases q4 : a = dn
            · rw [q4]; exact ⟨_, .head _⟩
            · simp [q1, q2, q3, q4] at ha }
  have hoff0 : ∀ p ∈ (dn, od) :: (sn, { cls := .type "set", data := .set #[] 0 (.fresh 0 0 led) }) :: (li, listOf ([] : List Value).toArray 0) :: (ls, listOf ([] : List Value).toArray 0) :: T₀, p.1 ∉ frs.map (·.1) := fun p hp hm => by
    refine hideG fun kG => ?_
    obtain ⟨q, hq, e⟩ := List.mem_map.mp hm
    obtain ⟨a1, a2, a3, a4⟩ := hT0 q (List.mem_append_right _ hq)
    refine kG ?_
    clear kG
    rcases List.mem_cons.mp hp with r | hp
    · rw [r] at e; exact a4 e
    · rcases List.mem_cons.mp hp with r | hp
      · rw [r] at e; exact a3 e
      · rcases List.mem_cons.mp hp with r | hp
        · rw [r] at e; exact a2 e
        · rcases List.mem_cons.mp hp with r | hp
          · rw [r] at e; exact a1 e
          · exact off1 p hp hm
  refine iterDictM (knd := intKind prog w) (fun i m T tk => ∃ seen, FcInv prog w (envOf cn cs L a ccd :: outer) frs ns S.sc T₀ S.na ⟨ls, li, sn, dn⟩ [] seen m T ∧ findL S.sc n (ns.drop i) seen = some res) _ rfl F6 N6 (.tail _ (.tail _ (.tail _ (.tail _ (List.mem_append_left _ hn))))) ho hnosys
    ⟨[], ⟨by with_unfolding_all rfl, by with_unfolding_all rfl, by with_unfolding_all rfl, by with_unfolding_all rfl, by with_unfolding_all rfl, _, frs, _, rfl, TI.SameUp.refl _, Fs, hoff0, hFc⟩, hres⟩ ?_ ?_
  · intro I hI i kx xx v m₁ T2 own h7 tk₀ tk7 hv hkey zr14 htk hTI hown hIo F₁ N₁
    refine hideG fun kG => ?_
    obtain ⟨seen, ⟨m1, m2, m3, m4, m5, T', frs', tag, rfl, SU, Fs', hoffT, hF⟩, hfl⟩ := zr14
    obtain ⟨u, rfl⟩ := Value.isInt_shape hkey
    refine kG ?_
    clear kG
    (try refine opq fun PQ kQ => ?_)
    have hxi : ns[i]? = some kx := by rw [← hns, hmp, List.getElem?_map, hv]; rfl
    have hxn : kx ∈ ns := List.mem_of_getElem? hxi
    have hdrop : ns.drop i = kx :: ns.drop (i + 1) := by
      rw [List.drop_eq_getElem_cons (List.getElem?_eq_some_iff.mp hxi).1, (List.getElem?_eq_some_iff.mp hxi).2]
    rw [hdrop, findL] at hfl
    have hIt : tag I = none := hF.fresh fun p hp => hTI p (List.mem_append_left _ hp)
    have hnat : tag S.na = none := (hF.base _ hn).2
    have hot : ∀ p ∈ own, tag p.1 = none := fun p hp => by
      rcases hown p hp with e | e
      · rw [e]; exact hIt
      · rw [e]; exact hnat
    have hF1 := fc_own hF hot
    have hoff1 : ∀ p ∈ T' ++ own, p.1 ∉ frs.map (·.1) := fun p hp hm => by
      rcases List.mem_append.mp hp with hp | hp
      · exact hoffT p hp hm
      · rcases hown p hp with e | e
        · refine hideG fun kG => ?_
          obtain ⟨q, hq, e2⟩ := List.mem_map.mp hm
          refine kG ?_
          clear kG
          have := hI q (.tail _ (.tail _ (.tail _ (.tail _ (List.mem_append_right _ hq)))))
          rw [e2, e] at this
          exact absurd this (Nat.lt_irrefl _)
        · exact off1 _ hn (e ▸ hm)
    have N₂ : News hb L' h7 ((T' ++ own) ++ frs') := news_sub N₁ (by walk_at "m sub")
    have F₂ := fr_pin5 F₁ m1 m2 m3 m4 m5
    refine hideG fun kG => ?_
    obtain ⟨so, hso, hss⟩ := hF1.sn
    refine kG ?_
    clear kG
    have hso' : (sn, so) ∈ T' ++ own ++ frs' := List.mem_append_left _ hso
    have hsl : seen.length ≤ 64 := by have := hF.len.1; omega
    clear F6 N6 F₁ N₁
    k_steps
    all_goals (try with_reducible refine kQ _ _ ?_)
    · rename Fr _ _ _ _ => F9
      rename News _ _ _ _ => N9
      rename kx ∈ seen => hx
      rw [if_pos hx] at hfl
      refine ⟨_, _, _, T' ++ frs', _, rfl, F9, N9, by walk_at "m sub", by walk_at "m sub", fun p hp hb => hTI p hp (List.mem_singleton.mp hb), seen, ⟨by with_unfolding_all rfl, by with_unfolding_all rfl, by with_unfolding_all rfl, by with_unfolding_all rfl, by with_unfolding_all rfl, T', frs', tag, rfl, SU, Fs', hoffT, hF⟩, hfl⟩
    · unfold held
      rename Fr _ _ _ _ => F9
      rename News _ _ _ _ => N9
      rename ¬ kx ∈ seen => hx
      rw [if_neg hx] at hfl
      obtain ⟨out, hgo, hout⟩ : ∃ out, go S.sc n (some kx) [] seen = some out ∧ (match out with | .inl c => some (some c) | .inr seen' => findL S.sc n (ns.drop (i + 1)) seen') = some res := by
        cases hg : go S.sc n (some kx) [] seen with
        | none => rw [hg] at hfl; cases hfl
        | some out => rw [hg] at hfl; exact ⟨out, rfl, by cases out <;> exact hfl⟩
      refine whileM (fun n₁ m T => ∃ x u es seen, m (Str.ofString "node") = some (.int x u) ∧ x ∈ ns ∧ FcInv prog w (envOf cn cs L a ccd :: outer) frs ns S.sc (own ++ T₀) S.na ⟨ls, li, sn, dn⟩ es seen m T ∧
        ∃ out, go S.sc n₁ (some x) (stkOf S.sc es) seen = some out ∧ (match out with | .inl c => some (some c) | .inr seen' => findL S.sc n (ns.drop (i + 1)) seen') = some res) n F9 N9
        ⟨kx, u, [], seen, by with_unfolding_all rfl, hxn, ⟨by with_unfolding_all rfl, by with_unfolding_all rfl, by with_unfolding_all rfl, by with_unfolding_all rfl, by with_unfolding_all rfl, T' ++ own, frs', tag, rfl, SU, Fs', hoff1, hF1⟩, out, hgo, hout⟩ ?_
      clear hF1 hoff1 hss hso hso' F9 N9 hF hfl hgo hout
      intro n₁ m₂ T3 h8 tk8 zr5 F8 N8 E' hE
      refine hideG fun kG => ?_
      obtain ⟨x, u2, es, seen2, hmn, hxn2, ⟨m1', m2', m3', m4', m5', T'', frs2, tag2, rfl, SU2, Fs2, hoff2, hF2⟩, out, hgo, hout⟩ := zr5
      refine kG ?_
      clear kG
      subst hE
      dsimp only at m2' m3' m4' m5'
      cases n₁ with
      | zero => cases hgo
      | succ n₁ =>
      rw [go] at hgo
      have hlen2 := hF2.len
      refine hideG fun kG => ?_
      obtain ⟨so, hso, hss⟩ := hF2.sn
      obtain ⟨od2, kvs, hod, hdd, hkl, hin, hnin, vs0, hkz, hv0l, hv0⟩ := hF2.val
      obtain ⟨vst, kls, hst, hsi⟩ := hF2.st
      obtain ⟨kli, hit⟩ := hF2.it
      refine kG ?_
      clear kG
      have hdsys := hF2.dsys
      have hF8 := fr_pin6 F8 m1' m2' m3' m4' m5' hmn
      have hvl := hsi.length
      rw [List.length_map] at hvl
      have hv64 : vst.length ≤ 1000 := by omega
      have hs64 : seen2.length ≤ 64 := by omega
      have hk64 : kvs.length ≤ 64 := by omega
      have hso' : (sn, so) ∈ T'' ++ frs2 := List.mem_append_left _ hso
      have hod' : (dn, od2) ∈ T'' ++ frs2 := List.mem_append_left _ hod
      have hst' : (ls, listOf vst.toArray kls) ∈ T'' ++ frs2 := List.mem_append_left _ hst
      have hfr2 := frs_up_fst SU2
      by_cases hx2 : x ∈ seen2
      · rw [if_pos hx2, stkOf_fst] at hgo
        have hsk : (fun k => decide (k ∈ seen2)) x = true := by simpa using hx2
        by_cases hxs : x ∈ es.map (·.x)
        · rw [if_pos (by simpa using hxs), List.reverse_reverse] at hgo
          cases hgo
          cases hout
          obtain ⟨t, hval⟩ := hin x hxs
          have hvs : (valueAt kvs x).isSome = true := by rw [hval]; rfl
          have hwD := hsi.drop (((es.map (·.x)).idxOf x : Nat) : Int).toNat
          clear F8; (try clear F₂)
          k_steps
          all_goals (try with_reducible refine kQ _ _ ?_)
          first | change qk (Flow.ret _) _ | (change PQ (Flow.ret _) _; refine kQ _ _ ?_; change qk (Flow.ret _) _)
          rename Fr _ _ _ _ => Fq
          rename News _ _ _ _ => Nq
          rename IntsAre _ (_ ++ _) => hIq
          rename _ < _ ∧ _ < _ ∧ AllLt _ _ => lq
          rw [Int.toNat_natCast] at hIq
          subst hhb
          have hbase : ∀ p ∈ T₀, p ∈ T'' := fun p hp => (hF2.base p (List.mem_append_right _ hp)).1
          refine hideG fun kG => ?_
          obtain ⟨g', KT, Fg, Ng⟩ := from_hb F0 hfg SU2 Fq (ret_led2 Nq hbase) (fun p hp hm => by
            rcases List.mem_cons.mp hp with e | hp
            · obtain ⟨q, hq, e2⟩ := List.mem_map.mp (hfr2 ▸ hm)
              have := lt_of_allLt lq.2.2 q (List.mem_append_right _ hq)
              rw [e2, e] at this
              exact absurd this (Nat.lt_irrefl _)
            · exact off1 p hp hm)
          refine kG ?_
          clear kG
          rw [hfm] at KT
          exact leaveS_r Fg Ng KT fun h₀' KT0 Fh Nh Bh Xh Th Dh => ret _ _ h₀' _ _ KT0 Fh Nh Bh Xh Th Dh ⟨_, _, _, rfl, rfl, fun p hp => lt_of_allLt lq.2.2 p (List.mem_append_left _ (hbase p hp)), hIq⟩
        · rw [if_neg (by simpa using hxs)] at hgo
          have hval := hnin x hxs
          have hvs : (valueAt kvs x).isSome = false := by rw [hval]; rfl
          clear F8; (try clear F₂)
          k_steps
          all_goals (try with_reducible refine kQ _ _ ?_)
          unfold held
          rename Fr _ _ _ _ => F9
          rename News _ _ _ _ => N9
          refine whileM (fun n₂ m T => ∃ es seen, n₂ < n₁ + 1 ∧ FcInv prog w (envOf cn cs L a ccd :: outer) frs ns S.sc (own ++ T₀) S.na ⟨ls, li, sn, dn⟩ es seen m T ∧
            ∃ out, go S.sc n₂ none (stkOf S.sc es) seen = some out ∧ (match out with | .inl c => some (some c) | .inr seen' => findL S.sc n (ns.drop (i + 1)) seen') = some res) n₁ F9 N9
            ⟨es, seen2, Nat.lt_succ_self _, ⟨by with_unfolding_all rfl, by with_unfolding_all rfl, by with_unfolding_all rfl, by with_unfolding_all rfl, by with_unfolding_all rfl, T'', frs2, tag2, rfl, SU2, Fs2, hoff2, hF2⟩, out, by exact hgo, hout⟩ ?_
          clear F9 N9 hout hgo
          intro n₂ m₃ T4 h9 tk9 zr5 F9 N9 E' hE
          refine hideG fun kG => ?_
          obtain ⟨es, seen, hlt, ⟨p1, p2, p3, p4, p5, T', frs', tag, rfl, SU, Fs, hoffT, hF⟩, out, hgo, hout⟩ := zr5
          refine kG ?_
          clear kG
          subst hE
          dsimp only at p2 p3 p4 p5
          cases n₂ with
          | zero => cases hgo
          | succ n₂ =>
          refine hideG fun kG => ?_
          obtain ⟨vst, kls, hst, hsi⟩ := hF.st
          obtain ⟨kli, hit⟩ := hF.it
          obtain ⟨od2, kvs, hod, hdd, hkl, hin, hnin, vs0, hkz, hv0l, hv0⟩ := hF.val
          refine kG ?_
          clear kG
          have hlen := hF.len
          have hfr2 := frs_up_fst SU
          have hF9 := fr_pin5 F9 p1 p2 p3 p4 p5
          dsimp only at hst hit hod
          rcases List.eq_nil_or_concat es with rfl | ⟨es', e, rfl⟩
          · have hve : vst = [] := List.length_eq_zero_iff.mp (by have := hsi.length; simpa using this)
            subst hve
            rw [show stkOf S.sc [] = [] from rfl, go] at hgo
            cases hgo
            have hst' : (ls, listOf ([] : List Value).toArray kls) ∈ T' ++ frs' := List.mem_append_left _ hst
            have hz0 : ([] : List Value).length ≤ 1000 := by simp
            clear F9
            k_steps
            all_goals (try with_reducible refine kQ _ _ ?_)
            change WmPost _ _ _ _ _ Flow.brk _
            dsimp only [WmPost]
            k_steps
            all_goals (try with_reducible refine kQ _ _ ?_)
            rename Fr _ _ _ _ => F10
            obtain ⟨oI, hIo'⟩ := hIo
            have hbI := hF.base _ (List.mem_append_left T₀ hIo')
            refine ⟨_, _, _, off I T' ++ frs', _, rfl, F10, N9, ?_, fun p hp => List.mem_append_left _ (hF.base p (List.mem_append_left _ hp)).1, ?_, seen, ⟨by with_unfolding_all rfl, by with_unfolding_all rfl, by with_unfolding_all rfl, by with_unfolding_all rfl, by with_unfolding_all rfl, off I T', frs', tag, rfl, SU, Fs, fun p hp => hoffT p (mem_off.mp hp).1, fc_unown hF hbI.2 fun p hp => ?_⟩, hout⟩
            · intro p hp
              rcases List.mem_append.mp hp with hp | hp
              · exact List.mem_append_left _ (mem_off.mp hp).1
              · exact List.mem_append_right _ hp
            · intro p hp hb
              rcases List.mem_append.mp hp with hp | hp
              · exact (mem_off.mp hp).2 (List.mem_singleton.mp hb)
              · have hm : p.1 ∈ frs.map (·.1) := by rw [← hfr2]; exact List.mem_map_of_mem hp
                refine hideG fun kG => ?_
                obtain ⟨q, hq, e2⟩ := List.mem_map.mp hm
                refine kG ?_
                clear kG
                have := hI q (.tail _ (.tail _ (.tail _ (.tail _ (List.mem_append_right _ hq)))))
                rw [e2, List.mem_singleton.mp hb] at this
                exact absurd this (Nat.lt_irrefl _)
            · exact Nat.ne_of_lt (hI p (.tail _ (.tail _ (.tail _ (.tail _ (List.mem_append_left _ hp))))))
          · refine hideG fun kG => ?_
            obtain ⟨x, W, I1, slx, pos⟩ := e
            refine kG ?_
            clear kG
            rw [List.concat_eq_append] at *
            rw [stkOf_snoc] at hgo
            dsimp only at hgo
            refine hideG fun kG => ?_
            obtain ⟨hW, hI1, htW, htI⟩ := hF.en ⟨x, W, I1, slx, pos⟩ (List.mem_append_right _ (.head _))
            obtain ⟨vsl, kl, hsl0, hsli⟩ := hF.src ⟨x, W, I1, slx, pos⟩ (List.mem_append_right _ (.head _))
            refine kG ?_
            clear kG
            dsimp only at hW hI1 htW htI hsl0 hsli
            obtain ⟨hslm, htsl⟩ := hF.base _ hsl0
            dsimp only at htsl
            have g1 : I1 ≠ ls := ft_ne htI hF.tls (fun q => nomatch q)
            have g2 : I1 ≠ li := ft_ne htI hF.tli (fun q => nomatch q)
            have g3 : I1 ≠ dn := ft_ne htI hF.tdn (fun q => nomatch q)
            have g4 : ls ≠ li := ft_ne hF.tls hF.tli (fun q => nomatch q)
            have g5 : ls ≠ dn := ft_ne hF.tls hF.tdn (fun q => nomatch q)
            have g6 : li ≠ dn := ft_ne hF.tli hF.tdn (fun q => nomatch q)
            have g1' := Ne.symm g1
            have g2' := Ne.symm g2
            have g3' := Ne.symm g3
            have g4' := Ne.symm g4
            have g5' := Ne.symm g5
            have g6' := Ne.symm g6
            have hvl := hsi.length
            refine hideG fun kG => ?_
            obtain ⟨vst', tx, rfl, hsi'⟩ : ∃ vst' tx, vst = vst' ++ [Value.int x tx] ∧ IntsAre vst' (es'.map (·.x)) := ints_concat (by simpa using hsi)
            refine kG ?_
            clear kG
            have hmapW : ((es' ++ [(⟨x, W, I1, slx, pos⟩ : En)]).map fun e => Value.ref e.W) = (es'.map fun e => Value.ref e.W) ++ [Value.ref W] := by simp
            rw [hmapW] at hit
            have hofm : ∀ {p : Addr × Obj}, p ∈ T' → p.1 ≠ I1 → p.1 ≠ ls → p.1 ≠ li → p.1 ≠ dn → p ∈ offL [I1, ls, li, dn] T' := fun {p} hp a1 a2 a3 a4 => mem_offL.mpr ⟨hp, by simp [a1, a2, a3, a4]⟩
            have hW3 : (W, wrapO I1) ∈ offL [I1, ls, li, dn] T' ++ frs' := List.mem_append_left _ (hofm hW (ft_ne htW htI (fun q => nomatch q)) (ft_ne htW hF.tls (fun q => nomatch q)) (ft_ne htW hF.tli (fun q => nomatch q)) (ft_ne htW hF.tdn (fun q => nomatch q)))
            have hsl3 : (slx, listOf vsl.toArray kl) ∈ offL [I1, ls, li, dn] T' ++ frs' := List.mem_append_left _ (hofm hslm (ft_ne htsl htI (fun q => nomatch q)) (ft_ne htsl hF.tls (fun q => nomatch q)) (ft_ne htsl hF.tli (fun q => nomatch q)) (ft_ne htsl hF.tdn (fun q => nomatch q)))
            have hfro : ∀ p ∈ frs', p.1 ≠ I1 ∧ p.1 ≠ ls ∧ p.1 ≠ li ∧ p.1 ≠ dn := fun p hp => by
              have hm : p.1 ∈ frs.map (·.1) := by rw [← hfr2]; exact List.mem_map_of_mem hp
              exact ⟨fun e => hoffT _ hI1 (e ▸ hm), fun e => hoffT _ hst (e ▸ hm), fun e => hoffT _ hit (e ▸ hm), fun e => hoffT _ hod (e ▸ hm)⟩
            have N3 : News hb L' h9 ((I1, iterO slx pos) :: (ls, listOf (vst' ++ [Value.int x tx]).toArray kls) :: (li, listOf ((es'.map fun e => Value.ref e.W) ++ [Value.ref W]).toArray kli) :: (dn, od2) :: (offL [I1, ls, li, dn] T' ++ frs')) := fun p hp => by
              rcases List.mem_cons.mp hp with e | hp
              · rw [e]; exact N9 _ (List.mem_append_left _ hI1)
              · rcases List.mem_cons.mp hp with e | hp
                · rw [e]; exact N9 _ (List.mem_append_left _ hst)
                · rcases List.mem_cons.mp hp with e | hp
                  · rw [e]; exact N9 _ (List.mem_append_left _ hit)
                  · rcases List.mem_cons.mp hp with e | hp
                    · rw [e]; exact N9 _ (List.mem_append_left _ hod)
                    · rcases List.mem_append.mp hp with hp | hp
                      · exact N9 _ (List.mem_append_left _ (mem_offL.mp hp).1)
                      · exact N9 _ (List.mem_append_right _ hp)
            have r1 : ∀ p ∈ offL [I1, ls, li, dn] T' ++ frs', p.1 ≠ I1 := fun p hp => (List.mem_append.mp hp).elim (fun q => offL_ne (.head _) p q) fun q => (hfro p q).1
            have r2 : ∀ p ∈ offL [I1, ls, li, dn] T' ++ frs', p.1 ≠ ls := fun p hp => (List.mem_append.mp hp).elim (fun q => offL_ne (.tail _ (.head _)) p q) fun q => (hfro p q).2.1
            have r3 : ∀ p ∈ offL [I1, ls, li, dn] T' ++ frs', p.1 ≠ li := fun p hp => (List.mem_append.mp hp).elim (fun q => offL_ne (.tail _ (.tail _ (.head _))) p q) fun q => (hfro p q).2.2.1
            have r4 : ∀ p ∈ offL [I1, ls, li, dn] T' ++ frs', p.1 ≠ dn := fun p hp => (List.mem_append.mp hp).elim (fun q => offL_ne (.tail _ (.tail _ (.tail _ (.head _)))) p q) fun q => (hfro p q).2.2.2
            have hoffN : ∀ p ∈ (I1, iterO slx pos) :: (ls, listOf (vst' ++ [Value.int x tx]).toArray kls) :: (li, listOf ((es'.map fun e => Value.ref e.W) ++ [Value.ref W]).toArray kli) :: (dn, od2) :: offL [I1, ls, li, dn] T', p.1 ∉ frs.map (·.1) := fun p hp hm => by
              rcases List.mem_cons.mp hp with e | hp
              · rw [e] at hm; exact hoffT _ hI1 hm
              · rcases List.mem_cons.mp hp with e | hp
                · rw [e] at hm; exact hoffT _ hst hm
                · rcases List.mem_cons.mp hp with e | hp
                  · rw [e] at hm; exact hoffT _ hit hm
                  · rcases List.mem_cons.mp hp with e | hp
                    · rw [e] at hm; exact hoffT _ hod hm
                    · exact hoffT _ (mem_offL.mp hp).1 hm
            have hne0 : vst' ++ [Value.int x tx] ≠ [] := by simp
            have hes : es'.length ≤ 64 := by have := hlen.2; simp at this; omega
            have hz1 : (vst' ++ [Value.int x tx]).length ≤ 1000 := by have := hsi'.length; simp at this ⊢; omega
            have hW3' : (W, wrapO I1) ∈ (I1, iterO slx pos) :: (ls, listOf (vst' ++ [Value.int x tx]).toArray kls) :: (li, listOf ((es'.map fun e => Value.ref e.W) ++ [Value.ref W]).toArray kli) :: (dn, od2) :: (offL [I1, ls, li, dn] T' ++ frs') := .tail _ (.tail _ (.tail _ (.tail _ hW3)))
            have hsl3' : (slx, listOf vsl.toArray kl) ∈ (I1, iterO slx pos) :: (ls, listOf (vst' ++ [Value.int x tx]).toArray kls) :: (li, listOf ((es'.map fun e => Value.ref e.W) ++ [Value.ref W]).toArray kli) :: (dn, od2) :: (offL [I1, ls, li, dn] T' ++ frs') := .tail _ (.tail _ (.tail _ (.tail _ hsl3)))
            have r0 : ∀ p ∈ (ls, listOf (vst' ++ [Value.int x tx]).toArray kls) :: (li, listOf ((es'.map fun e => Value.ref e.W) ++ [Value.ref W]).toArray kli) :: (dn, od2) :: (offL [I1, ls, li, dn] T' ++ frs'), p.1 ≠ I1 := fun p hp => by
              rcases List.mem_cons.mp hp with e | hp
              · rw [e]; exact g1'
              · rcases List.mem_cons.mp hp with e | hp
                · rw [e]; exact g2'
                · rcases List.mem_cons.mp hp with e | hp
                  · rw [e]; exact g3'
                  · exact r1 p hp
            have hvx : ∃ t, valueAt kvs x = some (.int ((((es' ++ [(⟨x, W, I1, slx, pos⟩ : En)]).map (·.x)).idxOf x : Nat) : Int) t) := hin x (by simp)
            have hvxs : (valueAt kvs x).isSome = true := by obtain ⟨t, e⟩ := hvx; rw [e]; rfl
            have hk64 : kvs.length ≤ 64 := by rw [hkl]; have := hlen.2; omega
            have hzW : ((es'.map fun e => Value.ref e.W) ++ [Value.ref W]).length ≤ 1000 := by simp; omega
            have hcov : ∀ p ∈ T', p.1 ≠ I1 → p ∈ (I1, iterO slx (pos + 1)) :: (ls, listOf (vst' ++ [Value.int x tx]).toArray kls) :: (li, listOf ((es'.map fun e => Value.ref e.W) ++ [Value.ref W]).toArray kli) :: (dn, od2) :: offL [I1, ls, li, dn] T' := fun p hp a1 => by
              obtain ⟨pa, po⟩ := p
              dsimp only at a1
              by_cases a2 : pa = ls
              · subst a2
                rw [news_fn N9 (List.mem_append_left _ hp) (List.mem_append_left _ hst)]
                exact .tail _ (.head _)
              · by_cases a3 : pa = li
                · subst a3
                  rw [news_fn N9 (List.mem_append_left _ hp) (List.mem_append_left _ hit)]
                  exact .tail _ (.tail _ (.head _))
                · by_cases a4 : pa = dn
                  · subst a4
                    rw [news_fn N9 (List.mem_append_left _ hp) (List.mem_append_left _ hod)]
                    exact .tail _ (.tail _ (.tail _ (.head _)))
                  · exact .tail _ (.tail _ (.tail _ (.tail _ (hofm hp a1 a2 a3 a4))))
            have hoffA : I1 ∉ frs.map (·.1) ∧ ls ∉ frs.map (·.1) ∧ li ∉ frs.map (·.1) ∧ dn ∉ frs.map (·.1) := ⟨hoffT _ hI1, hoffT _ hst, hoffT _ hit, hoffT _ hod⟩
            have hxns : x ∈ ns := hF.sns x (hF.sub ⟨x, W, I1, slx, pos⟩ (List.mem_append_right _ (.head _)))
            clear F9 N9
            k_steps
            all_goals (try with_reducible refine kQ _ _ ?_)
            unfold held
            rename Fr _ _ _ _ => F10
            refine callWith_wrap (N3 _ (.tail _ (.tail _ (.tail _ (.tail _ hW3))))).1 ?_
            have hdl : ∀ (j : Nat), vsl[j]? = none ↔ (S.sc x)[j]? = none := fun j => by
              rw [List.getElem?_eq_none_iff, List.getElem?_eq_none_iff, hsli.length]
            cases hr : (S.sc x).drop pos with
            | nil =>
              rw [hr, go] at hgo
              have hxn0 : vsl[pos]? = none := (hdl pos).mpr (List.getElem?_eq_none_iff.mpr (List.drop_eq_nil_iff.mp hr))
              refine next_stop rfl F10 N3 hW3' (.head r0) hsl3' hxn0 ?_
              intro h₁ h' e oI Fx Nx hxx
              refine caught_here (l := envOf cn cs L a ccd :: outer) (frs := frs') (new := (I1, oI) :: (ls, listOf (vst' ++ [Value.int x tx]).toArray kls) :: (li, listOf ((es'.map fun e => Value.ref e.W) ++ [Value.ref W]).toArray kli) :: (dn, od2) :: offL [I1, ls, li, dn] T') rfl Fs hxx Fx Nx ?_ X1 T1 (by k_is) ?_
              · intro p hp hm
                rw [← hfr2] at hoffN
                rcases List.mem_cons.mp hp with e | hp
                · rw [e] at hm; exact hoffN (I1, iterO slx pos) (.head _) hm
                · exact hoffN p (.tail _ hp) hm
              · intro h₂ frs3 SU3 Fs3 Fy Ny
                clear Fx Nx F10 N3
                have Nz : News hb L' h₂ ((I1, oI) :: (ls, listOf (vst' ++ [Value.int x tx]).toArray kls) :: (li, listOf ((es'.map fun e => Value.ref e.W) ++ [Value.ref W]).toArray kli) :: (dn, od2) :: (offL [I1, ls, li, dn] T' ++ frs3)) := Ny
                clear Ny
                have hfr3 : frs3.map (·.1) = frs.map (·.1) := (frs_up_fst SU3).trans hfr2
                have hfro3 : ∀ p ∈ frs3, p.1 ≠ ls ∧ p.1 ≠ li ∧ p.1 ≠ dn := fun p hp => by
                  have hm : p.1 ∈ frs.map (·.1) := by rw [← hfr3]; exact List.mem_map_of_mem hp
                  exact ⟨fun e => hoffA.2.1 (e ▸ hm), fun e => hoffA.2.2.1 (e ▸ hm), fun e => hoffA.2.2.2 (e ▸ hm)⟩
                have r2' : ∀ p ∈ offL [I1, ls, li, dn] T' ++ frs3, p.1 ≠ ls := fun p hp => (List.mem_append.mp hp).elim (fun q => offL_ne (.tail _ (.head _)) p q) fun q => (hfro3 p q).1
                have r3' : ∀ p ∈ offL [I1, ls, li, dn] T' ++ frs3, p.1 ≠ li := fun p hp => (List.mem_append.mp hp).elim (fun q => offL_ne (.tail _ (.tail _ (.head _))) p q) fun q => (hfro3 p q).2.1
                have r4' : ∀ p ∈ offL [I1, ls, li, dn] T' ++ frs3, p.1 ≠ dn := fun p hp => (List.mem_append.mp hp).elim (fun q => offL_ne (.tail _ (.tail _ (.tail _ (.head _)))) p q) fun q => (hfro3 p q).2.2
                k_steps
                all_goals (try with_reducible refine kQ _ _ ?_)
                rename Fr _ _ _ _ => F11
                rename News _ _ _ _ => N11
                rename Obj.IsDictOf _ _ (without _ _) => hd11
                refine ⟨_, _, _, _, rfl, F11, N11, n₂, Nat.lt_succ_self _, es', seen, by omega, ⟨by with_unfolding_all rfl, by with_unfolding_all rfl, by with_unfolding_all rfl, by with_unfolding_all rfl, by with_unfolding_all rfl, (I1, oI) :: (ls, listOf vst'.toArray (kls + 1)) :: (li, listOf (es'.map fun e => Value.ref e.W).toArray (kli + 1)) :: (dn, _) :: offL [I1, ls, li, dn] T', frs3, tag, rfl, SU.trans SU3, Fs3, ?_,
                  hF.pop (.head _) ⟨.tail _ (.head _), hsi'⟩ (.tail _ (.tail _ (.head _))) ⟨.tail _ (.tail _ (.tail _ (.head _))), vs0, by rw [← hkz]; exact hd11, by simpa using hv0l, hv0⟩ fun p hp a1 a2 a3 a4 => .tail _ (.tail _ (.tail _ (.tail _ (hofm hp a1 a2 a3 a4))))⟩, out, hgo, hout⟩
                intro p hp
                rcases List.mem_cons.mp hp with e | hp
                · rw [e]; exact hoffA.1
                · rcases List.mem_cons.mp hp with e | hp
                  · rw [e]; exact hoffA.2.1
                  · rcases List.mem_cons.mp hp with e | hp
                    · rw [e]; exact hoffA.2.2.1
                    · rcases List.mem_cons.mp hp with e | hp
                      · rw [e]; exact hoffA.2.2.2
                      · exact hoffT p (mem_offL.mp hp).1
            | cons y ys =>
              rw [hr, go] at hgo
              have hyp : (S.sc x)[pos]? = some y := by
                have : ((S.sc x).drop pos)[0]? = some y := by rw [hr]; rfl
                simpa using this
              obtain ⟨ty, hyv⟩ := hsli.get pos y hyp
              refine next_item F10 N3 hW3' (.head r0) hsl3' hyv ?_
              intro h' Fx Nx
              clear F10 N3
              have hyn : y ∈ ns := hsc x hxns y (List.mem_of_getElem? hyp)
              have hdr : (S.sc x).drop (pos + 1) = ys := by
                have e1 : (S.sc x).drop (pos + 1) = ((S.sc x).drop pos).drop 1 := by rw [List.drop_drop]
                rw [e1, hr]; rfl
              k_steps
              all_goals (try with_reducible refine kQ _ _ ?_)
              change WmPost _ _ _ _ _ Flow.brk _
              dsimp only [WmPost]
              k_steps
              all_goals (try with_reducible refine kQ _ _ ?_)
              rename Fr _ _ _ _ => F11
              rename News _ _ _ _ => N11
              refine ⟨_, _, _, _, rfl, F11, N11, n₂, by omega, y, ty, es' ++ [⟨x, W, I1, slx, pos + 1⟩], seen, by with_unfolding_all rfl, hyn, ⟨by with_unfolding_all rfl, by with_unfolding_all rfl, by with_unfolding_all rfl, by with_unfolding_all rfl, by with_unfolding_all rfl, (I1, iterO slx (pos + 1)) :: (ls, listOf (vst' ++ [Value.int x tx]).toArray kls) :: (li, listOf ((es'.map fun e => Value.ref e.W) ++ [Value.ref W]).toArray kli) :: (dn, od2) :: offL [I1, ls, li, dn] T', frs', tag, rfl, SU, Fs, ?_, hF.item (.head _) hcov⟩, out, by rw [stkOf_snoc]; dsimp only; rw [hdr]; exact hgo, hout⟩
              intro p hp
              rcases List.mem_cons.mp hp with e | hp
              · rw [e]; exact hoffA.1
              · rcases List.mem_cons.mp hp with e | hp
                · rw [e]; exact hoffA.2.1
                · rcases List.mem_cons.mp hp with e | hp
                  · rw [e]; exact hoffA.2.2.1
                  · rcases List.mem_cons.mp hp with e | hp
                    · rw [e]; exact hoffA.2.2.2
                    · exact hoffT p (mem_offL.mp hp).1
      · rw [if_neg hx2] at hgo
        have hsk : (fun k => decide (k ∈ seen2)) x = false := by simpa using hx2
        have q1 : ls ≠ li := ft_ne hF2.tls hF2.tli (fun q => nomatch q)
        have q2 : ls ≠ sn := ft_ne hF2.tls hF2.tsn (fun q => nomatch q)
        have q3 : ls ≠ dn := ft_ne hF2.tls hF2.tdn (fun q => nomatch q)
        have q4 : li ≠ sn := ft_ne hF2.tli hF2.tsn (fun q => nomatch q)
        have q5 : li ≠ dn := ft_ne hF2.tli hF2.tdn (fun q => nomatch q)
        have q6 : sn ≠ dn := ft_ne hF2.tsn hF2.tdn (fun q => nomatch q)
        have q1' := Ne.symm q1
        have q2' := Ne.symm q2
        have q3' := Ne.symm q3
        have q4' := Ne.symm q4
        have q5' := Ne.symm q5
        have q6' := Ne.symm q6
        refine hideG fun kG => ?_
        obtain ⟨ia, slx, hr, hvr⟩ := h.getRow (x := x) (by rw [hns]; exact hxn2)
        obtain ⟨dx, tx, tv, hmi, hmd, hdt⟩ := h.node _ hr
        obtain ⟨vsl, kl, hslm, hsli⟩ := h.succ _ hr
        refine kG ?_
        clear kG
        dsimp only at hmi hslm hsli
        have hofn : ∀ {p : Addr × Obj}, p ∈ T₀ → p ∈ offL [sn, li, dn, ls] T'' := fun {p} hp => by
          obtain ⟨b1, b2⟩ := hF2.base p (List.mem_append_right _ hp)
          refine mem_offL.mpr ⟨b1, fun hm => ?_⟩
          rcases List.mem_cons.mp hm with e | hm
          · exact ft_ne b2 hF2.tsn (fun q => nomatch q) e
          · rcases List.mem_cons.mp hm with e | hm
            · exact ft_ne b2 hF2.tli (fun q => nomatch q) e
            · rcases List.mem_cons.mp hm with e | hm
              · exact ft_ne b2 hF2.tdn (fun q => nomatch q) e
              · exact ft_ne b2 hF2.tls (fun q => nomatch q) (List.mem_singleton.mp hm)
        have hn3 := List.mem_append_left frs2 (hofn hn)
        have hmi3 := List.mem_append_left frs2 (hofn hmi)
        have hmd3 := List.mem_append_left frs2 (hofn hmd)
        have hsl3 := List.mem_append_left frs2 (hofn hslm)
        have hfro : ∀ p ∈ frs2, p.1 ≠ sn ∧ p.1 ≠ li ∧ p.1 ≠ dn ∧ p.1 ≠ ls := fun p hp => by
          have hm : p.1 ∈ frs.map (·.1) := by rw [← hfr2]; exact List.mem_map_of_mem hp
          exact ⟨fun e => hoff2 _ hso (e ▸ hm), fun e => hoff2 _ hit (e ▸ hm), fun e => hoff2 _ hod (e ▸ hm), fun e => hoff2 _ hst (e ▸ hm)⟩
        have N3 : News hb L' h8 ((sn, so) :: (li, listOf (es.map fun e => Value.ref e.W).toArray kli) :: (dn, od2) :: (ls, listOf vst.toArray kls) :: (offL [sn, li, dn, ls] T'' ++ frs2)) := fun p hp => by
          rcases List.mem_cons.mp hp with e | hp
          · rw [e]; exact N8 _ hso'
          · rcases List.mem_cons.mp hp with e | hp
            · rw [e]; exact N8 _ (List.mem_append_left _ hit)
            · rcases List.mem_cons.mp hp with e | hp
              · rw [e]; exact N8 _ hod'
              · rcases List.mem_cons.mp hp with e | hp
                · rw [e]; exact N8 _ hst'
                · rcases List.mem_append.mp hp with hp | hp
                  · exact N8 _ (List.mem_append_left _ (mem_offL.mp hp).1)
                  · exact N8 _ (List.mem_append_right _ hp)
        have r1 : ∀ p ∈ offL [sn, li, dn, ls] T'' ++ frs2, p.1 ≠ sn := fun p hp => (List.mem_append.mp hp).elim (fun q => offL_ne (.head _) p q) fun q => (hfro p q).1
        have r2 : ∀ p ∈ offL [sn, li, dn, ls] T'' ++ frs2, p.1 ≠ li := fun p hp => (List.mem_append.mp hp).elim (fun q => offL_ne (.tail _ (.head _)) p q) fun q => (hfro p q).2.1
        have r3 : ∀ p ∈ offL [sn, li, dn, ls] T'' ++ frs2, p.1 ≠ dn := fun p hp => (List.mem_append.mp hp).elim (fun q => offL_ne (.tail _ (.tail _ (.head _))) p q) fun q => (hfro p q).2.2.1
        have r4 : ∀ p ∈ offL [sn, li, dn, ls] T'' ++ frs2, p.1 ≠ ls := fun p hp => (List.mem_append.mp hp).elim (fun q => offL_ne (.tail _ (.tail _ (.tail _ (.head _)))) p q) fun q => (hfro p q).2.2.2
        have hsz1 : (es.map fun e => Value.ref e.W).toArray.size ≤ sizeLine := by rw [sizeLine_eq]; simp; omega
        have hsz2 : vst.toArray.size ≤ sizeLine := by rw [sizeLine_eq]; simp; omega
        clear F8 N8 hso' hod' hst'; (try clear F₂)
        k_steps
        all_goals (try with_reducible refine kQ _ _ ?_)
        unfold held
        rename Fr _ _ _ _ => F9
        rename News _ _ _ _ => N9
        simp only [List.push_toArray] at N9
        rename Obj.SetObjOf _ _ _ _ => hs9
        rename Obj.IsDictOf _ _ (stored _ _ _) => hd9
        rename _ < _ ∧ _ < _ ∧ _ < _ ∧ _ < _ ∧ _ < _ ∧ AllLt _ _ => lW9
        rename sn < _ ∧ _ < _ ∧ _ < _ ∧ _ < _ ∧ AllLt _ _ => lI9
        obtain ⟨e3, T5, tag3, he3x, he3p, hT5, hoff5, hF5⟩ := push_fc (A := ⟨ls, li, sn, dn⟩) (frs2 := frs2) hF2 hx2 hxn2 hoff2 hfr2.symm hsi lI9 lW9 hs9 hd9 ⟨vs0, hkz, hv0l, hv0⟩ ⟨vsl, kl, List.mem_append_right _ hslm, hsli⟩
        have hgo3 : go S.sc n₁ none (stkOf S.sc (es ++ [e3])) (x :: seen2) = some out := by
          rw [stkOf_snoc, he3x, he3p, List.drop_zero]; exact hgo
        refine whileM (fun n₂ m T => ∃ es seen, n₂ < n₁ + 1 ∧ FcInv prog w (envOf cn cs L a ccd :: outer) frs ns S.sc (own ++ T₀) S.na ⟨ls, li, sn, dn⟩ es seen m T ∧
          ∃ out, go S.sc n₂ none (stkOf S.sc es) seen = some out ∧ (match out with | .inl c => some (some c) | .inr seen' => findL S.sc n (ns.drop (i + 1)) seen') = some res) n₁ F9 N9
          ⟨es ++ [e3], x :: seen2, Nat.lt_succ_self _, ⟨by with_unfolding_all rfl, by with_unfolding_all rfl, by with_unfolding_all rfl, by with_unfolding_all rfl, by with_unfolding_all rfl, T5, frs2, tag3, hT5, SU2, Fs2, hoff5, hF5⟩, out, by exact hgo3, hout⟩ ?_
        clear F9 N9 hout hgo
        intro n₂ m₃ T4 h9 tk9 zr5 F9 N9 E' hE
        refine hideG fun kG => ?_
        obtain ⟨es, seen, hlt, ⟨p1, p2, p3, p4, p5, T', frs', tag, rfl, SU, Fs, hoffT, hF⟩, out, hgo, hout⟩ := zr5
        refine kG ?_
        clear kG
        subst hE
        dsimp only at p2 p3 p4 p5
        cases n₂ with
        | zero => cases hgo
        | succ n₂ =>
        refine hideG fun kG => ?_
        obtain ⟨vst, kls, hst, hsi⟩ := hF.st
        obtain ⟨kli, hit⟩ := hF.it
        obtain ⟨od2, kvs, hod, hdd, hkl, hin, hnin, vs0, hkz, hv0l, hv0⟩ := hF.val
        refine kG ?_
        clear kG
        have hlen := hF.len
        have hfr2 := frs_up_fst SU
        have hF9 := fr_pin5 F9 p1 p2 p3 p4 p5
        dsimp only at hst hit hod
        rcases List.eq_nil_or_concat es with rfl | ⟨es', e, rfl⟩
        · have hve : vst = [] := List.length_eq_zero_iff.mp (by have := hsi.length; simpa using this)
          subst hve
          rw [show stkOf S.sc [] = [] from rfl, go] at hgo
          cases hgo
          have hst' : (ls, listOf ([] : List Value).toArray kls) ∈ T' ++ frs' := List.mem_append_left _ hst
          have hz0 : ([] : List Value).length ≤ 1000 := by simp
          clear F9
          k_steps
          all_goals (try with_reducible refine kQ _ _ ?_)
          change WmPost _ _ _ _ _ Flow.brk _
          dsimp only [WmPost]
          k_steps
          all_goals (try with_reducible refine kQ _ _ ?_)
          rename Fr _ _ _ _ => F10
          obtain ⟨oI, hIo'⟩ := hIo
          have hbI := hF.base _ (List.mem_append_left T₀ hIo')
          refine ⟨_, _, _, off I T' ++ frs', _, rfl, F10, N9, ?_, fun p hp => List.mem_append_left _ (hF.base p (List.mem_append_left _ hp)).1, ?_, seen, ⟨by with_unfolding_all rfl, by with_unfolding_all rfl, by with_unfolding_all rfl, by with_unfolding_all rfl, by with_unfolding_all rfl, off I T', frs', tag, rfl, SU, Fs, fun p hp => hoffT p (mem_off.mp hp).1, fc_unown hF hbI.2 fun p hp => ?_⟩, hout⟩
          · intro p hp
            rcases List.mem_append.mp hp with hp | hp
            · exact List.mem_append_left _ (mem_off.mp hp).1
            · exact List.mem_append_right _ hp
          · intro p hp hb
            rcases List.mem_append.mp hp with hp | hp
            · exact (mem_off.mp hp).2 (List.mem_singleton.mp hb)
            · have hm : p.1 ∈ frs.map (·.1) := by rw [← hfr2]; exact List.mem_map_of_mem hp
              refine hideG fun kG => ?_
              obtain ⟨q, hq, e2⟩ := List.mem_map.mp hm
              refine kG ?_
              clear kG
              have := hI q (.tail _ (.tail _ (.tail _ (.tail _ (List.mem_append_right _ hq)))))
              rw [e2, List.mem_singleton.mp hb] at this
              exact absurd this (Nat.lt_irrefl _)
          · exact Nat.ne_of_lt (hI p (.tail _ (.tail _ (.tail _ (.tail _ (List.mem_append_left _ hp))))))
        · refine hideG fun kG => ?_
          obtain ⟨x, W, I1, slx, pos⟩ := e
          refine kG ?_
          clear kG
          rw [List.concat_eq_append] at *
          rw [stkOf_snoc] at hgo
          dsimp only at hgo
          refine hideG fun kG => ?_
          obtain ⟨hW, hI1, htW, htI⟩ := hF.en ⟨x, W, I1, slx, pos⟩ (List.mem_append_right _ (.head _))
          obtain ⟨vsl, kl, hsl0, hsli⟩ := hF.src ⟨x, W, I1, slx, pos⟩ (List.mem_append_right _ (.head _))
          refine kG ?_
          clear kG
          dsimp only at hW hI1 htW htI hsl0 hsli
          obtain ⟨hslm, htsl⟩ := hF.base _ hsl0
          dsimp only at htsl
          have g1 : I1 ≠ ls := ft_ne htI hF.tls (fun q => nomatch q)
          have g2 : I1 ≠ li := ft_ne htI hF.tli (fun q => nomatch q)
          have g3 : I1 ≠ dn := ft_ne htI hF.tdn (fun q => nomatch q)
          have g4 : ls ≠ li := ft_ne hF.tls hF.tli (fun q => nomatch q)
          have g5 : ls ≠ dn := ft_ne hF.tls hF.tdn (fun q => nomatch q)
          have g6 : li ≠ dn := ft_ne hF.tli hF.tdn (fun q => nomatch q)
          have g1' := Ne.symm g1
          have g2' := Ne.symm g2
          have g3' := Ne.symm g3
          have g4' := Ne.symm g4
          have g5' := Ne.symm g5
          have g6' := Ne.symm g6
          have hvl := hsi.length
          refine hideG fun kG => ?_
          obtain ⟨vst', tx, rfl, hsi'⟩ : ∃ vst' tx, vst = vst' ++ [Value.int x tx] ∧ IntsAre vst' (es'.map (·.x)) := ints_concat (by simpa using hsi)
          refine kG ?_
          clear kG
          have hmapW : ((es' ++ [(⟨x, W, I1, slx, pos⟩ : En)]).map fun e => Value.ref e.W) = (es'.map fun e => Value.ref e.W) ++ [Value.ref W] := by simp
          rw [hmapW] at hit
          have hofm : ∀ {p : Addr × Obj}, p ∈ T' → p.1 ≠ I1 → p.1 ≠ ls → p.1 ≠ li → p.1 ≠ dn → p ∈ offL [I1, ls, li, dn] T' := fun {p} hp a1 a2 a3 a4 => mem_offL.mpr ⟨hp, by simp [a1, a2, a3, a4]⟩
          have hW3 : (W, wrapO I1) ∈ offL [I1, ls, li, dn] T' ++ frs' := List.mem_append_left _ (hofm hW (ft_ne htW htI (fun q => nomatch q)) (ft_ne htW hF.tls (fun q => nomatch q)) (ft_ne htW hF.tli (fun q => nomatch q)) (ft_ne htW hF.tdn (fun q => nomatch q)))
          have hsl3 : (slx, listOf vsl.toArray kl) ∈ offL [I1, ls, li, dn] T' ++ frs' := List.mem_append_left _ (hofm hslm (ft_ne htsl htI (fun q => nomatch q)) (ft_ne htsl hF.tls (fun q => nomatch q)) (ft_ne htsl hF.tli (fun q => nomatch q)) (ft_ne htsl hF.tdn (fun q => nomatch q)))
          have hfro : ∀ p ∈ frs', p.1 ≠ I1 ∧ p.1 ≠ ls ∧ p.1 ≠ li ∧ p.1 ≠ dn := fun p hp => by
            have hm : p.1 ∈ frs.map (·.1) := by rw [← hfr2]; exact List.mem_map_of_mem hp
            exact ⟨fun e => hoffT _ hI1 (e ▸ hm), fun e => hoffT _ hst (e ▸ hm), fun e => hoffT _ hit (e ▸ hm), fun e => hoffT _ hod (e ▸ hm)⟩
          have N3 : News hb L' h9 ((I1, iterO slx pos) :: (ls, listOf (vst' ++ [Value.int x tx]).toArray kls) :: (li, listOf ((es'.map fun e => Value.ref e.W) ++ [Value.ref W]).toArray kli) :: (dn, od2) :: (offL [I1, ls, li, dn] T' ++ frs')) := fun p hp => by
            rcases List.mem_cons.mp hp with e | hp
            · rw [e]; exact N9 _ (List.mem_append_left _ hI1)
            · rcases List.mem_cons.mp hp with e | hp
              · rw [e]; exact N9 _ (List.mem_append_left _ hst)
              · rcases List.mem_cons.mp hp with e | hp
                · rw [e]; exact N9 _ (List.mem_append_left _ hit)
                · rcases List.mem_cons.mp hp with e | hp
                  · rw [e]; exact N9 _ (List.mem_append_left _ hod)
                  · rcases List.mem_append.mp hp with hp | hp
                    · exact N9 _ (List.mem_append_left _ (mem_offL.mp hp).1)
                    · exact N9 _ (List.mem_append_right _ hp)
          have r1 : ∀ p ∈ offL [I1, ls, li, dn] T' ++ frs', p.1 ≠ I1 := fun p hp => (List.mem_append.mp hp).elim (fun q => offL_ne (.head _) p q) fun q => (hfro p q).1
          have r2 : ∀ p ∈ offL [I1, ls, li, dn] T' ++ frs', p.1 ≠ ls := fun p hp => (List.mem_append.mp hp).elim (fun q => offL_ne (.tail _ (.head _)) p q) fun q => (hfro p q).2.1
          have r3 : ∀ p ∈ offL [I1, ls, li, dn] T' ++ frs', p.1 ≠ li := fun p hp => (List.mem_append.mp hp).elim (fun q => offL_ne (.tail _ (.tail _ (.head _))) p q) fun q => (hfro p q).2.2.1
          have r4 : ∀ p ∈ offL [I1, ls, li, dn] T' ++ frs', p.1 ≠ dn := fun p hp => (List.mem_append.mp hp).elim (fun q => offL_ne (.tail _ (.tail _ (.tail _ (.head _)))) p q) fun q => (hfro p q).2.2.2
          have hoffN : ∀ p ∈ (I1, iterO slx pos) :: (ls, listOf (vst' ++ [Value.int x tx]).toArray kls) :: (li, listOf ((es'.map fun e => Value.ref e.W) ++ [Value.ref W]).toArray kli) :: (dn, od2) :: offL [I1, ls, li, dn] T', p.1 ∉ frs.map (·.1) := fun p hp hm => by
            rcases List.mem_cons.mp hp with e | hp
            · rw [e] at hm; exact hoffT _ hI1 hm
            · rcases List.mem_cons.mp hp with e | hp
              · rw [e] at hm; exact hoffT _ hst hm
              · rcases List.mem_cons.mp hp with e | hp
                · rw [e] at hm; exact hoffT _ hit hm
                · rcases List.mem_cons.mp hp with e | hp
                  · rw [e] at hm; exact hoffT _ hod hm
                  · exact hoffT _ (mem_offL.mp hp).1 hm
          have hne0 : vst' ++ [Value.int x tx] ≠ [] := by simp
          have hes : es'.length ≤ 64 := by have := hlen.2; simp at this; omega
          have hz1 : (vst' ++ [Value.int x tx]).length ≤ 1000 := by have := hsi'.length; simp at this ⊢; omega
          have hW3' : (W, wrapO I1) ∈ (I1, iterO slx pos) :: (ls, listOf (vst' ++ [Value.int x tx]).toArray kls) :: (li, listOf ((es'.map fun e => Value.ref e.W) ++ [Value.ref W]).toArray kli) :: (dn, od2) :: (offL [I1, ls, li, dn] T' ++ frs') := .tail _ (.tail _ (.tail _ (.tail _ hW3)))
          have hsl3' : (slx, listOf vsl.toArray kl) ∈ (I1, iterO slx pos) :: (ls, listOf (vst' ++ [Value.int x tx]).toArray kls) :: (li, listOf ((es'.map fun e => Value.ref e.W) ++ [Value.ref W]).toArray kli) :: (dn, od2) :: (offL [I1, ls, li, dn] T' ++ frs') := .tail _ (.tail _ (.tail _ (.tail _ hsl3)))
          have r0 : ∀ p ∈ (ls, listOf (vst' ++ [Value.int x tx]).toArray kls) :: (li, listOf ((es'.map fun e => Value.ref e.W) ++ [Value.ref W]).toArray kli) :: (dn, od2) :: (offL [I1, ls, li, dn] T' ++ frs'), p.1 ≠ I1 := fun p hp => by
            rcases List.mem_cons.mp hp with e | hp
            · rw [e]; exact g1'
            · rcases List.mem_cons.mp hp with e | hp
              · rw [e]; exact g2'
              · rcases List.mem_cons.mp hp with e | hp
                · rw [e]; exact g3'
                · exact r1 p hp
          have hvx : ∃ t, valueAt kvs x = some (.int ((((es' ++ [(⟨x, W, I1, slx, pos⟩ : En)]).map (·.x)).idxOf x : Nat) : Int) t) := hin x (by simp)
          have hvxs : (valueAt kvs x).isSome = true := by obtain ⟨t, e⟩ := hvx; rw [e]; rfl
          have hk64 : kvs.length ≤ 64 := by rw [hkl]; have := hlen.2; omega
          have hzW : ((es'.map fun e => Value.ref e.W) ++ [Value.ref W]).length ≤ 1000 := by simp; omega
          have hcov : ∀ p ∈ T', p.1 ≠ I1 → p ∈ (I1, iterO slx (pos + 1)) :: (ls, listOf (vst' ++ [Value.int x tx]).toArray kls) :: (li, listOf ((es'.map fun e => Value.ref e.W) ++ [Value.ref W]).toArray kli) :: (dn, od2) :: offL [I1, ls, li, dn] T' := fun p hp a1 => by
            obtain ⟨pa, po⟩ := p
            dsimp only at a1
            by_cases a2 : pa = ls
            · subst a2
              rw [news_fn N9 (List.mem_append_left _ hp) (List.mem_append_left _ hst)]
              exact .tail _ (.head _)
            · by_cases a3 : pa = li
              · subst a3
                rw [news_fn N9 (List.mem_append_left _ hp) (List.mem_append_left _ hit)]
                exact .tail _ (.tail _ (.head _))
              · by_cases a4 : pa = dn
                · subst a4
                  rw [news_fn N9 (List.mem_append_left _ hp) (List.mem_append_left _ hod)]
                  exact .tail _ (.tail _ (.tail _ (.head _)))
                · exact .tail _ (.tail _ (.tail _ (.tail _ (hofm hp a1 a2 a3 a4))))
          have hoffA : I1 ∉ frs.map (·.1) ∧ ls ∉ frs.map (·.1) ∧ li ∉ frs.map (·.1) ∧ dn ∉ frs.map (·.1) := ⟨hoffT _ hI1, hoffT _ hst, hoffT _ hit, hoffT _ hod⟩
          have hxns : x ∈ ns := hF.sns x (hF.sub ⟨x, W, I1, slx, pos⟩ (List.mem_append_right _ (.head _)))
          clear F9 N9
          k_steps
          all_goals (try with_reducible refine kQ _ _ ?_)
          unfold held
          rename Fr _ _ _ _ => F10
          refine callWith_wrap (N3 _ (.tail _ (.tail _ (.tail _ (.tail _ hW3))))).1 ?_
          have hdl : ∀ (j : Nat), vsl[j]? = none ↔ (S.sc x)[j]? = none := fun j => by
            rw [List.getElem?_eq_none_iff, List.getElem?_eq_none_iff, hsli.length]
          cases hr : (S.sc x).drop pos with
          | nil =>
            rw [hr, go] at hgo
            have hxn0 : vsl[pos]? = none := (hdl pos).mpr (List.getElem?_eq_none_iff.mpr (List.drop_eq_nil_iff.mp hr))
            refine next_stop rfl F10 N3 hW3' (.head r0) hsl3' hxn0 ?_
            intro h₁ h' e oI Fx Nx hxx
            refine caught_here (l := envOf cn cs L a ccd :: outer) (frs := frs') (new := (I1, oI) :: (ls, listOf (vst' ++ [Value.int x tx]).toArray kls) :: (li, listOf ((es'.map fun e => Value.ref e.W) ++ [Value.ref W]).toArray kli) :: (dn, od2) :: offL [I1, ls, li, dn] T') rfl Fs hxx Fx Nx ?_ X1 T1 (by k_is) ?_
            · intro p hp hm
              rw [← hfr2] at hoffN
              rcases List.mem_cons.mp hp with e | hp
              · rw [e] at hm; exact hoffN (I1, iterO slx pos) (.head _) hm
              · exact hoffN p (.tail _ hp) hm
            · intro h₂ frs3 SU3 Fs3 Fy Ny
              clear Fx Nx F10 N3
              have Nz : News hb L' h₂ ((I1, oI) :: (ls, listOf (vst' ++ [Value.int x tx]).toArray kls) :: (li, listOf ((es'.map fun e => Value.ref e.W) ++ [Value.ref W]).toArray kli) :: (dn, od2) :: (offL [I1, ls, li, dn] T' ++ frs3)) := Ny
              clear Ny
              have hfr3 : frs3.map (·.1) = frs.map (·.1) := (frs_up_fst SU3).trans hfr2
              have hfro3 : ∀ p ∈ frs3, p.1 ≠ ls ∧ p.1 ≠ li ∧ p.1 ≠ dn := fun p hp => by
                have hm : p.1 ∈ frs.map (·.1) := by rw [← hfr3]; exact List.mem_map_of_mem hp
                exact ⟨fun e => hoffA.2.1 (e ▸ hm), fun e => hoffA.2.2.1 (e ▸ hm), fun e => hoffA.2.2.2 (e ▸ hm)⟩
              have r2' : ∀ p ∈ offL [I1, ls, li, dn] T' ++ frs3, p.1 ≠ ls := fun p hp => (List.mem_append.mp hp).elim (fun q => offL_ne (.tail _ (.head _)) p q) fun q => (hfro3 p q).1
              have r3' : ∀ p ∈ offL [I1, ls, li, dn] T' ++ frs3, p.1 ≠ li := fun p hp => (List.mem_append.mp hp).elim (fun q => offL_ne (.tail _ (.tail _ (.head _))) p q) fun q => (hfro3 p q).2.1
              have r4' : ∀ p ∈ offL [I1, ls, li, dn] T' ++ frs3, p.1 ≠ dn := fun p hp => (List.mem_append.mp hp).elim (fun q => offL_ne (.tail _ (.tail _ (.tail _ (.head _)))) p q) fun q => (hfro3 p q).2.2
              k_steps
              all_goals (try with_reducible refine kQ _ _ ?_)
              rename Fr _ _ _ _ => F11
              rename News _ _ _ _ => N11
              rename Obj.IsDictOf _ _ (without _ _) => hd11
              refine ⟨_, _, _, _, rfl, F11, N11, n₂, Nat.lt_succ_self _, es', seen, by omega, ⟨by with_unfolding_all rfl, by with_unfolding_all rfl, by with_unfolding_all rfl, by with_unfolding_all rfl, by with_unfolding_all rfl, (I1, oI) :: (ls, listOf vst'.toArray (kls + 1)) :: (li, listOf (es'.map fun e => Value.ref e.W).toArray (kli + 1)) :: (dn, _) :: offL [I1, ls, li, dn] T', frs3, tag, rfl, SU.trans SU3, Fs3, ?_,
                hF.pop (.head _) ⟨.tail _ (.head _), hsi'⟩ (.tail _ (.tail _ (.head _))) ⟨.tail _ (.tail _ (.tail _ (.head _))), vs0, by rw [← hkz]; exact hd11, by simpa using hv0l, hv0⟩ fun p hp a1 a2 a3 a4 => .tail _ (.tail _ (.tail _ (.tail _ (hofm hp a1 a2 a3 a4))))⟩, out, hgo, hout⟩
              intro p hp
              rcases List.mem_cons.mp hp with e | hp
              · rw [e]; exact hoffA.1
              · rcases List.mem_cons.mp hp with e | hp
                · rw [e]; exact hoffA.2.1
                · rcases List.mem_cons.mp hp with e | hp
                  · rw [e]; exact hoffA.2.2.1
                  · rcases List.mem_cons.mp hp with e | hp
                    · rw [e]; exact hoffA.2.2.2
                    · exact hoffT p (mem_offL.mp hp).1
          | cons y ys =>
            rw [hr, go] at hgo
            have hyp : (S.sc x)[pos]? = some y := by
              have : ((S.sc x).drop pos)[0]? = some y := by rw [hr]; rfl
              simpa using this
            obtain ⟨ty, hyv⟩ := hsli.get pos y hyp
            refine next_item F10 N3 hW3' (.head r0) hsl3' hyv ?_
            intro h' Fx Nx
            clear F10 N3
            have hyn : y ∈ ns := hsc x hxns y (List.mem_of_getElem? hyp)
            have hdr : (S.sc x).drop (pos + 1) = ys := by
              have e1 : (S.sc x).drop (pos + 1) = ((S.sc x).drop pos).drop 1 := by rw [List.drop_drop]
              rw [e1, hr]; rfl
            k_steps
            all_goals (try with_reducible refine kQ _ _ ?_)
            change WmPost _ _ _ _ _ Flow.brk _
            dsimp only [WmPost]
            k_steps
            all_goals (try with_reducible refine kQ _ _ ?_)
            rename Fr _ _ _ _ => F11
            rename News _ _ _ _ => N11
            refine ⟨_, _, _, _, rfl, F11, N11, n₂, by omega, y, ty, es' ++ [⟨x, W, I1, slx, pos + 1⟩], seen, by with_unfolding_all rfl, hyn, ⟨by with_unfolding_all rfl, by with_unfolding_all rfl, by with_unfolding_all rfl, by with_unfolding_all rfl, by with_unfolding_all rfl, (I1, iterO slx (pos + 1)) :: (ls, listOf (vst' ++ [Value.int x tx]).toArray kls) :: (li, listOf ((es'.map fun e => Value.ref e.W) ++ [Value.ref W]).toArray kli) :: (dn, od2) :: offL [I1, ls, li, dn] T', frs', tag, rfl, SU, Fs, ?_, hF.item (.head _) hcov⟩, out, by rw [stkOf_snoc]; dsimp only; rw [hdr]; exact hgo, hout⟩
            intro p hp
            rcases List.mem_cons.mp hp with e | hp
            · rw [e]; exact hoffA.1
            · rcases List.mem_cons.mp hp with e | hp
              · rw [e]; exact hoffA.2.1
              · rcases List.mem_cons.mp hp with e | hp
                · rw [e]; exact hoffA.2.2.1
                · rcases List.mem_cons.mp hp with e | hp
                  · rw [e]; exact hoffA.2.2.2
                  · exact hoffT p (mem_offL.mp hp).1
  · intro I hI m₁ T2 h7 tk₀ tk7 zr7 htk hTI F₁ N₁
    refine hideG fun kG => ?_
    obtain ⟨seen, ⟨m1, m2, m3, m4, m5, T', frs', tag, rfl, SU, Fs', hoffT, hF⟩, hfl⟩ := zr7
    refine kG ?_
    clear kG
    have hlen : (S.rows.map fun r => (r.1, Value.ref r.2.1)).length = ns.length := by rw [← hns]; simp
    rw [hlen, List.drop_length, findL] at hfl
    cases hfl
    clear F6 N6
    k_steps
    all_goals (try with_reducible refine kQ _ _ ?_)
    first | change qk (Flow.ret _) _ | (change PQ (Flow.ret _) _; refine kQ _ _ ?_; change qk (Flow.ret _) _)
    subst hhb
    refine hideG fun kG => ?_
    obtain ⟨g', KT, Fg, Ng⟩ := from_hb (T' := T₀) F0 hfg SU F₁ (news_sub N₁ fun p hp => (List.mem_append.mp hp).elim (fun q => List.mem_append_left _ (hF.base p q).1) fun q => List.mem_append_right _ q) off1
    refine kG ?_
    clear kG
    rw [hfm] at KT
    exact leaveS_r Fg Ng KT fun h₀' KT0 Fh Nh Bh Xh Th Dh => ret _ _ h₀' _ _ KT0 Fh Nh Bh Xh Th Dh ⟨rfl, rfl⟩


theorem regD6 : True := by
  k_with_none
  w_top off
  (k_with "m sub" => (first | ((repeat' (first | exact sub_nil | with_reducible refine sub_cons ?_ ?_ | with_reducible refine sub_app ?_ ?_)) <;> (first | k_mem | (intro p hp; k_mem))) | (intro p hp; simp only [List.cons_append, List.nil_append, List.append_assoc, List.mem_cons, List.mem_append, List.not_mem_nil, or_false, false_or, List.append_nil] at hp ⊢; grind)))
  (k_with "exec For" => (with_unfolding_all refine wpAny_For ?_ (by intro _; rfl)))
  (k_with "m call" => (refine wpAny_call ?_; (first | (k_dflt k_enter) | fail "no entry")))
  (k_with "compareOp In int ref" => (refine in_list_ints (isList_of (by k_asm) (by k_mem)) (by assumption) ?_))
  (k_with "compareOp NotIn int ref" => (refine notin_list_ints (isList_of (by k_asm) (by k_mem)) (by assumption) ?_))
  (k_with "compareOp Is int int" => (refine is_int (by assumption) (by assumption) (by assumption) ?_))
  (k_with "exec For Name Name cons nil" => (with_unfolding_all refine wpAny_For ?_ (by intro _; rfl)))
  (k_with "exec For Name Name" => (with_unfolding_all refine wpAny_For ?_ (by intro _; rfl)))
  (k_with "exec For Name List cons nil" => (with_unfolding_all refine wpAny_For ?_ (by intro _; rfl)))
  (k_with "exec For Name List" => (with_unfolding_all refine wpAny_For ?_ (by intro _; rfl)))
  (k_with "exec For Name Call cons nil" => (with_unfolding_all refine wpAny_For ?_ (by intro _; rfl)))
  (k_with "exec For Name Call" => (with_unfolding_all refine wpAny_For ?_ (by intro _; rfl)))
  (k_with "exec For Name BinOp cons nil" => (with_unfolding_all refine wpAny_For ?_ (by intro _; rfl)))
  (k_with "exec For Name BinOp" => (with_unfolding_all refine wpAny_For ?_ (by intro _; rfl)))
  (k_with "exec For Name Tuple cons nil" => (with_unfolding_all refine wpAny_For ?_ (by intro _; rfl)))
  (k_with "exec For Name Tuple" => (with_unfolding_all refine wpAny_For ?_ (by intro _; rfl)))
  (k_with "exec For Name Attribute cons nil" => (with_unfolding_all refine wpAny_For ?_ (by intro _; rfl)))
  (k_with "exec For Name Attribute" => (with_unfolding_all refine wpAny_For ?_ (by intro _; rfl)))
  (k_with "exec For Tuple Name cons nil" => (with_unfolding_all refine wpAny_For ?_ (by intro _; rfl)))
  (k_with "exec For Tuple Name" => (with_unfolding_all refine wpAny_For ?_ (by intro _; rfl)))
  (k_with "exec For Tuple List cons nil" => (with_unfolding_all refine wpAny_For ?_ (by intro _; rfl)))
  (k_with "exec For Tuple List" => (with_unfolding_all refine wpAny_For ?_ (by intro _; rfl)))
  (k_with "exec For Tuple Call cons nil" => (with_unfolding_all refine wpAny_For ?_ (by intro _; rfl)))
  (k_with "exec For Tuple Call" => (with_unfolding_all refine wpAny_For ?_ (by intro _; rfl)))
  (k_with "exec For Tuple BinOp cons nil" => (with_unfolding_all refine wpAny_For ?_ (by intro _; rfl)))
  (k_with "exec For Tuple BinOp" => (with_unfolding_all refine wpAny_For ?_ (by intro _; rfl)))
  (k_with "exec For Tuple Tuple cons nil" => (with_unfolding_all refine wpAny_For ?_ (by intro _; rfl)))
  (k_with "exec For Tuple Tuple" => (with_unfolding_all refine wpAny_For ?_ (by intro _; rfl)))
  (k_with "exec For Tuple Attribute cons nil" => (with_unfolding_all refine wpAny_For ?_ (by intro _; rfl)))
  (k_with "exec For Tuple Attribute" => (with_unfolding_all refine wpAny_For ?_ (by intro _; rfl)))
  (k_with "call builtin:len" => (k_dflt (refine' len_led ?w0qN ?w0qm ?w0qz ?_; (case w0qN => k_asm); (case w0qm => k_mem); (case w0qz => first | assumption | omega))))
  (k_with "subscriptTail Name Name ref int" => (k_dflt (refine' item_led ?w1qN ?w1qm ?w1qa ?w1qb ?w1qx ?_; (case w1qN => k_asm); (case w1qm => k_mem); (case w1qa => omega); (case w1qb => omega); (case w1qx => assumption))))
  (k_with "eval ListComp" => (k_dflt (refine comp_eval (by with_unfolding_all rfl) rfl (by decide) (by intro _; rfl) ?_)))
  (k_with "exec Assign cons ListComp" => (k_dflt (refine comp_assign (by with_unfolding_all rfl) (by with_unfolding_all rfl) rfl (by decide) (by intro _; rfl) ?_)))
  (k_with "eval Name" => ((with_reducible show wpAny _ _ (eval (Expr.Name _ _) (compEnvC _ _ _ _)) _ _ _); k_dflt (refine' ldC ?w2qN ?w2qm ?w2qn ?w2qv ?_ ?w2qa ?w2qb; (case w2qa => rfl); (case w2qb => rfl); (case w2qN => k_asm); (case w2qm => k_mem); (case w2qn => assumption); (case w2qv => with_unfolding_all rfl))))
  (k_with "call ref" => ((first | (with_reducible show wpAny _ _ (call (Value.ref 183) _) _ _ _) | (with_reducible show wpAny _ _ (call (Value.ref 190) _) _ _ _) | (with_reducible show wpAny _ _ (call (Value.ref 197) _) _ _ _) | (with_reducible show wpAny _ _ (call (Value.ref 204) _) _ _ _) | (with_reducible show wpAny _ _ (call (Value.ref 211) _) _ _ _) | (with_reducible show wpAny _ _ (call (Value.ref 218) _) _ _ _) | (with_reducible show wpAny _ _ (call (Value.ref 223) _) _ _ _) | (with_reducible show wpAny _ _ (call (Value.ref 228) _) _ _ _) | (with_reducible show wpAny _ _ (call (Value.ref 235) _) _ _ _) | (with_reducible show wpAny _ _ (call (Value.ref 80) _) _ _ _) | (with_reducible show wpAny _ _ (call (Value.ref 87) _) _ _ _) | (with_reducible show wpAny _ _ (call (Value.ref 92) _) _ _ _) | (with_reducible show wpAny _ _ (call (Value.ref 99) _) _ _ _) | (with_reducible show wpAny _ _ (call (Value.ref 106) _) _ _ _) | (with_reducible show wpAny _ _ (call (Value.ref 120) _) _ _ _) | (with_reducible show wpAny _ _ (call (Value.ref 127) _) _ _ _)); refine hold ?_))
  (k_with "m use" => ((try unfold held); (rename Call _ _ _ _ _ _ => hC); k_dflt (refine' Call.use hC ?w3qB ?w3qF ?w3qX ?w3qN ?w3qT ?w3qk ?w3qd ?w3qu ?_; (case w3qB => k_asm); (case w3qF => k_asm); (case w3qX => k_asm); (case w3qN => k_asm); (case w3qT => k_asm); (case w3qk => first | exact rfl | assumption); (case w3qd => ktr_room); (case w3qu => ktr_units)); clear hC))
  (k_with "m pure" => ((try unfold held); (rename Call _ _ _ _ _ _ => hC); k_dflt (refine' Call.pure hC ?w4qB ?w4qF ?w4qX ?w4qN ?w4qT ?w4qk ?w4qd ?w4qu ?_; (case w4qB => k_asm); (case w4qF => k_asm); (case w4qX => k_asm); (case w4qN => k_asm); (case w4qT => k_asm); (case w4qk => first | exact rfl | assumption); (case w4qd => ktr_room); (case w4qu => ktr_units)); clear hC))
  (k_with "subscriptTail Name Constant ref int" => (k_dflt (refine' item_led ?w5qN ?w5qm ?w5qa ?w5qb ?w5qx ?_; (case w5qN => k_asm); (case w5qm => k_mem); (case w5qa => omega); (case w5qb => omega); (case w5qx => first | assumption | rfl))))
  (k_with "compareOp Eq ref ref" => refine hold ?_)
  (k_with "pyIter ref" => refine hold ?_)
  (k_with "subscriptTail Name BinOp ref int" => (k_dflt (refine' item_led ?w1qN ?w1qm ?w1qa ?w1qb ?w1qx ?_; (case w1qN => k_asm); (case w1qm => k_mem); (case w1qa => omega); (case w1qb => omega); (case w1qx => assumption))))
  (k_with "compareOp NotEq ref ref" => refine hold ?_)
  (k_with "getMethod ref" => ((with_reducible show wpAny _ _ (getMethod (Value.ref _) (Str.ofString "get") _) _ _ _); k_dflt (refine' kdg_method (knd := PySem.intKind _ _) ?w6qN ?w6qm ?w6qd ?_; (case w6qN => k_asm); (case w6qm => k_mem); (case w6qd => assumption))))
  (k_with "call builtin:dict.get" => (k_dflt (refine' kdg_get1 (knd := PySem.intKind _ _) ?w7qN ?w7qm ?w7qd ?w7ql ?w7qk _ ?w7qx ?_; (case w7qN => k_asm); (case w7qm => k_mem); (case w7qd => assumption); (case w7ql => assumption); (case w7qk => exact intKind_is _ _ _ _); (case w7qx => assumption)); (try dsimp only [Option.getD])))
  (k_with "call builtin:len" => (k_dflt (refine' lenT_led ?w8qN ?w8qm ?w8qz ?_; (case w8qN => k_asm); (case w8qm => k_mem); (case w8qz => first | assumption | omega))))
  (k_with "call type:bool" => (k_dflt (refine' boolL_led ?w9qN ?w9qm ?w9qz ?_; (case w9qN => k_asm); (case w9qm => k_mem); (case w9qz => first | assumption | omega))))
  (k_with "subscriptTail Name Name ref int" => (k_dflt (refine' kda_item (knd := PySem.intKind _ _) ?w10qN ?w10qm ?w10qd (intKind_is _ _ _ _) ?w10qv ?_; (case w10qN => k_asm); (case w10qm => k_mem); (case w10qd => assumption); (case w10qv => assumption))))
  (k_with "subscriptTail Name Name ref int" => (k_dflt (refine' item_led ?w1qN ?w1qm ?w1qa ?w1qb ?w1qx ?_; (case w1qN => k_asm); (case w1qm => k_mem); (case w1qa => omega); (case w1qb => omega); (case w1qx => assumption))))
  (k_with "exec While Constant cons nil" => refine hold ?_)
  (k_with "exec While Constant" => refine hold ?_)
  (k_with "exec While Name cons cons" => refine hold ?_)
  (k_with "exec While Name" => refine hold ?_)
  (k_with "exec While" => refine hold ?_)
  (k_with "call ref nil" => refine hold ?_)
  (k_with "call ref nil nil" => refine hold ?_)
  (k_with "subscriptTail Name UnaryOp ref int" => (k_dflt (refine' last_led ?w11qN ?w11qm ?w11qx ?_; (case w11qN => k_asm); (case w11qm => k_mem); (case w11qx => first | assumption | exact List.getLast?_concat))))
  (k_with "truthy ref" => ((with_reducible show wpAny _ _ (truthy (Value.ref _)) _ _ _); k_dflt (refine' truthyL_led ?w12qN ?w12qm ?w12qz ?_; (case w12qN => k_asm); (case w12qm => k_mem); (case w12qz => first | assumption | omega))))
  (k_with "compareOp In int ref" => (k_dflt (refine' inset_led (knd := PySem.intKind _ _) ?w13qN ?w13qm ?w13qd ?w13qz (intKind_is _ _ _ _) rfl ?_; (case w13qN => k_asm); (case w13qm => k_mem); (case w13qd => assumption); (case w13qz => kse_small)); (try dsimp only)))
  (k_with "compareOp In int ref" => (k_dflt (refine' kda_in (knd := PySem.intKind _ _) ?w14qN ?w14qm ?w14qd ?w14ql (intKind_is _ _ _ _) _ ?w14qv ?_; (case w14qN => k_asm); (case w14qm => k_mem); (case w14qd => assumption); (case w14ql => assumption); (case w14qv => assumption))))
  (k_with "compareOp In int ref" => (k_dflt (refine' inset_b (knd := PySem.intKind _ _) ?w15qN ?w15qm ?w15qd ?w15qz (intKind_is _ _ _ _) rfl _ ?w15qv ?_; (case w15qN => k_asm); (case w15qm => k_mem); (case w15qd => assumption); (case w15qz => kse_small); (case w15qv => assumption))))
  (k_with "getMethod ref" => ((with_reducible show wpAny _ _ (getMethod (Value.ref _) (Str.ofString "values") _) _ _ _); k_dflt (refine' kdl_method (knd := PySem.intKind _ _) PySem.F.slot_dict_values PySem.F.type_dict_values ?w16qN ?w16qm ?w16qd ?_; (case w16qN => k_asm); (case w16qm => k_mem); (case w16qd => assumption))))
  (k_with "pyIter ref" => refine hold ?_)
  trivial
local macro_rules | `(tactic| walk_at "call builtin:dict.values") => `(tactic| (k_dflt (refine' kdl_view_values (knd := PySem.intKind _ _) ?F ?N ?m ?d ?l ?_; (case F => k_asm); (case N => k_asm); (case m => k_mem); (case d => assumption); (case l => assumption)); intro D' h' F' N' l1; (try k_lt l1)))
theorem prep_call (w : World) (prog : Program) (S : SS) (T₀ : List (Addr × Obj)) (hS : Srt prog w T₀ S) (hrd : S.rd = none) (hl : S.rows.length ≤ 64) (hsc : ∀ x ∈ S.rows.map (·.1), ∀ y ∈ S.sc x, y ∈ S.rows.map (·.1)) (n : Nat) (res : Option (List Int)) (hres : findL S.sc n (S.rows.map (·.1)) [] = some res) (hbig : ∀ c, res = some c → c ≠ [] ∧ c.length ≤ 1000) :
    CallX prog 11 w 92 [.ref S.sa] 55 T₀ (fun T' v => res = none ∧ v = .none ∧ ∃ ra, Srt prog w T' (S.newRd ra ((S.rows.map (·.1)).filter fun x => decide (S.np x = 0))) ∧ Keep S T₀ (S.newRd ra ((S.rows.map (·.1)).filter fun x => decide (S.np x = 0))) T')
      (fun T' => res ≠ none ∧ ∃ ra, Srt prog w T' (S.newRd ra ((S.rows.map (·.1)).filter fun x => decide (S.np x = 0))) ∧ Keep S T₀ (S.newRd ra ((S.rows.map (·.1)).filter fun x => decide (S.np x = 0))) T') := by
  have h1 := hS.inst
  refine hideG fun kG => ?_
  obtain ⟨k1, k2, k3, k4, t1, t2, h2⟩ := hS.dict
  refine kG ?_
  clear kG
  rw [hrd] at h2
  dsimp only [rdv] at h2
  refine hideG fun kG => ?_
  obtain ⟨o, hn, ho⟩ := hS.n2i
  refine kG ?_
  clear kG
  have hnosys := hS.nosys
  intro mean mg mb p0 loose dp un gd cn cs a ccd outer A₀ base h₀ L m s Q E B F X N T XB TB D hk hd hu ret exc
  refine wpAny_call ?_
  refine' code_defS (g₀ := h₀) B F X N T XB TB D KtsTurn.refl ?kA ?k6 ?k7 ?k8 ?k9 ?kB ?_ ?cK ?c2 ?c3 ?c4 ?c5
  (case kA => exact rfl); (case k6 => k_is); (case k7 => k_is); (case k8 => k_room); (case k9 => exact BindsTo.of_eq rfl); (case kB => exact locs rfl); (case cK => first | exact rfl | assumption); (case c2 => exact rfl); (case c3 => exact rfl); (case c4 => exact rfl); (case c5 => decide)
  k_whole
  intro g L' h' FG' F' N' B' X' T' D'
  try dsimp only
  try k_fold
  k_steps
  all_goals (try with_reducible refine kQ _ _ ?_)
  unfold held
  rename Fr _ _ _ _ => F6
  rename News _ _ _ _ => N6
  rename_i V _ lV'
  clear F' N'
  refine compV1 (knd := PySem.intKind _ _) (P := fun i ys T _ => T = (V, { cls := .type "dict_values", data := .fields #[.ref S.na] }) :: T₀ ∧ IntsAre ys (((S.rows.take i).map (·.1)).filter fun x => decide (S.np x = 0))) rfl (by decide) rfl F6 N6 (.head _) (.tail _ hn) ho ⟨rfl, .nil⟩ ?_ ?_
  · intro Dl C s' R hD hDC i v ys kk oC T own h tk₀ tk mC zr17 zr18 htk hsub hoff F₁ N₁ hnc
    refine hideG fun kG => ?_
    obtain ⟨xk, hv⟩ := zr17
    obtain ⟨rfl, hP⟩ := zr18
    refine kG ?_
    clear kG
    rw [List.getElem?_map, Option.map_eq_some_iff] at hv
    refine hideG fun kG => ?_
    obtain ⟨⟨x, ia, sl⟩, hr, hv⟩ := hv
    refine kG ?_
    clear kG
    cases hv
    have hil : i < S.rows.length := (List.getElem?_eq_some_iff.mp hr).1
    refine hideG fun kG => ?_
    obtain ⟨dx, tx, tv, hmi, hmd, hdt⟩ := hS.node _ (List.mem_of_getElem? hr)
    refine kG ?_
    clear kG
    dsimp only at hmi
    have hyl : ys.length ≤ 64 := by
      rw [hP.length]
      have h1 := List.length_filter_le (fun x => decide (S.np x = 0)) ((S.rows.take i).map (·.1))
      simp only [List.length_map, List.length_take] at h1; omega
    have hsz1 : ys.toArray.size ≤ sizeLine := by rw [sizeLine_eq]; simp; omega
    have hfil : (((S.rows.take (i + 1)).map (·.1)).filter fun x => decide (S.np x = 0)) = (((S.rows.take i).map (·.1)).filter fun x => decide (S.np x = 0)) ++ (if S.np x = 0 then [x] else []) := by
      rw [List.take_add_one, hr, List.map_append, List.filter_append]
      show _ ++ List.filter _ [x] = _
      congr 1
      simp only [List.filter_cons, List.filter_nil, decide_eq_true_eq]
    clear F6 N6
    refine assignC_name (C := C) rfl F₁ N₁ (Nat.ne_of_lt hDC) (fun p hp => hoff p hp _ (.tail _ (.head _))) hnc rfl rfl fun h3 oC3 F3 N3 hn3 => ?_
    clear F₁ N₁ hnc
    have hDC2 : @LT.lt Nat _ Dl C := hDC
    have hoffn : OwnOff (T₀ ++ own) [Dl, C] := fun p hp => hoff p (.tail _ hp)
    have hmi' := List.mem_append_left own hmi
    have hmd' := List.mem_append_left own hmd
    simp only [List.cons_append, List.nil_append] at N3
    refine wpAny_tests_one ?_
    k_steps
    all_goals (try with_reducible refine kQ _ _ ?_)
    · refine inner_append ?_
      k_steps
      all_goals (try with_reducible refine kQ _ _ ?_)
      rename Fr _ _ _ _ => F9
      rename News _ _ _ _ => N9
      rw [List.push_toArray] at N9
      refine ce_next (P := fun ys T _ => T = (V, { cls := .type "dict_values", data := .fields #[.ref S.na] }) :: T₀ ∧ IntsAre ys (((S.rows.take (i + 1)).map (·.1)).filter fun x => decide (S.np x = 0))) (ys ++ [.int x tx]) (kk + 1) oC3 F9 N9 ?_ ⟨_, hn3⟩ ⟨rfl, ?_⟩
      · walk_at "m sub"
      · rw [hfil, if_pos ‹_›]
        exact hP.append (.cons _ _ .nil)
    · rename Fr _ _ _ _ => F9
      rename News _ _ _ _ => N9
      refine ce_next (P := fun ys T _ => T = (V, { cls := .type "dict_values", data := .fields #[.ref S.na] }) :: T₀ ∧ IntsAre ys (((S.rows.take (i + 1)).map (·.1)).filter fun x => decide (S.np x = 0))) ys kk oC3 F9 N9 ?_ ⟨_, hn3⟩ ⟨rfl, ?_⟩
      · walk_at "m sub"
      · rw [hfil, if_neg ‹_›, List.append_nil]
        exact hP
  · rintro Dl C ys kk oC T h tk₀ tk hD hDC ⟨rfl, hP⟩ htk hsub hoff F₁ N₁ hnc
    refine comp_out F₁ N₁ hnc (Nat.ne_of_lt hDC) (fun p hp => hoff p hp _ (.tail _ (.head _))) fun h3 F3 N3 => ?_
    clear F6 N6 F₁ N₁
    have lDl : ∀ p ∈ (V, ({ cls := .type "dict_values", data := .fields #[.ref S.na] } : Obj)) :: T₀, p.1 ≠ Dl := fun p hp => Nat.ne_of_lt (hD p hp)
    have hS4 : Srt prog w ((Dl, listOf ys.toArray kk) :: (V, ({ cls := .type "dict_values", data := .fields #[.ref S.na] } : Obj)) :: T₀) S := hS.mono fun p hp => .tail _ (.tail _ hp)
    have hDl : S.tag Dl = none := (hS.mono fun p hp => .tail (V, ({ cls := .type "dict_values", data := .fields #[.ref S.na] } : Obj)) hp).fresh lDl
    have hda4 : (S.da, srtO w k1 k2 k3 k4 S.na .none (.int S.po t1) (.int S.fi t2)) ∈ (Dl, listOf ys.toArray kk) :: (V, ({ cls := .type "dict_values", data := .fields #[.ref S.na] } : Obj)) :: T₀ := .tail _ (.tail _ h2)
    replace N3 := news_off N3 hda4
    have h1' := mem_off.mpr ⟨show (S.sa, _) ∈ (Dl, listOf ys.toArray kk) :: (V, ({ cls := .type "dict_values", data := .fields #[.ref S.na] } : Obj)) :: T₀ from .tail _ (.tail _ h1), tag_ne hS.tsa hS.tda (fun e => nomatch e)⟩
    rw [show (S.rows.map fun r => (r.1, Value.ref r.2.1)).length = S.rows.length by simp, List.take_length] at hP
    k_steps
    all_goals (try with_reducible refine kQ _ _ ?_)
    unfold held
    rename Fr _ _ _ _ => F7
    rename News _ _ _ _ => N7
    have hS7 := hS4.newRd k1 k2 k3 k4 t1 t2 hrd hDl (.head _) hP
    generalize hT7 : (_ :: off S.da _ : List (Addr × Obj)) = T7 at N7 hS7
    refine' (find_call w prog _ _ hS7 hl hsc n res hres).use B' F7 X' N7 T' XB TB D' ?hk ?hd ?hu ?_
    (case hk => first | exact rfl | assumption); (case hd => ktr_room); (case hu => ktr_units)
    k_whole
    clear F7 N7 B' X' T' D'
    intro v8 T8 g8 h8 tk8 KT8 F8 N8 B8 X8 T8' D8 hr8
    have hK7 : Keep S T₀ (S.newRd Dl ((S.rows.map (·.1)).filter fun x => decide (S.np x = 0))) T7 := fun p hp e => ⟨hT7 ▸ .tail _ (mem_off.mpr ⟨.tail _ (.tail _ hp), fun q => by rw [q, hS.tda] at e; cases e⟩), by
      show (if p.1 = Dl then some Tg.ready else S.tag p.1) = none
      rw [if_neg (lDl p (.tail _ hp)), e]⟩
    cases res with
    | none =>
      obtain ⟨rfl, rfl⟩ := hr8
      k_steps
      all_goals (try with_reducible refine kQ _ _ ?_)
      rename Fr _ _ _ _ => F9
      rename News _ _ _ _ => N9
      rename KtsTurn (List.filterMap _ outer) _ _ => KT9
      rename Below A₀ _ _ _ => B9
      rename_i X9 P9 D9 _
      exact ret _ _ _ _ _ KT9 F9 N9 B9 X9 P9 D9 ⟨rfl, rfl, Dl, hS7, hK7⟩
    | some c =>
      refine hideG fun kG => ?_
      obtain ⟨q, vs, k, rfl, rfl, hq, hvs⟩ := hr8
      obtain ⟨hc1, hc2⟩ := hbig c rfl
      refine kG ?_
      clear kG
      have hvl := hvs.length
      have hvz : vs.length ≤ 1000 := by omega
      have hvn : vs ≠ [] := fun e => hc1 (List.length_eq_zero_iff.mp (by rw [← hvl, e]; rfl))
      k_steps
      all_goals (try with_reducible refine kQ _ _ ?_)
      rename RaisedS _ _ _ _ _ _ _ _ _ => R9
      rename Heap.UpToSlots _ _ => U9
      refine hideG fun kG => ?_
      obtain ⟨g', KT0, Fh, Bh, Xh, Th, Dh⟩ := turn_down B XB TB D FG' KT8
      refine kG ?_
      clear kG
      exact exc _ _ _ _ g' g8 _ _ KT0 Fh Bh Xh Th Dh R9 U9 ⟨(fun e => nomatch e), Dl, hS7.mono fun p hp => .tail _ hp, fun p hp e => ⟨.tail _ (hK7 p hp e).1, (hK7 p hp e).2⟩⟩


theorem regD7 : True := by
  k_with_none
  w_top off
  (k_with "m sub" => (first | ((repeat' (first | exact sub_nil | with_reducible refine sub_cons ?_ ?_ | with_reducible refine sub_app ?_ ?_)) <;> (first | k_mem | (intro p hp; k_mem))) | (intro p hp; simp only [List.cons_append, List.nil_append, List.append_assoc, List.mem_cons, List.mem_append, List.not_mem_nil, or_false, false_or, List.append_nil] at hp ⊢; grind)))
  (k_with "exec For" => (with_unfolding_all refine wpAny_For ?_ (by intro _; rfl)))
  (k_with "m call" => (refine wpAny_call ?_; (first | (k_dflt k_enter) | fail "no entry")))
  (k_with "compareOp In int ref" => (refine in_list_ints (isList_of (by k_asm) (by k_mem)) (by assumption) ?_))
  (k_with "compareOp NotIn int ref" => (refine notin_list_ints (isList_of (by k_asm) (by k_mem)) (by assumption) ?_))
  (k_with "compareOp Is int int" => (refine is_int (by assumption) (by assumption) (by assumption) ?_))
  (k_with "exec For Name Name cons nil" => (with_unfolding_all refine wpAny_For ?_ (by intro _; rfl)))
  (k_with "exec For Name Name" => (with_unfolding_all refine wpAny_For ?_ (by intro _; rfl)))
  (k_with "exec For Name List cons nil" => (with_unfolding_all refine wpAny_For ?_ (by intro _; rfl)))
  (k_with "exec For Name List" => (with_unfolding_all refine wpAny_For ?_ (by intro _; rfl)))
  (k_with "exec For Name Call cons nil" => (with_unfolding_all refine wpAny_For ?_ (by intro _; rfl)))
  (k_with "exec For Name Call" => (with_unfolding_all refine wpAny_For ?_ (by intro _; rfl)))
  (k_with "exec For Name BinOp cons nil" => (with_unfolding_all refine wpAny_For ?_ (by intro _; rfl)))
  (k_with "exec For Name BinOp" => (with_unfolding_all refine wpAny_For ?_ (by intro _; rfl)))
  (k_with "exec For Name Tuple cons nil" => (with_unfolding_all refine wpAny_For ?_ (by intro _; rfl)))
  (k_with "exec For Name Tuple" => (with_unfolding_all refine wpAny_For ?_ (by intro _; rfl)))
  (k_with "exec For Name Attribute cons nil" => (with_unfolding_all refine wpAny_For ?_ (by intro _; rfl)))
  (k_with "exec For Name Attribute" => (with_unfolding_all refine wpAny_For ?_ (by intro _; rfl)))
  (k_with "exec For Tuple Name cons nil" => (with_unfolding_all refine wpAny_For ?_ (by intro _; rfl)))
  (k_with "exec For Tuple Name" => (with_unfolding_all refine wpAny_For ?_ (by intro _; rfl)))
  (k_with "exec For Tuple List cons nil" => (with_unfolding_all refine wpAny_For ?_ (by intro _; rfl)))
  (k_with "exec For Tuple List" => (with_unfolding_all refine wpAny_For ?_ (by intro _; rfl)))
  (k_with "exec For Tuple Call cons nil" => (with_unfolding_all refine wpAny_For ?_ (by intro _; rfl)))
  (k_with "exec For Tuple Call" => (with_unfolding_all refine wpAny_For ?_ (by intro _; rfl)))
  (k_with "exec For Tuple BinOp cons nil" => (with_unfolding_all refine wpAny_For ?_ (by intro _; rfl)))
  (k_with "exec For Tuple BinOp" => (with_unfolding_all refine wpAny_For ?_ (by intro _; rfl)))
  (k_with "exec For Tuple Tuple cons nil" => (with_unfolding_all refine wpAny_For ?_ (by intro _; rfl)))
  (k_with "exec For Tuple Tuple" => (with_unfolding_all refine wpAny_For ?_ (by intro _; rfl)))
  (k_with "exec For Tuple Attribute cons nil" => (with_unfolding_all refine wpAny_For ?_ (by intro _; rfl)))
  (k_with "exec For Tuple Attribute" => (with_unfolding_all refine wpAny_For ?_ (by intro _; rfl)))
  (k_with "call builtin:len" => (k_dflt (refine' len_led ?w0qN ?w0qm ?w0qz ?_; (case w0qN => k_asm); (case w0qm => k_mem); (case w0qz => first | assumption | omega))))
  (k_with "subscriptTail Name Name ref int" => (k_dflt (refine' item_led ?w1qN ?w1qm ?w1qa ?w1qb ?w1qx ?_; (case w1qN => k_asm); (case w1qm => k_mem); (case w1qa => omega); (case w1qb => omega); (case w1qx => assumption))))
  (k_with "eval ListComp" => (k_dflt (refine comp_eval (by with_unfolding_all rfl) rfl (by decide) (by intro _; rfl) ?_)))
  (k_with "exec Assign cons ListComp" => (k_dflt (refine comp_assign (by with_unfolding_all rfl) (by with_unfolding_all rfl) rfl (by decide) (by intro _; rfl) ?_)))
  (k_with "eval Name" => ((with_reducible show wpAny _ _ (eval (Expr.Name _ _) (compEnvC _ _ _ _)) _ _ _); k_dflt (refine' ldC ?w2qN ?w2qm ?w2qn ?w2qv ?_ ?w2qa ?w2qb; (case w2qa => rfl); (case w2qb => rfl); (case w2qN => k_asm); (case w2qm => k_mem); (case w2qn => assumption); (case w2qv => with_unfolding_all rfl))))
  (k_with "call ref" => ((first | (with_reducible show wpAny _ _ (call (Value.ref 183) _) _ _ _) | (with_reducible show wpAny _ _ (call (Value.ref 190) _) _ _ _) | (with_reducible show wpAny _ _ (call (Value.ref 197) _) _ _ _) | (with_reducible show wpAny _ _ (call (Value.ref 204) _) _ _ _) | (with_reducible show wpAny _ _ (call (Value.ref 211) _) _ _ _) | (with_reducible show wpAny _ _ (call (Value.ref 218) _) _ _ _) | (with_reducible show wpAny _ _ (call (Value.ref 223) _) _ _ _) | (with_reducible show wpAny _ _ (call (Value.ref 228) _) _ _ _) | (with_reducible show wpAny _ _ (call (Value.ref 235) _) _ _ _) | (with_reducible show wpAny _ _ (call (Value.ref 80) _) _ _ _) | (with_reducible show wpAny _ _ (call (Value.ref 87) _) _ _ _) | (with_reducible show wpAny _ _ (call (Value.ref 92) _) _ _ _) | (with_reducible show wpAny _ _ (call (Value.ref 99) _) _ _ _) | (with_reducible show wpAny _ _ (call (Value.ref 106) _) _ _ _) | (with_reducible show wpAny _ _ (call (Value.ref 120) _) _ _ _) | (with_reducible show wpAny _ _ (call (Value.ref 127) _) _ _ _)); refine hold ?_))
  (k_with "m use" => ((try unfold held); (rename Call _ _ _ _ _ _ => hC); k_dflt (refine' Call.use hC ?w3qB ?w3qF ?w3qX ?w3qN ?w3qT ?w3qk ?w3qd ?w3qu ?_; (case w3qB => k_asm); (case w3qF => k_asm); (case w3qX => k_asm); (case w3qN => k_asm); (case w3qT => k_asm); (case w3qk => first | exact rfl | assumption); (case w3qd => ktr_room); (case w3qu => ktr_units)); clear hC))
  (k_with "m pure" => ((try unfold held); (rename Call _ _ _ _ _ _ => hC); k_dflt (refine' Call.pure hC ?w4qB ?w4qF ?w4qX ?w4qN ?w4qT ?w4qk ?w4qd ?w4qu ?_; (case w4qB => k_asm); (case w4qF => k_asm); (case w4qX => k_asm); (case w4qN => k_asm); (case w4qT => k_asm); (case w4qk => first | exact rfl | assumption); (case w4qd => ktr_room); (case w4qu => ktr_units)); clear hC))
  (k_with "subscriptTail Name Constant ref int" => (k_dflt (refine' item_led ?w5qN ?w5qm ?w5qa ?w5qb ?w5qx ?_; (case w5qN => k_asm); (case w5qm => k_mem); (case w5qa => omega); (case w5qb => omega); (case w5qx => first | assumption | rfl))))
  (k_with "compareOp Eq ref ref" => refine hold ?_)
  (k_with "pyIter ref" => refine hold ?_)
  (k_with "subscriptTail Name BinOp ref int" => (k_dflt (refine' item_led ?w1qN ?w1qm ?w1qa ?w1qb ?w1qx ?_; (case w1qN => k_asm); (case w1qm => k_mem); (case w1qa => omega); (case w1qb => omega); (case w1qx => assumption))))
  (k_with "compareOp NotEq ref ref" => refine hold ?_)
  (k_with "getMethod ref" => ((with_reducible show wpAny _ _ (getMethod (Value.ref _) (Str.ofString "get") _) _ _ _); k_dflt (refine' kdg_method (knd := PySem.intKind _ _) ?w6qN ?w6qm ?w6qd ?_; (case w6qN => k_asm); (case w6qm => k_mem); (case w6qd => assumption))))
  (k_with "call builtin:dict.get" => (k_dflt (refine' kdg_get1 (knd := PySem.intKind _ _) ?w7qN ?w7qm ?w7qd ?w7ql ?w7qk _ ?w7qx ?_; (case w7qN => k_asm); (case w7qm => k_mem); (case w7qd => assumption); (case w7ql => assumption); (case w7qk => exact intKind_is _ _ _ _); (case w7qx => assumption)); (try dsimp only [Option.getD])))
  (k_with "call builtin:len" => (k_dflt (refine' lenT_led ?w8qN ?w8qm ?w8qz ?_; (case w8qN => k_asm); (case w8qm => k_mem); (case w8qz => first | assumption | omega))))
  (k_with "call type:bool" => (k_dflt (refine' boolL_led ?w9qN ?w9qm ?w9qz ?_; (case w9qN => k_asm); (case w9qm => k_mem); (case w9qz => first | assumption | omega))))
  (k_with "subscriptTail Name Name ref int" => (k_dflt (refine' kda_item (knd := PySem.intKind _ _) ?w10qN ?w10qm ?w10qd (intKind_is _ _ _ _) ?w10qv ?_; (case w10qN => k_asm); (case w10qm => k_mem); (case w10qd => assumption); (case w10qv => assumption))))
  (k_with "subscriptTail Name Name ref int" => (k_dflt (refine' item_led ?w1qN ?w1qm ?w1qa ?w1qb ?w1qx ?_; (case w1qN => k_asm); (case w1qm => k_mem); (case w1qa => omega); (case w1qb => omega); (case w1qx => assumption))))
  (k_with "exec While Constant cons nil" => refine hold ?_)
  (k_with "exec While Constant" => refine hold ?_)
  (k_with "exec While Name cons cons" => refine hold ?_)
  (k_with "exec While Name" => refine hold ?_)
  (k_with "exec While" => refine hold ?_)
  (k_with "subscriptTail Name UnaryOp ref int" => (k_dflt (refine' last_led ?w11qN ?w11qm ?w11qx ?_; (case w11qN => k_asm); (case w11qm => k_mem); (case w11qx => first | assumption | exact List.getLast?_concat))))
  (k_with "truthy ref" => ((with_reducible show wpAny _ _ (truthy (Value.ref _)) _ _ _); k_dflt (refine' truthyL_led ?w12qN ?w12qm ?w12qz ?_; (case w12qN => k_asm); (case w12qm => k_mem); (case w12qz => first | assumption | omega))))
  (k_with "compareOp In int ref" => (k_dflt (refine' inset_led (knd := PySem.intKind _ _) ?w13qN ?w13qm ?w13qd ?w13qz (intKind_is _ _ _ _) rfl ?_; (case w13qN => k_asm); (case w13qm => k_mem); (case w13qd => assumption); (case w13qz => kse_small)); (try dsimp only)))
  (k_with "compareOp In int ref" => (k_dflt (refine' kda_in (knd := PySem.intKind _ _) ?w14qN ?w14qm ?w14qd ?w14ql (intKind_is _ _ _ _) _ ?w14qv ?_; (case w14qN => k_asm); (case w14qm => k_mem); (case w14qd => assumption); (case w14ql => assumption); (case w14qv => assumption))))
  (k_with "compareOp In int ref" => (k_dflt (refine' inset_b (knd := PySem.intKind _ _) ?w15qN ?w15qm ?w15qd ?w15qz (intKind_is _ _ _ _) rfl _ ?w15qv ?_; (case w15qN => k_asm); (case w15qm => k_mem); (case w15qd => assumption); (case w15qz => kse_small); (case w15qv => assumption))))
  (k_with "eval Call Attribute" => ((with_reducible show wpAny _ _ (eval (Expr.Call (Expr.Attribute _ _ _) [Expr.Starred _ _] [] _) _) _ _ _); refine starMethod_ ?_))
  (k_with "callWith ref" => ((with_reducible show wpAny _ _ (callWith _ (Value.ref _) _ (backTo _ (starEach [Expr.Starred _ _] _)) []) _ _ _); refine hold ?_))
  (k_with "exec Try" => refine hold ?_)
  trivial
noncomputable def RingV (T : List (Addr × Obj)) (v : Value) (r : Option (List Int)) : Prop := match r with
  | none => v = .none
  | some c => ∃ q vs k, v = .ref q ∧ (q, listOf vs.toArray k) ∈ T ∧ IntsAre vs c
theorem ring_end {T₀ T' : List (Addr × Obj)} {v : Value} {r : Option (List Int)} (h : resOk r T₀ T' v) : (∀ p ∈ T₀, p ∈ T') ∧ RingV T' v r ∧ ∀ p ∈ T', p ∈ T₀ ∨ ∀ q ∈ T₀, q.1 ≠ p.1 := by
  cases r with
  | none =>
    obtain ⟨rfl, rfl⟩ := h
    exact ⟨fun _ h => h, rfl, fun _ h => .inl h⟩
  | some c =>
    refine hideG fun kG => ?_
    obtain ⟨q, vs, k, rfl, rfl, hq, hi⟩ := h
    refine kG ?_
    clear kG
    refine ⟨fun _ h => .tail _ h, ⟨q, vs, k, rfl, .head _, hi⟩, fun p hp => ?_⟩
    rcases List.mem_cons.mp hp with e | hp
    · right
      intro q' hq'
      rw [e]; exact Nat.ne_of_lt (hq q' hq')
    · exact .inl hp
theorem ring_tu {prog : Program} {w : World} {S : SS} {T₀ T2 T8 : List (Addr × Obj)} {v : Value} {r : Option (List Int)} (h : resOk r T2 T8 v) (hS : Srt prog w T2 S) (h0 : ∀ p ∈ T₀, p ∈ T2 ∧ S.tag p.1 = none) : ∃ TU, (∀ p ∈ TU, p ∈ T8 ∧ S.tag p.1 = none) ∧ (∀ p ∈ T₀, p ∈ TU) ∧ RingV TU v r := by
  cases r with
  | none =>
    obtain ⟨rfl, rfl⟩ := h
    exact ⟨T₀, h0, fun _ h => h, rfl⟩
  | some c =>
    refine hideG fun kG => ?_
    obtain ⟨q, vs, k, rfl, rfl, hq, hi⟩ := h
    refine kG ?_
    clear kG
    refine ⟨(q, listOf vs.toArray k) :: T₀, fun p hp => ?_, fun _ h => .tail _ h, ⟨q, vs, k, rfl, .head _, hi⟩⟩
    rcases List.mem_cons.mp hp with e | hp
    · rw [e]; exact ⟨.head _, hS.fresh fun p hp => Nat.ne_of_lt (hq p hp)⟩
    · exact ⟨.tail _ (h0 p hp).1, (h0 p hp).2⟩
theorem raisedS_sub {base G : Heap} {l : List Env} {e t : Addr} {cls : Value} {vs : List Value} {news news' : List (Addr × Obj)} {h : Heap} (R : RaisedS base G l e cls t vs news h) (k : ∀ p ∈ news', p ∈ news) : RaisedS base G l e cls t vs news' h := by
  refine hideG fun kG => ?_
  obtain ⟨⟨B, h1, h2, h3, h4⟩, h5⟩ := R
  refine kG ?_
  clear kG
  exact ⟨⟨B, h1, h2, fun q hq => h3 q (k q hq), h4⟩, h5⟩
noncomputable def TJ (P : Flow → Shared → Prop) : Flow → Shared → Prop := P
noncomputable def SecV (v : Value) (r : Option (List Int)) : Prop := match r with
  | none => v = .none
  | some _ => ∃ t, v = .str (Str.ofString "refused") t
/-- the sorter and the answers ahead of round j -/
noncomputable def RnI (prog : Program) (w : World) (T₀ : List (Addr × Obj)) (sa la : Addr) (v8 v9 : Value) (ns : List Int) (ps : List (Int × Int)) (j : Nat) (T : List (Addr × Obj)) : Prop :=
  ∃ S TA vs k, Srt prog w T S ∧ S.sa = sa ∧ S.rows.map (·.1) = ns ∧ S.sc = succs ps ∧ (∃ ra, S.rd = some (ra, (sortAt ns ps j).2)) ∧ S.np = (sortAt ns ps j).1 ∧ S.po = S.fi ∧ (∀ p ∈ TA, p ∈ T ∧ S.tag p.1 = none ∧ p.1 ≠ la) ∧
    (la, listOf (v8 :: v9 :: vs).toArray k) ∈ T ∧ S.tag la = none ∧ (∀ p ∈ T₀, p ∈ TA) ∧ RingV TA v8 (ringOf ns ps) ∧ AnsIn TA vs (roundsOf ns ps j)
theorem RingV.mono {T T' : List (Addr × Obj)} {v : Value} {r : Option (List Int)} (h : RingV T v r) (k : ∀ p ∈ T, p ∈ T') : RingV T' v r := by
  cases r with
  | none => exact h
  | some c =>
    refine hideG fun kG => ?_
    obtain ⟨q, vs, n, e, hm, hi⟩ := h
    refine kG ?_
    clear kG
    exact ⟨q, vs, n, e, k _ hm, hi⟩
/-- behind prepare -/
theorem rn_start {prog : Program} {w : World} {T₀ T8 T9 : List (Addr × Obj)} {S : SS} {st : List (Int × Int)} {sa la ra : Addr} {v8 v9 : Value} {k : Nat} (hS : Srt prog w T8 S) (hT : Told S sa st) (hl : ∀ p ∈ T8, p.1 ≠ la)
    (hU : ∃ TU, (∀ p ∈ TU, p ∈ T8 ∧ S.tag p.1 = none) ∧ (∀ p ∈ T₀, p ∈ TU) ∧ RingV TU v8 (ringOf (namedOf st) (psOf st)))
    (hS9 : Srt prog w T9 (S.newRd ra ((S.rows.map (·.1)).filter fun x => decide (S.np x = 0)))) (hK9 : Keep S ((la, listOf [v8].toArray 0) :: T8) (S.newRd ra ((S.rows.map (·.1)).filter fun x => decide (S.np x = 0))) T9) :
    RnI prog w T₀ sa la v8 v9 (namedOf st) (psOf st) 0 ((la, listOf [v8, v9].toArray k) :: off la T9) := by
  refine hideG fun kG => ?_
  obtain ⟨TU, hU1, hU2, hU3⟩ := hU
  refine kG ?_
  clear kG
  have hla : S.tag la = none := hS.fresh hl
  have hla9 := hK9 (la, listOf [v8].toArray 0) (.head _) hla
  have sub : ∀ {p : Addr × Obj}, p ∈ TU → p ∈ off la T9 ∧ (S.newRd ra ((S.rows.map (·.1)).filter fun x => decide (S.np x = 0))).tag p.1 = none := fun {p} hp => by
    refine hideG fun kG => ?_
    obtain ⟨h1, h2⟩ := hU1 p hp
    obtain ⟨h3, h4⟩ := hK9 p (.tail _ h1) h2
    refine kG ?_
    clear kG
    exact ⟨mem_off.mpr ⟨h3, hl p h1⟩, h4⟩
  refine ⟨_, TU, [], k, (hS9.offI hla9.2).mono fun p hp => .tail _ hp, hT.sa, hT.keys, hT.sc, ⟨ra, ?_⟩, hT.np, hT.po.trans hT.fi.symm, fun p hp => ⟨.tail _ (sub hp).1, (sub hp).2, (mem_off.mp (sub hp).1).2⟩, .head _, hla9.2, hU2, hU3, .nil⟩
  show some (ra, _) = some (ra, _)
  rw [hT.keys, hT.np]
  rfl
/-- what _law_told gives back -/
noncomputable def ToldR (T₀ : List (Addr × Obj)) (ns : List Int) (ps : List (Int × Int)) (T' : List (Addr × Obj)) (v : Value) : Prop :=
  ∃ la v8 v9 vs k, v = .ref la ∧ (la, listOf (v8 :: v9 :: vs).toArray k) ∈ T' ∧ (∀ p ∈ T₀, p ∈ T') ∧ SecV v9 (ringOf ns ps) ∧ RingV T' v8 (ringOf ns ps) ∧ AnsIn T' vs (roundsOf ns ps (ns.length + 1))
theorem told_call (w : World) (prog : Program) (f : Tok → Int) (st : Addr) (svs : List Value) (k : Nat) (steps : List (Int × Int)) (tz : Tok) (T₀ : List (Addr × Obj)) (hst : (st, listOf svs.toArray k) ∈ T₀) (hps : PairsIn (Okv f) T₀ svs steps) (hin : ∀ p ∈ steps, StIn p) (hlen : steps.length ≤ 12) :
    CallS prog 14 w 235 [.ref st, .int (namedOf steps).length tz] T₀ (ToldR T₀ (namedOf steps) (psOf steps)) := by
  intro mean mg mb p0 loose dp un gd cn cs a ccd outer A₀ base h₀ L m s Q E B F X N T XB TB D hk hd hu ret
  refine wpAny_call ?_
  refine' code_defS (g₀ := h₀) B F X N T XB TB D KtsTurn.refl ?kA ?k6 ?k7 ?k8 ?k9 ?kB ?_ ?cK ?c2 ?c3 ?c4 ?c5
  (case kA => exact rfl); (case k6 => k_is); (case k7 => k_is); (case k8 => k_room); (case k9 => exact BindsTo.of_eq rfl); (case kB => exact locs rfl); (case cK => first | exact rfl | assumption); (case c2 => exact rfl); (case c3 => exact rfl); (case c4 => exact rfl); (case c5 => decide)
  k_whole
  intro g L' h' FG' F' N' B' X' T' D'
  try dsimp only
  try k_fold
  k_steps
  all_goals (try with_reducible refine kQ _ _ ?_)
  unfold held
  rename Fr g _ _ _ => F6
  rename News g _ _ _ => N6
  rename_i x' d1 _ l1 lx _ _ _ _ _ _ _ d' _ o' lo' _ _ hi' _ ld _ _ _ _ _ _ _ _ _ _
  generalize hT1 : (_ :: _ :: _ :: T₀ : List (Addr × Obj)) = T1 at N6
  have hlx : ∀ p ∈ T₀, p.1 ≠ x' := fun p hp => Nat.ne_of_lt (Nat.lt_trans (ltF l1 p hp) lx)
  have hl1 : ∀ p ∈ T₀, p.1 ≠ d1 := fun p hp => Nat.ne_of_lt (ltF l1 p hp)
  have hld : ∀ p ∈ T₀, p.1 ≠ d' := fun p hp => Nat.ne_of_lt (ltA ld.2.2 p hp)
  have nx1 : d1 ≠ x' := Nat.ne_of_lt lx
  have nxd : x' ≠ d' := Nat.ne_of_lt ld.1
  have n1d : d1 ≠ d' := Nat.ne_of_lt ld.2.1
  refine hideG fun kG => ?_
  obtain ⟨S0, hS0⟩ : ∃ S0 : SS, S0 = ⟨x', d1, d', [], fun _ => 0, fun _ => [], none, 0, 0, fun a => if a = x' then some .inst else if a = d1 then some .dict else if a = d' then some .n2i else none⟩ := ⟨_, rfl⟩
  refine kG ?_
  clear kG
  have hT01 : ∀ p ∈ T₀, p ∈ T1 := fun p hp => by rw [← hT1]; exact .tail _ (.tail _ (.tail _ hp))
  have hK0 : ∀ p ∈ T₀, S0.tag p.1 = none := fun p hp => by rw [hS0]; simp [hlx p hp, hl1 p hp, hld p hp]
  have hSr : Srt prog w T1 S0 := by
    rw [← hT1, hS0]
    exact {
      inst := .tail _ (.head _)
      dict := ⟨_, _, _, _, _, _, .tail _ (.tail _ (.head _))⟩
      n2i := ⟨o', .head _, hi'⟩
      nosys := lo'
      node := fun r hr => nomatch hr
      succ := fun r hr => nomatch hr
      ready := fun ra l e => nomatch e
      keys := .nil
      tsa := by simp
      tda := by simp [nx1]
      tna := by simp [Ne.symm nxd, Ne.symm n1d]
      trd := fun ra l e => nomatch e
      tnode := fun r hr => nomatch hr
      dom := fun b hb => by
        by_cases q1 : b = x'
        · rw [q1]; exact ⟨_, .tail _ (.head _)⟩
        · by_cases q2 : b = d1
          · rw [q2]; exact ⟨_, .tail _ (.tail _ (.head _))⟩
          · by_cases q3 : b = d'
            · rw [q3]; exact ⟨_, .head _⟩
            · simp [q1, q2, q3] at hb }
  have hTd0 : Told S0 x' [] := by
    rw [hS0]
    exact ⟨rfl, rfl, rfl, rfl, rfl, rfl, rfl⟩
  have hvl : svs.length = steps.length := hps.length
  refine iterListM (vs := svs) (k := k) (fun i m T tk => m (Str.ofString "sorter") = some (.ref x') ∧ m (Str.ofString "size") = some (.int (namedOf steps).length tz) ∧ ∃ Si, Srt prog w T Si ∧ Keep S0 T1 Si T ∧ Told Si x' (steps.take i)) _ rfl F6 N6 (hT01 _ hst) ⟨by with_unfolding_all rfl, by with_unfolding_all rfl, S0, hSr, Keep.refl _ _, hTd0⟩ ?_ ?_
  · intro I hI i v m₁ T2 own h7 tk₀ tk7 hv zr11 htk hTI hown hIo F₁ N₁
    refine hideG fun kG => ?_
    obtain ⟨hm1, hm2, Si, hSi, hKi, hAi⟩ := zr11
    obtain ⟨tp, x, y, u, v', nn, rfl, hpi, htp, hu, hv'⟩ := hps.get hv
    obtain ⟨tx, rfl, _⟩ := id hu
    obtain ⟨ty, rfl, _⟩ := id hv'
    refine kG ?_
    clear kG
    (try refine opq fun PQ kQ => ?_)
    have hil : i < steps.length := (List.getElem?_eq_some_iff.mp hpi).1
    have hIt : Si.tag I = none := hSi.fresh hTI
    have hSo : Srt prog w (T2 ++ own) Si := hSi.mono fun p hp => List.mem_append_left _ hp
    have hin2 := hSo.inst
    refine hideG fun kG => ?_
    obtain ⟨_, _, _, _, _, _, hdi⟩ := hSo.dict
    refine kG ?_
    clear kG
    have hsi := hin (x, y) (List.mem_of_getElem? hpi)
    have hkt := named_facts (steps.take i) fun p hp => hin p (List.mem_of_mem_take hp)
    have hnl := namedOf_len (steps.take i)
    have hrl : Si.rows.length ≤ 60 := by
      have h3 := congrArg List.length hAi.keys
      simp only [List.length_map, List.length_take] at h3 hnl; omega
    have hzi : ∀ z, z ∉ Si.rows.map (·.1) → Si.np z = 0 ∧ Si.sc z = [] := fun z hz => by
      rw [hAi.np, hAi.sc]; rw [hAi.keys] at hz
      exact none_named hkt.2.2 hz
    have hsl : ∀ z, (Si.sc z).length ≤ 500 := fun z => by
      rw [hAi.sc]
      have h1 := succs_len (psOf (steps.take i)) z
      have h2 := psOf_len (steps.take i)
      simp only [List.length_take] at h2; omega
    have hsa := hAi.sa
    have htk1 : steps.take (i + 1) = steps.take i ++ [(x, y)] := by rw [List.take_add_one, hpi]; rfl
    have F₂ := fr_pin2 F₁ hm1 hm2
    have htp1 := (hKi _ (hT01 _ htp) (hK0 _ htp)).1
    clear F6 N6 F₁
    refine assign_pair rfl F₂ N₁ (n := nn) (List.mem_append_left _ htp1) rfl rfl rfl fun h3 F3 N3 => ?_
    clear F₂ N₁
    rw [← hsa] at F3
    k_steps
    all_goals (try with_reducible refine kQ _ _ ?_)
    · (try unfold held); k_dflt (refine' CallM.use (add_call w prog Si (T2 ++ own) hSo y ty [] [] .nil (by simp; omega) hAi.rd hzi hsl) ?B ?F ?X ?N ?T ?k ?d ?u ?_; (case B => k_asm); (case F => k_asm); (case X => k_asm); (case N => k_asm); (case T => k_asm); (case k => first | exact rfl | assumption); (case d => ktr_room); (case u => ktr_units); skip)
      intro v T5 h8 tk8 F8 N8 zr6
      refine hideG fun kG => ?_
      obtain ⟨rfl, S5, hS5, hK5, hA5⟩ := zr6
      refine kG ?_
      clear kG
      clear F3 N3
      k_steps
      all_goals (try with_reducible refine kQ _ _ ?_)
      rename Fr g _ _ _ => F9
      rename News g _ _ _ => N9
      obtain ⟨oI, hIo⟩ := hIo
      have hstt : Si.tag st = none := (hKi _ (hT01 _ hst) (hK0 _ hst)).2
      refine ⟨_, _, _, off I T5, _, rfl, F9, N9, fun p hp => (mem_off.mp hp).1, ?_, ?_, by rw [← hsa]; with_unfolding_all rfl, by with_unfolding_all rfl, S5, hS5.offI (hK5 _ (List.mem_append_right _ hIo) hIt).2, keep_end hKi hTI hK5, ?_⟩
      · intro p hp
        refine (hK5 p (List.mem_append_right _ hp) ?_).1
        rcases hown p hp with e | e
        · rw [e]; exact hIt
        · rw [e]; exact hstt
      · intro p hp hb
        exact (mem_off.mp hp).2 (List.mem_singleton.mp hb)
      · rw [htk1]
        have hx0 : ¬ 0 ≤ x := by omega
        refine hAi.snoc hsi.2.2.1 ?_
        rw [if_neg hx0]; exact hA5
    · (try unfold held); k_dflt (refine' CallM.use (add_call w prog Si (T2 ++ own) hSo y ty [.int x tx] [x] (.cons _ _ .nil) (by simp; omega) hAi.rd hzi hsl) ?B ?F ?X ?N ?T ?k ?d ?u ?_; (case B => k_asm); (case F => k_asm); (case X => k_asm); (case N => k_asm); (case T => k_asm); (case k => first | exact rfl | assumption); (case d => ktr_room); (case u => ktr_units); skip)
      intro v T5 h8 tk8 F8 N8 zr6
      refine hideG fun kG => ?_
      obtain ⟨rfl, S5, hS5, hK5, hA5⟩ := zr6
      refine kG ?_
      clear kG
      clear F3 N3
      k_steps
      all_goals (try with_reducible refine kQ _ _ ?_)
      rename Fr g _ _ _ => F9
      rename News g _ _ _ => N9
      obtain ⟨oI, hIo⟩ := hIo
      have hstt : Si.tag st = none := (hKi _ (hT01 _ hst) (hK0 _ hst)).2
      refine ⟨_, _, _, off I T5, _, rfl, F9, N9, fun p hp => (mem_off.mp hp).1, ?_, ?_, by rw [← hsa]; with_unfolding_all rfl, by with_unfolding_all rfl, S5, hS5.offI (hK5 _ (List.mem_append_right _ hIo) hIt).2, keep_end hKi hTI hK5, ?_⟩
      · intro p hp
        refine (hK5 p (List.mem_append_right _ hp) ?_).1
        rcases hown p hp with e | e
        · rw [e]; exact hIt
        · rw [e]; exact hstt
      · intro p hp hb
        exact (mem_off.mp hp).2 (List.mem_singleton.mp hb)
      · rw [htk1]
        have hx0 : 0 ≤ x := by omega
        refine hAi.snoc hsi.2.2.1 ?_
        rw [if_pos hx0]; exact hA5
  · intro I hI m₁ T2 h7 tk₀ tk7 zr7 htk hTI F₁ N₁
    refine hideG fun kG => ?_
    obtain ⟨hm1, hm2, Si, hSi, hKi, hAi⟩ := zr7
    refine kG ?_
    clear kG
    rw [hvl, List.take_length] at hAi
    have F₂ := fr_pin2 F₁ hm1 hm2
    have hsa := hAi.sa
    rw [← hsa] at F₂
    have hin2 := hSi.inst
    refine hideG fun kG => ?_
    obtain ⟨k1, k2, k3, k4, t1, t2, hdi⟩ := hSi.dict
    refine kG ?_
    clear kG
    clear F6 N6 F₁
    k_steps
    all_goals (try with_reducible refine kQ _ _ ?_)
    unfold held
    rename Fr _ _ _ _ => F7
    rename News _ _ _ _ => N7
    refine hideG fun kG => ?_
    obtain ⟨hnd, hn6, hpp⟩ := named_facts steps hin
    refine kG ?_
    clear kG
    have hnl12 := namedOf_len steps
    have hrl := congrArg List.length hAi.keys
    simp only [List.length_map] at hrl
    have hsc : ∀ x ∈ Si.rows.map (·.1), ∀ y ∈ Si.sc x, y ∈ Si.rows.map (·.1) := fun x _ y hy => by
      rw [hAi.sc] at hy
      rw [hAi.keys]
      exact (hpp _ (mem_succs.mp hy)).2
    obtain ⟨nf, hnf⟩ := find_ring hpp hn6
    have hnf' : findL Si.sc nf (Si.rows.map (·.1)) [] = some (ringOf (namedOf steps) (psOf steps)) := by rw [hAi.keys, hAi.sc]; exact hnf
    refine' (find_call w prog Si T2 hSi (by omega) hsc nf _ hnf').use B' F7 X' N7 T' XB TB D' ?hk ?hd ?hu ?_
    (case hk => first | exact rfl | assumption); (case hd => ktr_room); (case hu => ktr_units)
    k_whole
    intro v8 T8 g8 h8 tk8 KT8 F8 N8 B8 X8 T8' D8 hr8
    have hU := ring_tu (T₀ := T₀) hr8 hSi fun p hp => hKi p (hT01 p hp) (hK0 p hp)
    refine hideG fun kG => ?_
    obtain ⟨hT8, hRV, hR0⟩ := ring_end hr8
    refine kG ?_
    clear kG
    have hS8 := hSi.mono hT8
    have hK8 : Keep S0 T1 Si T8 := fun p hp e => ⟨hT8 p (hKi p hp e).1, (hKi p hp e).2⟩
    have hin8 := hS8.inst
    refine hideG fun kG => ?_
    obtain ⟨k1, k2, k3, k4, t1, t2, hdi8⟩ := hS8.dict
    refine kG ?_
    clear kG
    clear F7 N7 hr8 hdi hin2
    k_steps
    all_goals (try with_reducible refine kQ _ _ ?_)
    unfold held
    rename Fr _ _ _ _ => F9
    rename News _ _ _ _ => N9
    rename ∀ p ∈ T8, p.1 < _ => lla
    rename_i la _ _
    have hlla : ∀ p ∈ T8, p.1 ≠ la := fun p hp => Nat.ne_of_lt (lla p hp)
    have hlat : Si.tag la = none := hS8.fresh hlla
    refine wpAny_mono (Q := TJ fun f s₁ => f = Flow.next ∧ ∃ g9 h9 tk9 T9 m9 la v9, s₁ = { s with heap := h9, toks := tk9 } ∧ KtsTurn ((envOf cn cs L a ccd :: outer).filterMap (·.frame)) g g9 ∧ Fr g9 L' h9 m9 ∧ News g9 L' h9 T9 ∧ Below (ktrTop dp un gd cn cs L a ccd [] outer) base (envOf cn cs L a ccd :: outer) g9 ∧ (Mine.hd.heap_1 w.params).In g9 ∧ Top p0 loose mean mg mb g9 ∧ KtsDicts ((envOf cn cs L a ccd :: outer).filterMap (·.frame)) g9 ∧
      m9 (Str.ofString "sorter") = some (.ref x') ∧ m9 (Str.ofString "size") = some (.int (namedOf steps).length tz) ∧ m9 (Str.ofString "answers") = some (.ref la) ∧ SecV v9 (ringOf (namedOf steps) (psOf steps)) ∧ RnI prog w T₀ x' la v8 v9 (namedOf steps) (psOf steps) 0 T9) ?_ ?_ (fun _ _ e => e)
    · refine wpAny_Try_except ?_
      have hSla : Srt prog w ((la, listOf [v8].toArray 0) :: T8) Si := hS8.mono fun p hp => .tail _ hp
      have hina := hSla.inst
      have hdia := List.mem_cons_of_mem (la, listOf [v8].toArray 0) hdi8
      have hz1 : [v8].toArray.size ≤ sizeLine := by rw [sizeLine_eq]; simp
      k_steps
      all_goals (try with_reducible refine kQ _ _ ?_)
      unfold held
      rename Fr _ _ _ _ => F10
      rename News _ _ _ _ => N10
      refine' (prep_call w prog Si ((la, listOf [v8].toArray 0) :: T8) hSla hAi.rd (by omega) hsc nf _ hnf' ?hbig).use B8 F10 X8 N10 T8' XB TB D8 ?hk ?hd ?hu ?_ ?_
      (case hbig =>
        intro c hc
        obtain ⟨h1, h2⟩ := ringOf_out hc
        exact ⟨h1, by omega⟩)
      (case hk => first | exact rfl | assumption); (case hd => ktr_room); (case hu => ktr_units)
      all_goals k_whole
      · intro v9 T9 g9 h9 tk9 KT9 F11 N11 B9 X9 T9' D9 zr12
        refine hideG fun kG => ?_
        obtain ⟨hr0, rfl, ra, hS9, hK9⟩ := zr12
        refine kG ?_
        clear kG
        have hla9 := hK9 (la, listOf [v8].toArray 0) (.head _) hlat
        replace N11 := news_off N11 hla9.1
        have hoff : ∀ p ∈ off la T9, p.1 ≠ la := off_ne
        clear F10 N10
        k_steps
        all_goals (try with_reducible refine kQ _ _ ?_)
        rename Fr _ _ _ _ => F12
        rename News _ _ _ _ => N12
        rw [List.push_toArray] at N12
        refine ⟨rfl, g9, _, _, _, _, la, .none, rfl, KT8.trans KT9, F12, N12, B9, X9, T9', D9, by rw [← hsa]; with_unfolding_all rfl, by with_unfolding_all rfl, by with_unfolding_all rfl, by rw [hr0]; rfl, rn_start hS8 hAi hlla hU hS9 hK9⟩
      · intro e t vs9 T9 g9 G9 h9 tk9 KT9 F11 B9 X9 T9' D9 R9 U9 zr16
        refine hideG fun kG => ?_
        obtain ⟨hr0, ra, hS9, hK9⟩ := zr16
        refine kG ?_
        clear kG
        have hla9 := hK9 (la, listOf [v8].toArray 0) (.head _) hlat
        replace R9 := raisedS_sub (news' := (la, listOf [v8].toArray 0) :: off la T9) R9 fun p hp => by
          rcases List.mem_cons.mp hp with e | hp
          · rw [e]; exact hla9.1
          · exact (mem_off.mp hp).1
        have hoff : ∀ p ∈ off la T9, p.1 ≠ la := off_ne
        clear F10 N10
        k_steps
        all_goals (try with_reducible refine kQ _ _ ?_)
        rename Fr _ _ _ _ => F12
        rename News _ _ _ ((la, _) :: off la T9) => N12
        rename_i _ g10 _ T10 _ K10 X10 P10 D10 _ _
        rw [List.push_toArray] at N12
        refine ⟨rfl, g10, _, _, _, _, la, _, rfl, KT8.trans T10, F12, N12, K10, X10, P10, D10, by rw [← hsa]; with_unfolding_all rfl, by with_unfolding_all rfl, by with_unfolding_all rfl, ?_, rn_start hS8 hAi hlla hU hS9 hK9⟩
        cases hq : ringOf (namedOf steps) (psOf steps) with
        | none => exact absurd hq hr0
        | some c => exact ⟨_, rfl⟩
    · intro fl s₁ zr2
      refine hideG fun kG => ?_
      obtain ⟨rfl, g9, h9, tk9, T9, m9, la, v9, rfl, KT9, F10, N10, B9, X9, T9', D9, m1, m2, m3, hsv, hrn⟩ := zr2
      refine kG ?_
      clear kG
      have F11 := fr_pin3 F10 m1 m2 m3
      clear F10 F9 N9
      k_steps
      all_goals (try with_reducible refine kQ _ _ ?_)
      unfold held
      rename Fr _ _ _ _ => F12
      rename News _ _ _ _ => N12
      rename IsRange _ _ _ _ _ _ _ _ => hr
      have hn24 : (namedOf steps).length ≤ 24 := by omega
      refine iterRangeM (n := (namedOf steps).length + 1) (fun j m T tk => m (Str.ofString "sorter") = some (.ref x') ∧ m (Str.ofString "size") = some (.int (namedOf steps).length tz) ∧ m (Str.ofString "answers") = some (.ref la) ∧ RnI prog w T₀ x' la v8 v9 (namedOf steps) (psOf steps) j T) _ rfl hr (by omega) F12 N12 ⟨by with_unfolding_all rfl, by with_unfolding_all rfl, by with_unfolding_all rfl, hrn⟩ ?_ ?_
      · intro I2 hI2 j tj m₂ T2' own2 h10 tk₁ tk10 hj zr11 htk2 hTI2 hown2 hIo2 F13 N13
        refine hideG fun kG => ?_
        obtain ⟨q1, q2, q3, S, TA, vs, kk, hS, hSa, hkeys, hscs, ⟨ra, hrd⟩, hnp, hpo, hTA, hla, hlat2, hT0, hRV2, hAns⟩ := zr11
        obtain ⟨hsp1, hsp2⟩ := sortAt_spec hnd hpp hn6 j
        refine kG ?_
        clear kG
        (try refine opq fun PQ kQ => ?_)
        have hso := sortAt_out hnd hpp hn6 j
        have hstep : sortAt (namedOf steps) (psOf steps) (j + 1) = roundS (succs (psOf steps)) (sortAt (namedOf steps) (psOf steps) j) := rfl
        have hmr := mem_roundAt hpp hn6 j
        have hndr : (roundAt (namedOf steps) (psOf steps) j).Nodup := readyOf_nodup _ _
        have hrl2 := row_len (psOf steps) _ hndr
        have hpl := psOf_len steps
        have hl24 : (roundAt (namedOf steps) (psOf steps) j).length ≤ 24 := Nat.le_trans (nodup_len hndr fun x hx => ((hmr x).mp hx).1) hn24
        have hro := roundsOf_succ (namedOf steps) (psOf steps) j
        have hrn2 : (roundsOf (namedOf steps) (psOf steps) j).length = j := by simp [roundsOf]
        rw [hsp1] at hrd hso
        have hmk : ∀ x ∈ roundAt (namedOf steps) (psOf steps) j, x ∈ S.rows.map (·.1) := fun x hx => by rw [hkeys]; exact ((hmr x).mp hx).1
        have hscc : ∀ x ∈ S.rows.map (·.1), ∀ y ∈ S.sc x, y ∈ S.rows.map (·.1) := fun x _ y hy => by
          rw [hscs] at hy
          rw [hkeys]
          exact (hpp _ (mem_succs.mp hy)).2
        have hIt2 : S.tag I2 = none := hS.fresh hTI2
        have hSo : Srt prog w (T2' ++ own2) S := hS.mono fun p hp => List.mem_append_left _ hp
        have hi1 := hSo.inst
        refine hideG fun kG => ?_
        obtain ⟨b1, b2, b3, b4, c1, c2, hd1⟩ := hSo.dict
        refine kG ?_
        clear kG
        have F14 := fr_pin3 F13 q1 q2 q3
        rw [← hSa] at F14
        clear F12 N12 F13 B8 X8 T8' D8 B' X' T' D'
        k_steps
        all_goals (try with_reducible refine kQ _ _ ?_)
        (try unfold held); k_dflt (refine' CallM.use (active_call w prog S (T2' ++ own2) hSo ra _ hrd (by omega) (by omega)) ?B ?F ?X ?N ?T ?k ?d ?u ?_; (case B => k_asm); (case F => k_asm); (case X => k_asm); (case N => k_asm); (case T => k_asm); (case k => first | exact rfl | assumption); (case d => ktr_room); (case u => ktr_units); skip)
        rintro v T3 h11 tk11 F15 N15 ⟨rfl, rfl⟩
        clear F14 N13
        k_steps
        all_goals (try with_reducible refine kQ _ _ ?_)
        (try unfold held); k_dflt (refine' CallM.use (ready_call w prog S (T2' ++ own2) hSo ra _ hrd (by omega) hmk) ?B ?F ?X ?N ?T ?k ?d ?u ?_; (case B => k_asm); (case F => k_asm); (case X => k_asm); (case N => k_asm); (case T => k_asm); (case k => first | exact rfl | assumption); (case d => ktr_room); (case u => ktr_units); skip)
        intro v T5 h12 tk12 F16 N16 zr6
        refine hideG fun kG => ?_
        obtain ⟨R, vr, S5, rfl, hR5, hvr, hS5, hRt, hK5, hA5, hRf⟩ := zr6
        refine kG ?_
        clear kG
        have hla5 := hK5 _ (List.mem_append_left _ hla) hlat2
        have hRla : R ≠ la := Ne.symm (hRf _ (List.mem_append_left _ hla))
        have hi5 := hS5.inst
        refine hideG fun kG => ?_
        obtain ⟨b1, b2, b3, b4, c1, c2, hd5⟩ := hS5.dict
        refine kG ?_
        clear kG
        have hsa5 : S.sa = S5.sa := by rw [hA5]
        rw [hsa5] at F16
        have hsc5 : S5.sc = succs (psOf steps) := by rw [hA5]; exact hscs
        have hrd5 : S5.rd = some (ra, []) := by rw [hA5]
        have hnp5 : S5.np = outAll (sortAt (namedOf steps) (psOf steps) j).1 (roundAt (namedOf steps) (psOf steps) j) := by rw [hA5, ← hnp]
        have hrow5 : S5.rows = S.rows := by rw [hA5]
        have hvrl := hvr.length
        k_steps
        all_goals (try with_reducible refine kQ _ _ ?_)
        unfold held
        rename Fr _ _ _ _ => F17
        rename News _ _ _ _ => N17
        rename_i qb _ _
        have hS6 : Srt prog w ((qb, methodObj (.ref 120) (.ref S5.sa)) :: T5) S5 := hS5.mono fun p hp => .tail _ hp
        refine star_bound (K := Mine.hd.heap_1 w.params) X9 (by k_is) F17 N17 (.head _) (.tail _ hR5) (by omega) ?_ ?_
        · intro Q' hq
          k_steps
          all_goals (try with_reducible refine kQ _ _ ?_)
          exact hq
        · intro h13 F18 N18
          refine (done_code w prog S5 _ hS6 ra [] hrd5 vr (roundAt (namedOf steps) (psOf steps) j) hvr (by omega) (by rw [hrow5]; exact hmk) (by rw [hrow5, hsc5, ← hscs]; exact hscc) (by rw [hsc5]; simp only [List.length_nil]; omega) (by rw [hsc5, hnp5]; exact hso)) _ _ _ _ _ _ _ _ _ _ _ _ _ _ _ _ _ _ _ _ _ _ B9 F18 X9 N18 T9' ?hk ?hd ?hu ?ret ?exc
          (case hk => first | exact rfl | assumption); (case hd => ktr_room); (case hu => ktr_units)
          (case exc => exact fun _ _ _ _ _ _ h => h.elim)
          intro v T7 h14 tk14 F19 N19 zr6
          refine hideG fun kG => ?_
          obtain ⟨rfl, S7, hS7, hK7, hA7⟩ := zr6
          refine kG ?_
          clear kG
          have hla7 := hK7 _ (.tail _ hla5.1) hla5.2
          replace N19 := news_off N19 hla7.1
          have hoff : ∀ p ∈ off la T7, p.1 ≠ la := off_ne
          have hal := hAns.length
          have hcl : (v8 :: v9 :: vs).length ≤ 1000 := by simp only [List.length_cons]; omega
          clear F17 N17 F18 N18
          k_steps
          all_goals (try with_reducible refine kQ _ _ ?_)
          rename Fr _ _ _ _ => F20
          rename News _ _ _ _ => N20
          obtain ⟨oI2, hIo2⟩ := hIo2
          have hK57 : Keep S (T2' ++ own2) S7 T7 := hK5.trans fun p hp e => hK7 p (.tail _ hp) e
          have hI7 := hK57 _ (List.mem_append_right _ hIo2) hIt2
          have hlaI : la ≠ I2 := hTI2 _ hla
          have hown7 : ∀ p ∈ own2, p ∈ off la T7 := fun p hp => by
            have e := hown2 p hp
            refine mem_off.mpr ⟨(hK57 p (List.mem_append_right _ hp) (by rw [e]; exact hIt2)).1, by rw [e]; exact Ne.symm hlaI⟩
          have hR7 := hK7 _ (.tail _ hR5) hRt
          have hRI : R ≠ I2 := Ne.symm (hRf _ (List.mem_append_right _ hIo2))
          have hTAI : ∀ p ∈ TA, p.1 ≠ I2 := fun p hp => hTI2 _ (hTA p hp).1
          have keepA : ∀ p ∈ (R, tupO vr) :: TA, p ∈ T7 ∧ S7.tag p.1 = none ∧ p.1 ≠ la ∧ p.1 ≠ I2 := fun p hp => by
            rcases List.mem_cons.mp hp with e | hp
            · rw [e]; exact ⟨hR7.1, hR7.2, hRla, hRI⟩
            · have h1 := hK57 p (List.mem_append_left _ (hTA p hp).1) (hTA p hp).2.1
              exact ⟨h1.1, h1.2, (hTA p hp).2.2, hTAI p hp⟩
          refine ⟨_, _, _, off I2 _, _, rfl, F20, N20, fun p hp => (mem_off.mp hp).1, fun p hp => .tail _ (.tail _ (hown7 p hp)), fun p hp hb => (mem_off.mp hp).2 (List.mem_singleton.mp hb), by rw [← hSa, hsa5]; with_unfolding_all rfl, by with_unfolding_all rfl, by with_unfolding_all rfl, S7, (R, tupO vr) :: TA, vs ++ [.bool (decide (roundAt (namedOf steps) (psOf steps) j ≠ [])), .ref R], kk + 1, ?_, ?_, ?_, ?_, ⟨ra, ?_⟩, ?_, ?_, fun p hp => ?_, ?_, ?_, fun p hp => .tail _ (hT0 p hp), hRV2.mono fun p hp => .tail _ hp, ?_⟩
          · exact hS7.sub fun p hp e => mem_off.mpr ⟨.tail _ (.tail _ (mem_off.mpr ⟨hp, fun q => e (by rw [q]; exact hla7.2)⟩)), fun q => e (by rw [q]; exact hI7.2)⟩
          · rw [hA7]; exact hsa5.symm.trans hSa
          · rw [hA7]; show S5.rows.map (·.1) = _; rw [hrow5]; exact hkeys
          · rw [hA7]; exact hsc5
          · rw [hA7, hstep, roundS, hsp1, hsc5, hnp5]
          · rw [hA7, hstep, roundS, hsp1, hsc5, hnp5]
          · rw [hA7]
            show S5.po = S5.fi + _
            rw [hA5]
            show S.po + _ = S.fi + _
            rw [hpo]
          · refine hideG fun kG => ?_
            obtain ⟨a1, a2, a3, a4⟩ := keepA p hp
            refine kG ?_
            clear kG
            exact ⟨mem_off.mpr ⟨.tail _ (.tail _ (mem_off.mpr ⟨a1, a3⟩)), a4⟩, a2, a3⟩
          · exact mem_off.mpr ⟨.tail _ (.head _), hlaI⟩
          · exact hla7.2
          · rw [hro]
            exact (hAns.mono fun p hp => .tail _ hp).push (.head _) hvr
      · intro I2 hI2 m₂ T2' h10 tk₁ tk10 zr7 htk2 hTI2 F13 N13
        refine hideG fun kG => ?_
        obtain ⟨q1, q2, q3, hrn2⟩ := zr7
        refine kG ?_
        clear kG
        have F14 := fr_pin3 F13 q1 q2 q3
        clear F12 N12 F13 B8 X8 T8' D8 B' X' T' D'
        k_steps
        all_goals (try with_reducible refine kQ _ _ ?_)
        rename Fr _ _ _ _ => F15
        rename News _ _ _ _ => N15
        rename KtsTurn (List.filterMap _ outer) _ _ => KT15
        rename Below A₀ _ _ _ => B15
        rename_i X15 P15 D15 _
        refine hideG fun kG => ?_
        obtain ⟨S, TA, vs, kk, hS, hSa, hkeys, hscs, hrd, hnp, hpo, hTA, hla, hlat2, hT0, hRV2, hAns⟩ := hrn2
        refine kG ?_
        clear kG
        have hTA' : ∀ p ∈ TA, p ∈ T2' := fun p hp => (hTA p hp).1
        exact ret _ _ _ _ _ KT15 F15 N15 B15 X15 P15 D15 ⟨la, v8, v9, vs, kk, rfl, hla, fun p hp => hTA' p (hT0 p hp), hsv, hRV2.mono hTA', hAns.mono hTA'⟩


theorem regD8 : True := by
  k_with_none
  w_top off
  (k_with "m sub" => (first | ((repeat' (first | exact sub_nil | with_reducible refine sub_cons ?_ ?_ | with_reducible refine sub_app ?_ ?_)) <;> (first | k_mem | (intro p hp; k_mem))) | (intro p hp; simp only [List.cons_append, List.nil_append, List.append_assoc, List.mem_cons, List.mem_append, List.not_mem_nil, or_false, false_or, List.append_nil] at hp ⊢; grind)))
  (k_with "exec For" => (with_unfolding_all refine wpAny_For ?_ (by intro _; rfl)))
  (k_with "m call" => (refine wpAny_call ?_; (first | (k_dflt k_enter) | fail "no entry")))
  (k_with "compareOp In int ref" => (refine in_list_ints (isList_of (by k_asm) (by k_mem)) (by assumption) ?_))
  (k_with "compareOp NotIn int ref" => (refine notin_list_ints (isList_of (by k_asm) (by k_mem)) (by assumption) ?_))
  (k_with "compareOp Is int int" => (refine is_int (by assumption) (by assumption) (by assumption) ?_))
  (k_with "exec For Name Name cons nil" => (with_unfolding_all refine wpAny_For ?_ (by intro _; rfl)))
  (k_with "exec For Name Name" => (with_unfolding_all refine wpAny_For ?_ (by intro _; rfl)))
  (k_with "exec For Name List cons nil" => (with_unfolding_all refine wpAny_For ?_ (by intro _; rfl)))
  (k_with "exec For Name List" => (with_unfolding_all refine wpAny_For ?_ (by intro _; rfl)))
  (k_with "exec For Name Call cons nil" => (with_unfolding_all refine wpAny_For ?_ (by intro _; rfl)))
  (k_with "exec For Name Call" => (with_unfolding_all refine wpAny_For ?_ (by intro _; rfl)))
  (k_with "exec For Name BinOp cons nil" => (with_unfolding_all refine wpAny_For ?_ (by intro _; rfl)))
  (k_with "exec For Name BinOp" => (with_unfolding_all refine wpAny_For ?_ (by intro _; rfl)))
  (k_with "exec For Name Tuple cons nil" => (with_unfolding_all refine wpAny_For ?_ (by intro _; rfl)))
  (k_with "exec For Name Tuple" => (with_unfolding_all refine wpAny_For ?_ (by intro _; rfl)))
  (k_with "exec For Name Attribute cons nil" => (with_unfolding_all refine wpAny_For ?_ (by intro _; rfl)))
  (k_with "exec For Name Attribute" => (with_unfolding_all refine wpAny_For ?_ (by intro _; rfl)))
  (k_with "exec For Tuple Name cons nil" => (with_unfolding_all refine wpAny_For ?_ (by intro _; rfl)))
  (k_with "exec For Tuple Name" => (with_unfolding_all refine wpAny_For ?_ (by intro _; rfl)))
  (k_with "exec For Tuple List cons nil" => (with_unfolding_all refine wpAny_For ?_ (by intro _; rfl)))
  (k_with "exec For Tuple List" => (with_unfolding_all refine wpAny_For ?_ (by intro _; rfl)))
  (k_with "exec For Tuple Call cons nil" => (with_unfolding_all refine wpAny_For ?_ (by intro _; rfl)))
  (k_with "exec For Tuple Call" => (with_unfolding_all refine wpAny_For ?_ (by intro _; rfl)))
  (k_with "exec For Tuple BinOp cons nil" => (with_unfolding_all refine wpAny_For ?_ (by intro _; rfl)))
  (k_with "exec For Tuple BinOp" => (with_unfolding_all refine wpAny_For ?_ (by intro _; rfl)))
  (k_with "exec For Tuple Tuple cons nil" => (with_unfolding_all refine wpAny_For ?_ (by intro _; rfl)))
  (k_with "exec For Tuple Tuple" => (with_unfolding_all refine wpAny_For ?_ (by intro _; rfl)))
  (k_with "exec For Tuple Attribute cons nil" => (with_unfolding_all refine wpAny_For ?_ (by intro _; rfl)))
  (k_with "exec For Tuple Attribute" => (with_unfolding_all refine wpAny_For ?_ (by intro _; rfl)))
  (k_with "call builtin:len" => (k_dflt (refine' len_led ?w0qN ?w0qm ?w0qz ?_; (case w0qN => k_asm); (case w0qm => k_mem); (case w0qz => first | assumption | omega))))
  (k_with "subscriptTail Name Name ref int" => (k_dflt (refine' item_led ?w1qN ?w1qm ?w1qa ?w1qb ?w1qx ?_; (case w1qN => k_asm); (case w1qm => k_mem); (case w1qa => omega); (case w1qb => omega); (case w1qx => assumption))))
  (k_with "eval ListComp" => (k_dflt (refine comp_eval (by with_unfolding_all rfl) rfl (by decide) (by intro _; rfl) ?_)))
  (k_with "exec Assign cons ListComp" => (k_dflt (refine comp_assign (by with_unfolding_all rfl) (by with_unfolding_all rfl) rfl (by decide) (by intro _; rfl) ?_)))
  (k_with "eval Name" => ((with_reducible show wpAny _ _ (eval (Expr.Name _ _) (compEnvC _ _ _ _)) _ _ _); k_dflt (refine' ldC ?w2qN ?w2qm ?w2qn ?w2qv ?_ ?w2qa ?w2qb; (case w2qa => rfl); (case w2qb => rfl); (case w2qN => k_asm); (case w2qm => k_mem); (case w2qn => assumption); (case w2qv => with_unfolding_all rfl))))
  (k_with "call ref" => ((first | (with_reducible show wpAny _ _ (call (Value.ref 183) _) _ _ _) | (with_reducible show wpAny _ _ (call (Value.ref 190) _) _ _ _) | (with_reducible show wpAny _ _ (call (Value.ref 197) _) _ _ _) | (with_reducible show wpAny _ _ (call (Value.ref 204) _) _ _ _) | (with_reducible show wpAny _ _ (call (Value.ref 211) _) _ _ _) | (with_reducible show wpAny _ _ (call (Value.ref 218) _) _ _ _) | (with_reducible show wpAny _ _ (call (Value.ref 223) _) _ _ _) | (with_reducible show wpAny _ _ (call (Value.ref 228) _) _ _ _) | (with_reducible show wpAny _ _ (call (Value.ref 235) _) _ _ _) | (with_reducible show wpAny _ _ (call (Value.ref 80) _) _ _ _) | (with_reducible show wpAny _ _ (call (Value.ref 87) _) _ _ _) | (with_reducible show wpAny _ _ (call (Value.ref 92) _) _ _ _) | (with_reducible show wpAny _ _ (call (Value.ref 99) _) _ _ _) | (with_reducible show wpAny _ _ (call (Value.ref 106) _) _ _ _) | (with_reducible show wpAny _ _ (call (Value.ref 120) _) _ _ _) | (with_reducible show wpAny _ _ (call (Value.ref 127) _) _ _ _)); refine hold ?_))
  (k_with "m use" => ((try unfold held); (rename Call _ _ _ _ _ _ => hC); k_dflt (refine' Call.use hC ?w3qB ?w3qF ?w3qX ?w3qN ?w3qT ?w3qk ?w3qd ?w3qu ?_; (case w3qB => k_asm); (case w3qF => k_asm); (case w3qX => k_asm); (case w3qN => k_asm); (case w3qT => k_asm); (case w3qk => first | exact rfl | assumption); (case w3qd => ktr_room); (case w3qu => ktr_units)); clear hC))
  (k_with "m pure" => ((try unfold held); (rename Call _ _ _ _ _ _ => hC); k_dflt (refine' Call.pure hC ?w4qB ?w4qF ?w4qX ?w4qN ?w4qT ?w4qk ?w4qd ?w4qu ?_; (case w4qB => k_asm); (case w4qF => k_asm); (case w4qX => k_asm); (case w4qN => k_asm); (case w4qT => k_asm); (case w4qk => first | exact rfl | assumption); (case w4qd => ktr_room); (case w4qu => ktr_units)); clear hC))
  (k_with "subscriptTail Name Constant ref int" => (k_dflt (refine' item_led ?w5qN ?w5qm ?w5qa ?w5qb ?w5qx ?_; (case w5qN => k_asm); (case w5qm => k_mem); (case w5qa => omega); (case w5qb => omega); (case w5qx => first | assumption | rfl))))
  (k_with "compareOp Eq ref ref" => refine hold ?_)
  (k_with "pyIter ref" => refine hold ?_)
  (k_with "subscriptTail Name BinOp ref int" => (k_dflt (refine' item_led ?w1qN ?w1qm ?w1qa ?w1qb ?w1qx ?_; (case w1qN => k_asm); (case w1qm => k_mem); (case w1qa => omega); (case w1qb => omega); (case w1qx => assumption))))
  (k_with "compareOp NotEq ref ref" => refine hold ?_)
  (k_with "getMethod ref" => ((with_reducible show wpAny _ _ (getMethod (Value.ref _) (Str.ofString "get") _) _ _ _); k_dflt (refine' kdg_method (knd := PySem.intKind _ _) ?w6qN ?w6qm ?w6qd ?_; (case w6qN => k_asm); (case w6qm => k_mem); (case w6qd => assumption))))
  (k_with "call builtin:dict.get" => (k_dflt (refine' kdg_get1 (knd := PySem.intKind _ _) ?w7qN ?w7qm ?w7qd ?w7ql ?w7qk _ ?w7qx ?_; (case w7qN => k_asm); (case w7qm => k_mem); (case w7qd => assumption); (case w7ql => assumption); (case w7qk => exact intKind_is _ _ _ _); (case w7qx => assumption)); (try dsimp only [Option.getD])))
  (k_with "call builtin:len" => (k_dflt (refine' lenT_led ?w8qN ?w8qm ?w8qz ?_; (case w8qN => k_asm); (case w8qm => k_mem); (case w8qz => first | assumption | omega))))
  (k_with "call type:bool" => (k_dflt (refine' boolL_led ?w9qN ?w9qm ?w9qz ?_; (case w9qN => k_asm); (case w9qm => k_mem); (case w9qz => first | assumption | omega))))
  (k_with "subscriptTail Name Name ref int" => (k_dflt (refine' kda_item (knd := PySem.intKind _ _) ?w10qN ?w10qm ?w10qd (intKind_is _ _ _ _) ?w10qv ?_; (case w10qN => k_asm); (case w10qm => k_mem); (case w10qd => assumption); (case w10qv => assumption))))
  (k_with "subscriptTail Name Name ref int" => (k_dflt (refine' item_led ?w1qN ?w1qm ?w1qa ?w1qb ?w1qx ?_; (case w1qN => k_asm); (case w1qm => k_mem); (case w1qa => omega); (case w1qb => omega); (case w1qx => assumption))))
  (k_with "exec While Constant cons nil" => refine hold ?_)
  (k_with "exec While Constant" => refine hold ?_)
  (k_with "exec While Name cons cons" => refine hold ?_)
  (k_with "exec While Name" => refine hold ?_)
  (k_with "exec While" => refine hold ?_)
  (k_with "subscriptTail Name UnaryOp ref int" => (k_dflt (refine' last_led ?w11qN ?w11qm ?w11qx ?_; (case w11qN => k_asm); (case w11qm => k_mem); (case w11qx => first | assumption | exact List.getLast?_concat))))
  (k_with "truthy ref" => ((with_reducible show wpAny _ _ (truthy (Value.ref _)) _ _ _); k_dflt (refine' truthyL_led ?w12qN ?w12qm ?w12qz ?_; (case w12qN => k_asm); (case w12qm => k_mem); (case w12qz => first | assumption | omega))))
  (k_with "compareOp In int ref" => (k_dflt (refine' inset_led (knd := PySem.intKind _ _) ?w13qN ?w13qm ?w13qd ?w13qz (intKind_is _ _ _ _) rfl ?_; (case w13qN => k_asm); (case w13qm => k_mem); (case w13qd => assumption); (case w13qz => kse_small)); (try dsimp only)))
  (k_with "compareOp In int ref" => (k_dflt (refine' kda_in (knd := PySem.intKind _ _) ?w14qN ?w14qm ?w14qd ?w14ql (intKind_is _ _ _ _) _ ?w14qv ?_; (case w14qN => k_asm); (case w14qm => k_mem); (case w14qd => assumption); (case w14ql => assumption); (case w14qv => assumption))))
  (k_with "compareOp In int ref" => (k_dflt (refine' inset_b (knd := PySem.intKind _ _) ?w15qN ?w15qm ?w15qd ?w15qz (intKind_is _ _ _ _) rfl _ ?w15qv ?_; (case w15qN => k_asm); (case w15qm => k_mem); (case w15qd => assumption); (case w15qz => kse_small); (case w15qv => assumption))))
  (k_with "binaryOp Add ref ref" => refine hold ?_)
  trivial
section
variable {prog : Program} {w : World} {A : Around} {E : Value → Shared → Prop} {s : Shared} {h₀ : Heap} {L a b : Addr} {m : Str → Option Value} {news : List (Addr × Obj)} {xs ys : List Value} {k1 k2 : Nat} {Q : Value → Shared → Prop}
theorem add_led (F : Fr h₀ L s.heap m) (N : News h₀ L s.heap news) (ha : (a, listOf xs.toArray k1) ∈ news) (hb : (b, listOf ys.toArray k2) ∈ news) (hz : xs.length + ys.length ≤ 1000)
    (h : ∀ D h', Fr h₀ L h' m → News h₀ L h' ((D, listOf (xs ++ ys).toArray 0) :: news) → (∀ p ∈ news, p.1 < D) → Q (.ref D) { s with heap := h' }) : wpAny (model prog w) A (binaryOp .Add (.ref a) (.ref b)) Q E s :=
  kmk_add_lit F N (isList_of N ha) (isList_of N hb) (by simp) h (by rw [sizeLine_eq]; simp; omega)
end
/-! the two answers as data -/
noncomputable def ringD : Option (List Int) → PyData
  | none => .none
  | some c => .list (c.map .int)
noncomputable def secD : Option (List Int) → PyData
  | none => .none
  | some _ => .str (Str.ofString "refused")
noncomputable def ansD : List (List Int) → List PyData
  | [] => []
  | r :: rs => .bool (decide (r ≠ [])) :: .tuple (r.map .int) :: ansD rs
noncomputable def dueD (r : Option (List Int)) (rs : List (List Int)) : PyData := .list (ringD r :: secD r :: ansD rs)
theorem ints_dat {h : Heap} {vs : List Value} {l : List Int} (hi : IntsAre vs l) : ∃ as, ReadsAll h vs (l.map .int) as := by
  induction hi with
  | nil => exact ⟨_, .nil⟩
  | cons n t _ ih =>
    obtain ⟨as, ih⟩ := ih
    exact ⟨_, .cons (.int n t) ih⟩
section
variable {h₀ h : Heap} {L : Addr} {T : List (Addr × Obj)} (N : News h₀ L h T)
include N
theorem ring_dat {v : Value} {r : Option (List Int)} (hr : RingV T v r) : ∃ as, Reads h v (ringD r) as := by
  cases r with
  | none => rw [show v = .none from hr]; exact ⟨_, .none⟩
  | some c =>
    refine hideG fun kG => ?_
    obtain ⟨q, vs, k, rfl, hm, hi⟩ := hr
    obtain ⟨as, hi⟩ := ints_dat (h := h) hi
    refine kG ?_
    clear kG
    exact ⟨_, reads_list_at (N _ hm).1 rfl rfl (by simpa using hi)⟩
omit N in
theorem sec_dat {v : Value} {r : Option (List Int)} (hr : SecV v r) : ∃ as, Reads h v (secD r) as := by
  cases r with
  | none => rw [show v = .none from hr]; exact ⟨_, .none⟩
  | some c =>
    obtain ⟨t, rfl⟩ := hr
    exact ⟨_, .str _ t⟩
theorem ans_dat {vs : List Value} {rs : List (List Int)} (hr : AnsIn T vs rs) : ∃ as, ReadsAll h vs (ansD rs) as := by
  induction hr with
  | nil => exact ⟨_, .nil⟩
  | cons hm hi _ ih =>
    refine hideG fun kG => ?_
    obtain ⟨as, ih⟩ := ih
    obtain ⟨bs, hi⟩ := ints_dat (h := h) hi
    refine kG ?_
    clear kG
    exact ⟨_, .cons (.bool _) (.cons (reads_tuple_at (N _ hm).1 rfl rfl (by simpa using hi)) ih)⟩
theorem due_dat {la : Addr} {v8 v9 : Value} {vs : List Value} {k : Nat} {r : Option (List Int)} {rs : List (List Int)} (hm : (la, listOf (v8 :: v9 :: vs).toArray k) ∈ T) (h1 : RingV T v8 r) (h2 : SecV v9 r) (h3 : AnsIn T vs rs) : ∃ as, Reads h (.ref la) (dueD r rs) as := by
  refine hideG fun kG => ?_
  obtain ⟨a1, h1⟩ := ring_dat N h1
  obtain ⟨a2, h2⟩ := sec_dat (h := h) h2
  obtain ⟨a3, h3⟩ := ans_dat N h3
  refine kG ?_
  clear kG
  exact ⟨_, reads_list_at (N _ hm).1 rfl rfl (by simpa using ReadsAll.cons h1 (.cons h2 h3))⟩
end
theorem ints_lay (l : List Int) : PyData.canLayAll0 (l.map .int) = true ∧ PyData.depthAll (l.map .int) = 0 := by
  induction l with
  | nil => exact ⟨rfl, rfl⟩
  | cons x r ih => simp [PyData.canLayAll0, PyData.canLay0, PyData.depthAll, PyData.depth, ih.1, ih.2]
theorem ans_lay (rs : List (List Int)) : PyData.canLayAll0 (ansD rs) = true ∧ PyData.depthAll (ansD rs) ≤ 1 := by
  induction rs with
  | nil => exact ⟨rfl, Nat.zero_le _⟩
  | cons r rs ih =>
    obtain ⟨a, b⟩ := ints_lay r
    simp only [ansD, PyData.canLayAll0, PyData.canLay0, PyData.depthAll, PyData.depth, a, b, ih.1, Bool.and_self, true_and]
    have := ih.2
    omega
theorem due_shaped (r : Option (List Int)) (rs : List (List Int)) : SeqAt.shaped (dueD r rs) = true := by
  obtain ⟨a, b⟩ := ans_lay rs
  have hr : (ringD r).canLay0 = true ∧ (ringD r).depth ≤ 1 := by
    cases r with
    | none => exact ⟨rfl, Nat.zero_le _⟩
    | some c =>
      obtain ⟨a, b⟩ := ints_lay c
      exact ⟨by simp only [ringD, PyData.canLay0, a], by simp only [ringD, PyData.depth, b]; omega⟩
  have hs : (secD r).canLay0 = true ∧ (secD r).depth = 0 := by
    cases r with
    | none => exact ⟨rfl, rfl⟩
    | some c => exact ⟨by show PyData.strOk _ = true; decide +kernel, rfl⟩
  unfold SeqAt.shaped dueD
  simp only [PyData.canLay0, PyData.canLayAll0, PyData.depth, PyData.depthAll, hr.1, hs.1, hs.2, a, Bool.and_self, Bool.true_and, decide_eq_true_eq]
  have := hr.2
  omega
theorem due_same (r : Option (List Int)) (rs : List (List Int)) : PyData.eqv (dueD r rs) (dueD r rs) = true := SeqAt.eqv_refl _ (SeqAt.canLay_of_shaped (due_shaped r rs))
/-- the two answers are one -/
theorem due_eq {prog : Program} {w : World} {A : Around} {E : Value → Shared → Prop} {s : Shared} {h₀ : Heap} {L la lb : Addr} {T : List (Addr × Obj)} {v8 v9 u8 u9 : Value} {vs us : List Value} {k1 k2 : Nat} {r : Option (List Int)} {rs : List (List Int)} {Q : Value → Shared → Prop} (N : News h₀ L s.heap T)
    (ha : (la, listOf (v8 :: v9 :: vs).toArray k1) ∈ T) (h1 : RingV T v8 r) (h2 : SecV v9 r) (h3 : AnsIn T vs rs) (hb : (lb, listOf (u8 :: u9 :: us).toArray k2) ∈ T) (g1 : RingV T u8 r) (g2 : SecV u9 r) (g3 : AnsIn T us rs) (hu : A.units + 64 < cLine) (h : Q (.bool true) s) :
    wpAny (model prog w) A (compareOp .Eq (.ref la) (.ref lb)) Q E s := by
  refine hideG fun kG => ?_
  obtain ⟨as, ra⟩ := due_dat N ha h1 h2 h3
  obtain ⟨bs, rb⟩ := due_dat N hb g1 g2 g3
  refine kG ?_
  clear kG
  exact eq_dataH ra rb (due_shaped r rs) (due_shaped r rs) hu (by rw [due_same]; exact h)
theorem back_base {h₀ g h : Heap} {L : Addr} {m : Str → Option Value} {T : List (Addr × Obj)} (KT : KtsTurn [] h₀ g) (F : Fr g L h m) (N : News g L h T) : Fr h₀ L h m ∧ News h₀ L h T := by
  refine ⟨⟨F.ns, fun b o e => F.keep b o (KT.other b o e (fun q => nomatch q)), by rw [← KT.size]; exact F.above⟩, fun p hp => ⟨(N p hp).1, (N p hp).2.1, ?_⟩⟩
  cases e : h₀.get? p.1 with
  | none => rfl
  | some o => have := KT.other _ _ e (fun q => nomatch q); rw [(N p hp).2.2] at this; cases this
theorem fin : PySem.Challenge.rw_mq0333_01.Holds := hd (by
  k_go0
  all_goals try k_fold
  k_steps
  all_goals (try with_reducible refine kQ _ _ ?_)
  unfold held
  rename IntsAre _ _ => hI
  rename Heap.IsList _ _ _ => hL
  rename News _ _ _ [] => N0
  rename Below callerA _ [] _ => K0
  rename ¬ _ < _ => hc
  rename Fr _ _ _ _ => F0
  rename (Mine.hd.heap_1 _).In _ => KX
  rename Top _ _ _ _ _ _ => T0
  k_dflt (refine' steps_call _ _ _ hL hI ?hn K0 F0 KX N0 T0 ?hk ?hd ?hu ?_)
  (case hn => omega)
  (case hk => exact rfl)
  (case hd => ktr_room)
  (case hu => ktr_units)
  intro v add h1 tk1 F1 N1 hfr1 zr7
  refine hideG fun kG => ?_
  obtain ⟨f, st, svs, k1, rfl, hst, hps⟩ := zr7
  refine kG ?_
  clear kG
  rw [List.append_nil] at N1
  rename World => w
  rename List Int => ns
  refine hideG fun kG => ?_
  obtain ⟨hnd, hn6, hpp⟩ := named_facts (stepsOf ns) (stepsOf_in ns)
  refine kG ?_
  clear kG
  have hs12 := stepsOf_len ns
  have hnl := namedOf_len (stepsOf ns)
  have hpl := psOf_len (stepsOf ns)
  have hsin := stepsOf_in ns
  have hp6 : ∀ p ∈ psOf (stepsOf ns), In6 p.1 ∧ In6 p.2 := fun p hp => ⟨hn6 _ (hpp p hp).1, hn6 _ (hpp p hp).2⟩
  generalize stepsOf ns = sts at hps hnd hn6 hpp hs12 hnl hpl hsin hp6
  k_steps
  all_goals (try with_reducible refine kQ _ _ ?_)
  (try unfold held); k_dflt (refine' Call.use (named_call w f st svs k1 sts add hst hps (by omega)) ?zB ?zF ?zX ?zN ?zT ?zk ?zd ?zu ?_; (case zB => k_asm); (case zF => k_asm); (case zX => k_asm); (case zN => k_asm); (case zT => k_asm); (case zk => first | exact rfl | assumption); (case zd => ktr_room); (case zu => ktr_units); skip)
  intro v add2 h2 tk2 F2 N2 hfr2 zr7
  refine hideG fun kG => ?_
  obtain ⟨ln, nvs, k2, rfl, hln, hnI⟩ := zr7
  refine kG ?_
  clear kG
  k_steps
  all_goals (try with_reducible refine kQ _ _ ?_)
  rename Fr _ _ _ _ => F3
  rename News _ _ _ _ => N3
  have hst3 : (st, listOf svs.toArray k1) ∈ add2 ++ add := List.mem_append_right _ hst
  refine comp1 (P := fun j ys T _ => PairsIn (Okv f) T ys (psOf (sts.take j)) ∧ ys.length ≤ j) rfl (by decide) rfl F3 N3 hst3 ⟨.nil, Nat.le_refl _⟩ ?_ ?_
  · intro D C s' R hD hDC i v ys kk oC T own h tk₀ tk mC hv zr18 htk hsub hoff F₁ N₁ hn
    refine hideG fun kG => ?_
    obtain ⟨hP, hyl⟩ := zr18
    obtain ⟨tp, x, y, u, v', nn, rfl, hpi, htp, hu, hv'⟩ := hps.get hv
    refine kG ?_
    clear kG
    have htp' := hsub.1 _ (List.mem_append_right _ htp)
    refine hideG fun kG => ?_
    obtain ⟨tx, rfl, _⟩ := id hu
    obtain ⟨ty, rfl, _⟩ := id hv'
    refine kG ?_
    clear kG
    clear F3 N3
    refine assignC_pair (C := C) rfl rfl F₁ N₁ (Nat.ne_of_lt hDC) (fun p hp => hoff p hp _ (.tail _ (.head _))) hn (n := nn) (List.mem_append_left _ htp') rfl rfl rfl fun h3 oC3 F4 N4 hn3 => ?_
    clear F₁ N₁ hn
    have hil : i < sts.length := (List.getElem?_eq_some_iff.mp hpi).1
    have hsz1 : ys.toArray.size ≤ sizeLine := by rw [sizeLine_eq]; simp; omega
    have hDC2 : @LT.lt Nat _ D C := hDC
    have e1 : psOf (sts.take (i + 1)) = psOf (sts.take i) ++ (if 0 ≤ x then [(x, y)] else []) := by
      rw [List.take_add_one, hpi]; exact psOf_snoc _ _
    refine wpAny_tests_one ?_
    k_steps
    all_goals (try with_reducible refine kQ _ _ ?_)
    · refine inner_append ?_
      k_steps
      all_goals (try with_reducible refine kQ _ _ ?_)
      rename Fr _ _ _ _ => F9
      rename News _ _ _ _ => N9
      rename _ ∧ _ ∧ AllLt _ _ => lt9
      rename_i Dn _ _
      rw [List.push_toArray] at N9
      have hall := lt_of_allLt lt9.2.2
      rw [if_pos ‹_›] at e1
      refine ce_more (P := fun ys T _ => PairsIn (Okv f) T ys (psOf (sts.take (i + 1))) ∧ ys.length ≤ i + 1) (ys ++ [.ref Dn]) (kk + 1) oC3 [(Dn, tupO [.int x tx, .int y ty])] F9 N9 ?_ ?_ ?_ ⟨_, hn3⟩ ⟨?_, by simp; omega⟩
      · walk_at "m sub"
      · intro q hq b hb
        rw [List.mem_singleton.mp hq]
        rcases List.mem_cons.mp hb with e | hb
        · rw [e]; exact Nat.ne_of_gt lt9.1
        · rw [List.mem_singleton.mp hb]; exact Nat.ne_of_gt lt9.2.1
      · intro q hq p hp
        rw [List.mem_singleton.mp hq]; exact hall p hp
      · rw [e1]
        exact (hP.mono fun p hp => .tail _ hp).push (.head _) hu hv'
    · rename Fr _ _ _ _ => F9
      rename News _ _ _ _ => N9
      rw [if_neg ‹_›, List.append_nil] at e1
      refine ce_next (P := fun ys T _ => PairsIn (Okv f) T ys (psOf (sts.take (i + 1))) ∧ ys.length ≤ i + 1) ys kk oC3 F9 N9 ?_ ⟨_, hn3⟩ ⟨by rw [e1]; exact hP, by omega⟩
      walk_at "m sub"
  · rintro D C ys kk oC T h tk₀ tk hD hDC ⟨hP, hyl⟩ htk hsub hoff F₁ N₁ hn
    refine comp_store rfl F₁ N₁ hn (Nat.ne_of_lt hDC) (fun p hp => hoff p hp _ (.tail _ (.head _))) rfl rfl fun h3 F4 N4 => ?_
    clear F3 N3 F₁ N₁
    rw [hps.length, List.take_length] at hP
    have hln4 : (ln, listOf nvs.toArray k2) ∈ (D, listOf ys.toArray kk) :: T := .tail _ (hsub.1 _ (List.mem_append_left _ hln))
    have hst4 : (st, listOf svs.toArray k1) ∈ (D, listOf ys.toArray kk) :: T := .tail _ (hsub.1 _ hst3)
    have hD4 : (D, listOf ys.toArray kk) ∈ (D, listOf ys.toArray kk) :: T := .head _
    have hP4 : PairsIn (Okv f) ((D, listOf ys.toArray kk) :: T) ys (psOf sts) := hP.mono fun p hp => .tail _ hp
    have hps4 : PairsIn (Okv f) ((D, listOf ys.toArray kk) :: T) svs sts := hps.mono fun p hp => .tail _ (hsub.1 _ (List.mem_append_right _ hp))
    generalize hT4 : (D, listOf ys.toArray kk) :: T = T4 at N4 hln4 hst4 hD4 hP4 hps4
    k_steps
    all_goals (try with_reducible refine kQ _ _ ?_)
    (try unfold held); k_dflt (refine' Call.use (ring_call w f ln D nvs ys k2 kk (namedOf sts) (psOf sts) T4 hln4 hD4 hnI hP4 hn6 hp6 (by omega) (by omega)) ?zB ?zF ?zX ?zN ?zT ?zk ?zd ?zu ?_; (case zB => k_asm); (case zF => k_asm); (case zX => k_asm); (case zN => k_asm); (case zT => k_asm); (case zk => first | exact rfl | assumption); (case zd => ktr_room); (case zu => ktr_units); skip)
    rintro v5 add5 h5 tk5 F5 N5 hfr5 hr5
    have hRV : RingV add5 v5 (ringOf (namedOf sts) (psOf sts)) := hr5
    clear hr5
    have hln5 : (ln, listOf nvs.toArray k2) ∈ add5 ++ T4 := List.mem_append_right _ hln4
    have hD5 : (D, listOf ys.toArray kk) ∈ add5 ++ T4 := List.mem_append_right _ hD4
    have hnlen := hnI.length
    have hn1000 : nvs.length ≤ 1000 := by omega
    have key : ∃ v6 : Tok → Value, (∀ t, SecV (v6 t) (ringOf (namedOf sts) (psOf sts))) ∧ ((v5 = .none ∧ v6 = fun _ => .none) ∨ ∃ q, v5 = .ref q ∧ v6 = fun t => .str (Str.ofString "refused") t) := by
      generalize ringOf (namedOf sts) (psOf sts) = rg at hRV
      cases rg with
      | none => exact ⟨fun _ => .none, fun _ => rfl, .inl ⟨hRV, rfl⟩⟩
      | some c =>
        refine hideG fun kG => ?_
        obtain ⟨q, _, _, e, _⟩ := hRV
        refine kG ?_
        clear kG
        exact ⟨_, fun t => ⟨t, rfl⟩, .inr ⟨q, e, rfl⟩⟩
    refine hideG fun kG => ?_
    obtain ⟨v6, hsec, hv6⟩ := key
    refine kG ?_
    clear kG
    rcases hv6 with ⟨rfl, rfl⟩ | ⟨q, rfl, rfl⟩
    all_goals k_steps
    all_goals (try with_reducible refine kQ _ _ ?_)
    all_goals rename Fr _ _ _ _ => F6
    all_goals rename News _ _ _ _ => N6
    all_goals rename ∀ p ∈ add5 ++ T4, p.1 < _ => lt6
    all_goals rename_i l6 _
    all_goals (try unfold held); k_dflt (refine' Call.use (rounds_call w f ln D nvs ys k2 kk (namedOf sts) (psOf sts) _ (.tail _ hln5) (.tail _ hD5) hnI (hP4.mono fun p hp => .tail _ (List.mem_append_right _ hp)) hn6 hp6 (by omega) (by omega)) ?zB ?zF ?zX ?zN ?zT ?zk ?zd ?zu ?_; (case zB => k_asm); (case zF => k_asm); (case zX => k_asm); (case zN => k_asm); (case zT => k_asm); (case zk => first | exact rfl | assumption); (case zd => ktr_room); (case zu => ktr_units); skip)
    all_goals rintro v7 add7 h7 tk7 F7 N7 hfr7 ⟨lr, avs, k7, rfl, hlr, hans⟩
    all_goals k_steps
    all_goals (try with_reducible refine kQ _ _ ?_)
    all_goals unfold held
    all_goals rename Fr _ _ _ _ => F8
    all_goals rename News _ _ _ _ => N8
    all_goals have havl := hans.length
    all_goals have hrl : (roundsOf (namedOf sts) (psOf sts) ((namedOf sts).length + 1)).length = (namedOf sts).length + 1 := by simp [roundsOf]
    all_goals refine add_led F8 N8 (List.mem_append_right _ (.head _)) (List.mem_append_left _ hlr) (by simp only [List.length_cons, List.length_nil]; omega) fun Dd h8 F9 N9 lt9 => ?_
    all_goals clear F8 N8
    all_goals k_steps
    all_goals (try with_reducible refine kQ _ _ ?_)
    all_goals unfold held
    all_goals rename Fr _ _ _ _ => F10
    all_goals rename News _ _ _ _ => N10
    all_goals rw [hnlen]
    all_goals refine' (told_call w _ f st svs k1 sts _ _ (.tail _ (List.mem_append_right _ (.tail _ (List.mem_append_right _ hst4)))) (hps4.mono fun p hp => .tail _ (List.mem_append_right _ (.tail _ (List.mem_append_right _ hp)))) hsin hs12).use K0 F10 KX N10 T0 KX T0 ktsDicts_nil rfl (by ktr_room) (by ktr_units) ?_
    all_goals rintro v11 T11 g11 h11 tk11 KT11 F11 N11 B11 X11 P11 D11 ⟨lb, u8, u9, us, k11, rfl, hlb, hsub11, hsec11, hRV11, hans11⟩
    all_goals obtain ⟨F12, N12⟩ := back_base KT11 F11 N11
    all_goals clear F11 N11 F10 N10
    all_goals have hans12 := hans.mono fun p hp => hsub11 p (.tail _ hp)
    all_goals have hRV12 := hRV.mono fun p hp => hsub11 p (.tail _ (List.mem_append_right _ (.tail _ (List.mem_append_left _ hp))))
    all_goals have hDd12 := hsub11 _ (.head _)
    all_goals k_steps
    all_goals (try with_reducible refine kQ _ _ ?_)
    all_goals unfold held
    all_goals rename Fr _ _ _ _ => F13
    all_goals rename News _ _ _ _ => N13
    all_goals refine due_eq N13 hlb hRV11 hsec11 hans11 hDd12 hRV12 (by first | exact hsec 0 | exact hsec _) hans12 (by ktr_units) ?_
    all_goals k_steps)


end Mine
set_option maxRecDepth 100000 in
set_option maxHeartbeats 8000000 in
theorem PySem.Challenge.cw_mq0333_01_holds : PySem.Challenge.rw_mq0333_01.Holds := by
  exact Mine.fin

import PyProof.Rows.All
import Wide.All
import OpenK.AllK
import Wide.FinOn
import PySem.Challenge.RW_qh0101_02
set_option Elab.async false
set_option linter.all false
set_option maxRecDepth 100000
set_option compiler.extract_closed false
namespace Mine
open PySem PySem.W PySem.Calls PyProof.Rows PySem.Spec
section
set_option Elab.async false
set_option maxRecDepth 100000
set_option maxHeartbeats 8000000
/-! ## the heap behind the top, as far as the law reaches it -/
noncomputable def xs (s : String) : Str := Str.ofString s
noncomputable def xv (s : String) (t : Nat) : Value := .str (Str.ofString s) t
noncomputable def xr (a : Nat) : Value := .ref a
noncomputable def xi (i : Int) : Value := .int i 0
noncomputable def xe (P : Params) (s : String) (t : Nat) (v : Value) : DictEntry := DictEntry.mk (PyData.keyHash P (Str.ofString s)) (.str (Str.ofString s) t) v
noncomputable def stT (i : Nat) : Stmt := PySem.Challenge.rw_qh0101_02.prog.main.body.getD i (.Pass ⟨0, 0, 0, 0⟩)
noncomputable def stC (i j : Nat) : Stmt := match stT i with
  | .ClassDef _ _ _ body _ _ _ _ _ _ _ => body.getD j (.Pass ⟨0, 0, 0, 0⟩)
  | s => s
noncomputable def fnX (s : Stmt) (q : Str) (g : Addr) (clo : List (Str × Addr)) (d k doc pm : Value) (ann : Option Addr) (code ct : Value) (b : Addr) : FuncData := match s with
  | .FunctionDef n ps body _ _ _ sc _ _ _ => FuncData.mk n q ps (.stmts body) sc g clo d k doc pm ann code ct b
  | _ => default
noncomputable def KF : Params → Frag := fun P => [
(2, Obj.mk Value.none none (Data.dict #[]) #[]),
(3, Obj.mk (Value.type "dict") none (Data.dict #[xe P "__name__" 165 (xv "law_qh0101_02" 489), xe P "__doc__" 166 Value.none, xe P "__package__" 167 Value.none, xe P "__loader__" 168 (Value.builtin "__main__.__loader__#opaque"), xe P "__spec__" 169 Value.none, xe P "__annotations__" 170 (xr 6), xe P "__builtins__" 171 (xr 4), xe P "__file__" 173 (xv "/claim/cut.py" 172), xe P "__cached__" 174 Value.none, xe P "_wall" 193 (xr 21), xe P "bytes_types" 196 (xr 22), xe P "_bytes_from_decode_data" 203 (xr 29), xe P "Error" 223 (xr 39), xe P "_ascii_buffer" 231 (xr 49), xe P "_buffer" 239 (xr 56), xe P "_truth" 247 (xr 63), xe P "_B64" 249 (Value.bytes #[65, 66, 67, 68, 69, 70, 71, 72, 73, 74, 75, 76, 77, 78, 79, 80, 81, 82, 83, 84, 85, 86, 87, 88, 89, 90, 97, 98, 99, 100, 101, 102, 103, 104, 105, 106, 107, 108, 109, 110, 111, 112, 113, 114, 115, 116, 117, 118, 119, 120, 121, 122, 48, 49, 50, 51, 52, 53, 54, 55, 56, 57, 43, 47] 248), xe P "_b64_value" 256 (xr 70), xe P "a2b_base64" 272 (xr 78), xe P "b2a_base64" 286 (xr 86), xe P "b64encode" 297 (xr 94), xe P "b64decode" 306 (xr 102), xe P "_NODE_OUT" 311 (Value.int (Neg.neg 1) 310), xe P "_NODE_DONE" 314 (Value.int (Neg.neg 2) 313), xe P "_NodeInfo" 351 (xr 121), xe P "CycleError" 369 (xr 136), xe P "TopologicalSorter" 488 (xr 218), xe P "_law_needs" 496 (xr 227), xe P "_law_names" 502 (xr 232), xe P "_law_rounds" 508 (xr 237), xe P "_law_write" 514 (xr 242), xe P "_law_own" 520 (xr 247), xe P "_law_tree" 526 (xr 252), xe P "_law_read" 532 (xr 257), xe P "_law_holds" 538 (xr 262), xe P "law" 547 (xr 269)] 36) #[]),
(15, Obj.mk (Value.type "tuple") none (Data.seq #[]) #[]),
(17, Obj.mk (Value.type "tuple") none (Data.seq #[xv "k" 190]) #[]),
(18, Obj.mk (Value.type "tuple") none (Data.seq #[]) #[]),
(20, Obj.mk (Value.type "code") none (Data.fields #[xv "_wall" 187, xv "_wall" 188, xv "/claim/cut.py" 189, xi 1, xi 1, xi 0, xi 0, xi 3, xr 15, Value.bool true, xi 181, xr 16, Value.none, xr 17, xr 18, xr 19, xi 191, xi 1, xv "/claim/cut.py" 192]) #[]),
(21, Obj.mk (Value.type "function") none (Data.func (fnX (stT 0) (xs "_wall") 3 List.nil Value.none Value.none Value.none (xv "__main__" 164) none (xr 20) Value.none 0)) #[]),
(22, Obj.mk (Value.type "tuple") none (Data.seq #[Value.type "bytes", Value.type "bytearray"]) #[]),
(23, Obj.mk (Value.type "tuple") none (Data.seq #[]) #[]),
(25, Obj.mk (Value.type "tuple") none (Data.seq #[xv "s" 200]) #[]),
(26, Obj.mk (Value.type "tuple") none (Data.seq #[]) #[]),
(28, Obj.mk (Value.type "code") none (Data.fields #[xv "_bytes_from_decode_data" 197, xv "_bytes_from_decode_data" 198, xv "/claim/cut.py" 199, xi 6, xi 1, xi 0, xi 0, xi 3, xr 23, Value.bool true, xi 181, xr 24, Value.none, xr 25, xr 26, xr 27, xi 201, xi 6, xv "/claim/cut.py" 202]) #[]),
(29, Obj.mk (Value.type "function") none (Data.func (fnX (stT 3) (xs "_bytes_from_decode_data") 3 List.nil Value.none Value.none Value.none (xv "cpy313.base64" 194) none (xr 28) Value.none 0)) #[]),
(30, Obj.mk (Value.type "tuple") none (Data.seq #[Value.type "ValueError"]) #[]),
(37, Obj.mk (Value.type "tuple") none (Data.seq #[]) #[]),
(38, Obj.mk (Value.type "dict") none (Data.dict #[xe P "__module__" 213 (xv "binascii" 204), xe P "__firstlineno__" 217 (Value.int 19 216), xe P "__static_attributes__" 218 (xr 37), xe P "__weakref__" 220 (xr 40), xe P "__doc__" 221 Value.none] 3) #[]),
(39, Obj.mk (Value.type "type") none (Data.cls (ClassData.mk (xs "Error") [Value.type "ValueError"] [xr 39, Value.type "ValueError", Value.type "Exception", Value.type "BaseException", Value.type "object"] 38 (xs "Error") true List.nil List.nil false none false)) #[some (xr 30), none, some (xv "Error" 206), some (xv "Error" 214), some (Value.builtin "ValueError.__new__"), some (Value.bool true)]),
(40, Obj.mk (Value.type "getset_descriptor") none (Data.fields #[xv "__weakref__" 219, xr 39, Value.builtin "ExceptionGroup.__weakref__", Value.none]) #[]),
(43, Obj.mk (Value.type "tuple") none (Data.seq #[]) #[]),
(45, Obj.mk (Value.type "tuple") none (Data.seq #[xv "data" 227, xv "t" 228]) #[]),
(46, Obj.mk (Value.type "tuple") none (Data.seq #[]) #[]),
(48, Obj.mk (Value.type "code") none (Data.fields #[xv "_ascii_buffer" 224, xv "_ascii_buffer" 225, xv "/claim/cut.py" 226, xi 21, xi 1, xi 0, xi 0, xi 3, xr 43, Value.bool true, xi 181, xr 44, Value.none, xr 45, xr 46, xr 47, xi 229, xi 21, xv "/claim/cut.py" 230]) #[]),
(49, Obj.mk (Value.type "function") none (Data.func (fnX (stT 6) (xs "_ascii_buffer") 3 List.nil Value.none Value.none Value.none (xv "binascii" 204) none (xr 48) Value.none 0)) #[]),
(50, Obj.mk (Value.type "tuple") none (Data.seq #[]) #[]),
(52, Obj.mk (Value.type "tuple") none (Data.seq #[xv "data" 235, xv "t" 236]) #[]),
(53, Obj.mk (Value.type "tuple") none (Data.seq #[]) #[]),
(55, Obj.mk (Value.type "code") none (Data.fields #[xv "_buffer" 232, xv "_buffer" 233, xv "/claim/cut.py" 234, xi 32, xi 1, xi 0, xi 0, xi 3, xr 50, Value.bool true, xi 181, xr 51, Value.none, xr 52, xr 53, xr 54, xi 237, xi 32, xv "/claim/cut.py" 238]) #[]),
(56, Obj.mk (Value.type "function") none (Data.func (fnX (stT 7) (xs "_buffer") 3 List.nil Value.none Value.none Value.none (xv "binascii" 204) none (xr 55) Value.none 0)) #[]),
(57, Obj.mk (Value.type "tuple") none (Data.seq #[]) #[]),
(59, Obj.mk (Value.type "tuple") none (Data.seq #[xv "x" 243, xv "t" 244]) #[]),
(60, Obj.mk (Value.type "tuple") none (Data.seq #[]) #[]),
(62, Obj.mk (Value.type "code") none (Data.fields #[xv "_truth" 240, xv "_truth" 241, xv "/claim/cut.py" 242, xi 39, xi 1, xi 0, xi 0, xi 3, xr 57, Value.bool true, xi 181, xr 58, Value.none, xr 59, xr 60, xr 61, xi 245, xi 39, xv "/claim/cut.py" 246]) #[]),
(63, Obj.mk (Value.type "function") none (Data.func (fnX (stT 8) (xs "_truth") 3 List.nil Value.none Value.none Value.none (xv "binascii" 204) none (xr 62) Value.none 0)) #[]),
(64, Obj.mk (Value.type "tuple") none (Data.seq #[]) #[]),
(66, Obj.mk (Value.type "tuple") none (Data.seq #[xv "c" 253]) #[]),
(67, Obj.mk (Value.type "tuple") none (Data.seq #[]) #[]),
(69, Obj.mk (Value.type "code") none (Data.fields #[xv "_b64_value" 250, xv "_b64_value" 251, xv "/claim/cut.py" 252, xi 45, xi 1, xi 0, xi 0, xi 3, xr 64, Value.bool true, xi 181, xr 65, Value.none, xr 66, xr 67, xr 68, xi 254, xi 45, xv "/claim/cut.py" 255]) #[]),
(70, Obj.mk (Value.type "function") none (Data.func (fnX (stT 10) (xs "_b64_value") 3 List.nil Value.none Value.none Value.none (xv "binascii" 204) none (xr 69) Value.none 0)) #[]),
(71, Obj.mk (Value.type "dict") none (Data.dict #[xe P "strict_mode" 257 (Value.bool false)] 1) #[]),
(72, Obj.mk (Value.type "tuple") none (Data.seq #[]) #[]),
(74, Obj.mk (Value.type "tuple") none (Data.seq #[xv "data" 261, xv "strict_mode" 262, xv "ascii_data" 263, xv "out" 264, xv "quad_pos" 265, xv "leftchar" 266, xv "pads" 267, xv "i" 268, xv "this_ch" 269]) #[]),
(75, Obj.mk (Value.type "tuple") none (Data.seq #[]) #[]),
(77, Obj.mk (Value.type "code") none (Data.fields #[xv "a2b_base64" 258, xv "a2b_base64" 259, xv "/claim/cut.py" 260, xi 57, xi 1, xi 1, xi 1, xi 3, xr 72, Value.bool true, xi 181, xr 73, Value.none, xr 74, xr 75, xr 76, xi 270, xi 57, xv "/claim/cut.py" 271]) #[]),
(78, Obj.mk (Value.type "function") none (Data.func (fnX (stT 11) (xs "a2b_base64") 3 List.nil Value.none (xr 71) Value.none (xv "binascii" 204) none (xr 77) Value.none 0)) #[]),
(79, Obj.mk (Value.type "dict") none (Data.dict #[xe P "newline" 273 (Value.bool true)] 1) #[]),
(80, Obj.mk (Value.type "tuple") none (Data.seq #[]) #[]),
(82, Obj.mk (Value.type "tuple") none (Data.seq #[xv "data" 277, xv "newline" 278, xv "bin_data" 279, xv "out" 280, xv "leftbits" 281, xv "leftchar" 282, xv "b" 283]) #[]),
(83, Obj.mk (Value.type "tuple") none (Data.seq #[]) #[]),
(85, Obj.mk (Value.type "code") none (Data.fields #[xv "b2a_base64" 274, xv "b2a_base64" 275, xv "/claim/cut.py" 276, xi 111, xi 1, xi 1, xi 1, xi 3, xr 80, Value.bool true, xi 181, xr 81, Value.none, xr 82, xr 83, xr 84, xi 284, xi 111, xv "/claim/cut.py" 285]) #[]),
(86, Obj.mk (Value.type "function") none (Data.func (fnX (stT 12) (xs "b2a_base64") 3 List.nil Value.none (xr 79) Value.none (xv "binascii" 204) none (xr 85) Value.none 0)) #[]),
(87, Obj.mk (Value.type "tuple") none (Data.seq #[Value.none]) #[]),
(88, Obj.mk (Value.type "tuple") none (Data.seq #[]) #[]),
(90, Obj.mk (Value.type "tuple") none (Data.seq #[xv "s" 292, xv "altchars" 293, xv "encoded" 294]) #[]),
(91, Obj.mk (Value.type "tuple") none (Data.seq #[]) #[]),
(93, Obj.mk (Value.type "code") none (Data.fields #[xv "b64encode" 289, xv "b64encode" 290, xv "/claim/cut.py" 291, xi 134, xi 2, xi 0, xi 0, xi 3, xr 88, Value.bool true, xi 181, xr 89, Value.none, xr 90, xr 91, xr 92, xi 295, xi 134, xv "/claim/cut.py" 296]) #[]),
(94, Obj.mk (Value.type "function") none (Data.func (fnX (stT 14) (xs "b64encode") 3 List.nil (xr 87) Value.none Value.none (xv "cpy313.base64" 287) none (xr 93) Value.none 0)) #[]),
(95, Obj.mk (Value.type "tuple") none (Data.seq #[Value.none, Value.bool false]) #[]),
(96, Obj.mk (Value.type "tuple") none (Data.seq #[]) #[]),
(98, Obj.mk (Value.type "tuple") none (Data.seq #[xv "s" 301, xv "altchars" 302, xv "validate" 303]) #[]),
(99, Obj.mk (Value.type "tuple") none (Data.seq #[]) #[]),
(101, Obj.mk (Value.type "code") none (Data.fields #[xv "b64decode" 298, xv "b64decode" 299, xv "/claim/cut.py" 300, xi 140, xi 3, xi 0, xi 0, xi 3, xr 96, Value.bool true, xi 181, xr 97, Value.none, xr 98, xr 99, xr 100, xi 304, xi 140, xv "/claim/cut.py" 305]) #[]),
(102, Obj.mk (Value.type "function") none (Data.func (fnX (stT 15) (xs "b64decode") 3 List.nil (xr 95) Value.none Value.none (xv "cpy313.base64" 287) none (xr 101) Value.none 0)) #[]),
(110, Obj.mk (Value.type "tuple") none (Data.seq #[xv "node" 327, xv "npredecessors" 328, xv "successors" 329]) #[]),
(111, Obj.mk (Value.type "tuple") none (Data.seq #[]) #[]),
(113, Obj.mk (Value.type "tuple") none (Data.seq #[xv "self" 334, xv "node" 335]) #[]),
(114, Obj.mk (Value.type "tuple") none (Data.seq #[]) #[]),
(116, Obj.mk (Value.type "code") none (Data.fields #[xv "__init__" 331, xv "_NodeInfo.__init__" 332, xv "/claim/cut.py" 333, xi 153, xi 2, xi 0, xi 0, xi 3, xr 111, Value.bool true, xi 181, xr 112, Value.none, xr 113, xr 114, xr 115, xi 336, xi 153, xv "/claim/cut.py" 337]) #[]),
(117, Obj.mk (Value.type "function") none (Data.func (fnX (stC 19 1) (xs "_NodeInfo.__init__") 3 List.nil Value.none Value.none Value.none (xv "cpy313.graphlib" 307) none (xr 116) Value.none 0)) #[]),
(118, Obj.mk (Value.type "tuple") none (Data.seq #[xv "node" 339, xv "npredecessors" 340, xv "successors" 341]) #[]),
(120, Obj.mk (Value.type "dict") none (Data.dict #[xe P "__module__" 322 (xv "cpy313.graphlib" 307), xe P "__firstlineno__" 326 (Value.int 150 325), xe P "__slots__" 330 (xr 110), xe P "__init__" 338 (xr 117), xe P "__static_attributes__" 342 (xr 118), xe P "node" 344 (xr 122), xe P "npredecessors" 346 (xr 123), xe P "successors" 348 (xr 124), xe P "__doc__" 349 Value.none] 5) #[]),
(121, Obj.mk (Value.type "type") none (Data.cls (ClassData.mk (xs "_NodeInfo") [Value.type "object"] [xr 121, Value.type "object"] 120 (xs "_NodeInfo") false [xs "node", xs "npredecessors", xs "successors"] List.nil false none false)) #[none, none, some (xv "_NodeInfo" 315), some (xv "_NodeInfo" 323), some (Value.builtin "object.__new__"), some (Value.bool false)]),
(122, Obj.mk (Value.type "member_descriptor") none (Data.fields #[xv "node" 343, xr 121, Value.builtin "proto.slot", Value.builtin "proto.slot#set", xi 2]) #[]),
(123, Obj.mk (Value.type "member_descriptor") none (Data.fields #[xv "npredecessors" 345, xr 121, Value.builtin "proto.slot", Value.builtin "proto.slot#set", xi 1]) #[]),
(124, Obj.mk (Value.type "member_descriptor") none (Data.fields #[xv "successors" 347, xr 121, Value.builtin "proto.slot", Value.builtin "proto.slot#set", xi 0]) #[]),
(127, Obj.mk (Value.type "tuple") none (Data.seq #[Value.type "ValueError"]) #[]),
(134, Obj.mk (Value.type "tuple") none (Data.seq #[]) #[]),
(135, Obj.mk (Value.type "dict") none (Data.dict #[xe P "__module__" 359 (xv "cpy313.graphlib" 307), xe P "__firstlineno__" 363 (Value.int 157 362), xe P "__static_attributes__" 364 (xr 134), xe P "__weakref__" 366 (xr 137), xe P "__doc__" 367 Value.none] 3) #[]),
(136, Obj.mk (Value.type "type") none (Data.cls (ClassData.mk (xs "CycleError") [Value.type "ValueError"] [xr 136, Value.type "ValueError", Value.type "Exception", Value.type "BaseException", Value.type "object"] 135 (xs "CycleError") true List.nil List.nil false none false)) #[some (xr 127), none, some (xv "CycleError" 352), some (xv "CycleError" 360), some (Value.builtin "ValueError.__new__"), some (Value.bool true)]),
(137, Obj.mk (Value.type "getset_descriptor") none (Data.fields #[xv "__weakref__" 365, xr 136, Value.builtin "ExceptionGroup.__weakref__", Value.none]) #[]),
(147, Obj.mk (Value.type "tuple") none (Data.seq #[Value.none]) #[]),
(148, Obj.mk (Value.type "tuple") none (Data.seq #[]) #[]),
(150, Obj.mk (Value.type "tuple") none (Data.seq #[xv "self" 385, xv "graph" 386, xv "node" 387, xv "predecessors" 388]) #[]),
(151, Obj.mk (Value.type "tuple") none (Data.seq #[]) #[]),
(153, Obj.mk (Value.type "code") none (Data.fields #[xv "__init__" 382, xv "TopologicalSorter.__init__" 383, xv "/claim/cut.py" 384, xi 161, xi 2, xi 0, xi 0, xi 3, xr 148, Value.bool true, xi 181, xr 149, Value.none, xr 150, xr 151, xr 152, xi 389, xi 161, xv "/claim/cut.py" 390]) #[]),
(154, Obj.mk (Value.type "function") none (Data.func (fnX (stC 21 0) (xs "TopologicalSorter.__init__") 3 List.nil (xr 147) Value.none Value.none (xv "cpy313.graphlib" 307) none (xr 153) Value.none 0)) #[]),
(155, Obj.mk (Value.type "tuple") none (Data.seq #[]) #[]),
(157, Obj.mk (Value.type "tuple") none (Data.seq #[xv "self" 395, xv "node" 396, xv "result" 397]) #[]),
(158, Obj.mk (Value.type "tuple") none (Data.seq #[]) #[]),
(160, Obj.mk (Value.type "code") none (Data.fields #[xv "_get_nodeinfo" 392, xv "TopologicalSorter._get_nodeinfo" 393, xv "/claim/cut.py" 394, xi 170, xi 2, xi 0, xi 0, xi 3, xr 155, Value.bool true, xi 181, xr 156, Value.none, xr 157, xr 158, xr 159, xi 398, xi 170, xv "/claim/cut.py" 399]) #[]),
(161, Obj.mk (Value.type "function") none (Data.func (fnX (stC 21 1) (xs "TopologicalSorter._get_nodeinfo") 3 List.nil Value.none Value.none Value.none (xv "cpy313.graphlib" 307) none (xr 160) Value.none 0)) #[]),
(162, Obj.mk (Value.type "tuple") none (Data.seq #[]) #[]),
(164, Obj.mk (Value.type "tuple") none (Data.seq #[xv "self" 404, xv "node" 405, xv "predecessors" 406, xv "nodeinfo" 407, xv "pred" 408, xv "pred_info" 409]) #[]),
(165, Obj.mk (Value.type "tuple") none (Data.seq #[]) #[]),
(167, Obj.mk (Value.type "code") none (Data.fields #[xv "add" 401, xv "TopologicalSorter.add" 402, xv "/claim/cut.py" 403, xi 175, xi 2, xi 0, xi 0, xi 7, xr 162, Value.bool true, xi 181, xr 163, Value.none, xr 164, xr 165, xr 166, xi 410, xi 175, xv "/claim/cut.py" 411]) #[]),
(168, Obj.mk (Value.type "function") none (Data.func (fnX (stC 21 2) (xs "TopologicalSorter.add") 3 List.nil Value.none Value.none Value.none (xv "cpy313.graphlib" 307) none (xr 167) Value.none 0)) #[]),
(169, Obj.mk (Value.type "tuple") none (Data.seq #[]) #[]),
(172, Obj.mk (Value.type "code") none (Data.fields #[xv "prepare" 413, xv "TopologicalSorter.prepare" 414, xv "/claim/cut.py" 415, xi 184, xi 1, xi 0, xi 0, xi 3, xr 169, Value.bool true, xi 181, xr 170, Value.none, Value.none, Value.none, xr 171, xi 416, xi 184, xv "/claim/cut.py" 417]) #[]),
(173, Obj.mk (Value.type "function") none (Data.func (fnX (stC 21 3) (xs "TopologicalSorter.prepare") 3 List.nil Value.none Value.none Value.none (xv "cpy313.graphlib" 307) none (xr 172) Value.none 0)) #[]),
(174, Obj.mk (Value.type "tuple") none (Data.seq #[]) #[]),
(176, Obj.mk (Value.type "tuple") none (Data.seq #[xv "self" 422, xv "result" 423, xv "n2i" 424, xv "node" 425]) #[]),
(177, Obj.mk (Value.type "tuple") none (Data.seq #[]) #[]),
(179, Obj.mk (Value.type "code") none (Data.fields #[xv "get_ready" 419, xv "TopologicalSorter.get_ready" 420, xv "/claim/cut.py" 421, xi 192, xi 1, xi 0, xi 0, xi 3, xr 174, Value.bool true, xi 181, xr 175, Value.none, xr 176, xr 177, xr 178, xi 426, xi 192, xv "/claim/cut.py" 427]) #[]),
(180, Obj.mk (Value.type "function") none (Data.func (fnX (stC 21 4) (xs "TopologicalSorter.get_ready") 3 List.nil Value.none Value.none Value.none (xv "cpy313.graphlib" 307) none (xr 179) Value.none 0)) #[]),
(181, Obj.mk (Value.type "tuple") none (Data.seq #[]) #[]),
(183, Obj.mk (Value.type "tuple") none (Data.seq #[xv "self" 432]) #[]),
(184, Obj.mk (Value.type "tuple") none (Data.seq #[]) #[]),
(186, Obj.mk (Value.type "code") none (Data.fields #[xv "is_active" 429, xv "TopologicalSorter.is_active" 430, xv "/claim/cut.py" 431, xi 203, xi 1, xi 0, xi 0, xi 3, xr 181, Value.bool true, xi 181, xr 182, Value.none, xr 183, xr 184, xr 185, xi 433, xi 203, xv "/claim/cut.py" 434]) #[]),
(187, Obj.mk (Value.type "function") none (Data.func (fnX (stC 21 5) (xs "TopologicalSorter.is_active") 3 List.nil Value.none Value.none Value.none (xv "cpy313.graphlib" 307) none (xr 186) Value.none 0)) #[]),
(188, Obj.mk (Value.type "tuple") none (Data.seq #[]) #[]),
(190, Obj.mk (Value.type "tuple") none (Data.seq #[xv "self" 439]) #[]),
(191, Obj.mk (Value.type "tuple") none (Data.seq #[]) #[]),
(193, Obj.mk (Value.type "code") none (Data.fields #[xv "__bool__" 436, xv "TopologicalSorter.__bool__" 437, xv "/claim/cut.py" 438, xi 208, xi 1, xi 0, xi 0, xi 3, xr 188, Value.bool true, xi 181, xr 189, Value.none, xr 190, xr 191, xr 192, xi 440, xi 208, xv "/claim/cut.py" 441]) #[]),
(194, Obj.mk (Value.type "function") none (Data.func (fnX (stC 21 6) (xs "TopologicalSorter.__bool__") 3 List.nil Value.none Value.none Value.none (xv "cpy313.graphlib" 307) none (xr 193) Value.none 0)) #[]),
(195, Obj.mk (Value.type "tuple") none (Data.seq #[]) #[]),
(197, Obj.mk (Value.type "tuple") none (Data.seq #[xv "self" 446, xv "nodes" 447, xv "n2i" 448, xv "node" 449, xv "nodeinfo" 450, xv "stat" 451, xv "successor" 452, xv "successor_info" 453]) #[]),
(198, Obj.mk (Value.type "tuple") none (Data.seq #[]) #[]),
(200, Obj.mk (Value.type "code") none (Data.fields #[xv "done" 443, xv "TopologicalSorter.done" 444, xv "/claim/cut.py" 445, xi 211, xi 1, xi 0, xi 0, xi 7, xr 195, Value.bool true, xi 181, xr 196, Value.none, xr 197, xr 198, xr 199, xi 454, xi 211, xv "/claim/cut.py" 455]) #[]),
(201, Obj.mk (Value.type "function") none (Data.func (fnX (stC 21 7) (xs "TopologicalSorter.done") 3 List.nil Value.none Value.none Value.none (xv "cpy313.graphlib" 307) none (xr 200) Value.none 0)) #[]),
(202, Obj.mk (Value.type "tuple") none (Data.seq #[]) #[]),
(204, Obj.mk (Value.type "tuple") none (Data.seq #[xv "self" 460, xv "n2i" 461, xv "stack" 462, xv "itstack" 463, xv "seen" 464, xv "node2stacki" 465, xv "node" 466]) #[]),
(205, Obj.mk (Value.type "tuple") none (Data.seq #[]) #[]),
(207, Obj.mk (Value.type "code") none (Data.fields #[xv "_find_cycle" 457, xv "TopologicalSorter._find_cycle" 458, xv "/claim/cut.py" 459, xi 234, xi 1, xi 0, xi 0, xi 3, xr 202, Value.bool true, xi 181, xr 203, Value.none, xr 204, xr 205, xr 206, xi 467, xi 234, xv "/claim/cut.py" 468]) #[]),
(208, Obj.mk (Value.type "function") none (Data.func (fnX (stC 21 8) (xs "TopologicalSorter._find_cycle") 3 List.nil Value.none Value.none Value.none (xv "cpy313.graphlib" 307) none (xr 207) Value.none 0)) #[]),
(209, Obj.mk (Value.type "tuple") none (Data.seq #[]) #[]),
(211, Obj.mk (Value.type "tuple") none (Data.seq #[xv "self" 473]) #[]),
(212, Obj.mk (Value.type "tuple") none (Data.seq #[]) #[]),
(214, Obj.mk (Value.type "code") none (Data.fields #[xv "static_order" 470, xv "TopologicalSorter.static_order" 471, xv "/claim/cut.py" 472, xi 263, xi 1, xi 0, xi 0, xi 3, xr 209, Value.bool true, xi 181, xr 210, Value.none, xr 211, xr 212, xr 213, xi 474, xi 263, xv "/claim/cut.py" 475]) #[]),
(215, Obj.mk (Value.type "function") none (Data.func (fnX (stC 21 9) (xs "TopologicalSorter.static_order") 3 List.nil Value.none Value.none Value.none (xv "cpy313.graphlib" 307) none (xr 214) Value.none 0)) #[]),
(216, Obj.mk (Value.type "tuple") none (Data.seq #[xv "_nfinished" 477, xv "_node2info" 478, xv "_npassedout" 479, xv "_ready_nodes" 480]) #[]),
(217, Obj.mk (Value.type "dict") none (Data.dict #[xe P "__module__" 377 (xv "cpy313.graphlib" 307), xe P "__firstlineno__" 381 (Value.int 159 380), xe P "__init__" 391 (xr 154), xe P "_get_nodeinfo" 400 (xr 161), xe P "add" 412 (xr 168), xe P "prepare" 418 (xr 173), xe P "get_ready" 428 (xr 180), xe P "is_active" 435 (xr 187), xe P "__bool__" 442 (xr 194), xe P "done" 456 (xr 201), xe P "_find_cycle" 469 (xr 208), xe P "static_order" 476 (xr 215), xe P "__static_attributes__" 481 (xr 216), xe P "__dict__" 483 (xr 219), xe P "__weakref__" 485 (xr 220), xe P "__doc__" 486 Value.none] 4) #[]),
(218, Obj.mk (Value.type "type") none (Data.cls (ClassData.mk (xs "TopologicalSorter") [Value.type "object"] [xr 218, Value.type "object"] 217 (xs "TopologicalSorter") true List.nil List.nil false none false)) #[none, none, some (xv "TopologicalSorter" 370), some (xv "TopologicalSorter" 378), some (Value.builtin "object.__new__"), some (Value.bool true)]),
(219, Obj.mk (Value.type "getset_descriptor") none (Data.fields #[xv "__dict__" 482, xr 218, Value.builtin "function.__dict__", Value.builtin "function.__dict__#set"]) #[]),
(220, Obj.mk (Value.type "getset_descriptor") none (Data.fields #[xv "__weakref__" 484, xr 218, Value.builtin "ExceptionGroup.__weakref__", Value.none]) #[]),
(223, Obj.mk (Value.type "tuple") none (Data.seq #[]) #[]),
(226, Obj.mk (Value.type "code") none (Data.fields #[xv "_law_needs" 491, xv "_law_needs" 492, xv "/claim/cut.py" 493, xi 266, xi 1, xi 0, xi 0, xi 3, xr 223, Value.bool true, xi 181, xr 224, Value.none, Value.none, Value.none, xr 225, xi 494, xi 266, xv "/claim/cut.py" 495]) #[]),
(227, Obj.mk (Value.type "function") none (Data.func (fnX (stT 23) (xs "_law_needs") 3 List.nil Value.none Value.none Value.none (xv "law_qh0101_02" 489) none (xr 226) Value.none 0)) #[]),
(228, Obj.mk (Value.type "tuple") none (Data.seq #[]) #[]),
(231, Obj.mk (Value.type "code") none (Data.fields #[xv "_law_names" 497, xv "_law_names" 498, xv "/claim/cut.py" 499, xi 277, xi 2, xi 0, xi 0, xi 3, xr 228, Value.bool true, xi 181, xr 229, Value.none, Value.none, Value.none, xr 230, xi 500, xi 277, xv "/claim/cut.py" 501]) #[]),
(232, Obj.mk (Value.type "function") none (Data.func (fnX (stT 24) (xs "_law_names") 3 List.nil Value.none Value.none Value.none (xv "law_qh0101_02" 489) none (xr 231) Value.none 0)) #[]),
(233, Obj.mk (Value.type "tuple") none (Data.seq #[]) #[]),
(236, Obj.mk (Value.type "code") none (Data.fields #[xv "_law_rounds" 503, xv "_law_rounds" 504, xv "/claim/cut.py" 505, xi 295, xi 1, xi 0, xi 0, xi 3, xr 233, Value.bool true, xi 181, xr 234, Value.none, Value.none, Value.none, xr 235, xi 506, xi 295, xv "/claim/cut.py" 507]) #[]),
(237, Obj.mk (Value.type "function") none (Data.func (fnX (stT 25) (xs "_law_rounds") 3 List.nil Value.none Value.none Value.none (xv "law_qh0101_02" 489) none (xr 236) Value.none 0)) #[]),
(238, Obj.mk (Value.type "tuple") none (Data.seq #[]) #[]),
(241, Obj.mk (Value.type "code") none (Data.fields #[xv "_law_write" 509, xv "_law_write" 510, xv "/claim/cut.py" 511, xi 304, xi 2, xi 0, xi 0, xi 3, xr 238, Value.bool true, xi 181, xr 239, Value.none, Value.none, Value.none, xr 240, xi 512, xi 304, xv "/claim/cut.py" 513]) #[]),
(242, Obj.mk (Value.type "function") none (Data.func (fnX (stT 26) (xs "_law_write") 3 List.nil Value.none Value.none Value.none (xv "law_qh0101_02" 489) none (xr 241) Value.none 0)) #[]),
(243, Obj.mk (Value.type "tuple") none (Data.seq #[]) #[]),
(246, Obj.mk (Value.type "code") none (Data.fields #[xv "_law_own" 515, xv "_law_own" 516, xv "/claim/cut.py" 517, xi 313, xi 3, xi 0, xi 0, xi 3, xr 243, Value.bool true, xi 181, xr 244, Value.none, Value.none, Value.none, xr 245, xi 518, xi 313, xv "/claim/cut.py" 519]) #[]),
(247, Obj.mk (Value.type "function") none (Data.func (fnX (stT 27) (xs "_law_own") 3 List.nil Value.none Value.none Value.none (xv "law_qh0101_02" 489) none (xr 246) Value.none 0)) #[]),
(248, Obj.mk (Value.type "tuple") none (Data.seq #[]) #[]),
(251, Obj.mk (Value.type "code") none (Data.fields #[xv "_law_tree" 521, xv "_law_tree" 522, xv "/claim/cut.py" 523, xi 319, xi 3, xi 0, xi 0, xi 3, xr 248, Value.bool true, xi 181, xr 249, Value.none, Value.none, Value.none, xr 250, xi 524, xi 319, xv "/claim/cut.py" 525]) #[]),
(252, Obj.mk (Value.type "function") none (Data.func (fnX (stT 28) (xs "_law_tree") 3 List.nil Value.none Value.none Value.none (xv "law_qh0101_02" 489) none (xr 251) Value.none 0)) #[]),
(253, Obj.mk (Value.type "tuple") none (Data.seq #[]) #[]),
(256, Obj.mk (Value.type "code") none (Data.fields #[xv "_law_read" 527, xv "_law_read" 528, xv "/claim/cut.py" 529, xi 321, xi 1, xi 0, xi 0, xi 3, xr 253, Value.bool true, xi 181, xr 254, Value.none, Value.none, Value.none, xr 255, xi 530, xi 321, xv "/claim/cut.py" 531]) #[]),
(257, Obj.mk (Value.type "function") none (Data.func (fnX (stT 29) (xs "_law_read") 3 List.nil Value.none Value.none Value.none (xv "law_qh0101_02" 489) none (xr 256) Value.none 0)) #[]),
(258, Obj.mk (Value.type "tuple") none (Data.seq #[]) #[]),
(261, Obj.mk (Value.type "code") none (Data.fields #[xv "_law_holds" 533, xv "_law_holds" 534, xv "/claim/cut.py" 535, xi 325, xi 2, xi 0, xi 0, xi 3, xr 258, Value.bool true, xi 181, xr 259, Value.none, Value.none, Value.none, xr 260, xi 536, xi 325, xv "/claim/cut.py" 537]) #[]),
(262, Obj.mk (Value.type "function") none (Data.func (fnX (stT 30) (xs "_law_holds") 3 List.nil Value.none Value.none Value.none (xv "law_qh0101_02" 489) none (xr 261) Value.none 0)) #[]),
(263, Obj.mk (Value.type "tuple") none (Data.seq #[]) #[]),
(265, Obj.mk (Value.type "tuple") none (Data.seq #[xv "script" 542, xv "labels" 543, xv "needs" 544]) #[]),
(266, Obj.mk (Value.type "tuple") none (Data.seq #[]) #[]),
(268, Obj.mk (Value.type "code") none (Data.fields #[xv "law" 539, xv "law" 540, xv "/claim/cut.py" 541, xi 336, xi 1, xi 0, xi 0, xi 3, xr 263, Value.bool true, xi 181, xr 264, Value.none, xr 265, xr 266, xr 267, xi 545, xi 336, xv "/claim/cut.py" 546]) #[]),
(269, Obj.mk (Value.type "function") none (Data.func (fnX (stT 31) (xs "law") 3 List.nil Value.none Value.none Value.none (xv "law_qh0101_02" 489) none (xr 268) Value.none 0)) #[])]
noncomputable def KFa : List Nat := [2, 3, 15, 17, 18, 20, 21, 22, 23, 25, 26, 28, 29, 30, 37, 38, 39, 40, 43, 45, 46, 48, 49, 50, 52, 53, 55, 56, 57, 59, 60, 62, 63, 64, 66, 67, 69, 70, 71, 72, 74, 75, 77, 78, 79, 80, 82, 83, 85, 86, 87, 88, 90, 91, 93, 94, 95, 96, 98, 99, 101, 102, 110, 111, 113, 114, 116, 117, 118, 120, 121, 122, 123, 124, 127, 134, 135, 136, 137, 147, 148, 150, 151, 153, 154, 155, 157, 158, 160, 161, 162, 164, 165, 167, 168, 169, 172, 173, 174, 176, 177, 179, 180, 181, 183, 184, 186, 187, 188, 190, 191, 193, 194, 195, 197, 198, 200, 201, 202, 204, 205, 207, 208, 209, 211, 212, 214, 215, 216, 217, 218, 219, 220, 223, 226, 227, 228, 231, 232, 233, 236, 237, 238, 241, 242, 243, 246, 247, 248, 251, 252, 253, 256, 257, 258, 261, 262, 263, 265, 266, 268, 269]
end
section
set_option Elab.async false
set_option maxRecDepth 100000
set_option maxHeartbeats 8000000
noncomputable def topRunT (ok : Thread → Bool) (st : SharedT → Thread → Option (SharedT × Thread)) (n : Nat) : SharedT → Thread → Option SharedT :=
  n.rec (fun _ _ => none) fun _ ih s t => bif through t then some s else bif ok t then (st s t).bind fun r => ih r.1 r.2 else none
noncomputable def layT (l : List Obj) : BT → Nat → Option BT :=
  l.rec (fun t _ => some t) fun o _ ih t n => bif ((t.ins n o).get n).isSome then ih (t.ins n o) (n + 1) else none
theorem bif_some {α : Type} {a : Bool} {x : Option α} {y : α} (h : (bif a then x else none) = some y) : a = true ∧ x = some y := by
  cases a
  · cases h
  · exact ⟨rfl, h⟩
theorem bif_mk {α : Type} {a : Bool} {x y : Option α} (h : a = true) (e : x = y) : (bif a then x else none) = y := by
  cases h
  exact e
theorem topRun_of {tb : String → Option Builtin} {p : Program} {w : World} {n₀ : Nat} {ann : Option Value} (n : Nat) : ∀ s s' t, topRunT (stepOk n₀ ann) (stepT (denote tb) p w) n s t = some s' → topRun tb p w n₀ ann n s.abs t = some s'.abs := by
  induction n with
  | zero => intro s s' t h; cases h
  | succ n ih =>
    intro s s' t h
    revert h
    show (bif through t then some s else bif stepOk n₀ ann t then (stepT (denote tb) p w s t).bind fun r => topRunT (stepOk n₀ ann) (stepT (denote tb) p w) n r.1 r.2 else none) = some s' → _
    unfold topRun
    cases through t with
    | true => intro h; cases h; rfl
    | false =>
      cases stepOk n₀ ann t with
      | false => intro h; cases h
      | true =>
        intro h
        obtain ⟨r, e, h⟩ := Option.bind_eq_some_iff.mp h
        rw [stepT_spec e]
        exact ih _ _ _ h
theorem topRun_tw {tb : String → Option Builtin} {p : Program} {w : World} {n₀ : Nat} {ann : Option Value} {ok : Thread → Bool} {st : SharedT → Thread → Option (SharedT × Thread)} {n : Nat} {S s' : SharedT} {s : Shared} {t : Thread} (ho : ok = stepOk n₀ ann) (hs : st = stepT (denote tb) p w) (q : S.abs = s) (h : topRunT ok st n S t = some s') : topRun tb p w n₀ ann n s t = some s'.abs := by
  subst ho hs q
  exact topRun_of n _ _ _ h
theorem layT_abs {life : Life} : ∀ (l : List Obj) (t t' : BT) (n : Nat), layT l t n = some t' → absHeap t' (n + l.length) life = ⟨l.foldl Array.push (absHeap t n life).objs, life⟩
  | [], t, t', n, h => by cases h; rfl
  | o :: l, t, t', n, h =>
    have q := bif_some (α := BT) h
    (congrArg (absHeap t' · life) (Nat.succ_add n l.length).symm).trans ((layT_abs l _ _ _ q.2).trans (congrArg (fun a : Heap => Heap.mk (l.foldl Array.push a.objs) life) (absHeap_ins q.1)))
theorem lay_heap {h : Heap} {t : BT} (e : layT h.objs.toList .nil 0 = some t) : absHeap t h.objs.size h.life = h :=
  (congrArg (absHeap t · h.life) (Nat.zero_add _).symm).trans ((layT_abs _ _ _ _ e).trans (congrArg (Heap.mk · h.life) (List.foldl_push_eq_append'.trans Array.empty_append)))
noncomputable def topFromT (p : Program) (w : World) (N : Nat) (s₀ : Shared) : Option Shared :=
  bif s₀.heap.isNs mainGlobals && s₀.gens.size == 0 then
    (layT s₀.heap.objs.toList .nil 0).bind fun T => (topRunT (PySem.W.Fast.tw6613529449190102663 s₀.heap.objs.size (s₀.heap.nsMap mainGlobals "__annotations__")) (PySem.W.Fast.tw10156331382660048174 (PySem.W.Fast.tw11892475500146522536 PySem.W.Fast.tw14364793385576792824) p w) N ⟨T, s₀.heap.objs.size, s₀.heap.life, s₀.gens, s₀.drawn, s₀.toks, s₀.os⟩ (topStub p)).bind fun s₁ =>
      bif staticsOk (importedModules p.main.body) s₀.heap s₁.abs.heap && namesBound p s₁.abs.heap && gensDone s₁.abs && laidKept s₀.heap s₁.abs.heap then some s₁.abs else none
  else none
theorem topFrom_of {p : Program} {w : World} {N : Nat} {s₀ s : Shared} (h : topFromT p w N s₀ = some s) : topFrom treeTable p w N s₀ = some s := by
  obtain ⟨a, h⟩ := bif_some h
  obtain ⟨T, b, h⟩ := Option.bind_eq_some_iff.mp h
  obtain ⟨s₁, c, h⟩ := Option.bind_eq_some_iff.mp h
  obtain ⟨d, h⟩ := bif_some h
  exact bif_mk a (Option.bind_eq_some_iff.mpr ⟨s₁.abs, topRun_tw (congrFun (congrFun PySem.W.Fast.te6613529449190102663.symm _) _) (congrFun (congrFun (congr PySem.W.Fast.te10156331382660048174.symm (congr PySem.W.Fast.te11892475500146522536.symm PySem.W.Fast.te14364793385576792824.symm)) p) w) (S := ⟨T, _, _, _, _, _, _⟩) (congrArg (Shared.mk · s₀.gens s₀.drawn s₀.toks s₀.os) (lay_heap b)) c, bif_mk d h⟩)
theorem LeftO.ofT {p q : Program} {loose : List Str} {Xt : Shared → Bool} {α : Type} {Yf : Shared → α} {Ya : World → α} {N : Nat} {g0 : Bool}
    (h : ∀ w : World, ((fencedOpening treeTable p w N).bind (topFromT p w N)).map (fun s => (PySem.W.Fast.tw4187177175401517315 q loose (importedModules p.main.body) Xt g0 s, Yf s)) = some (openGood q loose, Ya w)) : LeftO p q loose Xt Yf Ya N g0 := fun w => by
  obtain ⟨s, a, b⟩ := Option.map_eq_some_iff.mp (h w)
  obtain ⟨s₀, c, d⟩ := Option.bind_eq_some_iff.mp a
  refine Option.map_eq_some_iff.mpr ⟨s, Option.bind_eq_some_iff.mpr ⟨s₀, c, topFrom_of d⟩, ?_⟩
  rw [PySem.W.Fast.te4187177175401517315]
  exact b
end
section
set_option Elab.async false
set_option maxRecDepth 100000
set_option maxHeartbeats 8000000
noncomputable def viewF : Program := { PySem.Challenge.rw_qh0101_02.row.prog with main := { PySem.Challenge.rw_qh0101_02.row.prog.main with body := [0, 2, 3, 5, 6, 7, 8, 9, 10, 17, 18, 19, 20, 21, 23, 24, 25, 26, 27, 28, 29, 30, 31].map stT } }
noncomputable def looseF : List Str := [Str.ofString "bytes_types", Str.ofString "a2b_base64", Str.ofString "b2a_base64", Str.ofString "b64encode", Str.ofString "b64decode", Str.ofString "_NodeInfo"]
noncomputable def hookF : Hook := kHook KF KFa (fun _ => by kernel_rfl)
theorem hlF : LeftO PySem.Challenge.rw_qh0101_02.row.prog viewF looseF (fun s => xlAt viewF [] s && recOk (RowW.records PySem.Challenge.rw_qh0101_02.row.toRowW) s) (Hook.obs hookF) (Hook.val hookF) 3770 := LeftO.ofT fun w => by kernel_rfl
end
section
set_option Elab.async false
set_option maxRecDepth 100000
set_option maxHeartbeats 8000000
theorem saidF : PySem.Challenge.rw_qh0101_02.wellSaid = true := (congrFun PySem.W.Fast.te9446332074065402090 _).trans (by kernel_rfl)
end
section
set_option Elab.async false
set_option linter.all false
set_option maxRecDepth 100000
noncomputable def un : Value → Value
  | .int i _ => .int i 0
  | .float b _ => .float b 0
  | .str s _ => .str s 0
  | .bytes b _ => .bytes b 0
  | v => v
theorem un_int {v : Value} {i : Int} (h : un v = .int i 0) : ∃ t, v = .int i t := by
  cases v <;> simp [un] at h
  exact ⟨_, by rw [h]⟩
theorem un_bytes {v : Value} {b : Array UInt8} (h : un v = .bytes b 0) : ∃ t, v = .bytes b t := by
  cases v <;> simp [un] at h
  exact ⟨_, by rw [h]⟩
theorem un_str {v : Value} {b : Str} (h : un v = .str b 0) : ∃ t, v = .str b t := by
  cases v <;> simp [un] at h
  exact ⟨_, by rw [h]⟩
theorem un_ref {v : Value} {a : Addr} (h : un v = .ref a) : v = .ref a := by
  cases v <;> simp [un] at h
  rw [h]
theorem un_bool {v : Value} {b : Bool} (h : un v = .bool b) : v = .bool b := by
  cases v <;> simp [un] at h
  rw [h]
theorem un_none {v : Value} (h : un v = .none) : v = .none := by
  cases v <;> simp [un] at h
  rfl
theorem un_type {v : Value} {n : String} (h : un v = .type n) : v = .type n := by
  cases v <;> simp [un] at h
  rw [h]
theorem un_builtin {v : Value} {n : String} (h : un v = .builtin n) : v = .builtin n := by
  cases v <;> simp [un] at h
  rw [h]
noncomputable abbrev Loc := List (Str × Value)
noncomputable abbrev Shape := Obj → Prop
noncomputable abbrev Led := List (Addr × Shape)
structure St (base : Heap) (L : Addr) (m : Loc) (l : Led) (h : Heap) : Prop where
  keep : ∀ b o, base.get? b = some o → h.get? b = some o
  above : base.objs.size ≤ L
  ns : ∃ mv, h.Ns L mv ∧ ∀ x v, m.lookup x = some v → (mv x).map un = some v
  get : ∀ p ∈ l, ∃ o, h.get? p.1 = some o ∧ p.2 o
  fresh : ∀ p ∈ l, base.get? p.1 = none
  nd : (L :: l.map (·.1)).Nodup
noncomputable def Rel (s s₁ : Shared) : Prop := ∃ h tk, s₁ = { s with heap := h, toks := tk }
theorem Rel.refl (s : Shared) : Rel s s := ⟨_, _, rfl⟩
theorem Rel.trans {s s₁ s₂ : Shared} (a : Rel s s₁) (b : Rel s₁ s₂) : Rel s s₂ := by
  obtain ⟨h, tk, rfl⟩ := a; obtain ⟨h', tk', rfl⟩ := b; exact ⟨h', tk', rfl⟩
theorem Rel.of (s : Shared) (h : Heap) (tk : Nat) : Rel s { s with heap := h, toks := tk } := ⟨h, tk, rfl⟩
theorem Rel.heap (s : Shared) (h : Heap) : Rel s { s with heap := h } := ⟨h, s.toks, rfl⟩
theorem Rel.tok (s : Shared) (t : Nat) : Rel s { s with toks := t } := ⟨s.heap, t, rfl⟩
noncomputable def Out (base : Heap) (L : Addr) (s : Shared) (P : Loc → Led → Prop) (s' : Shared) : Prop :=
  Rel s s' ∧ ∃ m l, St base L m l s'.heap ∧ P m l
theorem Out.lift {base : Heap} {L : Addr} {s s₁ s' : Shared} {P : Loc → Led → Prop} (hs : Rel s s₁) (o : Out base L s₁ P s') : Out base L s P s' :=
  ⟨hs.trans o.1, o.2⟩
theorem Out.mono {base : Heap} {L : Addr} {s s' : Shared} {P P' : Loc → Led → Prop} (o : Out base L s P s') (h : ∀ m l, P m l → P' m l) : Out base L s P' s' :=
  ⟨o.1, let ⟨m, l, S, p⟩ := o.2; ⟨m, l, S, h m l p⟩⟩
variable {α β γ δ : Type}
structure Cx where
  prog : Program
  w : World
  base : Heap
  A : Around
  L : Addr
noncomputable abbrev Cx.M (C : Cx) : Model := model C.prog C.w
noncomputable def T (C : Cx) (φ : α → β) (m : Loc) (l : Led) (t : Sem α) (Q : β → Loc → Led → Prop) (E : Value → Loc → Led → Prop) : Prop :=
  ∀ s : Shared, St C.base C.L m l s.heap → wpAny (model C.prog C.w) C.A t (fun a s' => Out C.base C.L s (Q (φ a)) s') (fun e s' => Out C.base C.L s (E e) s') s
section
variable {C : Cx} {φ : α → β} {ψ : γ → δ} {m : Loc} {l : Led} {Q : β → Loc → Led → Prop} {E : Value → Loc → Led → Prop}
theorem T.next {t : Sem α} (h : T C φ m l t Q E) {s s₁ : Shared} (S : St C.base C.L m l s₁.heap) (hs : Rel s s₁) {K : α → Shared → Prop}
    (hk : ∀ a s' m' l', St C.base C.L m' l' s'.heap → Rel s s' → Q (φ a) m' l' → K a s') : wpAny (model C.prog C.w) C.A t K (fun e s' => Out C.base C.L s (E e) s') s₁ :=
  wpAny_mono (h s₁ S) (fun a s' o => let ⟨hr, m', l', S', q⟩ := o; hk a s' m' l' S' (hs.trans hr) q) (fun _ _ o => o.lift hs)
theorem T.fin {t : Sem α} (h : T C φ m l t Q E) {s s₁ : Shared} (S : St C.base C.L m l s₁.heap) (hs : Rel s s₁) :
    wpAny (model C.prog C.w) C.A t (fun a s' => Out C.base C.L s (Q (φ a)) s') (fun e s' => Out C.base C.L s (E e) s') s₁ :=
  h.next S hs fun _ _ m' l' S' r q => ⟨r, m', l', S', q⟩
theorem T.mono {t : Sem α} {Q' : β → Loc → Led → Prop} {E' : Value → Loc → Led → Prop} (h : T C φ m l t Q E) (hq : ∀ a m l, Q a m l → Q' a m l) (he : ∀ e m l, E e m l → E' e m l) :
    T C φ m l t Q' E' := fun s S => wpAny_mono (h s S) (fun _ _ o => o.mono (hq _)) (fun _ _ o => o.mono (he _))
theorem T.post {t : Sem α} {Q' : β → Loc → Led → Prop} (h : T C φ m l t Q E) (hq : ∀ a m l, Q a m l → Q' a m l) :
    T C φ m l t Q' E := h.mono hq fun _ _ _ e => e
theorem T.pure {a : α} (h : Q (φ a) m l) : T C φ m l (pure a) Q E := fun s S => wpAny_pure ⟨Rel.refl s, m, l, S, h⟩
theorem T.bind {t : Sem α} {f : α → Sem γ} {R : δ → Loc → Led → Prop} (h : T C φ m l t (fun b m l => ∀ a, φ a = b → T C ψ m l (f a) R E) E) :
    T C ψ m l (t >>= f) R E := fun s S => wpAny_bind (h.next S (Rel.refl s) fun a _ _ _ S' hr q => (q a rfl).fin S' hr)
theorem T.led {t : Sem α} {l' : Led} {m' : Loc} (hl : ∀ h, St C.base C.L m l h → St C.base C.L m' l' h) (h : T C φ m' l' t Q E) : T C φ m l t Q E :=
  fun s S => h s (hl _ S)
theorem Out.here {base : Heap} {L : Addr} {P : Loc → Led → Prop} {s s' : Shared} {m : Loc} {l : Led} (hr : Rel s s') (S : St base L m l s'.heap) (h : P m l) : Out base L s P s' := ⟨hr, m, l, S, h⟩
end
/-! ## the ledger -/
inductive Put (x : Str) (v : Value) : Loc → Loc → Prop
  | nil : Put x v [] [(x, v)]
  | here {u : Value} {r : Loc} : Put x v ((x, u) :: r) ((x, v) :: r)
  | there {y : Str} {u : Value} {r r' : Loc} : y ≠ x → Put x v r r' → Put x v ((y, u) :: r) ((y, u) :: r')
theorem Put.lookup {x : Str} {v : Value} {m m' : Loc} (h : Put x v m m') (y : Str) : m'.lookup y = if y = x then some v else m.lookup y := by
  induction h with
  | nil =>
    by_cases hy : y = x
    · simp [hy]
    · have : (y == x) = false := by simpa using hy
      simp [List.lookup_cons, hy, this]
  | here =>
    by_cases hy : y = x
    · simp [hy]
    · have : (y == x) = false := by simpa using hy
      simp [List.lookup_cons, hy, this]
  | there hne _ ih =>
    rename_i z u r r' _
    by_cases hz : y = z
    · subst hz; simp [List.lookup_cons, hne]
    · have : (y == z) = false := by simpa using hz
      simp only [List.lookup_cons, this]
      exact ih
inductive Look (x : Str) (v : Value) : Loc → Prop
  | here {r : Loc} : Look x v ((x, v) :: r)
  | there {y : Str} {u : Value} {r : Loc} : y ≠ x → Look x v r → Look x v ((y, u) :: r)
theorem Look.lookup {x : Str} {v : Value} {m : Loc} (h : Look x v m) : m.lookup x = some v := by
  induction h with
  | here => simp [List.lookup_cons]
  | there hne _ ih =>
    rename_i z u r _
    have : (x == z) = false := by simpa using (Ne.symm hne)
    simp only [List.lookup_cons, this]
    exact ih
inductive Upd (a : Addr) (P P' : Shape) : Led → Led → Prop
  | here {r : Led} : Upd a P P' ((a, P) :: r) ((a, P') :: r)
  | there {e : Addr × Shape} {r r' : Led} : Upd a P P' r r' → Upd a P P' (e :: r) (e :: r')
theorem Upd.mem {a : Addr} {P P' : Shape} {l l' : Led} (h : Upd a P P' l l') : (a, P) ∈ l := by
  induction h with
  | here => exact .head _
  | there _ ih => exact .tail _ ih
theorem Upd.map {a : Addr} {P P' : Shape} {l l' : Led} (h : Upd a P P' l l') : l'.map (·.1) = l.map (·.1) := by
  induction h with
  | here => rfl
  | there _ ih => simp [ih]
theorem Upd.mem' {a : Addr} {P P' : Shape} {l l' : Led} (h : Upd a P P' l l') (hn : (l.map (·.1)).Nodup) : ∀ p ∈ l', p = (a, P') ∨ (p.1 ≠ a ∧ p ∈ l) := by
  induction h with
  | here =>
    intro p hp
    rcases List.mem_cons.mp hp with rfl | hp
    · exact .inl rfl
    · refine .inr ⟨fun e => ?_, .tail _ hp⟩
      simp only [List.map_cons, List.nodup_cons] at hn
      exact hn.1 (e ▸ List.mem_map_of_mem hp)
  | there hu ih =>
    rename_i e r r'
    intro p hp
    simp only [List.map_cons, List.nodup_cons] at hn
    rcases List.mem_cons.mp hp with rfl | hp
    · refine .inr ⟨fun h => hn.1 ?_, .head _⟩
      rw [h]; exact List.mem_map_of_mem (f := (·.1)) hu.mem
    · rcases ih hn.2 p hp with h | h
      · exact .inl h
      · exact .inr ⟨h.1, .tail _ h.2⟩
section
variable {base : Heap} {L : Addr} {m m' : Loc} {l l' : Led} {h h' : Heap}
theorem St.nodup (S : St base L m l h) : (l.map (·.1)).Nodup := (List.nodup_cons.mp S.nd).2
theorem St.ne (S : St base L m l h) {a : Addr} {P : Shape} (hm : (a, P) ∈ l) : a ≠ L := fun e =>
  (List.nodup_cons.mp S.nd).1 (e ▸ List.mem_map_of_mem (f := (·.1)) hm)
theorem St.at (S : St base L m l h) {a : Addr} {P : Shape} (hm : (a, P) ∈ l) : ∃ o, h.get? a = some o ∧ P o := S.get _ hm
theorem St.upd (S : St base L m l h) {a : Addr} {P P' : Shape} (U : Upd a P P' l l') (hs : Heap.SameBut a h h') {o : Obj} (ho : h'.get? a = some o) (hp : P' o) : St base L m l' h' := by
  have hn := S.nodup
  refine ⟨fun b ob e => ?_, S.above, ?_, fun p hp' => ?_, fun p hp' => ?_, ?_⟩
  · have : b ≠ a := fun e' => by
      have h1 := S.fresh _ U.mem
      rw [e', h1] at e
      cases e
    exact (hs.2 b this).trans (S.keep b ob e)
  · obtain ⟨mv, hns, hx⟩ := S.ns
    exact ⟨mv, hns.sameBut hs (Ne.symm (S.ne U.mem)), hx⟩
  · rcases U.mem' hn p hp' with rfl | ⟨h1, h2⟩
    · exact ⟨o, ho, hp⟩
    · obtain ⟨o', e, q⟩ := S.get p h2
      exact ⟨o', (hs.2 _ h1).trans e, q⟩
  · rcases U.mem' hn p hp' with rfl | ⟨h1, h2⟩
    · exact S.fresh (a, P) U.mem
    · exact S.fresh p h2
  · rw [U.map]; exact S.nd
theorem St.new (S : St base L m l h) {a : Addr} {P : Shape} (ha : h.get? a = none) (hk : ∀ b o, h.get? b = some o → h'.get? b = some o) {o : Obj} (ho : h'.get? a = some o) (hp : P o) : St base L m ((a, P) :: l) h' := by
  obtain ⟨mv, hns, hx⟩ := S.ns
  have hLa : L ≠ a := fun e => by
    obtain ⟨o, _, _, h1, _⟩ := hns
    rw [e, ha] at h1
    cases h1
  refine ⟨fun b ob e => hk b ob (S.keep b ob e), S.above, ⟨mv, hns.keeps hk, hx⟩, fun p hp' => ?_, fun p hp' => ?_, ?_⟩
  · rcases List.mem_cons.mp hp' with rfl | hp'
    · exact ⟨o, ho, hp⟩
    · obtain ⟨o', e, q⟩ := S.get p hp'
      exact ⟨o', hk _ _ e, q⟩
  · rcases List.mem_cons.mp hp' with rfl | hp'
    · cases q : base.get? a with
      | none => rfl
      | some o => have := S.keep _ _ q; rw [ha] at this; cases this
    · exact S.fresh p hp'
  · have h0 := S.nd
    simp only [List.map_cons, List.nodup_cons, List.mem_cons, not_or] at h0 ⊢
    refine ⟨⟨hLa, h0.1⟩, fun hm => ?_, h0.2⟩
    obtain ⟨p, hp1, hp2⟩ := List.mem_map.mp hm
    obtain ⟨o', e, _⟩ := S.get p hp1
    rw [hp2, ha] at e
    cases e
theorem St.push (S : St base L m l h) {P : Shape} (o : Obj) (hf : o.isFreed = false) (hp : P o) : St base L m ((h.objs.size, P) :: l) (h.push o) :=
  S.new (Heap.get?_none_of_le (Nat.le_refl _)) (fun _ _ e => Heap.get?_push_of_some _ e) (Heap.get?_push_size _ hf) hp
theorem St.grow (S : St base L m l h) (hk : ∀ b o, h.get? b = some o → h'.get? b = some o) : St base L m l h' := by
  obtain ⟨mv, hns, hx⟩ := S.ns
  exact ⟨fun b ob e => hk b ob (S.keep b ob e), S.above, ⟨mv, hns.keeps hk, hx⟩, fun p hp => let ⟨o, e, q⟩ := S.get p hp; ⟨o, hk _ _ e, q⟩, S.fresh, S.nd⟩
theorem St.store (S : St base L m l h) {x : Str} {v : Value} {mv : Str → Option Value} (hx : ∀ y u, m.lookup y = some u → (mv y).map un = some u) (hn : h'.Ns L (fun y => if y = x then some v else mv y)) (hs : Heap.SameBut L h h') (P : Put x (un v) m m') : St base L m' l h' := by
  refine ⟨fun b ob e => ?_, S.above, ⟨_, hn, fun y u hu => ?_⟩, fun p hp => ?_, S.fresh, S.nd⟩
  · have : b ≠ L := Nat.ne_of_lt (Nat.lt_of_lt_of_le (Heap.lt_size e) S.above)
    exact (hs.2 b this).trans (S.keep b ob e)
  · rw [P.lookup] at hu
    by_cases hy : y = x
    · simp only [hy, if_true] at hu ⊢; exact hu
    · simp only [hy, if_false] at hu ⊢; exact hx y u hu
  · obtain ⟨o, e, q⟩ := S.get p hp
    exact ⟨o, (hs.2 _ (S.ne hp)).trans e, q⟩
theorem St.perm (S : St base L m l h) (hp : l.Perm l') : St base L m l' h :=
  ⟨S.keep, S.above, S.ns, fun p hm => S.get p (hp.mem_iff.mpr hm), fun p hm => S.fresh p (hp.mem_iff.mpr hm), (List.Perm.cons _ (hp.map _)).nodup_iff.mp S.nd⟩
theorem St.sub (S : St base L m l h) (hp : l'.Sublist l) : St base L m l' h :=
  ⟨S.keep, S.above, S.ns, fun p hm => S.get p (hp.subset hm), fun p hm => S.fresh p (hp.subset hm), S.nd.sublist ((hp.map _).cons_cons _)⟩
inductive Fg : Loc → Loc → Prop
  | nil {m : Loc} : Fg [] m
  | cons {x : Str} {v : Value} {r m : Loc} : Look x v m → Fg r m → Fg ((x, v) :: r) m
theorem Fg.lookup {m' m : Loc} (h : Fg m' m) : ∀ x v, m'.lookup x = some v → m.lookup x = some v := by
  induction h with
  | nil => intro x v h; cases h
  | cons hl _ ih =>
    intro y u hu
    rename_i x v r m _
    simp only [List.lookup_cons] at hu
    cases hy : y == x
    · rw [hy] at hu; exact ih y u hu
    · rw [hy] at hu
      have : y = x := by simpa using hy
      subst this
      cases hu
      exact hl.lookup
theorem St.forget (S : St base L m l h) (hf : Fg m' m) : St base L m' l h :=
  ⟨S.keep, S.above, let ⟨mv, hn, hx⟩ := S.ns; ⟨mv, hn, fun x v e => hx x v (hf.lookup x v e)⟩, S.get, S.fresh, S.nd⟩
end
end
section
set_option Elab.async false
set_option linter.all false
set_option maxRecDepth 100000
noncomputable abbrev Ps := Loc → Led → Prop
noncomputable abbrev Pv := Value → Loc → Led → Prop
noncomputable def unF : Flow → Flow
  | .ret v => .ret (un v)
  | f => f
noncomputable def TV (C : Cx) (m : Loc) (l : Led) (t : Sem Value) (Q : Pv) (E : Pv) : Prop := T C un m l t Q E
noncomputable def TF (C : Cx) (m : Loc) (l : Led) (t : Sem Flow) (Q : Flow → Loc → Led → Prop) (E : Pv) : Prop := T C unF m l t Q E
noncomputable def Tb (C : Cx) (m : Loc) (l : Led) (t : Sem Bool) (Q : Bool → Loc → Led → Prop) (E : Pv) : Prop := T C id m l t Q E
noncomputable def TU (C : Cx) (m : Loc) (l : Led) (t : Sem Unit) (Q : Ps) (E : Pv) : Prop := T C id m l t (fun _ => Q) E
noncomputable def TL (C : Cx) (m : Loc) (l : Led) (t : Sem (List Value)) (Q : List Value → Loc → Led → Prop) (E : Pv) : Prop := T C (List.map un) m l t Q E
noncomputable def TB (C : Cx) (m : Loc) (l : Led) (op : Operator) (a b : Value) (Q E : Pv) : Prop := ∀ va vb, un va = a → un vb = b → TV C m l (binaryOp op va vb) Q E
noncomputable def TI (C : Cx) (m : Loc) (l : Led) (op : Operator) (a b : Value) (Q E : Pv) : Prop := ∀ va vb, un va = a → un vb = b → TV C m l (inplaceOp op va vb) Q E
noncomputable def TC (C : Cx) (m : Loc) (l : Led) (op : CmpOp) (a b : Value) (Q E : Pv) : Prop := ∀ va vb, un va = a → un vb = b → TV C m l (compareOp op va vb) Q E
noncomputable def TUn (C : Cx) (m : Loc) (l : Led) (op : UnaryOp) (a : Value) (Q E : Pv) : Prop := ∀ va, un va = a → TV C m l (unaryOp op va) Q E
noncomputable def TT (C : Cx) (m : Loc) (l : Led) (a : Value) (Q : Bool → Loc → Led → Prop) (E : Pv) : Prop := ∀ va, un va = a → Tb C m l (truthy va) Q E
noncomputable def TS (C : Cx) (m : Loc) (l : Led) (env : Env) (x : Str) (a : Value) (Q : Ps) (E : Pv) : Prop := ∀ va, un va = a → TU C m l (storeName env x va) Q E
noncomputable def TA (C : Cx) (m : Loc) (l : Led) (t : Expr) (env : Env) (a : Value) (Q : Ps) (E : Pv) : Prop := ∀ va, un va = a → TU C m l (assign t env va) Q E
noncomputable def Then (K : Ps) (Q : Flow → Loc → Led → Prop) : Flow → Loc → Led → Prop
  | .next => K
  | f => Q f
noncomputable def Br (b : Bool) (X Y : Prop) : Prop := (b = true → X) ∧ (b = false → Y)
theorem Br.tt {X Y : Prop} (h : X) : Br true X Y := ⟨fun _ => h, fun e => by cases e⟩
theorem Br.ff {X Y : Prop} (h : Y) : Br false X Y := ⟨(fun e => by cases e), fun _ => h⟩
theorem Br.dec {p : Prop} [Decidable p] {X Y : Prop} (h : p → X) (h' : ¬ p → Y) : Br (decide p) X Y := ⟨fun e => h (of_decide_eq_true e), fun e => h' (of_decide_eq_false e)⟩
theorem Br.eqi {a b : Int} {X Y : Prop} (h : a = b → X) (h' : a ≠ b → Y) : Br (a == b) X Y := ⟨fun e => h (by simpa using e), fun e => h' (by simpa using e)⟩
theorem Br.nei {a b : Int} {X Y : Prop} (h : a ≠ b → X) (h' : a = b → Y) : Br (a != b) X Y := ⟨fun e => h (by simpa using e), fun e => h' (by simpa using e)⟩
theorem Br.of {b : Bool} {X Y : Prop} (h : b = true → X) (h' : b = false → Y) : Br b X Y := ⟨h, h'⟩
noncomputable abbrev Qf := Flow → Loc → Led → Prop
noncomputable abbrev Qb := Bool → Loc → Led → Prop
noncomputable abbrev Ql := List Value → Loc → Led → Prop
noncomputable abbrev KTF (C : Cx) (t : Sem Flow) (Q : Qf) (E : Pv) : Ps := fun m l => TF C m l t Q E
noncomputable abbrev KX (C : Cx) (env : Env) (ss : List Stmt) (Q : Qf) (E : Pv) : Ps := fun m l => TF C m l (execs ss env) Q E
noncomputable abbrev KIf (C : Cx) (env : Env) (ss tt : List Stmt) (Q Q' : Qf) (E : Pv) : Qb := fun b m l => Br b (TF C m l (execs ss env) Q E) (TF C m l (execs tt env) Q' E)
noncomputable abbrev KAsrt (Q : Qf) : Qb := fun b m l => b = true ∧ Q .next m l
noncomputable abbrev KAsg (C : Cx) (env : Env) (x : Str) (Q : Ps) (E : Pv) : Pv := fun v m l => TS C m l env x v Q E
noncomputable abbrev KDrop (Q : Qf) : Pv := fun v m l => (∀ a, v ≠ .ref a) ∧ Q .next m l
noncomputable abbrev KRet (Q : Qf) : Pv := fun v => Q (.ret v)
noncomputable abbrev KTA (C : Cx) (env : Env) (t : Expr) (v : Value) (Q : Ps) (E : Pv) : Ps := fun m l => TA C m l t env v Q E
noncomputable abbrev KAs (C : Cx) (env : Env) (t : Expr) (Q : Ps) (E : Pv) : Pv := fun v m l => TA C m l t env v Q E
noncomputable abbrev KAs2 (C : Cx) (env : Env) (t₁ t₂ : Expr) (Q : Ps) (E : Pv) : Pv := fun v m l => TA C m l t₁ env v (KTA C env t₂ v Q E) E
noncomputable abbrev KBin2 (C : Cx) (op : Operator) (a : Value) (Q E : Pv) : Pv := fun b m l => TB C m l op a b Q E
noncomputable abbrev KBin (C : Cx) (env : Env) (op : Operator) (y : Expr) (Q E : Pv) : Pv := fun a m l => TV C m l (eval y env) (KBin2 C op a Q E) E
noncomputable abbrev KUn (C : Cx) (op : UnaryOp) (Q E : Pv) : Pv := fun a m l => TUn C m l op a Q E
noncomputable abbrev KIfE (C : Cx) (env : Env) (x y : Expr) (Q E : Pv) : Qb := fun b m l => Br b (TV C m l (eval x env) Q E) (TV C m l (eval y env) Q E)
noncomputable abbrev KCm2 (C : Cx) (op : CmpOp) (a : Value) (Q E : Pv) : Pv := fun b m l => TC C m l op a b Q E
noncomputable abbrev KCm (C : Cx) (env : Env) (op : CmpOp) (y : Expr) (Q E : Pv) : Pv := fun a m l => TV C m l (eval y env) (KCm2 C op a Q E) E
noncomputable abbrev KWal (C : Cx) (env : Env) (t : Expr) (Q E : Pv) : Pv := fun v m l => TA C m l t env v (Q v) E
noncomputable abbrev KAndB (C : Cx) (env : Env) (y : Expr) (v : Value) (Q E : Pv) : Qb := fun b m l => Br b (TV C m l (eval y env) Q E) (Q v m l)
noncomputable abbrev KOrB (C : Cx) (env : Env) (y : Expr) (v : Value) (Q E : Pv) : Qb := fun b m l => Br b (Q v m l) (TV C m l (eval y env) Q E)
noncomputable abbrev KAnd (C : Cx) (env : Env) (y : Expr) (Q E : Pv) : Pv := fun v m l => TT C m l v (KAndB C env y v Q E) E
noncomputable abbrev KOr (C : Cx) (env : Env) (y : Expr) (Q E : Pv) : Pv := fun v m l => TT C m l v (KOrB C env y v Q E) E
noncomputable abbrev KT (C : Cx) (Q : Qb) (E : Pv) : Pv := fun v m l => TT C m l v Q E
noncomputable abbrev KBAnd (C : Cx) (env : Env) (r : List Expr) (Q : Qb) (E : Pv) : Qb := fun b m l => Br b (Tb C m l (allTrue .And r env) Q E) (Q false m l)
noncomputable abbrev KBOr (C : Cx) (env : Env) (r : List Expr) (Q : Qb) (E : Pv) : Qb := fun b m l => Br b (Q true m l) (Tb C m l (allTrue .Or r env) Q E)
section
variable {C : Cx} {m : Loc} {l : Led} {E : Pv} {env : Env}
/-! ### statements -/
theorem execs_nil {Q} (h : Q .next m l) : TF C m l (execs [] env) Q E := fun s S => wpAny_execs_nil (Out.here (Rel.refl s) S h)
theorem execs_cons {st : Stmt} {rest : List Stmt} {Q} (h : TF C m l (exec st env) (Then (KX C env rest Q E) Q) E) : TF C m l (execs (st :: rest) env) Q E := fun s S => by
  refine wpAny_execs_cons (T.next h S (Rel.refl s) fun f s' m' l' S' hr q => ?_)
  cases f with
  | next => exact T.fin q S' hr
  | brk => exact Out.here hr S' q
  | cont => exact Out.here hr S' q
  | ret v => exact Out.here hr S' q
theorem x_return {e : Expr} {pos : Pos} {Q} (h : TV C m l (eval e env) (KRet Q) E) : TF C m l (exec (.Return (some e) pos) env) Q E := fun s S =>
  wpAny_Return_some (T.fin h S (Rel.refl s))
theorem x_break {pos : Pos} {Q} (h : Q .brk m l) : TF C m l (exec (.Break pos) env) Q E := fun s S => wpAny_Break (Out.here (Rel.refl s) S h)
theorem x_continue {pos : Pos} {Q} (h : Q .cont m l) : TF C m l (exec (.Continue pos) env) Q E := fun s S => wpAny_Continue (Out.here (Rel.refl s) S h)
theorem x_if {test : Expr} {body orelse : List Stmt} {pos : Pos} {Q} (h : Tb C m l (isTrue test env (eval test env)) (KIf C env body orelse Q Q E) E) :
    TF C m l (exec (.If test body orelse pos) env) Q E := fun s S => by
  refine wpAny_If (T.next h S (Rel.refl s) fun b s' m' l' S' hr q => ?_)
  cases b with
  | true => exact T.fin (q.1 rfl) S' hr
  | false => exact T.fin (q.2 rfl) S' hr
theorem x_assert {test : Expr} {msg : Option Expr} {pos : Pos} {Q} (h : Tb C m l (isTrue test env (eval test env)) (KAsrt Q) E) :
    TF C m l (exec (.Assert test msg pos) env) Q E := fun s S =>
  wpAny_Assert_holds (T.next h S (Rel.refl s) fun b s' m' l' S' hr q => ⟨q.1, Out.here hr S' q.2⟩)
theorem x_assign {x : Str} {p pos : Pos} {e : Expr} {Q} (h : TV C m l (eval e env) (KAsg C env x (Q .next) E) E)
    (hs : swapsWith e (some (.Name x p)) pos.line env = pure false := by with_unfolding_all rfl) : TF C m l (exec (.Assign [.Name x p] e pos) env) Q E := fun s S =>
  wpAny_Assign_Name (T.next h S (Rel.refl s) fun v s' m' l' S' hr q => T.fin (q v rfl) S' hr) hs
theorem x_expr {e : Expr} {pos : Pos} {Q} (h : TV C m l (eval e env) (KDrop Q) E)
    (hi : interactive env = false := by with_unfolding_all rfl) (hs : swapsWith e none pos.line env = pure false := by with_unfolding_all rfl) : TF C m l (exec (.Expr e pos) env) Q E := fun s S => by
  refine wpAny_Expr (T.next h S (Rel.refl s) fun v s' m' l' S' hr q => ?_) hi hs
  have hv := q.1
  cases v with
  | ref a => exact absurd rfl (hv a)
  | _ => exact Out.here hr S' q.2
theorem x_assign2 {t₁ t₂ e : Expr} {pos : Pos} {Q} (h : TV C m l (eval e env) (KAs2 C env t₁ t₂ (Q .next) E) E)
    (he : (assignEach [t₁, t₂] env).map (·.2) = [assign t₁ env, assign t₂ env] := by with_unfolding_all rfl)
    (hw : swappedStores [t₁, t₂] e env = pure none := by with_unfolding_all rfl) : TF C m l (exec (.Assign [t₁, t₂] e pos) env) Q E := fun s S =>
  wpAny_Assign_two (T.next h S (Rel.refl s) fun v s' m' l' S' hr q => T.next (q v rfl) S' hr fun _ s₂ m₂ l₂ S₂ r₂ q₂ => T.fin (q₂ v rfl) S₂ r₂) he hw
theorem store {x : Str} {v : Value} {m' : Loc} {Q : Ps} (hP : Put x v m m') (h : Q m' l) (hl : env.kindOf x = some .local := by with_unfolding_all rfl) (he : env.locals = C.L := by with_unfolding_all rfl)
    (hp : (env.scope.kind == .class || (env.scope.kind == .module && env.locals != env.globals)) = false := by with_unfolding_all rfl) : TS C m l env x v Q E := by
  rintro va rfl s S
  obtain ⟨mv, hn, hx⟩ := S.ns
  refine wpAny_storeName_local hl (he ▸ hn) (fun h' hn' hs' => ?_) hp
  rw [he] at hn' hs'
  exact Out.here (Rel.of s _ _) (S.store hx hn' hs' hP) h
theorem a_name {x : Str} {p : Pos} {v : Value} {Q : Ps} (h : TS C m l env x v Q E) : TA C m l (.Name x p) env v Q E := fun va hv s S =>
  wpAny_assign_Name (T.fin (h va hv) S (Rel.refl s))
/-! ### expressions -/
theorem e_int {i : Int} {k : Nat} {pos : Pos} {Q : Pv} (h : Q (.int i 0) m l) : TV C m l (eval (.Constant (.int i) k pos) env) Q E := fun s S => wpAny_Constant_int (Out.here (Rel.tok s _) S h)
theorem e_none {k : Nat} {pos : Pos} {Q : Pv} (h : Q .none m l) : TV C m l (eval (.Constant .none k pos) env) Q E := fun s S => wpAny_Constant_none (Out.here (Rel.refl s) S h)
theorem e_bool {b : Bool} {k : Nat} {pos : Pos} {Q : Pv} (h : Q (.bool b) m l) : TV C m l (eval (.Constant (.bool b) k pos) env) Q E := fun s S => wpAny_Constant_bool (Out.here (Rel.refl s) S h)
theorem e_str {x : Str} {k : Nat} {pos : Pos} {Q : Pv} (h : Q (.str x 0) m l) : TV C m l (eval (.Constant (.str x) k pos) env) Q E := fun s S => wpAny_Constant_str (Out.here (Rel.tok s _) S h)
theorem e_bytes {x : List UInt8} {k : Nat} {pos : Pos} {Q : Pv} (h : Q (.bytes x.toArray 0) m l) : TV C m l (eval (.Constant (.bytes x) k pos) env) Q E := fun s S => by
  have : Out C.base C.L s (Q (un (.bytes x.toArray s.toks))) { s with toks := s.toks + 1 } := Out.here (Rel.tok s _) S h
  exact fun _ _ _ => this
theorem e_name {x : Str} {pos : Pos} {v : Value} {Q : Pv} (hv : Look x v m) (h : Q v m l) (hk : env.scope.kind = .function := by with_unfolding_all rfl) (hl : env.kindOf x = some .local := by with_unfolding_all rfl) (he : env.locals = C.L := by with_unfolding_all rfl)
    (hd : (x == ("__debug__" : Str)) = false := by decide) : TV C m l (eval (.Name x pos) env) Q E := fun s S => by
  obtain ⟨mv, hn, hx⟩ := S.ns
  have h1 := hx x _ hv.lookup
  cases h2 : mv x with
  | none => rw [h2] at h1; cases h1
  | some u =>
    rw [h2] at h1
    have h3 : un u = v := by simpa using h1
    exact wpAny_Name (wpAny_loadName_local hk hl (he ▸ hn) h2 (Out.here (Rel.refl s) S (h3 ▸ h))) hd
theorem e_binop {x y : Expr} {op : Operator} {pos : Pos} {Q : Pv} (h : TV C m l (eval x env) (KBin C env op y Q E) E) : TV C m l (eval (.BinOp x op y pos) env) Q E := fun s S =>
  wpAny_BinOp (T.next h S (Rel.refl s) fun a s₁ m₁ l₁ S₁ r₁ q₁ => T.next q₁ S₁ r₁ fun b s₂ m₂ l₂ S₂ r₂ q₂ => T.fin (q₂ a b rfl rfl) S₂ r₂)
theorem e_unop {x : Expr} {op : UnaryOp} {pos : Pos} {Q : Pv} (h : TV C m l (eval x env) (KUn C op Q E) E) : TV C m l (eval (.UnaryOp op x pos) env) Q E := fun s S =>
  wpAny_UnaryOp (T.next h S (Rel.refl s) fun a s₁ m₁ l₁ S₁ r₁ q₁ => T.fin (q₁ a rfl) S₁ r₁)
theorem e_ifexp {t x y : Expr} {pos : Pos} {Q : Pv} (h : Tb C m l (isTrue t env (eval t env)) (KIfE C env x y Q E) E) : TV C m l (eval (.IfExp t x y pos) env) Q E := fun s S => by
  refine wpAny_IfExp (T.next h S (Rel.refl s) fun b s' m' l' S' hr q => ?_)
  cases b with
  | true => exact T.fin (q.1 rfl) S' hr
  | false => exact T.fin (q.2 rfl) S' hr
theorem e_compare {x y : Expr} {op : CmpOp} {pos : Pos} {Q : Pv} (h : TV C m l (eval x env) (KCm C env op y Q E) E)
    (hm : behindInMarks op y = false := by with_unfolding_all rfl) : TV C m l (eval (.Compare x [op] [y] pos) env) Q E := fun s S =>
  wpAny_Compare1 (T.next h S (Rel.refl s) fun a s₁ m₁ l₁ S₁ r₁ q₁ => T.next q₁ S₁ r₁ fun b s₂ m₂ l₂ S₂ r₂ q₂ => T.fin (q₂ a b rfl rfl) S₂ r₂) hm
theorem e_walrus {t e : Expr} {pos : Pos} {Q : Pv} (h : TV C m l (eval e env) (KWal C env t Q E) E) : TV C m l (eval (.NamedExpr t e pos) env) Q E := fun s S =>
  wpAny_NamedExpr (T.next h S (Rel.refl s) fun v s' m' l' S' hr q => T.next (q v rfl) S' hr fun _ s₂ m₂ l₂ S₂ r₂ q₂ => Out.here r₂ S₂ q₂)
theorem e_or {x y : Expr} {pos : Pos} {Q : Pv} (h : TV C m l (eval x env) (KOr C env y Q E) E) : TV C m l (eval (.BoolOp .Or [x, y] pos) env) Q E := fun s S => by
  refine wpAny_Or2 (T.next h S (Rel.refl s) fun v s' m' l' S' hr q => T.next (q v rfl) S' hr fun b s₂ m₂ l₂ S₂ r₂ q₂ => ?_)
  cases b with
  | true => exact Out.here r₂ S₂ (q₂.1 rfl)
  | false => exact T.fin (q₂.2 rfl) S₂ r₂
/-! ### tests -/
theorem b_compare {x y : Expr} {op : CmpOp} {pos : Pos} {whole : Sem Value} {Q} (h : TV C m l (eval x env) (KCm C env op y (KT C Q E) E) E)
    (hm : behindInMarks op y = false := by with_unfolding_all rfl) : Tb C m l (isTrue (.Compare x [op] [y] pos) env whole) Q E := fun s S =>
  wpAny_isTrue_Compare1 (T.next h S (Rel.refl s) fun a s₁ m₁ l₁ S₁ r₁ q₁ => T.next q₁ S₁ r₁ fun b s₂ m₂ l₂ S₂ r₂ q₂ => T.next (q₂ a b rfl rfl) S₂ r₂ fun c s₃ m₃ l₃ S₃ r₃ q₃ => T.fin (q₃ c rfl) S₃ r₃) hm
theorem b_value {e : Expr} {whole : Sem Value} {Q} (h : TV C m l whole (KT C Q E) E) (he : isTrue e env whole = (do let v ← whole; standAt e.pos; holding [v] (truthy v)) := by with_unfolding_all rfl) : Tb C m l (isTrue e env whole) Q E := fun s S =>
  wpAny_isTrue_value (T.next h S (Rel.refl s) fun v s' m' l' S' hr q => T.fin (q v rfl) S' hr) he
theorem b_bool {op : BoolOp} {es : List Expr} {pos : Pos} {whole : Sem Value} {Q} (h : Tb C m l (allTrue op es env) Q E) : Tb C m l (isTrue (.BoolOp op es pos) env whole) Q E := fun s S => wpAny_isTrue_BoolOp (T.fin h S (Rel.refl s))
theorem b_and_nil {Q} (h : Q true m l) : Tb C m l (allTrue .And [] env) Q E := fun s S => wpAny_allTrue_And_nil (Out.here (Rel.refl s) S h)
theorem b_or_nil {Q} (h : Q false m l) : Tb C m l (allTrue .Or [] env) Q E := fun s S => wpAny_allTrue_Or_nil (Out.here (Rel.refl s) S h)
theorem b_and {x : Expr} {r : List Expr} {Q} (h : Tb C m l (isTrue x env (eval x env)) (KBAnd C env r Q E) E) : Tb C m l (allTrue .And (x :: r) env) Q E := fun s S => by
  refine wpAny_allTrue_And_cons (T.next h S (Rel.refl s) fun b s' m' l' S' hr q => ?_)
  cases b with
  | true => exact T.fin (q.1 rfl) S' hr
  | false => exact Out.here hr S' (q.2 rfl)
theorem b_or {x : Expr} {r : List Expr} {Q} (h : Tb C m l (isTrue x env (eval x env)) (KBOr C env r Q E) E) : Tb C m l (allTrue .Or (x :: r) env) Q E := fun s S => by
  refine wpAny_allTrue_Or_cons (T.next h S (Rel.refl s) fun b s' m' l' S' hr q => ?_)
  cases b with
  | true => exact Out.here hr S' (q.1 rfl)
  | false => exact T.fin (q.2 rfl) S' hr
/-! ### ints -/
section
variable {a b : Int} {Q : Pv}
theorem i_add (h : Q (.int (a + b) 0) m l) : TB C m l .Add (.int a 0) (.int b 0) Q E := fun va vb ha hb s S => by
  obtain ⟨t, rfl⟩ := un_int ha; obtain ⟨u, rfl⟩ := un_int hb; exact add_int (Out.here (Rel.tok s _) S h)
theorem i_sub (h : Q (.int (a - b) 0) m l) : TB C m l .Sub (.int a 0) (.int b 0) Q E := fun va vb ha hb s S => by
  obtain ⟨t, rfl⟩ := un_int ha; obtain ⟨u, rfl⟩ := un_int hb; exact sub_int (Out.here (Rel.tok s _) S h)
theorem i_mod (hz : b ≠ 0) (h : Q (.int (a.fmod b) 0) m l) : TB C m l .Mod (.int a 0) (.int b 0) Q E := fun va vb ha hb s S => by
  obtain ⟨t, rfl⟩ := un_int ha; obtain ⟨u, rfl⟩ := un_int hb; exact mod_int hz (Out.here (Rel.tok s _) S h)
theorem i_div (hz : b ≠ 0) (hs : b.natAbs < 1073741824) (h : Q (.int (a.fdiv b) 0) m l) : TB C m l .FloorDiv (.int a 0) (.int b 0) Q E := fun va vb ha hb s S => by
  obtain ⟨t, rfl⟩ := un_int ha; obtain ⟨u, rfl⟩ := un_int hb; exact floordiv_int hz (Out.here (Rel.tok s _) S h) (.inl (PyProof.noPylong_small hs))
theorem i_mul (hm : IntMulOk a b) (h : Q (.int (a * b) 0) m l) : TB C m l .Mult (.int a 0) (.int b 0) Q E := fun va vb ha hb s S => by
  obtain ⟨t, rfl⟩ := un_int ha; obtain ⟨u, rfl⟩ := un_int hb; exact mul_int (Out.here (Rel.tok s _) S h) hm
theorem i_and (h : Q (.int (Builtin.bitAnd a b) 0) m l) : TB C m l .BitAnd (.int a 0) (.int b 0) Q E := fun va vb ha hb s S => by
  obtain ⟨t, rfl⟩ := un_int ha; obtain ⟨u, rfl⟩ := un_int hb; exact and_int (Out.here (Rel.tok s _) S h)
theorem i_or (h : Q (.int (Builtin.bitOr a b) 0) m l) : TB C m l .BitOr (.int a 0) (.int b 0) Q E := fun va vb ha hb s S => by
  obtain ⟨t, rfl⟩ := un_int ha; obtain ⟨u, rfl⟩ := un_int hb; exact or_int (Out.here (Rel.tok s _) S h)
theorem i_shr (hn : 0 ≤ b) (h : Q (.int (a.fdiv (2 ^ b.toNat)) 0) m l) : TB C m l .RShift (.int a 0) (.int b 0) Q E := fun va vb ha hb s S => by
  obtain ⟨t, rfl⟩ := un_int ha; obtain ⟨u, rfl⟩ := un_int hb; exact rshift_int hn (Out.here (Rel.tok s _) S h)
theorem i_shl (hn : 0 ≤ b) (hn2 : b ≤ 1000000) (hs : a.natAbs < 2 ^ 64) (h : Q (.int (a * 2 ^ b.toNat) 0) m l) : TB C m l .LShift (.int a 0) (.int b 0) Q E := fun va vb ha hb s S => by
  obtain ⟨t, rfl⟩ := un_int ha; obtain ⟨u, rfl⟩ := un_int hb; exact lshift_int_small hn hn2 hs (Out.here (Rel.tok s _) S h)
theorem i_pow (hn : 0 ≤ b) (hn2 : b ≤ 1000000) (hs : a.natAbs < 2 ^ 64) (h : Q (.int (a ^ b.toNat) 0) m l) : TB C m l .Pow (.int a 0) (.int b 0) Q E := fun va vb ha hb s S => by
  obtain ⟨t, rfl⟩ := un_int ha; obtain ⟨u, rfl⟩ := un_int hb; exact pow_int_small hn hn2 hs (Out.here (Rel.tok s _) S h)
theorem i_neg (h : Q (.int (-a) 0) m l) : TUn C m l .USub (.int a 0) Q E := fun va ha s S => by
  obtain ⟨t, rfl⟩ := un_int ha; exact neg_int (Out.here (Rel.tok s _) S h)
theorem i_iadd (h : Q (.int (a + b) 0) m l) : TI C m l .Add (.int a 0) (.int b 0) Q E := fun va vb ha hb s S => by
  obtain ⟨t, rfl⟩ := un_int ha; obtain ⟨u, rfl⟩ := un_int hb; exact iadd_int (Out.here (Rel.tok s _) S h)
theorem i_isub (h : Q (.int (a - b) 0) m l) : TI C m l .Sub (.int a 0) (.int b 0) Q E := fun va vb ha hb s S => by
  obtain ⟨t, rfl⟩ := un_int ha; obtain ⟨u, rfl⟩ := un_int hb; exact PyProof.Rows.isub_int (Out.here (Rel.tok s _) S h)
theorem i_eq (h : Q (.bool (a == b)) m l) : TC C m l .Eq (.int a 0) (.int b 0) Q E := fun va vb ha hb s S => by
  obtain ⟨t, rfl⟩ := un_int ha; obtain ⟨u, rfl⟩ := un_int hb; exact eq_int (Out.here (Rel.refl s) S h)
theorem i_ne (h : Q (.bool (a != b)) m l) : TC C m l .NotEq (.int a 0) (.int b 0) Q E := fun va vb ha hb s S => by
  obtain ⟨t, rfl⟩ := un_int ha; obtain ⟨u, rfl⟩ := un_int hb; exact ne_int (Out.here (Rel.refl s) S h)
theorem i_lt (h : Q (.bool (decide (a < b))) m l) : TC C m l .Lt (.int a 0) (.int b 0) Q E := fun va vb ha hb s S => by
  obtain ⟨t, rfl⟩ := un_int ha; obtain ⟨u, rfl⟩ := un_int hb; exact lt_int (Out.here (Rel.refl s) S h)
theorem i_le (h : Q (.bool (decide (a ≤ b))) m l) : TC C m l .LtE (.int a 0) (.int b 0) Q E := fun va vb ha hb s S => by
  obtain ⟨t, rfl⟩ := un_int ha; obtain ⟨u, rfl⟩ := un_int hb; exact PyProof.Rows.le_int (Out.here (Rel.refl s) S h)
theorem i_gt (h : Q (.bool (decide (b < a))) m l) : TC C m l .Gt (.int a 0) (.int b 0) Q E := fun va vb ha hb s S => by
  obtain ⟨t, rfl⟩ := un_int ha; obtain ⟨u, rfl⟩ := un_int hb; exact gt_int (Out.here (Rel.refl s) S h)
theorem i_ge (h : Q (.bool (decide (b ≤ a))) m l) : TC C m l .GtE (.int a 0) (.int b 0) Q E := fun va vb ha hb s S => by
  obtain ⟨t, rfl⟩ := un_int ha; obtain ⟨u, rfl⟩ := un_int hb; exact PyProof.Rows.ge_int (Out.here (Rel.refl s) S h)
end
theorem c_isNone {v : Value} {Q : Pv} (h : Q (.bool (v == .none)) m l) : TC C m l .Is v .none Q E := fun va vb ha hb s S => by
  obtain rfl := un_none hb
  have e : (va == Value.none) = (v == .none) := by subst ha; cases va <;> rfl
  exact is_none (Out.here (Rel.refl s) S (by rw [e]; exact h))
theorem c_isNotNone {v : Value} {Q : Pv} (h : Q (.bool (!(v == .none))) m l) : TC C m l .IsNot v .none Q E := fun va vb ha hb s S => by
  obtain rfl := un_none hb
  have e : (va == Value.none) = (v == .none) := by subst ha; cases va <;> rfl
  exact isNot_none (Out.here (Rel.refl s) S (by rw [e]; exact h))
theorem t_bool {b : Bool} {Q} (h : Q b m l) : TT C m l (.bool b) Q E := fun va ha s S => by
  obtain rfl := un_bool ha; exact wpAny_truthy_bool (Out.here (Rel.refl s) S h)
theorem t_none {Q} (h : Q false m l) : TT C m l .none Q E := fun va ha s S => by
  obtain rfl := un_none ha
  exact wpAny_pure (Out.here (Rel.refl s) S h)
end
end
section
set_option Elab.async false
set_option linter.all false
set_option maxRecDepth 100000
/-! ## taking a ledger apart -/
noncomputable def Sb (t l : Led) : Prop := ∃ k : Led, t.Sublist k ∧ k.Perm l
theorem Sb.refl {l : Led} : Sb l l := ⟨l, List.Sublist.refl _, List.Perm.refl _⟩
theorem Sb.st {t l : Led} (x : Sb t l) {base : Heap} {L : Addr} {m : Loc} {h : Heap} (S : St base L m l h) : St base L m t h := let ⟨_, a, b⟩ := x; (S.perm b.symm).sub a
theorem Sb.of_perm {a b : Led} (h : a.Perm b) : Sb a b := ⟨a, List.Sublist.refl _, h⟩
theorem Sb.of_sub {a b : Led} (h : a.Sublist b) : Sb a b := ⟨b, h, List.Perm.refl _⟩
theorem Sb.done {l : Led} : Sb [] l := Sb.of_sub (List.nil_sublist _)
theorem Sb.drop {e : Addr × Shape} {t l : Led} (h : Sb t l) : Sb t (e :: l) := let ⟨k, a, b⟩ := h; ⟨e :: k, a.cons e, b.cons e⟩
theorem Sb.dropA {s t l : Led} (h : Sb t l) : Sb t (s ++ l) := let ⟨k, a, b⟩ := h; ⟨s ++ k, a.trans (List.sublist_append_right _ _), b.append_left s⟩
inductive Ext (x : Led) : Led → Led → Prop
  | seg {r : Led} : Ext x r (x ++ r)
  | skip {e : Addr × Shape} {r l : Led} : Ext x r l → Ext x (e :: r) (e :: l)
  | skipA {s r l : Led} : Ext x r l → Ext x (s ++ r) (s ++ l)
  | all : Ext x [] x
theorem Ext.perm {x r l : Led} (h : Ext x r l) : l.Perm (x ++ r) := by
  induction h with
  | seg => exact List.Perm.refl _
  | skip _ ih => exact (List.Perm.cons _ ih).trans List.perm_middle.symm
  | skipA _ ih => exact (List.Perm.append_left _ ih).trans (by
      rw [← List.append_assoc, ← List.append_assoc]
      exact List.Perm.append_right _ List.perm_append_comm)
  | all => simp
theorem Ext.one {e : Addr × Shape} {r : Led} : Ext [e] r (e :: r) := Ext.seg (x := [e])
theorem Sb.takeA {x r t l : Led} (h : Ext x r l) (ht : Sb t r) : Sb (x ++ t) l :=
  let ⟨k, a, b⟩ := ht; ⟨x ++ k, List.Sublist.append (List.Sublist.refl _) a, (b.append_left x).trans h.perm.symm⟩
theorem Sb.take {e : Addr × Shape} {r t l : Led} (h : Ext [e] r l) (ht : Sb t r) : Sb (e :: t) l := Sb.takeA (x := [e]) h ht
theorem sub_perm : ∀ {a b : Led}, a.Sublist b → ∃ r : Led, b.Perm (a ++ r)
  | _, _, .slnil => ⟨[], List.Perm.refl _⟩
  | _, _, .cons e h => let ⟨r, p⟩ := sub_perm h; ⟨e :: r, (p.cons e).trans List.perm_middle.symm⟩
  | _, _, .cons_cons e h => let ⟨r, p⟩ := sub_perm h; ⟨r, p.cons e⟩
theorem Sb.trans {a b c : Led} (x : Sb a b) (y : Sb b c) : Sb a c := by
  obtain ⟨k, h1, h2⟩ := x
  obtain ⟨k', h3, h4⟩ := y
  obtain ⟨r, h5⟩ := sub_perm h3
  exact ⟨k ++ r, h1.trans (List.sublist_append_left _ _), ((h2.append_right r).trans h5.symm).trans h4⟩
/-! ## frames -/
noncomputable def NsO (o : Obj) (mv : Str → Option Value) : Prop := ∃ es ep, o.data = .dict es ep ∧ StrKeys es ∧ ∀ x, nsFind es x = mv x
noncomputable def Frm (m : Loc) : Shape := fun o => ∃ mv, NsO o mv ∧ ∀ x v, m.lookup x = some v → (mv x).map un = some v
theorem ns_iff {h : Heap} {a : Addr} {mv : Str → Option Value} : h.Ns a mv ↔ ∃ o, h.get? a = some o ∧ NsO o mv := by
  constructor
  · rintro ⟨o, es, ep, h1, h2, h3, h4⟩; exact ⟨o, h1, es, ep, h2, h3, h4⟩
  · rintro ⟨o, h1, es, ep, h2, h3, h4⟩; exact ⟨o, es, ep, h1, h2, h3, h4⟩
theorem St.enter {base : Heap} {L : Addr} {m : Loc} {l : Led} {h h' : Heap} (S : St base L m l h) {L' : Addr} {m' : Loc} {mv : Str → Option Value} (hL : h.objs.size ≤ L') (hk : ∀ b o, h.get? b = some o → h'.get? b = some o)
    (hn : h'.Ns L' mv) (hx : ∀ x v, m'.lookup x = some v → (mv x).map un = some v) : St base L' m' ((L, Frm m) :: l) h' := by
  obtain ⟨mv₀, hns, hx₀⟩ := S.ns
  obtain ⟨o₀, h1, h2⟩ := ns_iff.mp hns
  have hlt : ∀ a o, h.get? a = some o → a ≠ L' := fun a o e => Nat.ne_of_lt (Nat.lt_of_lt_of_le (Heap.lt_size e) hL)
  refine ⟨fun b o e => hk b o (S.keep b o e), Nat.le_trans S.above (Nat.le_trans (Nat.le_of_lt (Heap.lt_size h1)) hL), ⟨mv, hn, hx⟩, fun p hp => ?_, fun p hp => ?_, ?_⟩
  · rcases List.mem_cons.mp hp with rfl | hp
    · exact ⟨o₀, hk _ _ h1, mv₀, h2, hx₀⟩
    · obtain ⟨o, e, q⟩ := S.get p hp; exact ⟨o, hk _ _ e, q⟩
  · rcases List.mem_cons.mp hp with rfl | hp
    · cases q : base.get? L with
      | none => rfl
      | some o => exact absurd (Heap.lt_size q) (Nat.not_lt.mpr S.above)
    · exact S.fresh p hp
  · rw [List.map_cons, List.nodup_cons]
    refine ⟨fun hm => ?_, S.nd⟩
    rcases List.mem_cons.mp hm with e | hm
    · exact hlt _ _ h1 e.symm
    · obtain ⟨p, hp1, hp2⟩ := List.mem_map.mp hm
      obtain ⟨o, e, _⟩ := S.get p hp1
      exact hlt _ _ e hp2
theorem St.leave {base : Heap} {L L' : Addr} {m m' : Loc} {l : Led} {h : Heap} (hab : base.objs.size ≤ L) (S : St base L' m' ((L, Frm m) :: l) h) : St base L m l h := by
  obtain ⟨o, e, mv, h1, h2⟩ := S.get _ (.head _)
  refine ⟨S.keep, hab, ⟨mv, ns_iff.mpr ⟨o, e, h1⟩, h2⟩, fun p hp => S.get p (.tail _ hp), fun p hp => S.fresh p (.tail _ hp), ?_⟩
  exact (List.nodup_cons.mp S.nd).2
/-! ## calls -/
noncomputable def unK (l : List (Str × Value)) : List (Str × Value) := l.map fun p => (p.1, un p.2)
noncomputable def TCall (C : Cx) (m : Loc) (l : Led) (f : Value) (vs : List Value) (kw : List (Str × Value)) (Q E : Pv) : Prop :=
  ∀ vf vvs vkw, un vf = f → vvs.map un = vs → unK vkw = kw → TV C m l (call vf vvs vkw) Q E
noncomputable def TCd (C : Cx) (m : Loc) (l : Led) (f : Value) (vs : List Value) (kw : List (Str × Value)) (Q E : Pv) : Prop :=
  ∀ vf vvs vkw, un vf = f → vvs.map un = vs → unK vkw = kw → ∀ s, St C.base C.L m l s.heap → codeAny (model C.prog C.w) C.A (.call vf ⟨vvs, vkw⟩) (fun r s' => match r with | .ok (.ret v) => Out C.base C.L s (Q (un v)) s' | .ok _ => False | .error e => Out C.base C.L s (E e) s') s
theorem TCd.call {C : Cx} {m : Loc} {l : Led} {f : Value} {vs : List Value} {kw : List (Str × Value)} {Q E : Pv} (h : TCd C m l f vs kw Q E) : TCall C m l f vs kw Q E :=
  fun vf vvs vkw h1 h2 h3 s S => wpAny_call (h vf vvs vkw h1 h2 h3 s S)
noncomputable def Kp (C : Cx) (f : Value) : Prop := ∀ vf, un vf = f → ∀ h : Heap, (∀ b o, C.base.get? b = some o → h.get? b = some o) →
  ∃ k, (k = Keeper.frame ∨ k = Keeper.machine ∨ k = Keeper.boundFrame) ∧ Looks (model C.prog C.w) h (keeperOf vf) k
noncomputable def no : Pv := fun _ _ _ => False
section
variable {C : Cx} {m : Loc} {l : Led} {E : Pv} {env : Env}
theorem Kp.builtin {id : String} : Kp C (.builtin id) := fun vf hv h _ => by
  obtain rfl := un_builtin hv; exact ⟨.machine, .inr (.inl rfl), Looks.of_pure rfl⟩
theorem Kp.type {id : String} : Kp C (.type id) := fun vf hv h _ => by
  obtain rfl := un_type hv; exact ⟨.machine, .inr (.inl rfl), Looks.of_pure rfl⟩
theorem Kp.K {K : Frag} {f : Value} (X : K.In C.base) (h : keepIn K f = true) (hf : ∀ v, un v = f → v = f) : Kp C f := fun vf hv hp hk => by
  obtain rfl := hf vf hv
  exact keeps_K h hp (X.keeps hk)
theorem args_nil {pos : Pos} {Q} (h : Q [] m l) : TL C m l (spliced (backTo pos (starEach [] env))) Q E := fun s S => PyProof.Rows.args_nil (Out.here (Rel.refl s) S h)
noncomputable abbrev KCons (v : Value) (Q : Ql) : Ql := fun vs => Q (v :: vs)
noncomputable abbrev KArg (C : Cx) (env : Env) (pos : Pos) (rest : List Expr) (Q : Ql) (E : Pv) : Pv := fun v m l => TL C m l (spliced (backTo pos (starEach rest env))) (KCons v Q) E
noncomputable abbrev KCall2 (C : Cx) (f : Value) (Q E : Pv) : Ql := fun vs m l => TCall C m l f vs [] Q E
noncomputable abbrev KCall (C : Cx) (env : Env) (pos : Pos) (args : List Expr) (Q E : Pv) : Pv := fun f m l => Kp C f ∧ TL C m l (spliced (backTo pos (starEach args env))) (KCall2 C f Q E) E
noncomputable abbrev KCw3 (C : Cx) (f : Value) (vs : List Value) (k : Str) (Q E : Pv) : Pv := fun u m l => TCall C m l f vs [(k, u)] Q E
noncomputable abbrev KCw2 (C : Cx) (env : Env) (f : Value) (k : Str) (y : Expr) (Q E : Pv) : Ql := fun vs m l => TV C m l (eval y env) (KCw3 C f vs k Q E) E
noncomputable abbrev KCw (C : Cx) (env : Env) (pos : Pos) (k : Str) (args : List Expr) (y : Expr) (Q E : Pv) : Pv := fun f m l => Kp C f ∧ TL C m l (spliced (backTo pos (starEach args env))) (KCw2 C env f k y Q E) E
noncomputable abbrev KCh3 (C : Cx) (env : Env) (op : CmpOp) (z : Expr) (b : Value) (Q : Qb) (E : Pv) : Qb := fun t m l => Br t (TV C m l (eval z env) (KCm2 C op b (KT C Q E) E) E) (Q false m l)
noncomputable abbrev KCh2 (C : Cx) (env : Env) (op₁ op₂ : CmpOp) (z : Expr) (a : Value) (Q : Qb) (E : Pv) : Pv := fun b m l => TC C m l op₁ a b (KT C (KCh3 C env op₂ z b Q E) E) E
noncomputable abbrev KCh (C : Cx) (env : Env) (op₁ op₂ : CmpOp) (y z : Expr) (Q : Qb) (E : Pv) : Pv := fun a m l => TV C m l (eval y env) (KCh2 C env op₁ op₂ z a Q E) E
theorem args_cons {e : Expr} {rest : List Expr} {pos : Pos} {Q} (h : TV C m l (eval e env) (KArg C env pos rest Q E) E)
    (he : starEach (e :: rest) env = (false, eval e env) :: starEach rest env := by with_unfolding_all rfl) : TL C m l (spliced (backTo pos (starEach (e :: rest) env))) Q E := fun s S =>
  PyProof.Rows.args_cons (T.next h S (Rel.refl s) fun v s₁ m₁ l₁ S₁ r₁ q₁ => T.next q₁ S₁ r₁ fun vs s₂ m₂ l₂ S₂ r₂ q₂ => Out.here r₂ S₂ q₂) he
theorem evalArgs_ns {M : Model} {A : Around} {E : Value → Shared → Prop} {s : Shared} {f : Value} {as : List (Bool × Sem Value)} {Q : Args → Shared → Prop} (ha : as.any (·.1) = false)
    (h : wpAny M A (spliced as) (fun vs s' => Q ⟨vs, []⟩ s') E s) : wpAny M A (evalArgs f true as []) Q E s := by
  cases as with
  | nil =>
    exact fun Γ p hΓ => evalArgs_nil3 (M := M) (A := A) (E := E) (f := f) (Q := Q) (h Γ p hΓ) Γ p hΓ
  | cons p r =>
    obtain ⟨b, x⟩ := p
    simp only [List.any_cons, Bool.or_eq_false_iff] at ha
    obtain ⟨rfl, _⟩ := ha
    exact evalArgs_plain h
theorem callWith_T {pos : Pos} {vf : Value} {vfirst : List Value} {args : List Expr} {Q : Pv} (hk : Kp C (un vf))
    (h : TL C m l (spliced (backTo pos (starEach args env))) (fun vs m l => TCall C m l (un vf) (vfirst.map un ++ vs) [] Q E) E)
    (hplain : (backTo pos (starEach args env)).any (·.1) = false := by with_unfolding_all rfl) :
    TV C m l (callWith pos vf vfirst (backTo pos (starEach args env)) []) Q E := fun s S => by
  refine callWith_of (P := fun h => ∀ b o, C.base.get? b = some o → h.get? b = some o) (by rw [hplain]; rfl) (fun hp hb => hk vf rfl hp hb) (evalArgs_ns hplain ?_)
  exact T.next h S (Rel.refl s) fun vs s₁ m₁ l₁ S₁ r₁ q₁ => ⟨S₁.keep, T.fin (q₁ vf (vfirst ++ vs) [] rfl (by simp) rfl) S₁ r₁⟩
theorem e_call {fx : Expr} {args : List Expr} {pos : Pos} {Q : Pv}
    (h : TV C m l (eval fx env) (KCall C env pos args Q E) E)
    (he : eval (.Call fx args [] pos) env = (do callWith pos (← eval fx env) [] (backTo pos (starEach args env)) (backToKw pos (keywordEach [] env))) := by with_unfolding_all rfl)
    (hplain : (backTo pos (starEach args env)).any (·.1) = false := by with_unfolding_all rfl) : TV C m l (eval (.Call fx args [] pos) env) Q E := fun s S =>
  Call_ (T.next h S (Rel.refl s) fun f s₁ m₁ l₁ S₁ r₁ q₁ => T.fin (callWith_T (vfirst := []) q₁.1 q₁.2 hplain) S₁ r₁) he
theorem e_callkw {fx x y : Expr} {rest : List Expr} {k : Str} {kp pos : Pos} {Q : Pv}
    (h : TV C m l (eval fx env) (KCw C env pos k (x :: rest) y Q E) E)
    (he : eval (.Call fx (x :: rest) [⟨some k, y, kp⟩] pos) env = (do callWith pos (← eval fx env) [] (backTo pos (starEach (x :: rest) env)) (backToKw pos (keywordEach [⟨some k, y, kp⟩] env))) := by with_unfolding_all rfl)
    (hs : starEach (x :: rest) env = (false, eval x env) :: starEach rest env := by with_unfolding_all rfl)
    (hplain : (backTo pos (starEach (x :: rest) env)).any (·.1) = false := by with_unfolding_all rfl) : TV C m l (eval (.Call fx (x :: rest) [⟨some k, y, kp⟩] pos) env) Q E := fun s S => by
  rw [he]
  refine wpAny_bind (T.next h S (Rel.refl s) fun f s₁ m₁ l₁ S₁ r₁ q₁ => ?_)
  refine callWith_of (P := fun h => ∀ b o, C.base.get? b = some o → h.get? b = some o) (by rw [hplain]; rfl) (fun hp hb => q₁.1 f rfl hp hb) ?_
  refine evalArgs_kw2 rfl (T.next q₁.2 S₁ r₁ fun vs s₂ m₂ l₂ S₂ r₂ q₂ => ?_) hs
  refine kwAll_cons (T.next q₂ S₂ r₂ fun u s₃ m₃ l₃ S₃ r₃ q₃ => kwAll_nil ⟨S₃.keep, ?_⟩)
  exact T.fin (q₃ f vs [(k, u)] rfl rfl rfl) S₃ r₃
/-! ## entering a def -/
noncomputable def unB (l : List (Str × Value)) : List (Str × Value) := l.map fun p => (p.1, un p.2)
noncomputable def retv : Flow → Value
  | .ret v => v
  | _ => .none
noncomputable def RetQ (C : Cx) (m : Loc) (Q : Pv) : Flow → Loc → Led → Prop := fun fl _ l' => ∃ l₁, Sb ((C.L, Frm m) :: l₁) l' ∧ Q (retv fl) m l₁
noncomputable def sub (C : Cx) (env : Env) : Cx := { C with A := C.A.deeper env, L := env.locals }
theorem retv_un (fl : Flow) : un (match fl with | .ret v => v | _ => .none) = retv (unF fl) := by cases fl <;> rfl
theorem lookup_rev_un (x : Str) (bs : List (Str × Value)) : (bs.reverse.lookup x).map un = (unB bs).reverse.lookup x := by
  unfold unB
  rw [← List.map_reverse]
  generalize bs.reverse = r
  induction r with
  | nil => rfl
  | cons p r ih =>
    obtain ⟨y, v⟩ := p
    simp only [List.map_cons, List.lookup_cons]
    cases h : x == y
    · exact ih
    · rfl
theorem enterC {f : Addr} {fd : FuncData} {body : List Stmt} {o : Obj} {vs : List Value} {kw bs : List (Str × Value)} {m' : Loc} {Q : Pv}
    (ho : C.base.get? f = some o) (hd : o.data = .func fd) (hbody : fd.body = .stmts body) (hclo : fd.closure = []) (hcd : C.base.CodeRec fd.code fd.qualname) (hlim : C.base.NoLimit) (hroom : C.A.depth < recursionLimit)
    (hb : ∀ vvs vkw, vvs.map un = vs → unK vkw = kw → T { C with A := C.A.in1 } unB m l (bindArgs fd ⟨vvs, vkw⟩) (fun b m₁ l₁ => b = bs ∧ m₁ = m ∧
      ∀ L', TF (sub C (callEnv fd L' f)) m' ((C.L, Frm m) :: l₁) (execs body (callEnv fd L' f)) (RetQ C m Q) no) E)
    (hm : m' = bs.reverse) (hcell0 : (fd.scope.names.all fun x => x.2 != .cell) = true) (hloc0 : (bs.all fun x => decide (fd.scope.names.lookup x.1 = some .local)) = true)
    (hco : fd.scope.isCoroutine = false) (hgen : fd.scope.isGenerator = false) (hk : fd.scope.kind = .function) : TCd C m l (.ref f) vs kw Q E := by
  intro vf vvs vkw hf hvs hkw s S
  obtain rfl := un_ref hf
  have hcell : ∀ x ∈ fd.scope.names, x.2 ≠ .cell := fun x hx => by simpa using List.all_eq_true.mp hcell0 x hx
  have hloc : ∀ x ∈ bs, fd.scope.names.lookup x.1 = some .local := fun x hx => of_decide_eq_true (List.all_eq_true.mp hloc0 x hx)
  refine codeAny_call_function hroom (S.keep _ _ ho) hd hco hgen hbody (hcd.keeps S.keep) ?_
  refine T.next (C := { C with A := C.A.in1 }) (hb vvs vkw hvs hkw) S (Rel.refl s) fun b s₁ m₁ l₁ S₁ r₁ q₁ => ?_
  obtain ⟨hb', rfl, q₁⟩ := q₁
  have hloc' : ∀ x ∈ b, fd.scope.names.lookup x.1 = some .local := fun x hx => by
    have : (x.1, un x.2) ∈ bs := hb' ▸ List.mem_map_of_mem (f := fun p : Str × Value => (p.1, un p.2)) hx
    exact hloc (x.1, un x.2) this
  refine wpAny_newFunctionEnv hcell hloc' (fun h' hns hsb => ⟨?_, codeAny_func ?_⟩) hk
  · exact (hlim.keeps S₁.keep).fresh _ hsb
  · have hkeep : ∀ b o, s₁.heap.get? b = some o → h'.get? b = some o := fun b o e => hsb.extBut b o (Nat.ne_of_lt (Heap.lt_size e)) (Heap.get?_push_of_some _ e)
    have S₂ : St C.base s₁.heap.objs.size m' ((C.L, Frm m₁) :: l₁) h' := S₁.enter (Nat.le_refl _) hkeep hns (fun x v e => by rw [lookup_rev_un, hb', ← hm]; exact e)
    have key := T.next (q₁ s₁.heap.objs.size) (s := s) (s₁ := { s₁ with heap := h', toks := s₁.toks + b.length }) S₂ (r₁.trans (Rel.of s₁ _ _))
      (K := fun fl s' => Out C.base C.L s (Q (un (match fl with | .ret v => v | _ => .none))) s') (fun fl s' m₂ l₂ S₃ r₃ q₃ => by
        obtain ⟨l₃, hsub, hq⟩ := q₃
        rw [retv_un]
        exact Out.here r₃ (St.leave S.above (hsub.st S₃)) hq)
    exact wpAny_mono key (fun _ _ x => x) fun _ _ x => by obtain ⟨_, _, _, _, hf⟩ := x; exact hf.elim
theorem enterV {f : Addr} {fd : FuncData} {body : List Stmt} {o : Obj} {vs : List Value} {kw : List (Str × Value)} {Q : Pv}
    (ho : C.base.get? f = some o) (hd : o.data = .func fd) (hbody : fd.body = .stmts body) (hclo : fd.closure = []) (hcd : C.base.CodeRec fd.code fd.qualname) (hlim : C.base.NoLimit) (hroom : C.A.depth < recursionLimit)
    (hb : ∀ vvs vkw, vvs.map un = vs → unK vkw = kw → T { C with A := C.A.in1 } unB m l (bindArgs fd ⟨vvs, vkw⟩) (fun b m₁ l₁ => m₁ = m ∧ (b.all fun x => decide (fd.scope.names.lookup x.1 = some .local)) = true ∧
      ∀ L', TF (sub C (callEnv fd L' f)) b.reverse ((C.L, Frm m) :: l₁) (execs body (callEnv fd L' f)) (RetQ C m Q) no) E)
    (hcell0 : (fd.scope.names.all fun x => x.2 != .cell) = true)
    (hco : fd.scope.isCoroutine = false) (hgen : fd.scope.isGenerator = false) (hk : fd.scope.kind = .function) : TCd C m l (.ref f) vs kw Q E := by
  intro vf vvs vkw hf hvs hkw s S
  obtain rfl := un_ref hf
  have hcell : ∀ x ∈ fd.scope.names, x.2 ≠ .cell := fun x hx => by simpa using List.all_eq_true.mp hcell0 x hx
  refine codeAny_call_function hroom (S.keep _ _ ho) hd hco hgen hbody (hcd.keeps S.keep) ?_
  refine T.next (C := { C with A := C.A.in1 }) (hb vvs vkw hvs hkw) S (Rel.refl s) fun b s₁ m₁ l₁ S₁ r₁ q₁ => ?_
  obtain ⟨rfl, hloc0, q₁⟩ := q₁
  have hloc' : ∀ x ∈ b, fd.scope.names.lookup x.1 = some .local := fun x hx => by
    have : (x.1, un x.2) ∈ unB b := List.mem_map_of_mem (f := fun p : Str × Value => (p.1, un p.2)) hx
    exact of_decide_eq_true (List.all_eq_true.mp hloc0 (x.1, un x.2) this)
  refine wpAny_newFunctionEnv hcell hloc' (fun h' hns hsb => ⟨?_, codeAny_func ?_⟩) hk
  · exact (hlim.keeps S₁.keep).fresh _ hsb
  · have hkeep : ∀ b o, s₁.heap.get? b = some o → h'.get? b = some o := fun b o e => hsb.extBut b o (Nat.ne_of_lt (Heap.lt_size e)) (Heap.get?_push_of_some _ e)
    have S₂ : St C.base s₁.heap.objs.size (unB b).reverse ((C.L, Frm m₁) :: l₁) h' := S₁.enter (Nat.le_refl _) hkeep hns (fun x v e => by rw [lookup_rev_un]; exact e)
    have key := T.next (q₁ s₁.heap.objs.size) (s := s) (s₁ := { s₁ with heap := h', toks := s₁.toks + b.length }) S₂ (r₁.trans (Rel.of s₁ _ _))
      (K := fun fl s' => Out C.base C.L s (Q (un (match fl with | .ret v => v | _ => .none))) s') (fun fl s' m₂ l₂ S₃ r₃ q₃ => by
        obtain ⟨l₃, hsub, hq⟩ := q₃
        rw [retv_un]
        exact Out.here r₃ (St.leave S.above (hsub.st S₃)) hq)
    exact wpAny_mono key (fun _ _ x => x) fun _ _ x => by obtain ⟨_, _, _, _, hf⟩ := x; exact hf.elim
theorem b_chain {x y z : Expr} {op₁ op₂ : CmpOp} {pos : Pos} {whole : Sem Value} {Q} (h : TV C m l (eval x env) (KCh C env op₁ op₂ y z Q E) E)
    (hm : lastMarks [op₁, op₂] [y, z] = false := by with_unfolding_all rfl) : Tb C m l (isTrue (.Compare x [op₁, op₂] [y, z] pos) env whole) Q E := fun s S => by
  refine isTrue_chain (T.next h S (Rel.refl s) fun a s₁ m₁ l₁ S₁ r₁ q₁ => ?_) hm
  refine test_link (T.next q₁ S₁ r₁ fun b s₂ m₂ l₂ S₂ r₂ q₂ => T.next (q₂ a b rfl rfl) S₂ r₂ fun c s₃ m₃ l₃ S₃ r₃ q₃ => T.next (q₃ c rfl) S₃ r₃ fun t s₄ m₄ l₄ S₄ r₄ q₄ => ?_)
  cases t with
  | false => exact Out.here r₄ S₄ (q₄.2 rfl)
  | true =>
    exact test_last (T.next (q₄.1 rfl) S₄ r₄ fun d s₅ m₅ l₅ S₅ r₅ q₅ => T.next (q₅ b d rfl rfl) S₅ r₅ fun c s₆ m₆ l₆ S₆ r₆ q₆ => T.fin (q₆ c rfl) S₆ r₆)
theorem then_next {K : Ps} {Q} (h : K m l) : Then K Q .next m l := h
theorem then_ret {K : Ps} {Q} {v : Value} (h : Q (.ret v) m l) : Then K Q (.ret v) m l := h
theorem then_brk {K : Ps} {Q} (h : Q .brk m l) : Then K Q .brk m l := h
theorem then_cont {K : Ps} {Q} (h : Q .cont m l) : Then K Q .cont m l := h
theorem ret_end {m' : Loc} {l' l₁ : Led} {Q : Pv} {v : Value} (hs : Sb ((C.L, Frm m) :: l₁) l') (h : Q v m l₁) : RetQ C m Q (.ret v) m' l' := ⟨l₁, hs, h⟩
theorem next_end {m' : Loc} {l' l₁ : Led} {Q : Pv} (hs : Sb ((C.L, Frm m) :: l₁) l') (h : Q .none m l₁) : RetQ C m Q .next m' l' := ⟨l₁, hs, h⟩
theorem int_at {Q : Pv} {a b : Int} (h : Q (.int a 0) m l) (e : a = b) : Q (.int b 0) m l := e ▸ h
end
end
section
set_option Elab.async false
set_option linter.all false
set_option maxRecDepth 100000
structure Ok (K : Frag) (C : Cx) : Prop where
  X : K.In C.base
  lim : C.base.NoLimit
  g : ∃ mg, C.base.Ns mainGlobals mg
  b : ∃ mb, C.base.Ns builtinsNs mb ∧ ∀ x : Str, x ≠ "__name__" → mb x = bootBuiltins x
  sm : ∃ o, C.base.get? sysModules = some o
theorem Ok.sub {K : Frag} {C : Cx} (O : Ok K C) (env : Env) : Ok K (sub C env) := ⟨O.X, O.lim, O.g, O.b, O.sm⟩
structure Room (A : Around) (n : Nat) : Prop where
  depth : A.depth + n < recursionLimit
  units : A.units + 10 * n + 100 < cLine
  handled : A.handled = none
theorem Room.now {A : Around} {n : Nat} (R : Room A n) : A.depth < recursionLimit := Nat.lt_of_le_of_lt (Nat.le_add_right _ _) R.depth
theorem Room.u {A : Around} {n : Nat} (R : Room A n) : A.units < cLine := by have := R.units; lia
theorem Room.deeper {A : Around} {n : Nat} {env : Env} (R : Room A (n + 1)) : Room (A.deeper env) n :=
  ⟨by have := R.depth; show A.depth + 1 + n < recursionLimit; lia, by have := R.units; show A.units + 3 + 10 * n + 100 < cLine; lia, R.handled⟩
theorem Room.mono {A : Around} {n k : Nat} (R : Room A n) (h : k ≤ n) : Room A k := ⟨by have := R.depth; lia, by have := R.units; lia, R.handled⟩
theorem Room.sub {C : Cx} {n : Nat} {env : Env} (R : Room C.A (n + 1)) : Room (sub C env).A n := R.deeper
noncomputable def Gl (K : Frag) (x : Str) (v : Value) : Prop := nsIn K mainGlobals x = some (some v)
noncomputable def Bl (K : Frag) (x : Str) (v : Value) : Prop := nsIn K mainGlobals x = some none ∧ bootBuiltins x = some v
section
variable {K : Frag} {C : Cx} {m : Loc} {l : Led} {E : Pv} {env : Env}
theorem e_glob {x : Str} {pos : Pos} {v : Value} {Q : Pv} (O : Ok K C) (e : Gl K x v) (h : Q (un v) m l) (hk : env.scope.kind = .function := by with_unfolding_all rfl) (hx : env.kindOf x = some .globalImplicit := by with_unfolding_all rfl)
    (hg : env.globals = mainGlobals := by with_unfolding_all rfl) (hd : (x == ("__debug__" : Str)) = false := by decide) : TV C m l (eval (.Name x pos) env) Q E := fun s S => by
  obtain ⟨mg, G⟩ := O.g
  exact Calls.Name_function_global hk hx (Calls.loadGlobal_global (hg ▸ G.keeps S.keep) (mg_of O.X G e) (Out.here (Rel.refl s) S h)) hd
theorem e_bi {x : Str} {pos : Pos} {v : Value} {Q : Pv} (O : Ok K C) (e : Bl K x v) (h : Q (un v) m l) (hk : env.scope.kind = .function := by with_unfolding_all rfl) (hx : env.kindOf x = some .globalImplicit := by with_unfolding_all rfl)
    (hg : env.globals = mainGlobals := by with_unfolding_all rfl) (hb : env.builtins = builtinsNs := by with_unfolding_all rfl) (hd : (x == ("__debug__" : Str)) = false := by decide) (hn : x ≠ "__name__" := by decide) : TV C m l (eval (.Name x pos) env) Q E := fun s S => by
  obtain ⟨mg, G⟩ := O.g
  obtain ⟨mb, B, hb'⟩ := O.b
  exact Calls.Name_function_global hk hx (Calls.loadGlobal_builtin (hg ▸ G.keeps S.keep) (mg_none_of O.X G e.1) (hb ▸ B.keeps S.keep) ((hb' x hn).trans e.2) (Out.here (Rel.refl s) S h)) hd
theorem e_globR {x : Str} {pos : Pos} {a : Addr} {Q : Pv} (O : Ok K C) (e : Gl K x (.ref a)) (h : Q (.ref a) m l) (hk : env.scope.kind = .function := by with_unfolding_all rfl) (hx : env.kindOf x = some .globalImplicit := by with_unfolding_all rfl)
    (hg : env.globals = mainGlobals := by with_unfolding_all rfl) (hd : (x == ("__debug__" : Str)) = false := by decide) : TV C m l (eval (.Name x pos) env) Q E := e_glob O e h hk hx hg hd
theorem e_biT {x : Str} {pos : Pos} {n : String} {Q : Pv} (O : Ok K C) (e : Bl K x (.type n)) (h : Q (.type n) m l) (hk : env.scope.kind = .function := by with_unfolding_all rfl) (hx : env.kindOf x = some .globalImplicit := by with_unfolding_all rfl)
    (hg : env.globals = mainGlobals := by with_unfolding_all rfl) (hb : env.builtins = builtinsNs := by with_unfolding_all rfl) (hd : (x == ("__debug__" : Str)) = false := by decide) (hn : x ≠ "__name__" := by decide) : TV C m l (eval (.Name x pos) env) Q E := e_bi O e h hk hx hg hb hd hn
theorem e_biB {x : Str} {pos : Pos} {n : String} {Q : Pv} (O : Ok K C) (e : Bl K x (.builtin n)) (h : Q (.builtin n) m l) (hk : env.scope.kind = .function := by with_unfolding_all rfl) (hx : env.kindOf x = some .globalImplicit := by with_unfolding_all rfl)
    (hg : env.globals = mainGlobals := by with_unfolding_all rfl) (hb : env.builtins = builtinsNs := by with_unfolding_all rfl) (hd : (x == ("__debug__" : Str)) = false := by decide) (hn : x ≠ "__name__" := by decide) : TV C m l (eval (.Name x pos) env) Q E := e_bi O e h hk hx hg hb hd hn
theorem map1 {vvs : List Value} {a : Value} (h : vvs.map un = [a]) : ∃ v, vvs = [v] ∧ un v = a := by
  obtain ⟨v, t, rfl, hv, ht⟩ := List.map_eq_cons_iff.mp h
  obtain rfl := List.map_eq_nil_iff.mp ht
  exact ⟨v, rfl, hv⟩
theorem map2 {vvs : List Value} {a b : Value} (h : vvs.map un = [a, b]) : ∃ v w, vvs = [v, w] ∧ un v = a ∧ un w = b := by
  obtain ⟨v, t, rfl, hv, ht⟩ := List.map_eq_cons_iff.mp h
  obtain ⟨w, rfl, hw⟩ := map1 ht
  exact ⟨v, w, rfl, hv, hw⟩
theorem map3 {vvs : List Value} {a b c : Value} (h : vvs.map un = [a, b, c]) : ∃ v w x, vvs = [v, w, x] ∧ un v = a ∧ un w = b ∧ un x = c := by
  obtain ⟨v, t, rfl, hv, ht⟩ := List.map_eq_cons_iff.mp h
  obtain ⟨w, x, rfl, hw⟩ := map2 ht
  exact ⟨v, w, x, rfl, hv, hw⟩
theorem kw0 {k : List (Str × Value)} (h : unK k = []) : k = [] := by simpa [unK] using h
theorem kw1 {k : List (Str × Value)} {x : Str} {a : Value} (h : unK k = [(x, a)]) : ∃ v, k = [(x, v)] ∧ un v = a := by
  match k, h with
  | [(y, v)], h => 
    simp only [unK, List.map_cons, List.map_nil, List.cons.injEq, Prod.mk.injEq, and_true] at h
    exact ⟨v, by rw [h.1], h.2⟩
  | _ :: _ :: _, h => simp [unK] at h
noncomputable def Own (c : Value) : Prop := ∀ v, un v = c → v = c
theorem Own.ref {a : Addr} : Own (.ref a) := fun _ h => un_ref h
theorem Own.type {a : String} : Own (.type a) := fun _ h => un_type h
theorem Own.builtin {a : String} : Own (.builtin a) := fun _ h => un_builtin h
theorem Own.bool {a : Bool} : Own (.bool a) := fun _ h => un_bool h
theorem Own.none : Own .none := fun _ h => un_none h
theorem call0 {f : Value} {Q : Pv} (hf : Own f) (h : TV C m l (call f [] []) Q E) : TCall C m l f [] [] Q E := by
  intro vf vvs vkw h1 h2 h3
  obtain rfl := hf vf h1
  obtain rfl : vvs = [] := by simpa using h2
  obtain rfl := kw0 h3
  exact h
theorem call1 {f a : Value} {Q : Pv} (hf : Own f) (h : ∀ v, un v = a → TV C m l (call f [v] []) Q E) : TCall C m l f [a] [] Q E := by
  intro vf vvs vkw h1 h2 h3
  obtain rfl := hf vf h1
  obtain ⟨v, rfl, hv⟩ := map1 h2
  obtain rfl := kw0 h3
  exact h v hv
theorem call2 {f a b : Value} {Q : Pv} (hf : Own f) (h : ∀ v w, un v = a → un w = b → TV C m l (call f [v, w] []) Q E) : TCall C m l f [a, b] [] Q E := by
  intro vf vvs vkw h1 h2 h3
  obtain rfl := hf vf h1
  obtain ⟨v, w, rfl, hv, hw⟩ := map2 h2
  obtain rfl := kw0 h3
  exact h v w hv hw
theorem call3 {f a b c : Value} {Q : Pv} (hf : Own f) (h : ∀ v w x, un v = a → un w = b → un x = c → TV C m l (call f [v, w, x] []) Q E) : TCall C m l f [a, b, c] [] Q E := by
  intro vf vvs vkw h1 h2 h3
  obtain rfl := hf vf h1
  obtain ⟨v, w, x, rfl, hv, hw, hx⟩ := map3 h2
  obtain rfl := kw0 h3
  exact h v w x hv hw hx
/-! ### isinstance, type -/
theorem f_isinstance_bytes {b : Array UInt8} {c : Value} {r : Bool} {Q : Pv} (O : Ok K C) (hc : Own c) (e : kitOne K (.type "bytes") c = some r) (h : Q (.bool r) m l) : TCall C m l (.builtin "isinstance") [.bytes b 0, c] [] Q E :=
  call2 Own.builtin fun v w hv hw s S => by
    obtain ⟨t, rfl⟩ := un_bytes hv
    obtain rfl := hc w hw
    exact kia_one kitx_bytes (O.X.keeps S.keep) trivial e (by intro h; cases h) fun tk => Out.here (Rel.tok s tk) S h
theorem f_isinstance_bytes_tup {b : Array UInt8} {a : Addr} {dd : Option Addr} {its : List Value} {n : Nat} {sl : Array (Option Value)} {r : Bool} {Q : Pv} (O : Ok K C) (ha : K.lookup a = some ⟨.type "tuple", dd, .seq its.toArray n, sl⟩) (e : kitAny K (.type "bytes") its = some r) (h : Q (.bool r) m l) :
    TCall C m l (.builtin "isinstance") [.bytes b 0, .ref a] [] Q E :=
  call2 Own.builtin fun v w hv hw s S => by
    obtain ⟨t, rfl⟩ := un_bytes hv
    obtain rfl := un_ref hw
    exact kia_tup kitx_bytes (O.X.keeps S.keep) trivial (O.X.keeps S.keep _ _ ha) e (by intro h; cases h) fun tk => Out.here (Rel.tok s tk) S h
theorem f_type_bytes {b : Array UInt8} {Q : Pv} (h : Q (.type "bytes") m l) : TCall C m l (.type "type") [.bytes b 0] [] Q E :=
  call1 Own.type fun v hv s S => by
    obtain ⟨t, rfl⟩ := un_bytes hv
    exact call_type_of (Tx := "bytes") rfl (by decide) (Out.here (Rel.refl s) S h)
theorem f_type_bool {b : Bool} {Q : Pv} (h : Q (.type "bool") m l) : TCall C m l (.type "type") [.bool b] [] Q E :=
  call1 Own.type fun v hv s S => by
    obtain rfl := un_bool hv
    exact call_type_of (Tx := "bool") rfl (by decide) (Out.here (Rel.refl s) S h)
theorem c_isType {a b : String} {Q : Pv} (h : Q (.bool (a == b)) m l) : TC C m l .Is (.type a) (.type b) Q E := fun va vb ha hb s S => by
  obtain rfl := un_type ha
  obtain rfl := un_type hb
  show wpAny _ _ (do return Value.bool (← isSame (Value.type a) (Value.type b))) _ _ _
  have e : isSame (.type a) (.type b) = pure (a == b) := by
    have : (Value.type a == Value.type b) = (a == b) := by
      by_cases h : a = b
      · subst h; simp
      · have h1 : (a == b) = false := by simpa using h
        have h2 : (Value.type a == Value.type b) = false := by simpa using h
        rw [h1, h2]
    rw [← this]; rfl
  rw [e]
  exact wpAny_bind (wpAny_pure (wpAny_pure (Out.here (Rel.refl s) S h)))
theorem bne_none {v : Value} (hn : v ≠ .none) : (v == Value.none) = false := by simpa using hn
theorem c_isTypeT {a : String} {Q : Pv} (h : Q (.bool true) m l) : TC C m l .Is (.type a) (.type a) Q E := c_isType (by simpa using h)
theorem c_isTypeF {a b : String} {Q : Pv} (hn : a ≠ b) (h : Q (.bool false) m l) : TC C m l .Is (.type a) (.type b) Q E := by
  refine c_isType ?_
  have : (a == b) = false := by simpa using hn
  rw [this]; exact h
theorem c_isNoneT {Q : Pv} (h : Q (.bool true) m l) : TC C m l .Is .none .none Q E := c_isNone h
theorem c_isNoneF {v : Value} {Q : Pv} (hn : v ≠ .none) (h : Q (.bool false) m l) : TC C m l .Is v .none Q E := by
  refine c_isNone ?_
  rw [bne_none hn]; exact h
theorem c_isNotNoneT {v : Value} {Q : Pv} (hn : v ≠ .none) (h : Q (.bool true) m l) : TC C m l .IsNot v .none Q E := by
  refine c_isNotNone ?_
  rw [bne_none hn]; exact h
theorem c_isNotNoneF {Q : Pv} (h : Q (.bool false) m l) : TC C m l .IsNot .none .none Q E := c_isNotNone h
/-! ### methods of built-in objects -/
noncomputable def unM (p : Value × List Value) : Value × List Value := (un p.1, p.2.map un)
noncomputable def TM (C : Cx) (m : Loc) (l : Led) (o : Value) (name : Str) (Q : Value → List Value → Loc → Led → Prop) (E : Pv) : Prop := ∀ vo pl, un vo = o → T C unM m l (getMethod vo name pl) (fun p => Q p.1 p.2) E
noncomputable abbrev KMe3 (C : Cx) (f : Value) (first : List Value) (Q E : Pv) : Ql := fun vs m l => TCall C m l f (first ++ vs) [] Q E
noncomputable abbrev KMe2 (C : Cx) (env : Env) (pos : Pos) (args : List Expr) (Q E : Pv) : Value → List Value → Loc → Led → Prop := fun f first m l => Kp C f ∧ TL C m l (spliced (backTo pos (starEach args env))) (KMe3 C f first Q E) E
noncomputable abbrev KMe (C : Cx) (env : Env) (pos : Pos) (args : List Expr) (name : Str) (Q E : Pv) : Pv := fun ov m l => TM C m l ov name (KMe2 C env pos args Q E) E
theorem e_meth {o : Expr} {name : Str} {apos pos : Pos} {args : List Expr} {pl : Sem Bool} {Q : Pv}
    (h : TV C m l (eval o env) (KMe C env pos args name Q E) E)
    (he : eval (.Call (.Attribute o name apos) args [] pos) env = (do
      let ov ← eval o env
      standAt apos.atName
      let (f, first) ← holding [ov] (getMethod ov name pl)
      callWith pos f first (backTo pos (starEach args env)) []) := by with_unfolding_all rfl)
    (hplain : (backTo pos (starEach args env)).any (·.1) = false := by with_unfolding_all rfl) : TV C m l (eval (.Call (.Attribute o name apos) args [] pos) env) Q E := fun s S =>
  MethodCall_ (T.next h S (Rel.refl s) fun ov s₁ m₁ l₁ S₁ r₁ q₁ => T.next (q₁ ov pl rfl) S₁ r₁ fun fx s₂ m₂ l₂ S₂ r₂ q₂ => T.fin (callWith_T q₂.1 q₂.2 hplain) S₂ r₂) he
noncomputable def IsT (T : String) (P : Shape) : Prop := ∀ o, P o → o.cls = .type T ∧ o.dict = none
theorem tm_obj {a : Addr} {P : Shape} {T id : String} {name : Str} {Q : Value → List Value → Loc → Led → Prop} (ht : IsT T P) (pa : PlainAttrs T) (slot : Slot T name id) (ty : typeOf (.builtin id) = pure (.type "method_descriptor"))
    (hm : (a, P) ∈ l) (h : Q (.builtin id) [.ref a] m l) : TM C m l (.ref a) name Q E := fun vo pl hv s S => by
  obtain rfl := un_ref hv
  obtain ⟨o, ho, hp⟩ := S.get _ hm
  exact getMethod_builtin ⟨o, ho, (ht o hp).1⟩ pa slot ty (fun a' e => by cases e; exact ⟨o, ho, (ht o hp).2⟩) (Out.here (Rel.refl s) S h)
theorem tm_bytes {b : Array UInt8} {id : String} {name : Str} {Q : Value → List Value → Loc → Led → Prop} (slot : Slot "bytes" name id) (ty : typeOf (.builtin id) = pure (.type "method_descriptor"))
    (h : Q (.builtin id) [.bytes b 0] m l) (pa : PlainAttrs "bytes") : TM C m l (.bytes b 0) name Q E := fun vo pl hv s S => by
  obtain ⟨t, rfl⟩ := un_bytes hv
  exact getMethod_builtin rfl pa slot ty (fun a' e => by cases e) (Out.here (Rel.refl s) S h)
end
end
section
set_option Elab.async false
set_option linter.all false
set_option maxRecDepth 100000
/-! ## lists and tuples -/
noncomputable def listS (vs : List Value) : Shape := fun o => ∃ items n, o = ⟨.type "list", none, .seq items n, #[]⟩ ∧ items.toList.map un = vs
noncomputable def tupS (vs : List Value) : Shape := fun o => ∃ items n, o = ⟨.type "tuple", none, .seq items n, #[]⟩ ∧ items.toList.map un = vs
theorem isT_list {vs : List Value} : IsT "list" (listS vs) := by rintro o ⟨i, n, rfl, _⟩; exact ⟨rfl, rfl⟩
theorem len_of {items : Array Value} {vs : List Value} (h : items.toList.map un = vs) : items.size = vs.length := by rw [← h]; simp
theorem get_of {items : Array Value} {vs : List Value} (h : items.toList.map un = vs) {i : Nat} {v : Value} (hv : vs[i]? = some v) : ∃ u, items[i]? = some u ∧ un u = v := by
  subst h
  simp only [List.getElem?_map, Option.map_eq_some_iff] at hv
  obtain ⟨u, h1, h2⟩ := hv
  exact ⟨u, by simpa using h1, h2⟩
section
variable {K : Frag} {C : Cx} {m : Loc} {l l' : Led} {E : Pv} {env : Env} {a b : Addr} {vs ws : List Value} {v w : Value} {Q : Pv}
theorem St.isL (S : St C.base C.L m l h) (hm : (a, listS vs) ∈ l) : ∃ items n, IsL h a items n ∧ items.toList.map un = vs := by
  obtain ⟨o, e, items, n, rfl, hi⟩ := S.get _ hm
  exact ⟨items, n, e, hi⟩
theorem St.isTup (S : St C.base C.L m l h) (hm : (a, tupS vs) ∈ l) : ∃ items n, h.get? a = some ⟨.type "tuple", none, .seq items n, #[]⟩ ∧ items.toList.map un = vs := by
  obtain ⟨o, e, items, n, rfl, hi⟩ := S.get _ hm
  exact ⟨items, n, e, hi⟩
theorem St.mapSeq {h : Heap} (S : St C.base C.L m l h) (U : Upd a (listS vs) (listS ws) l l') {items : Array Value} {n : Nat} (hl : IsL h a items n) (f : Array Value → Array Value) (hf : (f items).toList.map un = ws) :
    St C.base C.L m l' (h.update a (Obj.mapSeq f)) := S.upd U (Heap.SameBut.update ..) (hl.update f) ⟨_, _, rfl, hf⟩
theorem newList_T {vvs : List Value} (h : ∀ a, Q (.ref a) m ((a, listS (vvs.map un)) :: l)) (hz : vvs.length ≤ 16000000) : TV C m l (newList vvs) Q E := fun s S =>
  wpAny_newObj_type (Out.here (Rel.heap s _) (S.push _ rfl ⟨_, _, rfl, by simp⟩) (h _)) (by show vvs.toArray.size ≤ sizeLine; rw [sizeLine_eq]; simp; lia)
theorem newTuple_T {vvs : List Value} (h : ∀ a, Q (.ref a) m ((a, tupS (vvs.map un)) :: l)) (hz : vvs.length ≤ 16000000) : TV C m l (newTuple vvs) Q E := fun s S =>
  wpAny_newObj_type (Out.here (Rel.heap s _) (S.push _ rfl ⟨_, _, rfl, by simp⟩) (h _)) (by show vvs.toArray.size ≤ sizeLine; rw [sizeLine_eq]; simp; lia)
noncomputable abbrev KLi (Q : Pv) : Ql := fun vs m l => vs.length ≤ 16000000 ∧ ∀ a, Q (.ref a) m ((a, listS vs) :: l)
noncomputable abbrev KTu (Q : Pv) : Ql := fun vs m l => vs.length ≤ 16000000 ∧ ∀ a, Q (.ref a) m ((a, tupS vs) :: l)
theorem e_list {elts : List Expr} {pos : Pos} (h : TL C m l (spliced (backTo pos (starEach elts env))) (KLi Q) E) : TV C m l (eval (.List elts pos) env) Q E := fun s S =>
  PyProof.Rows.List_ (T.next h S (Rel.refl s) fun vvs s₁ m₁ l₁ S₁ r₁ q₁ => T.fin (newList_T q₁.2 (by simpa using q₁.1)) S₁ r₁)
theorem e_tuple {elts : List Expr} {k : Nat} {pos : Pos} (h : TL C m l (spliced (backTo pos (starEach elts env))) (KTu Q) E) : TV C m l (eval (.Tuple elts k pos) env) Q E := fun s S =>
  PyProof.Rows.Tuple_ (T.next h S (Rel.refl s) fun vvs s₁ m₁ l₁ S₁ r₁ q₁ => T.fin (newTuple_T q₁.2 (by simpa using q₁.1)) S₁ r₁)
theorem m_append (U : Upd a (listS vs) (listS (vs ++ [v])) l l') (hz : vs.length ≤ 16000000) (h : Q .none m l') : TCall C m l (.builtin "list.append") [.ref a, v] [] Q E :=
  call2 Own.builtin fun x y hx hy s S => by
    obtain rfl := un_ref hx
    obtain ⟨items, n, hl, hi⟩ := S.isL U.mem
    have hs : items.size ≤ sizeLine := by rw [len_of hi, sizeLine_eq]; lia
    exact call_meets F.slot_list_append ⟨_, hl, rfl⟩ F.entry_list_append (F.args_list_append_2 _ _) (PySem.list_append a items n y hs) ⟨hl, Out.here (Rel.of s _ _) (S.mapSeq U hl _ (by simp [hi, hy])) h⟩
theorem m_clear (U : Upd a (listS vs) (listS []) l l') (hz : vs.length ≤ 16000000) (h : Q .none m l') : TCall C m l (.builtin "list.clear") [.ref a] [] Q E :=
  call1 Own.builtin fun x hx s S => by
    obtain rfl := un_ref hx
    obtain ⟨items, n, hl, hi⟩ := S.isL U.mem
    have hs : items.size ≤ sizeLine := by rw [len_of hi, sizeLine_eq]; lia
    exact call_meets F.slot_list_clear ⟨_, hl, rfl⟩ F.entry_list_clear (F.args_list_clear_1 _) (AutoSeq1.list_clear_list_0 a items n hs) ⟨hl, Out.here (Rel.of s _ _) (S.mapSeq U hl _ (by simp)) h⟩
theorem m_pop (U : Upd a (listS (vs ++ [v])) (listS vs) l l') (hz : vs.length ≤ 16000000) (h : Q v m l') : TCall C m l (.builtin "list.pop") [.ref a] [] Q E :=
  call1 Own.builtin fun x hx s S => by
    obtain rfl := un_ref hx
    obtain ⟨items, n, hl, hi⟩ := S.isL U.mem
    have hsz : items.size = vs.length + 1 := by rw [len_of hi]; simp
    have hs : items.size ≤ sizeLine := by rw [hsz, sizeLine_eq]; lia
    obtain ⟨u, hu, rfl⟩ := get_of hi (i := items.size - 1) (v := v) (by rw [hsz]; simp)
    refine call_meets F.slot_list_pop ⟨_, hl, rfl⟩ F.entry_list_pop (F.args_list_pop_1 _) (MeetsSeq.list_pop_last a items n u hu hs) ⟨hl, Out.here (Rel.of s _ _) (S.mapSeq U hl _ ?_) h⟩
    have : (items.eraseIdxIfInBounds (items.size - 1)).toList = items.toList.dropLast := by
      rw [Array.toList_eraseIdxIfInBounds, List.dropLast_eq_take, List.eraseIdx_eq_take_drop_succ]
      simp
      lia
    rw [this, List.map_dropLast, hi]; simp
theorem f_len_list (hm : (a, listS vs) ∈ l) (hz : vs.length ≤ 16000000) (h : Q (.int vs.length 0) m l) : TCall C m l (.builtin "len") [.ref a] [] Q E :=
  call1 Own.builtin fun x hx s S => by
    obtain rfl := un_ref hx
    obtain ⟨items, n, hl, hi⟩ := S.isL hm
    exact call_len_list hl.isList (by rw [len_of hi]; lia) (Out.here (Rel.tok s _) S (by show Q (.int (items.size : Int) 0) m l; rw [len_of hi]; exact h))
theorem t_list {Q} (hm : (a, listS vs) ∈ l) (hz : vs.length ≤ 16000000) (h : Q (!vs.isEmpty) m l) : TT C m l (.ref a) Q E := fun x hx s S => by
  obtain rfl := un_ref hx
  obtain ⟨items, n, hl, hi⟩ := S.isL hm
  have he : items.isEmpty = vs.isEmpty := by subst hi; simp
  exact wpAny_truthy_list hl.isList (by rw [len_of hi]; lia) (Out.here (Rel.tok s _) S (by rw [he]; exact h))
/-! ### items -/
noncomputable def TSub (C : Cx) (m : Loc) (l : Led) (x y : Expr) (o i : Value) (Q E : Pv) : Prop := ∀ vo vi, un vo = o → un vi = i → TV C m l (subscriptTail x y vo vi) Q E
noncomputable abbrev KSub2 (C : Cx) (x y : Expr) (o : Value) (Q E : Pv) : Pv := fun i m l => TSub C m l x y o i Q E
noncomputable abbrev KSub (C : Cx) (env : Env) (x y : Expr) (Q E : Pv) : Pv := fun o m l => TV C m l (eval y env) (KSub2 C x y o Q E) E
theorem e_sub {x y : Expr} {pos : Pos} (h : TV C m l (eval x env) (KSub C env x y Q E) E) : TV C m l (eval (.Subscript x y pos) env) Q E := fun s S =>
  Subscript_ (T.next h S (Rel.refl s) fun o s₁ m₁ l₁ S₁ r₁ q₁ => T.next q₁ S₁ r₁ fun i s₂ m₂ l₂ S₂ r₂ q₂ => T.fin (q₂ o i rfl rfl) S₂ r₂)
theorem s_list {x y : Expr} {i : Int} (hm : (a, listS vs) ∈ l) (h0 : 0 ≤ i) (hx : vs[i.toNat]? = some v) (hz : vs.length ≤ 16000000) (h : Q v m l)
    (hs : ∀ va vi, subscripted y false va vi = operate [va, vi] (getItem va vi) := by intros; with_unfolding_all rfl) : TSub C m l x y (.ref a) (.int i 0) Q E := fun vo vi ho hi s S => by
  obtain rfl := un_ref ho
  obtain ⟨t, rfl⟩ := un_int hi
  obtain ⟨items, n, hl, hit⟩ := S.isL hm
  obtain ⟨u, hu, rfl⟩ := get_of hit hx
  have hlt : i.toNat < vs.length := by
    rcases Nat.lt_or_ge i.toNat vs.length with h | h
    · exact h
    · rw [List.getElem?_eq_none h] at hx; cases hx
  exact tail_any hl.isList.typeIs F.slot_list_getitem.lookup (wpAny_getItem_list hl.isList h0 (by lia) hu (Out.here (Rel.refl s) S h)) (hs _ _)
theorem s_list_neg {x y : Expr} {i : Int} (hm : (a, listS vs) ∈ l) (h0 : i < 0) (h1 : -(vs.length : Int) ≤ i) (hx : vs[(i + vs.length).toNat]? = some v) (hz : vs.length ≤ 16000000) (h : Q v m l)
    (hs : ∀ va vi, subscripted y false va vi = operate [va, vi] (getItem va vi) := by intros; with_unfolding_all rfl) : TSub C m l x y (.ref a) (.int i 0) Q E := fun vo vi ho hi s S => by
  obtain rfl := un_ref ho
  obtain ⟨t, rfl⟩ := un_int hi
  obtain ⟨items, n, hl, hit⟩ := S.isL hm
  have hlen := len_of hit
  obtain ⟨u, hu, rfl⟩ := get_of hit hx
  rw [← hlen] at hu h1
  exact tail_any hl.isList.typeIs F.slot_list_getitem.lookup (wpAny_getItem_list_neg hl.isList h0 h1 (by lia) hu (Out.here (Rel.refl s) S h)) (hs _ _)
/-! ### other list operations -/
theorem o_add_list (ha : (a, listS vs) ∈ l) (hb : (b, listS ws) ∈ l) (hz : vs.length + ws.length ≤ 16000000) (h : ∀ c, Q (.ref c) m ((c, listS (vs ++ ws)) :: l)) : TB C m l .Add (.ref a) (.ref b) Q E := fun x y hx hy s S => by
  obtain rfl := un_ref hx
  obtain rfl := un_ref hy
  obtain ⟨items, n, hl, hi⟩ := S.isL ha
  obtain ⟨items', n', hl', hi'⟩ := S.isL hb
  exact PySem.P.add_list hl hl' (Out.here (Rel.heap s _) (S.push _ rfl ⟨_, _, rfl, by simp [hi, hi']⟩) (h _)) (by rw [len_of hi, len_of hi', sizeLine_eq]; lia)
theorem m_extend (U : Upd a (listS vs) (listS (vs ++ ws)) l l') (hb : (b, listS ws) ∈ l) (hz : vs.length + ws.length ≤ 16000000) (h : Q .none m l') : TCall C m l (.builtin "list.extend") [.ref a, .ref b] [] Q E :=
  call2 Own.builtin fun x y hx hy s S => by
    obtain rfl := un_ref hx
    obtain rfl := un_ref hy
    obtain ⟨items, n, hl, hi⟩ := S.isL U.mem
    obtain ⟨items', n', hl', hi'⟩ := S.isL hb
    have hs : items.size + items'.size ≤ 16000000 := by rw [len_of hi, len_of hi']; lia
    have hq := sizeLine_eq
    refine call_meets F.slot_list_extend ⟨_, hl, rfl⟩ F.entry_list_extend (F.args_list_extend_2 _ _) (AutoSeq1.list_extend_list_list_0 a items n b items' n' ?_ (by lia) (by lia)) ⟨hl, hl', Out.here (Rel.of s _ _) (S.mapSeq U hl _ (by simp [hi, hi'])) h⟩
    have : Builtin.List.listTooLong (items.size + items'.size) = false := by unfold Builtin.List.listTooLong; simp; lia
    simp [this]
end
end
section
set_option Elab.async false
set_option linter.all false
set_option maxRecDepth 100000
noncomputable def b64val (c : Int) : Int := if 65 ≤ c ∧ c ≤ 90 then c - 65 else if 97 ≤ c ∧ c ≤ 122 then c - 71 else if 48 ≤ c ∧ c ≤ 57 then c + 4 else if c = 43 then 62 else if c = 47 then 63 else 64
/-! ## walking over things -/
theorem St.dropBut {base : Heap} {L a : Addr} {P : Shape} {m : Loc} {l : Led} {h h' : Heap} (S : St base L m ((a, P) :: l) h) (hk : ∀ b o, b ≠ a → h.get? b = some o → h'.get? b = some o) : St base L m l h' := by
  obtain ⟨mv, hns, hx⟩ := S.ns
  have hLa : L ≠ a := fun e => S.ne (.head _) e.symm
  have hn := S.nodup
  refine ⟨fun b o e => hk b o (fun e' => ?_) (S.keep b o e), S.above, ⟨mv, hns.extBut hk hLa, hx⟩, fun p hp => ?_, fun p hp => S.fresh p (.tail _ hp), ?_⟩
  · have h1 := S.fresh _ (.head _)
    rw [e', h1] at e
    cases e
  · obtain ⟨o, e, q⟩ := S.get p (.tail _ hp)
    refine ⟨o, hk _ _ (fun e' => ?_) e, q⟩
    simp only [List.map_cons, List.nodup_cons] at hn
    exact hn.1 (e' ▸ List.mem_map_of_mem hp)
  · have h0 := S.nd
    simp only [List.map_cons, List.nodup_cons, List.mem_cons, not_or] at h0 ⊢
    exact ⟨h0.1.2, h0.2.2⟩
noncomputable def TIt (C : Cx) (m : Loc) (l : Led) (x : Value) (Q E : Pv) : Prop := ∀ vx, un vx = x → TV C m l (pyIter vx) Q E
noncomputable def TN (C : Cx) (m : Loc) (l : Led) (it : Addr) (Q : Option Value → Loc → Led → Prop) (E : Pv) : Prop := T C (Option.map un) m l (pyNext (.ref it)) Q E
structure TIter (C : Cx) (it : Addr) (sh : Nat → Shape) (vs : List Value) (Sup : Led → Prop) : Prop where
  item : ∀ (i : Nat) (v : Value) (m : Loc) (l : Led) (Q : Option Value → Loc → Led → Prop) (E : Pv), vs[i]? = some v → Sup l → Q (some v) m ((it, sh (i + 1)) :: l) → TN C m ((it, sh i) :: l) it Q E
  done : ∀ (m : Loc) (l : Led) (Q : Option Value → Loc → Led → Prop) (E : Pv), Sup l → Q none m l → TN C m ((it, sh vs.length) :: l) it Q E
noncomputable def litS (a : Addr) (i : Nat) : Shape := fun o => o.cls = .type "list_iterator" ∧ o.data = .fields #[.ref a, .int i 0]
noncomputable def ritS (x left step : Int) : Shape := fun o => o = { cls := .type "range_iterator", dict := none, data := .fields #[rawInt x, rawInt left, rawInt step], slots := #[] }
noncomputable def bitS (b : Array UInt8) (i : Nat) : Shape := fun o => ∃ t, o.cls = .type "bytes_iterator" ∧ o.data = .fields #[.bytes b t, .int i 0]
noncomputable def rangeS (a b c : Int) : Shape := fun o => ∃ t u v, o = { cls := .type "range", dict := none, data := .fields #[.int a t, .int b u, .int c v], slots := #[] }
section
variable {K : Frag} {C : Cx} {m : Loc} {l l' : Led} {E : Pv} {env : Env} {a b : Addr} {vs ws : List Value} {v w : Value} {Q : Pv}
theorem it_list (hm : (a, listS vs) ∈ l) (h : ∀ it, Q (.ref it) m ((it, litS a 0) :: l)) : TIt C m l (.ref a) Q E := fun vx hx s S => by
  obtain rfl := un_ref hx
  obtain ⟨items, n, hl, hi⟩ := S.isL hm
  exact wpAny_pyIter_list hl.isList (Out.here (Rel.heap s _) (S.push _ rfl ⟨rfl, rfl⟩) (h _))
theorem iter_list {it : Addr} (hh : C.A.handled = none) : TIter C it (litS a) vs (fun l => (a, listS vs) ∈ l) where
  item := fun i v m l Q E hv hm hQ s S => by
    obtain ⟨items, n, hl, hi⟩ := (S.sub (List.sublist_cons_self _ _)).isL (a := a) (vs := vs) hm
    obtain ⟨o, ho, hc, hd⟩ := S.get _ (.head _)
    obtain ⟨u, hu, rfl⟩ := get_of hi hv
    refine wpAny_pyNext_list_item ⟨o, ho, hc, hd⟩ hl.isList hu fun h' hit hs => ?_
    obtain ⟨o', ho', hc', hd'⟩ := hit
    exact Out.here (Rel.heap s _) (S.upd Upd.here hs ho' ⟨hc', hd'⟩) hQ
  done := fun m l Q E hm hQ s S => by
    obtain ⟨items, n, hl, hi⟩ := (S.sub (List.sublist_cons_self _ _)).isL (a := a) (vs := vs) hm
    obtain ⟨o, ho, hc, hd⟩ := S.get _ (.head _)
    refine wpAny_pyNext_list_end hh ⟨o, ho, hc, hd⟩ hl.isList (by rw [← len_of hi]; simp) fun h' he => ?_
    exact Out.here (Rel.heap s _) (S.dropBut he) hQ
theorem it_bytes {bs : Array UInt8} (h : ∀ it, Q (.ref it) m ((it, bitS bs 0) :: l)) : TIt C m l (.bytes bs 0) Q E := fun vx hx s S => by
  obtain ⟨t, rfl⟩ := un_bytes hx
  exact KBw.pyIter_bytes (Out.here (Rel.heap s _) (S.push _ rfl ⟨t, rfl, rfl⟩) (h _))
noncomputable def bInts (bs : Array UInt8) : List Value := (KBw.bInts bs).map fun i => .int i 0
theorem iter_bytes {it : Addr} {bs : Array UInt8} (hh : C.A.handled = none) : TIter C it (bitS bs) (bInts bs) (fun _ => True) where
  item := fun i v m l Q E hv hm hQ s S => by
    obtain ⟨o, ho, t, hc, hd⟩ := S.get _ (.head _)
    have hv' : ∃ c, bs[i]? = some c ∧ v = .int (c.toNat : Int) 0 := by
      unfold bInts KBw.bInts at hv
      simp only [List.getElem?_map, Option.map_eq_some_iff, List.map_map] at hv
      obtain ⟨c, h1, h2⟩ := hv
      exact ⟨c, by simpa using h1, h2.symm⟩
    obtain ⟨c, hc1, rfl⟩ := hv'
    refine KBw.next_item (t := t) ⟨o, ho, hc, hd⟩ hc1 fun h' hit hs => ?_
    obtain ⟨o', ho', hc', hd'⟩ := hit
    exact Out.here (Rel.of s _ _) (S.upd Upd.here hs ho' ⟨t, hc', hd'⟩) hQ
  done := fun m l Q E hm hQ s S => by
    obtain ⟨o, ho, t, hc, hd⟩ := S.get _ (.head _)
    refine KBw.next_end (t := t) hh ⟨o, ho, hc, hd⟩ (by simp [bInts, KBw.bInts]) fun h' he => ?_
    exact Out.here (Rel.heap s _) (S.dropBut he) hQ
/-! ### ranges -/
noncomputable def rInts (x : Int) (n : Nat) (c : Int) : List Value := (List.range n).map fun i : Nat => .int (x + (i : Int) * c) 0
theorem f_range1 {n : Int} (h : ∀ r, Q (.ref r) m ((r, rangeS 0 n 1) :: l)) : TCall C m l (.type "range") [.int n 0] [] Q E :=
  call1 Own.type fun x hx s S => by
    obtain ⟨t, rfl⟩ := un_int hx
    exact call_range_1 (Out.here (Rel.of s _ _) (S.push _ rfl ⟨_, _, _, rfl⟩) (h _))
theorem it_range {r : Addr} {x y c : Int} (hm : (r, rangeS x y c) ∈ l) (hs : Builtin.Range.small x y c = true) (h : ∀ it, Q (.ref it) m ((it, ritS x (Builtin.Range.rangeSize x y c) c) :: l)) : TIt C m l (.ref r) Q E := fun vx hx s S => by
  obtain rfl := un_ref hx
  obtain ⟨o, ho, t, u, v, rfl⟩ := S.get _ hm
  exact wpAny_pyIter_range ho hs (Out.here (Rel.heap s _) (S.push (P := ritS x (Builtin.Range.rangeSize x y c) c) _ rfl rfl) (h _))
theorem iter_range {it : Addr} {x c : Int} {n : Nat} (hh : C.A.handled = none) : TIter C it (fun i => ritS (x + i * c) ((n : Int) - i) c) (rInts x n c) (fun _ => True) where
  item := fun i v m l Q E hv hm hQ s S => by
    obtain ⟨o, ho, rfl⟩ := S.get _ (.head _)
    unfold rInts at hv
    simp only [List.getElem?_map, Option.map_eq_some_iff] at hv
    obtain ⟨j, h1, rfl⟩ := hv
    have hj : i < n ∧ j = i := by
      rcases Nat.lt_or_ge i n with h | h
      · rw [List.getElem?_range h] at h1; exact ⟨h, (Option.some.inj h1).symm⟩
      · rw [List.getElem?_eq_none (by simpa using h)] at h1; cases h1
    obtain ⟨hj, rfl⟩ := hj
    refine wpAny_pyNext_range_item ho (by lia) fun h' hit hs => ?_
    refine Out.here (Rel.of s _ _) (S.upd Upd.here hs hit ?_) hQ
    show _ = _
    have e1 : x + (j : Int) * c + c = x + ((j + 1 : Nat) : Int) * c := by
      have : ((j + 1 : Nat) : Int) * c = (j : Int) * c + c := by rw [Int.natCast_add, Int.add_mul]; simp
      lia
    have e2 : (n : Int) - (j : Int) - 1 = (n : Int) - ((j + 1 : Nat) : Int) := by lia
    rw [e1, e2]
  done := fun m l Q E hm hQ s S => by
    obtain ⟨o, ho, rfl⟩ := S.get _ (.head _)
    have : (rInts x n c).length = n := by simp [rInts]
    rw [this] at ho
    refine wpAny_pyNext_range_end hh ho (by lia) fun h' he => ?_
    exact Out.here (Rel.heap s _) (S.dropBut he) hQ
/-! ### for -/
noncomputable def LoopQ (I : Loc → Led → Prop) (Q : Flow → Loc → Led → Prop) (it : Addr) (P : Shape) : Flow → Loc → Led → Prop
  | .next, m, l => ∃ m₁ l₁, Fg m₁ m ∧ Sb ((it, P) :: l₁) l ∧ I m₁ l₁
  | .cont, m, l => ∃ m₁ l₁, Fg m₁ m ∧ Sb ((it, P) :: l₁) l ∧ I m₁ l₁
  | .brk, m, l => Q .next m l
  | .ret v, m, l => Q (.ret v) m l
noncomputable def TLoop (C : Cx) (m : Loc) (l : Led) (t : Expr) (it : Value) (body orelse : List Stmt) (env : Env) (Q : Flow → Loc → Led → Prop) (E : Pv) : Prop := ∀ vit, un vit = it → ∀ s, St C.base C.L m l s.heap →
  codeAny (model C.prog C.w) C.A (.forLoop t vit body orelse env) (fun r s' => match r with | .ok f => Out C.base C.L s (Q (unF f)) s' | .error e => cameBackBy (model C.prog C.w) C.A env (fun e s' => Out C.base C.L s (E e) s') e s') s
noncomputable abbrev KLoop (C : Cx) (t : Expr) (body orelse : List Stmt) (env : Env) (Q : Qf) (E : Pv) : Pv := fun it m l => TLoop C m l t it body orelse env Q E
noncomputable abbrev KIt (C : Cx) (t : Expr) (body orelse : List Stmt) (env : Env) (Q : Qf) (E : Pv) : Pv := fun x m l => TIt C m l x (KLoop C t body orelse env Q E) E
theorem x_for {t iter : Expr} {body orelse : List Stmt} {pos : Pos} {Q} (h : TV C m l (eval iter env) (KIt C t body orelse env Q E) E)
    (hs : ∀ x, foldedSetIterable iter env x = pure x := by intro _; with_unfolding_all rfl) : TF C m l (exec (.For t iter body orelse pos) env) Q E := fun s S => by
  refine wpAny_For (T.next h S (Rel.refl s) fun x s₁ m₁ l₁ S₁ r₁ q₁ => T.next (q₁ x rfl) S₁ r₁ fun it s₂ m₂ l₂ S₂ r₂ q₂ => ?_) hs
  refine codeAny_mono (q₂ it rfl s₂ S₂) fun r s' hr => ?_
  cases r with
  | ok f => exact Out.lift r₂ hr
  | error e =>
    have hm : ∀ (e : Value) (s' : Shared), Out C.base C.L s₂ (E e) s' → Out C.base C.L s (E e) s' := fun _ _ o => o.lift r₂
    exact wpAny_mono hr (fun _ _ o => hm _ _ o) (fun _ _ o => hm _ _ o)
theorem loop_by {t : Expr} {it : Addr} {sh : Nat → Shape} {body orelse : List Stmt} {Sup : Led → Prop} {Q} (W : TIter C it sh vs Sup) (I : Nat → Loc → Led → Prop) (hS : ∀ i m l, I i m l → Sup l) (h0 : I 0 m l)
    (turn : ∀ i v m l, vs[i]? = some v → I i m l → TA C m ((it, sh (i + 1)) :: l) t env v (KX C env body (LoopQ (I (i + 1)) Q it (sh (i + 1))) no) no)
    (fin : ∀ m l, I vs.length m l → TF C m l (execs orelse env) Q no) (ht : ∀ v, letOwnedTupleGo t (.ref it) v = pure () := by intro _; with_unfolding_all rfl) :
    TLoop C m ((it, sh 0) :: l) t (.ref it) body orelse env Q E := by
  intro vit hv s S
  obtain rfl := un_ref hv
  have nofail : ∀ {α : Type} {X : Value → Shared → Prop} {t : Sem α} {K : α → Shared → Prop} {s' : Shared}, wpAny (model C.prog C.w) C.A t K (fun e s'' => Out C.base C.L s (no e) s'') s' → wpAny (model C.prog C.w) C.A t K X s' :=
    fun h => wpAny_mono h (fun _ _ x => x) fun _ _ x => by obtain ⟨_, _, _, _, hf⟩ := x; exact hf.elim
  refine codeAny_forLoop (fun k s' => ∃ i m l, k = vs.length - i ∧ i ≤ vs.length ∧ I i m l ∧ St C.base C.L m ((it, sh i) :: l) s'.heap ∧ Rel s s') ?_ vs.length ⟨0, m, l, by simp, by simp, h0, S, Rel.refl s⟩ ht
  rintro k s' ⟨i, m₁, l₁, rfl, hi, hI, S₁, r₁⟩
  rcases Nat.lt_or_ge i vs.length with hlt | hge
  · have hv : vs[i]? = some vs[i] := by simp [hlt]
    refine nofail (T.next (W.item i vs[i] m₁ l₁ (fun o m l => o = some vs[i] ∧ m = m₁ ∧ l = (it, sh (i + 1)) :: l₁) no hv (hS _ _ _ hI) ⟨rfl, rfl, rfl⟩) S₁ r₁ fun r s₂ m₂ l₂ S₂ r₂ q₂ => ?_)
    obtain ⟨hr, rfl, rfl⟩ := q₂
    match r, hr with
    | some u, hr =>
      have hu : un u = vs[i] := by simpa using hr
      refine nofail (T.next (turn i vs[i] m₂ l₁ hv hI u hu) S₂ r₂ fun _ s₃ m₃ l₃ S₃ r₃ q₃ => nofail (T.next q₃ S₃ r₃ fun f s₄ m₄ l₄ S₄ r₄ q₄ => ?_))
      cases f with
      | next =>
        obtain ⟨m₅, l₅, hfg, hsb, hI'⟩ := q₄
        exact ⟨vs.length - (i + 1), by lia, i + 1, m₅, l₅, rfl, by lia, hI', hsb.st (S₄.forget hfg), r₄⟩
      | cont =>
        obtain ⟨m₅, l₅, hfg, hsb, hI'⟩ := q₄
        exact ⟨vs.length - (i + 1), by lia, i + 1, m₅, l₅, rfl, by lia, hI', hsb.st (S₄.forget hfg), r₄⟩
      | brk => exact Out.here r₄ S₄ q₄
      | ret v => exact Out.here r₄ S₄ q₄
  · have he : i = vs.length := by lia
    subst he
    refine nofail (T.next (W.done m₁ l₁ (fun o m l => o = none ∧ m = m₁ ∧ l = l₁) no (hS _ _ _ hI) ⟨rfl, rfl, rfl⟩) S₁ r₁ fun r s₂ m₂ l₂ S₂ r₂ q₂ => ?_)
    obtain ⟨hr, rfl, rfl⟩ := q₂
    match r, hr with
    | none, _ => exact nofail (T.next (fin m₂ l₂ hI) S₂ r₂ fun f s₃ m₃ l₃ S₃ r₃ q₃ => Out.here r₃ S₃ q₃)
/-! ### while -/
noncomputable def WhileQ (I : Nat → Loc → Led → Prop) (k : Nat) (Q : Flow → Loc → Led → Prop) : Flow → Loc → Led → Prop
  | .next, m, l => ∃ j m₁ l₁, Fg m₁ m ∧ Sb l₁ l ∧ j < k ∧ I j m₁ l₁
  | .cont, m, l => ∃ j m₁ l₁, Fg m₁ m ∧ Sb l₁ l ∧ j < k ∧ I j m₁ l₁
  | .brk, m, l => Q .next m l
  | .ret v, m, l => Q (.ret v) m l
theorem x_while {test : Expr} {body orelse : List Stmt} {pos : Pos} {Q} (I : Nat → Loc → Led → Prop) {k : Nat} (h0 : I k m l)
    (turn : ∀ k m l, I k m l → Tb C m l (isTrue test env (eval test env)) (KIf C env body orelse (WhileQ I k Q) Q no) no) :
    TF C m l (exec (.While test body orelse pos) env) Q E := fun s S => by
  have nofail : ∀ {α : Type} {X : Value → Shared → Prop} {t : Sem α} {K : α → Shared → Prop} {s' : Shared}, wpAny (model C.prog C.w) C.A t K (fun e s'' => Out C.base C.L s (no e) s'') s' → wpAny (model C.prog C.w) C.A t K X s' :=
    fun h => wpAny_mono h (fun _ _ x => x) fun _ _ x => by obtain ⟨_, _, _, _, hf⟩ := x; exact hf.elim
  refine wpAny_While (codeAny_whileLoop (fun k s' => ∃ m l, I k m l ∧ St C.base C.L m l s'.heap ∧ Rel s s') ?_ k ⟨m, l, h0, S, Rel.refl s⟩)
  rintro k s' ⟨m₁, l₁, hI, S₁, r₁⟩
  refine nofail (T.next (turn k m₁ l₁ hI) S₁ r₁ fun b s₂ m₂ l₂ S₂ r₂ q₂ => ?_)
  cases b with
  | true =>
    simp only [if_true]
    refine nofail (T.next (q₂.1 rfl) S₂ r₂ fun f s₃ m₃ l₃ S₃ r₃ q₃ => ?_)
    cases f with
    | next => obtain ⟨j, m₄, l₄, hfg, hsb, hj, hI'⟩ := q₃; exact ⟨j, hj, m₄, l₄, hI', hsb.st (S₃.forget hfg), r₃⟩
    | cont => obtain ⟨j, m₄, l₄, hfg, hsb, hj, hI'⟩ := q₃; exact ⟨j, hj, m₄, l₄, hI', hsb.st (S₃.forget hfg), r₃⟩
    | brk => exact Out.here r₃ S₃ q₃
    | ret v => exact Out.here r₃ S₃ q₃
  | false =>
    simp only [Bool.false_eq_true, if_false]
    exact nofail (T.next (q₂.2 rfl) S₂ r₂ fun f s₃ m₃ l₃ S₃ r₃ q₃ => Out.here r₃ S₃ q₃)
theorem loop_next {I : Loc → Led → Prop} {Q : Flow → Loc → Led → Prop} {it : Addr} {P : Shape} {m₁ : Loc} {l₁ : Led} (hf : Fg m₁ m) (hs : Sb ((it, P) :: l₁) l) (h : I m₁ l₁) : LoopQ I Q it P .next m l := ⟨m₁, l₁, hf, hs, h⟩
theorem loop_cont {I : Loc → Led → Prop} {Q : Flow → Loc → Led → Prop} {it : Addr} {P : Shape} {m₁ : Loc} {l₁ : Led} (hf : Fg m₁ m) (hs : Sb ((it, P) :: l₁) l) (h : I m₁ l₁) : LoopQ I Q it P .cont m l := ⟨m₁, l₁, hf, hs, h⟩
theorem loop_ret {I : Loc → Led → Prop} {Q : Flow → Loc → Led → Prop} {it : Addr} {P : Shape} (h : Q (.ret v) m l) : LoopQ I Q it P (.ret v) m l := h
theorem while_next {I : Nat → Loc → Led → Prop} {Q : Flow → Loc → Led → Prop} {k j : Nat} {m₁ : Loc} {l₁ : Led} (hf : Fg m₁ m) (hs : Sb l₁ l) (hj : j < k) (h : I j m₁ l₁) : WhileQ I k Q .next m l := ⟨j, m₁, l₁, hf, hs, hj, h⟩
theorem while_brk {I : Nat → Loc → Led → Prop} {Q : Flow → Loc → Led → Prop} {k : Nat} (h : Q .next m l) : WhileQ I k Q .brk m l := h
theorem while_ret {I : Nat → Loc → Led → Prop} {Q : Flow → Loc → Led → Prop} {k : Nat} (h : Q (.ret v) m l) : WhileQ I k Q (.ret v) m l := h
theorem T.view {α β : Type} {φ : α → β} {t : Sem α} {Q : β → Loc → Led → Prop} {m₁ : Loc} {l₁ : Led} (hf : Fg m₁ m) (hs : Sb l₁ l) (h : T C φ m₁ l₁ t Q E) : T C φ m l t Q E := T.led (fun _ S => hs.st (S.forget hf)) h
end
end
section
set_option Elab.async false
set_option linter.all false
set_option maxRecDepth 100000
/-! ## bytes -/
noncomputable def InB (ns : List Int) : Prop := ∀ n ∈ ns, 0 ≤ n ∧ n < 256
noncomputable def byv (ns : List Int) : Value := .bytes (byteArr ns) 0
noncomputable def iL (ns : List Int) : List Value := ns.map fun i => .int i 0
theorem bInts_byteArr {ns : List Int} (h : InB ns) : KBw.bInts (byteArr ns) = ns := KBa.ints_make h
theorem bInts_byv {ns : List Int} (h : InB ns) : bInts (byteArr ns) = iL ns := by unfold bInts iL; rw [bInts_byteArr h]
theorem iL_len (ns : List Int) : (iL ns).length = ns.length := by simp [iL]
theorem iL_append (a b : List Int) : iL (a ++ b) = iL a ++ iL b := by simp [iL]
theorem byteArr_bInts (b : Array UInt8) : byteArr (KBw.bInts b) = b := by
  unfold byteArr KBw.bInts
  apply Array.ext'
  simp only [List.map_map]
  have : ((fun n : Int => n.toNat.toUInt8) ∘ fun c : UInt8 => (c.toNat : Int)) = id := by
    funext c; simp
  rw [this, List.map_id]
theorem InB_bInts (b : Array UInt8) : InB (KBw.bInts b) := fun _ h => KBw.ints_in h
theorem bytes_byv (b : Array UInt8) : Value.bytes b 0 = byv (KBw.bInts b) := by unfold byv; rw [byteArr_bInts]
theorem byteArr_append (a b : List Int) : byteArr (a ++ b) = byteArr a ++ byteArr b := by simp [byteArr]
theorem InB.append {a b : List Int} (ha : InB a) (hb : InB b) : InB (a ++ b) := fun n h => (List.mem_append.mp h).elim (ha n) (hb n)
theorem intsAre_of {items : Array Value} {ns : List Int} (h : items.toList.map un = iL ns) : IntsAre items.toList ns := by
  obtain ⟨l⟩ := items
  simp only at h ⊢
  induction l generalizing ns with
  | nil =>
    cases ns with
    | nil => exact IntsAre.nil
    | cons _ _ => simp [iL] at h
  | cons v l ih =>
    cases ns with
    | nil => simp [iL] at h
    | cons n ns =>
      simp only [iL, List.map_cons, List.cons.injEq] at h
      obtain ⟨t, rfl⟩ := un_int h.1
      exact IntsAre.cons _ _ (ih h.2)
section
variable {K : Frag} {C : Cx} {m : Loc} {l l' : Led} {E : Pv} {env : Env} {a b : Addr} {ns ks : List Int} {vs ws : List Value} {v w : Value} {Q : Pv}
theorem f_bytes (hm : (a, listS (iL ns)) ∈ l) (hr : InB ns) (hz : ns.length ≤ 16000000) (hh : C.A.handled = none) (h : Q (byv ns) m l) : TCall C m l (.type "bytes") [.ref a] [] Q E :=
  call1 Own.type fun x hx s S => by
    obtain rfl := un_ref hx
    obtain ⟨items, n, hl, hi⟩ := S.isL hm
    have hsz := len_of hi
    rw [iL_len] at hsz
    exact call_bytes_ints (vs := items.toList) (ns := ns) hl.isList (intsAre_of hi) hr (by rw [sizeLine_eq]; simp; lia) hh fun h' t k hk => Out.here (Rel.of s _ _) (S.grow hk) h
theorem s_bytes {x y : Expr} {i : Int} (hr : InB ns) (h0 : 0 ≤ i) (h1 : i < ns.length) (hz : ns.length ≤ 16000000) (h : Q (.int (ns.getD i.toNat 0) 0) m l)
    (hs : ∀ va vi, subscripted y false va vi = operate [va, vi] (getItem va vi) := by intros; with_unfolding_all rfl) : TSub C m l x y (byv ns) (.int i 0) Q E := fun vo vi ho hi s S => by
  obtain ⟨t, rfl⟩ := un_bytes ho
  obtain ⟨u, rfl⟩ := un_int hi
  have ht : ∀ r, letTemporaryGo x (.bytes (byteArr ns) t) r = pure () := by intro r; unfold letTemporaryGo; split <;> first | rfl | (rename_i h; cases h)
  exact KBw.item_K (bInts_byteArr hr) (by lia) h0 h1 (fun t' k _ _ => Out.here (Rel.tok s _) S h) (hs _ _) ht
theorem f_len_bytes (hr : InB ns) (hz : ns.length ≤ 16000000) (h : Q (.int ns.length 0) m l) : TCall C m l (.builtin "len") [byv ns] [] Q E :=
  call1 Own.builtin fun x hx s S => by
    obtain ⟨t, rfl⟩ := un_bytes hx
    exact KBw.len_K (bInts_byteArr hr) (by lia) (Out.here (Rel.tok s _) S h)
theorem o_add_bytes (hz : ns.length + ks.length ≤ 16000000) (h : Q (byv (ns ++ ks)) m l) : TB C m l .Add (byv ns) (byv ks) Q E := fun x y hx hy s S => by
  obtain ⟨t, rfl⟩ := un_bytes hx
  obtain ⟨u, rfl⟩ := un_bytes hy
  refine KBy.add_bytes (by rw [byteArr_size, byteArr_size]; lia) fun t' k => Out.here (Rel.tok s _) S ?_
  rw [← byteArr_append]; exact h
theorem un_byv {x : Value} (h : un x = byv ns) : ∃ t, x = .bytes (byteArr ns) t := un_bytes h
/-! ### translate -/
theorem slot_translate : Slot "bytes" "translate" "bytes.translate" :=
  .of (owner := "bytes") (n := "translate") (by rw [typeLookup_type, builtinLookup_eq_fast]; kernel_rfl) (by decide +kernel) (by decide +kernel) (by decide +kernel)
    (by first | exact .inl (by decide +kernel) | exact .inr (by decide +kernel)) (by rw [isSubtype_type]; kernel_rfl)
theorem type_translate : typeOf (.builtin "bytes.translate") = pure (.type "method_descriptor") := by show builtinType _ = _; rw [builtinType_eq_fast]; kernel_rfl
theorem entry_translate : entryFor table "bytes.translate" = some Builtin.«bytes.translate» := entryFor_of_tree (by kernel_rfl)
theorem args_translate (a b : Value) : argsOk "bytes.translate" ⟨[a, b], []⟩ := by unfold argsOk; kernel_rfl
theorem entry_maketrans : entryFor table "bytes.maketrans" = some Builtin.«bytes.maketrans» := entryFor_of_tree (by kernel_rfl)
theorem plain_maketrans : plainId "bytes.maketrans" = true := by decide +kernel
noncomputable def idT : Array UInt8 := (Array.range 256).map (·.toUInt8)
noncomputable def mkt (a b c d : UInt8) : Array UInt8 := (idT.setIfInBounds a.toNat c).setIfInBounds b.toNat d
noncomputable def tr8 (a b c d x : UInt8) : UInt8 := if x = b then d else if x = a then c else x
theorem mkt_size (a b c d : UInt8) : (mkt a b c d).size = 256 := by simp [mkt, idT]
theorem mkt_get (a b c d x : UInt8) : (mkt a b c d).getD x.toNat x = tr8 a b c d x := by
  have hx := x.toNat_lt
  have hi : ∀ y : UInt8, y.toNat < 256 := fun y => y.toNat_lt
  have h0 : idT.getD x.toNat x = x := by
    unfold idT
    rw [Array.getD_eq_getD_getElem?, Array.getElem?_map]
    rw [Array.getElem?_eq_getElem (by simpa using hx)]
    simp
  have e : ∀ (t : Array UInt8) (k v : UInt8), t.size = 256 → (t.setIfInBounds k.toNat v).getD x.toNat x = if x = k then v else t.getD x.toNat x := by
    intro t k v ht
    rw [Array.getD_eq_getD_getElem?, Array.getD_eq_getD_getElem?, Array.getElem?_setIfInBounds]
    by_cases hk : x = k
    · subst hk; simp [ht, hx]
    · have : k.toNat ≠ x.toNat := fun h => hk (UInt8.toNat_inj.mp h).symm
      simp [hk, this]
  unfold mkt tr8
  rw [e _ _ _ (by simp [idT]), e _ _ _ (by simp [idT]), h0]
theorem check_maketrans (a b : Value) : checkBuiltinCall "bytes.maketrans" ⟨[a, b], []⟩ = pure () := by kernel_rfl
theorem bytesLike_eq {id : String} {b : Array UInt8} {t : Tok} : Builtin.Bytes.bytesLike id (.bytes b t) = pure b := by
  unfold Builtin.Bytes.bytesLike
  rw [KBy.buffer_eq]
  rfl
theorem tm_maketrans {Q : Value → List Value → Loc → Led → Prop} (O : Ok K C) (h : Q (.builtin "bytes.maketrans") [] m l) (e : findCls K (.type "bytes") (.type "type") (Str.ofString "maketrans") = some (.val (.builtin "bytes.maketrans"))) : TM C m l (.type "bytes") (Str.ofString "maketrans") Q E := fun vo pl hv s S => by
  obtain rfl := un_type hv
  have X := O.X.keeps S.keep
  have hstub : opaqueClassAbove (.type "bytes") = pure none := by unfold opaqueClassAbove; dsimp only; rw [show Manifest.isStub "bytes" = false by decide +kernel]; rfl
  have ht : typeOf (.type "bytes") = pure (.type "type") := by first | rfl | kernel_rfl
  have L0 : Looks (model C.prog C.w) s.heap (typeOf (.type "bytes")) (.type "type") := Looks.of_pure ht
  have hg : findIn K (.type "type") "__getattribute__" = some (some (.builtin "type.__getattribute__")) := type_tga
  unfold getMethod specialOf
  refine wpAny_bind (wpAny_bind (L0.here ((looks_findIn X hg).here ?_)))
  dsimp only
  rw [if_pos canon_tga]
  refine wpAny_bind (wpAny_mono (Q := fun v s' => Out C.base C.L s (fun m l => Q (un v) [] m l) s') ?_ (fun v s' z => wpAny_pure z) fun _ _ z => z)
  have LO : Looks (model C.prog C.w) s.heap (opaqueClassAbove (.type "bytes")) none := Looks.of_pure hstub
  refine cls_open X LO L0 hg (looks_hook X (r := none) (by rfl)) (by show subIn K _ _ = _; rfl) e ?_
  refine wpAny_pure ?_
  exact handed_on rfl (Out.here (Rel.tok s _) S h)
theorem f_maketrans {a b c d : UInt8} (h : Q (.bytes (mkt a b c d) 0) m l) : TCall C m l (.builtin "bytes.maketrans") [.bytes #[a, b] 0, .bytes #[c, d] 0] [] Q E :=
  call2 Own.builtin fun x y hx hy s S => by
    obtain ⟨t, rfl⟩ := un_bytes hx
    obtain ⟨u, rfl⟩ := un_bytes hy
    refine wpAny_call (codeAny_call_builtin plain_maketrans entry_maketrans ?_)
    rw [check_maketrans]
    refine wpAny_pure ?_
    refine wpAny_mono (Q := fun v s' => ∃ t, v = .done (.ret (.bytes (mkt a b c d) t)) ∧ ∃ k, s' = { s with toks := k }) (E := fun _ _ => False) ?_ ?_ (fun _ _ z => z.elim)
    · show wpAny _ _ (noKeywords _ _ >>= fun _ => _) _ _ _
      refine wpAny_bind (wpAny_of_eq (a := ()) rfl ?_)
      refine wpAny_bind (wpAny_of_eq (a := ()) rfl ?_)
      refine wpAny_bind (wpAny_of_eq (bytesLike_eq) ?_)
      refine wpAny_bind (wpAny_of_eq (bytesLike_eq) ?_)
      refine wpAny_ite (KBy.ite_no (by simp) ?_)
      exact wpAny_bind (wpAny_mkBytes (wpAny_pure ⟨_, rfl, _, rfl⟩) (by rw [sizeLine_eq]; simp))
    · rintro v s' ⟨t, rfl, k, rfl⟩
      exact Out.here (Rel.tok s _) S h
theorem translate_meets {b tb : Array UInt8} {t u : Tok} (hz : tb.size = 256) (hb : b.size ≤ 16000000) : Meets (Builtin.«bytes.translate» ⟨[.bytes b t, .bytes tb u], []⟩) (fun _ R s => ∀ t' k, R (.ok (.ret (.bytes (b.map fun c => tb.getD c.toNat c) t'))) { s with toks := k }) := by
  refine .of_wp fun prog w A R s h => ?_
  have hf : b.filter (fun x => !(#[] : Array UInt8).contains x) = b := by simp
  show wpAny _ _ (Builtin.Bytes.bytesLike _ (.bytes tb u) >>= fun x => _) _ _ _
  refine wpAny_bind (wpAny_of_eq bytesLike_eq ?_)
  refine wpAny_ite (KBy.ite_no (by rw [hz]; decide) ?_)
  refine wpAny_bind (wpAny_pure ?_)
  refine wpAny_bind (wpAny_pure ?_)
  refine wpAny_bind (wpAny_of_eq (a := b) rfl ?_)
  dsimp only
  rw [hf]
  refine wpAny_ite ?_
  split
  · rename_i heq
    refine wpAny_bind (wpAny_rule (wpAny_bind ?_))
    refine wpAny_bind (wpAny_typeOf (typeIs_bytes _ b t) (wpAny_pure (wpAny_pure ⟨_, rfl, ?_⟩)))
    have e : (b.map fun c => tb.getD c.toNat c) = b := by simpa using heq
    have h' := h t s.toks
    rw [e] at h'
    exact h'
  · exact wpAny_bind (wpAny_mkBytes (wpAny_pure ⟨_, rfl, h _ _⟩) (by rw [sizeLine_eq]; simp; lia))
noncomputable def u8 (i : Int) : UInt8 := i.toNat.toUInt8
noncomputable def trI (a b c d x : Int) : Int := if x = b then d else if x = a then c else x
theorem u8_inj {x y : Int} (hx : 0 ≤ x ∧ x < 256) (hy : 0 ≤ y ∧ y < 256) (h : u8 x = u8 y) : x = y := by
  have h1 := byte_back hx.1 hx.2
  have h2 := byte_back hy.1 hy.2
  unfold u8 at h
  rw [h] at h1
  lia
theorem byv_tr {a b c d : Int} {ns : List Int} (ha : 0 ≤ a ∧ a < 256) (hb : 0 ≤ b ∧ b < 256) (hr : InB ns) :
    (byteArr ns).map (fun x => (mkt (u8 a) (u8 b) (u8 c) (u8 d)).getD x.toNat x) = byteArr (ns.map (trI a b c d)) := by
  have e : (fun x : UInt8 => (mkt (u8 a) (u8 b) (u8 c) (u8 d)).getD x.toNat x) = tr8 (u8 a) (u8 b) (u8 c) (u8 d) := by funext x; exact mkt_get ..
  rw [e]
  unfold byteArr
  simp only [List.map_toArray, List.map_map]
  congr 1
  refine List.map_congr_left fun x hx => ?_
  have hx := hr x hx
  show tr8 _ _ _ _ (u8 x) = u8 (trI a b c d x)
  unfold tr8 trI
  by_cases h1 : x = b
  · subst h1; simp
  · have : u8 x ≠ u8 b := fun e => h1 (u8_inj hx hb e)
    rw [if_neg h1, if_neg this]
    by_cases h2 : x = a
    · subst h2; simp
    · have : u8 x ≠ u8 a := fun e => h2 (u8_inj hx ha e)
      rw [if_neg h2, if_neg this]
theorem f_maketransI {a b c d : Int} (h : Q (.bytes (mkt (u8 a) (u8 b) (u8 c) (u8 d)) 0) m l) : TCall C m l (.builtin "bytes.maketrans") [byv [a, b], byv [c, d]] [] Q E := f_maketrans h
theorem m_translate {a b c d : Int} (ha : 0 ≤ a ∧ a < 256) (hb : 0 ≤ b ∧ b < 256) (hr : InB ns) (hz : ns.length ≤ 16000000) (h : Q (byv (ns.map (trI a b c d))) m l) :
    TCall C m l (.builtin "bytes.translate") [byv ns, .bytes (mkt (u8 a) (u8 b) (u8 c) (u8 d)) 0] [] Q E :=
  call2 Own.builtin fun x y hx hy s S => by
    obtain ⟨t, rfl⟩ := un_bytes hx
    obtain ⟨u, rfl⟩ := un_bytes hy
    refine call_meets slot_translate (typeIs_bytes s _ t) entry_translate (args_translate _ _) (translate_meets (mkt_size ..) (by rw [byteArr_size]; exact hz)) fun t' k => ?_
    rw [byv_tr ha hb hr]
    exact Out.here (Rel.tok s _) S h
theorem tm_translate {Q : Value → List Value → Loc → Led → Prop} (h : Q (.builtin "bytes.translate") [byv ns] m l) : TM C m l (byv ns) (Str.ofString "translate") Q E :=
  tm_bytes slot_translate type_translate h FB.plainAttrs_bytes
theorem t_int {i : Int} {Q} (h : Q (i != 0) m l) : TT C m l (.int i 0) Q E := fun va ha s S => by
  obtain ⟨t, rfl⟩ := un_int ha
  exact PyProof.Rows.truthy_int (Out.here (Rel.refl s) S h)
end
end
section
set_option Elab.async false
set_option linter.all false
set_option maxRecDepth 100000
section
variable {K : Frag} {C : Cx} {m : Loc} {l l' : Led} {E : Pv} {env : Env} {a b : Addr} {ns ks : List Int} {vs ws : List Value} {v w : Value}
theorem for_T {x : Value} {t : Expr} {body orelse : List Stmt} {sh : Nat → Shape} {Sup : Led → Prop} {Q} (hit : ∀ Q' : Pv, (∀ it, Q' (.ref it) m ((it, sh 0) :: l)) → TIt C m l x Q' E) (W : ∀ it, TIter C it sh vs Sup)
    (I : Nat → Loc → Led → Prop) {m₀ : Loc} {l₀ : Led} (hf : Fg m₀ m) (hs : Sb l₀ l) (hS : ∀ i m l, I i m l → Sup l) (h0 : I 0 m₀ l₀)
    (turn : ∀ it P i v m l, vs[i]? = some v → I i m l → TA C m ((it, P) :: l) t env v (KX C env body (LoopQ (I (i + 1)) Q it P) no) no)
    (fin : ∀ m l, I vs.length m l → TF C m l (execs orelse env) Q no) (ht : ∀ it v, letOwnedTupleGo t (.ref it) v = pure () := by intro _ _; with_unfolding_all rfl) :
    TIt C m l x (KLoop C t body orelse env Q E) E := by
  refine hit _ fun it => ?_
  have key : TLoop C m₀ ((it, sh 0) :: l₀) t (.ref it) body orelse env Q E := loop_by (W it) I hS h0 (fun i v m l hv hi => turn it _ i v m l hv hi) fin (ht it)
  intro vit hv s S
  have hsb : Sb ((it, sh 0) :: l₀) ((it, sh 0) :: l) := Sb.take Ext.one hs
  exact key vit hv s (hsb.st (S.forget hf))
theorem for_bytes {t : Expr} {body orelse : List Stmt} {Q} (hr : InB ns) (hh : C.A.handled = none) (I : Nat → Loc → Led → Prop) {m₀ : Loc} {l₀ : Led} (hf : Fg m₀ m) (hs : Sb l₀ l) (h0 : I 0 m₀ l₀)
    (turn : ∀ it P i c m l, ns[i]? = some c → I i m l → TA C m ((it, P) :: l) t env (.int c 0) (KX C env body (LoopQ (I (i + 1)) Q it P) no) no)
    (fin : ∀ m l, I ns.length m l → TF C m l (execs orelse env) Q no) (ht : ∀ it v, letOwnedTupleGo t (.ref it) v = pure () := by intro _ _; with_unfolding_all rfl) :
    TIt C m l (byv ns) (KLoop C t body orelse env Q E) E := by
  refine for_T (sh := bitS (byteArr ns)) (vs := iL ns) (Sup := fun _ => True) (fun Q' h => it_bytes h) (fun it => by rw [← bInts_byv hr]; exact iter_bytes hh) I hf hs (fun _ _ _ _ => trivial) h0 (fun it P i v m l hv hi => ?_) (by rw [iL_len]; exact fin) ht
  unfold iL at hv
  simp only [List.getElem?_map, Option.map_eq_some_iff] at hv
  obtain ⟨c, h1, rfl⟩ := hv
  exact turn it P i c m l h1 hi
theorem for_list {t : Expr} {body orelse : List Stmt} {Q} (hm : (a, listS vs) ∈ l) (hh : C.A.handled = none) (I : Nat → Loc → Led → Prop) {m₀ : Loc} {l₀ : Led} (hf : Fg m₀ m) (hs : Sb l₀ l) (hS : ∀ i m l, I i m l → (a, listS vs) ∈ l) (h0 : I 0 m₀ l₀)
    (turn : ∀ it P i v m l, vs[i]? = some v → I i m l → TA C m ((it, P) :: l) t env v (KX C env body (LoopQ (I (i + 1)) Q it P) no) no)
    (fin : ∀ m l, I vs.length m l → TF C m l (execs orelse env) Q no) (ht : ∀ it v, letOwnedTupleGo t (.ref it) v = pure () := by intro _ _; with_unfolding_all rfl) :
    TIt C m l (.ref a) (KLoop C t body orelse env Q E) E :=
  for_T (sh := litS a) (fun Q' h => it_list hm h) (fun it => iter_list hh) I hf hs hS h0 turn fin ht
theorem rsize_le {x y c : Int} (hc : 0 < c) (hx : x.natAbs ≤ 1000000000) (hy : y.natAbs ≤ 1000000000) : 0 ≤ Builtin.Range.rangeSize x y c ∧ Builtin.Range.rangeSize x y c ≤ 2000000000 := by
  unfold Builtin.Range.rangeSize
  rw [if_pos hc]
  split
  · have h1 : (y - x - 1) / c ≤ y - x - 1 := Int.ediv_le_self _ (by omega)
    have h2 : 0 ≤ (y - x - 1) / c := Int.ediv_nonneg (by omega) (by omega)
    omega
  · omega
theorem range_small {x y c : Int} (hc : 0 < c) (hx : x.natAbs ≤ 1000000000) (hy : y.natAbs ≤ 1000000000) (hc' : c ≤ 1000000000) : Builtin.Range.small x y c = true := by
  have h := rsize_le hc hx hy
  have hf : ∀ z : Int, z.natAbs ≤ 4000000000 → Builtin.Range.rangeFitsLong z = true := fun z hz => by
    unfold Builtin.Range.rangeFitsLong; simp; omega
  unfold Builtin.Range.small
  rw [hf x (by omega), hf y (by omega), hf c (by omega), hf _ (by omega : (Builtin.Range.rangeSize x y c).natAbs ≤ 4000000000)]
  have hc'' : c > 0 := hc
  rw [if_pos hc'', hf (y + (c - 1)) (by omega)]
  simp
theorem f_range3 {Q : Pv} {i n c : Int} (hc : 0 < c) (hc' : c ≤ 1000000) (h : ∀ r, Q (.ref r) m ((r, rangeS i n c) :: l)) : TCall C m l (.type "range") [.int i 0, .int n 0, .int c 0] [] Q E :=
  call3 Own.type fun x y z hx hy hz s S => by
    obtain ⟨t, rfl⟩ := un_int hx
    obtain ⟨t', rfl⟩ := un_int hy
    obtain ⟨t'', rfl⟩ := un_int hz
    exact call_range_3 (by omega) (Out.here (Rel.of s _ _) (S.push _ rfl ⟨_, _, _, rfl⟩) (h _)) (.inl (PyProof.noPylong_small (by omega)))
noncomputable def rI (x y c : Int) : List Int := (List.range (Builtin.Range.rangeSize x y c).toNat).map fun i : Nat => x + (i : Int) * c
theorem for_range {t : Expr} {body orelse : List Stmt} {x y c : Int} {Q} (hm : (a, rangeS x y c) ∈ l) (hc : 0 < c) (hx : x.natAbs ≤ 1000000000) (hy : y.natAbs ≤ 1000000000) (hc' : c ≤ 1000000000) (hh : C.A.handled = none) (I : Nat → Loc → Led → Prop) {m₀ : Loc} {l₀ : Led} (hf : Fg m₀ m) (hs : Sb l₀ l) (h0 : I 0 m₀ l₀)
    (turn : ∀ it P i k m l, (rI x y c)[i]? = some k → I i m l → TA C m ((it, P) :: l) t env (.int k 0) (KX C env body (LoopQ (I (i + 1)) Q it P) no) no)
    (fin : ∀ m l, I (rI x y c).length m l → TF C m l (execs orelse env) Q no) (ht : ∀ it v, letOwnedTupleGo t (.ref it) v = pure () := by intro _ _; with_unfolding_all rfl) :
    TIt C m l (.ref a) (KLoop C t body orelse env Q E) E := by
  have hn := rsize_le hc hx hy
  have e : ((Builtin.Range.rangeSize x y c).toNat : Int) = Builtin.Range.rangeSize x y c := Int.toNat_of_nonneg hn.1
  have el : rInts x (Builtin.Range.rangeSize x y c).toNat c = iL (rI x y c) := by unfold rInts iL rI; simp
  refine for_T (sh := fun i => ritS (x + i * c) (((Builtin.Range.rangeSize x y c).toNat : Int) - i) c) (vs := iL (rI x y c)) (Sup := fun _ => True) (fun Q' h => it_range hm (range_small hc hx hy hc') fun it => ?_) (fun it => by rw [← el]; exact iter_range hh) I hf hs (fun _ _ _ _ => trivial) h0 (fun it P i v m l hv hi => ?_) (by rw [iL_len]; exact fin) ht
  · have := h it
    simpa [e] using this
  · unfold iL at hv
    simp only [List.getElem?_map, Option.map_eq_some_iff] at hv
    obtain ⟨k, h1, rfl⟩ := hv
    exact turn it P i k m l h1 hi
theorem rI_one (n : Int) : rI 0 n 1 = (List.range n.toNat).map fun i : Nat => (i : Int) := by
  have e : Builtin.Range.rangeSize 0 n 1 = (n.toNat : Int) := by unfold Builtin.Range.rangeSize; simp; split <;> lia
  have e2 : (Builtin.Range.rangeSize 0 n 1).toNat = n.toNat := by rw [e]; rfl
  unfold rI; rw [e2]; simp
theorem x_whileV {test : Expr} {body orelse : List Stmt} {pos : Pos} {Q} (I : Nat → Loc → Led → Prop) {k : Nat} {m₀ : Loc} {l₀ : Led} (hf : Fg m₀ m) (hs : Sb l₀ l) (h0 : I k m₀ l₀)
    (turn : ∀ k m l, I k m l → Tb C m l (isTrue test env (eval test env)) (KIf C env body orelse (WhileQ I k Q) Q no) no) :
    TF C m l (exec (.While test body orelse pos) env) Q E := T.view hf hs (x_while I h0 turn)
theorem drop_some {α : Type} {ns : List α} {i : Nat} {c : α} (h : ns[i]? = some c) : ns.drop i = c :: ns.drop (i + 1) := by
  obtain ⟨h1, rfl⟩ := List.getElem?_eq_some_iff.mp h
  exact List.drop_eq_getElem_cons h1
theorem tm_append {Q : Value → List Value → Loc → Led → Prop} (hm : (a, listS vs) ∈ l) (h : Q (.builtin "list.append") [.ref a] m l) : TM C m l (.ref a) (Str.ofString "append") Q E := tm_obj isT_list F.plainAttrs_list F.slot_list_append F.type_list_append hm h
theorem tm_pop {Q : Value → List Value → Loc → Led → Prop} (hm : (a, listS vs) ∈ l) (h : Q (.builtin "list.pop") [.ref a] m l) : TM C m l (.ref a) (Str.ofString "pop") Q E := tm_obj isT_list F.plainAttrs_list F.slot_list_pop F.type_list_pop hm h
theorem tm_extend {Q : Value → List Value → Loc → Led → Prop} (hm : (a, listS vs) ∈ l) (h : Q (.builtin "list.extend") [.ref a] m l) : TM C m l (.ref a) (Str.ofString "extend") Q E := tm_obj isT_list F.plainAttrs_list F.slot_list_extend F.type_list_extend hm h
theorem tm_clear {Q : Value → List Value → Loc → Led → Prop} (hm : (a, listS vs) ∈ l) (h : Q (.builtin "list.clear") [.ref a] m l) : TM C m l (.ref a) (Str.ofString "clear") Q E := tm_obj isT_list F.plainAttrs_list F.slot_list_clear F.type_list_clear hm h
theorem call_app1 {f x : Value} {kw : List (Str × Value)} {Q : Pv} (h : TCall C m l f (x :: vs) kw Q E) : TCall C m l f ([x] ++ vs) kw Q E := h
theorem call_app0 {f : Value} {kw : List (Str × Value)} {Q : Pv} (h : TCall C m l f vs kw Q E) : TCall C m l f ([] ++ vs) kw Q E := h
noncomputable def Jn (J : Loc → Led → Prop) (m : Loc) (l : Led) : Prop := ∃ m₁ l₁, Fg m₁ m ∧ Sb l₁ l ∧ J m₁ l₁
theorem join_end {J : Loc → Led → Prop} {m₁ : Loc} {l₁ : Led} (hf : Fg m₁ m) (hs : Sb l₁ l) (h : J m₁ l₁) : Jn J m l := ⟨m₁, l₁, hf, hs, h⟩
theorem x_join {J : Loc → Led → Prop} {t t' : Sem Flow} {Q Q' : Flow → Loc → Led → Prop} {E' : Pv} (h1 : TF C m l t (Then (Jn J) Q) E) (h2 : ∀ m l, J m l → TF C m l t' Q' E') : TF C m l t (Then (KTF C t' Q' E') Q) E := by
  refine T.post h1 fun f m l h => ?_
  cases f with
  | next =>
    obtain ⟨m₁, l₁, hf, hs, hj⟩ := h
    exact T.view hf hs (h2 m₁ l₁ hj)
  | _ => exact h
theorem bindK {A : Around} {fd : FuncData} {args : Args} {binds : List (Str × Value)} {Q : List (Str × Value) → Loc → Led → Prop} (O : Ok K C) (e : ∀ S, peek K S (bindArgs fd args) = some binds) (h : Q (unB binds) m l) : T { C with A := A } unB m l (bindArgs fd args) Q E :=
  fun s S => kp_binds (O.X.keeps S.keep) e _ _ _ _ (Out.here (Rel.refl s) S h)
end
end
section
set_option Elab.async false
set_option linter.all false
set_option maxRecDepth 100000
/-! ## base64, plainly -/
noncomputable def b64L : List Int := [65, 66, 67, 68, 69, 70, 71, 72, 73, 74, 75, 76, 77, 78, 79, 80, 81, 82, 83, 84, 85, 86, 87, 88, 89, 90, 97, 98, 99, 100, 101, 102, 103, 104, 105, 106, 107, 108, 109, 110, 111, 112, 113, 114, 115, 116, 117, 118, 119, 120, 121, 122, 48, 49, 50, 51, 52, 53, 54, 55, 56, 57, 43, 47]
noncomputable def sym (v : Int) : Int := b64L.getD v.toNat 0
noncomputable def encS : Nat → Int → List Int → List Int
  | 0, _, [] => []
  | 1, r, [] => [sym (r * 16), 61, 61]
  | _, r, [] => [sym (r * 4), 61]
  | 0, _, b :: t => sym (b / 4) :: encS 1 (b % 4) t
  | 1, r, b :: t => sym (r * 16 + b / 16) :: encS 2 (b % 16) t
  | _, r, b :: t => sym (r * 4 + b / 64) :: sym (b % 64) :: encS 0 0 t
noncomputable def decS : Nat → Int → List Int → List Int
  | _, _, [] => []
  | 0, _, v :: t => decS 1 v t
  | 1, c, v :: t => (c * 4 + v / 16) :: decS 2 (v % 16) t
  | 2, c, v :: t => (c * 16 + v / 4) :: decS 3 (v % 4) t
  | _, c, v :: t => (c * 64 + v) :: decS 0 0 t
theorem b64L_inB : InB b64L := by
  unfold InB; decide
theorem sym_in {v : Int} (h0 : 0 ≤ v) (h1 : v < 64) : 0 ≤ sym v ∧ sym v < 256 := by
  have : ∀ k : Fin 64, 0 ≤ b64L.getD k.val 0 ∧ b64L.getD k.val 0 < 256 := by decide
  have h := this ⟨v.toNat, by lia⟩
  exact h
theorem val_sym {v : Int} (h0 : 0 ≤ v) (h1 : v < 64) : b64val (sym v) = v := by
  have : ∀ k : Fin 64, b64val (b64L.getD k.val 0) = (k.val : Int) := by decide
  have h := this ⟨v.toNat, by lia⟩
  simp only at h
  unfold sym
  rw [h]; lia
theorem b64val_in (c : Int) : 0 ≤ b64val c ∧ b64val c ≤ 64 := by
  unfold b64val; (repeat' split) <;> lia
theorem fdiv_pos {a b : Int} (hb : 0 < b) : a.fdiv b = a / b := Int.fdiv_eq_ediv_of_nonneg _ (by lia)
theorem and_zero {x y k : Nat} (hy : y < 2 ^ k) : (2 ^ k * x) &&& y = 0 := by
  apply Nat.eq_of_testBit_eq
  intro j
  rw [Nat.testBit_and, Nat.testBit_two_pow_mul, Nat.zero_testBit]
  by_cases hj : j ≥ k
  · rw [Nat.testBit_lt_two_pow (Nat.lt_of_lt_of_le hy (Nat.pow_le_pow_right (by decide) hj))]; simp
  · simp [hj]
theorem or_add {a b : Int} {k : Nat} (ha : 0 ≤ a) (hb : 0 ≤ b) (hb' : b < 2 ^ k) : Builtin.bitOr (a * 2 ^ k) b = a * 2 ^ k + b := by
  obtain ⟨x, rfl⟩ := Int.eq_ofNat_of_zero_le ha
  obtain ⟨y, rfl⟩ := Int.eq_ofNat_of_zero_le hb
  have e : (x : Int) * 2 ^ k = ((2 ^ k * x : Nat) : Int) := by push_cast; rw [Int.mul_comm]
  rw [e]
  have hy : y < 2 ^ k := by
    have : ((2 ^ k : Nat) : Int) = (2 : Int) ^ k := by push_cast; rfl
    lia
  rw [bitOr_and]
  have : Builtin.bitAnd ((2 ^ k * x : Nat) : Int) (y : Int) = 0 := by
    unfold Builtin.bitAnd
    simp only [ge_iff_le, Int.natCast_nonneg, decide_true, Bool.and_self, if_true, Int.toNat_natCast]
    have := and_zero (x := x) hy
    simp [this]
  lia
noncomputable def emit (q : Nat) (lc : Int) : Nat → List Int
  | 0 => []
  | k + 1 => sym (lc / 2 ^ (q + 6 * k) % 64) :: emit q lc k
theorem enc_step {p : Nat} (hp : p ≤ 2) {lc c : Int} (h0 : 0 ≤ lc) (hc : 0 ≤ c ∧ c < 256) (t : List Int) :
    encS p (lc % 2 ^ (2 * p)) (c :: t) = emit (2 * ((p + 1) % 3)) ((lc * 256 + c) % 65536) (if p = 2 then 2 else 1) ++ encS ((p + 1) % 3) ((lc * 256 + c) % 65536 % 2 ^ (2 * ((p + 1) % 3))) t := by
  match p, hp with
  | 0, _ =>
    simp only [encS, emit, if_neg (by decide : ¬ (0 : Nat) = 2), Nat.zero_add, Nat.reduceMod, Nat.reduceMul, Nat.reduceAdd, Int.reducePow, List.cons_append, List.nil_append]
    congr 2 <;> omega
  | 1, _ =>
    simp only [encS, emit, if_neg (by decide : ¬ (1 : Nat) = 2), Nat.zero_add, Nat.reduceMod, Nat.reduceMul, Nat.reduceAdd, Int.reducePow, List.cons_append, List.nil_append]
    congr 2 <;> omega
  | 2, _ =>
    simp only [encS, emit, if_true, Nat.zero_add, Nat.reduceMod, Nat.reduceMul, Nat.reduceAdd, Int.reducePow, List.cons_append, List.nil_append, Int.emod_one, Int.ediv_one]
    have e1 : lc % 16 * 4 + c / 64 = (lc * 256 + c) % 65536 / 64 % 64 := by omega
    have e2 : c % 64 = (lc * 256 + c) % 65536 % 64 := by omega
    rw [e1, ← e2]
end
section
set_option Elab.async false
set_option linter.all false
set_option maxRecDepth 100000
/-! ## a ledger as the library's list of new objects -/
noncomputable def Cov : Led → List (Addr × Obj) → Prop
  | [], [] => True
  | p :: l, q :: n => q.1 = p.1 ∧ p.2 q.2 ∧ Cov l n
  | _, _ => False
theorem cov_of {h : Heap} : ∀ {l : Led}, (∀ p ∈ l, ∃ o, h.get? p.1 = some o ∧ p.2 o) → ∃ n, Cov l n ∧ ∀ q ∈ n, h.get? q.1 = some q.2
  | [], _ => ⟨[], trivial, fun _ h => nomatch h⟩
  | p :: l, hp => by
    obtain ⟨o, h1, h2⟩ := hp p (.head _)
    obtain ⟨n, h3, h4⟩ := cov_of (l := l) fun q hq => hp q (.tail _ hq)
    refine ⟨(p.1, o) :: n, ⟨rfl, h2, h3⟩, fun q hq => ?_⟩
    rcases List.mem_cons.mp hq with rfl | hq
    · exact h1
    · exact h4 q hq
theorem Cov.fst {l : Led} : ∀ {n : List (Addr × Obj)}, Cov l n → n.map (·.1) = l.map (·.1) := by
  induction l with
  | nil =>
    intro n h
    cases n with
    | nil => rfl
    | cons _ _ => exact h.elim
  | cons p l ih =>
    intro n h
    cases n with
    | nil => exact h.elim
    | cons q n => rw [List.map_cons, List.map_cons, ih h.2.2, h.1]
theorem Cov.get {l : Led} : ∀ {n : List (Addr × Obj)}, Cov l n → ∀ p ∈ l, ∃ o, (p.1, o) ∈ n ∧ p.2 o := by
  induction l with
  | nil => intro n _ p hp; cases hp
  | cons p l ih =>
    intro n h p' hp
    cases n with
    | nil => exact h.elim
    | cons q n =>
      rcases List.mem_cons.mp hp with rfl | hp
      · exact ⟨q.2, by rw [← h.1]; exact .head _, h.2.1⟩
      · obtain ⟨o, h1, h2⟩ := ih h.2.2 p' hp
        exact ⟨o, .tail _ h1, h2⟩
theorem cov_upd {a : Addr} {P P' : Shape} {l l' : Led} (U : Upd a P P' l l') : ∀ {n : List (Addr × Obj)}, Cov l n → (n.map (·.1)).Nodup → ∃ o, P o ∧ (a, o) ∈ n ∧ ∀ o', P' o' → ∃ n', PySem.W.Upd a o o' n n' ∧ Cov l' n' := by
  induction U with
  | here =>
    intro n hc hn
    match n, hc with
    | (b, o) :: n, hc =>
      obtain ⟨h1, h2, h3⟩ := hc
      simp only at h1 h2
      subst h1
      refine ⟨o, h2, .head _, fun o' h' => ⟨(b, o') :: n, .head fun p hp => ?_, rfl, h', h3⟩⟩
      simp only [List.map_cons, List.nodup_cons] at hn
      exact fun e => hn.1 (e ▸ List.mem_map_of_mem hp)
  | there hu ih =>
    rename_i e r r'
    intro n hc hn
    match n, hc with
    | q :: n, hc =>
      obtain ⟨h1, h2, h3⟩ := hc
      simp only [List.map_cons, List.nodup_cons] at hn
      obtain ⟨o, p1, p2, p3⟩ := ih h3 hn.2
      refine ⟨o, p1, .tail _ p2, fun o' h' => ?_⟩
      obtain ⟨n', q1, q2⟩ := p3 o' h'
      refine ⟨q :: n', .tail (fun e => hn.1 ?_) q1, h1, h2, q2⟩
      exact e ▸ List.mem_map_of_mem (f := (·.1)) p2
theorem St.byNews {base : Heap} {L a : Addr} {m : Loc} {l l' : Led} {h : Heap} {P P' : Shape} (S : St base L m l h) (U : Upd a P P' l l') :
    ∃ mv o n, Fr base L h mv ∧ News base L h n ∧ h.get? a = some o ∧ P o ∧ ∀ o', P' o' → ∃ n', PySem.W.Upd a o o' n n' ∧ ∀ h', Fr base L h' mv → News base L h' n' → St base L m l' h' := by
  obtain ⟨mv, hns, hx⟩ := S.ns
  obtain ⟨n, hc, hg⟩ := cov_of S.get
  have hnd : (n.map (·.1)).Nodup := by rw [hc.fst]; exact S.nodup
  have hN : News base L h n := fun q hq => by
    have : q.1 ∈ l.map (·.1) := by rw [← hc.fst]; exact List.mem_map_of_mem hq
    obtain ⟨p, hp1, hp2⟩ := List.mem_map.mp this
    refine ⟨hg q hq, fun e => ?_, ?_⟩
    · exact (List.nodup_cons.mp S.nd).1 (e ▸ this)
    · have := S.fresh p hp1
      rw [hp2] at this
      exact this
  obtain ⟨o, p1, p2, p3⟩ := cov_upd U hc hnd
  refine ⟨mv, o, n, ⟨hns, S.keep, S.above⟩, hN, hg _ p2, p1, fun o' h' => ?_⟩
  obtain ⟨n', q1, q2⟩ := p3 o' h'
  refine ⟨n', q1, fun h' F N => ⟨F.keep, S.above, ⟨mv, F.ns, hx⟩, fun p hp => ?_, fun p hp => ?_, by rw [U.map]; exact S.nd⟩⟩
  · obtain ⟨o, h1, h2⟩ := q2.get p hp
    exact ⟨o, (N _ h1).1, h2⟩
  · have : p.1 ∈ l.map (·.1) := by rw [← U.map]; exact List.mem_map_of_mem hp
    obtain ⟨p', hp1, hp2⟩ := List.mem_map.mp this
    rw [← hp2]; exact S.fresh p' hp1
/-! ## instances -/
noncomputable def instS (Cl dx : Addr) (sl : List (Option Value)) : Shape := fun o => ∃ slots, o = ⟨.ref Cl, some dx, .plain, slots⟩ ∧ slots.toList.map (Option.map un) = sl
noncomputable def attrS (as : Loc) : Shape := fun o => ∃ es n, o = dictOf es n ∧ es.map (fun e => (un e.key, un e.val)) = as.map fun p => (Value.str p.1 0, p.2)
theorem getL_some {x : Str} {v : Value} : ∀ {as : Loc} {es : List DictEntry}, es.map (fun e => (un e.key, un e.val)) = as.map (fun p => (Value.str p.1 0, p.2)) → as.lookup x = some v → ∃ u, getL x es = some (some u) ∧ un u = v
  | [], _, _, h => nomatch h
  | (y, w) :: as, [], h, _ => nomatch h
  | (y, w) :: as, e :: es, h, hl => by
    simp only [List.map_cons, List.cons.injEq, Prod.mk.injEq] at h
    obtain ⟨⟨h1, h2⟩, h3⟩ := h
    obtain ⟨t, hk⟩ := un_str h1
    have hstr : e.key.isStr x = (y == x) := by rw [hk]; rfl
    unfold getL
    simp only [List.find?_cons, hstr]
    simp only [List.lookup_cons] at hl
    cases hy : x == y with
    | true =>
      rw [hy] at hl
      have : (y == x) = true := by rw [beq_iff_eq] at hy ⊢; exact hy.symm
      simp only [this]
      exact ⟨e.val, rfl, by rw [h2]; simpa using hl⟩
    | false =>
      rw [hy] at hl
      have : (y == x) = false := by
        have : ¬ x = y := by simpa using hy
        simpa using fun e => this e.symm
      simp only [this]
      obtain ⟨u, h4, h5⟩ := getL_some h3 hl
      unfold getL at h4
      refine ⟨u, ?_, h5⟩
      split at h4
      · rename_i q; rw [q]; simpa using h4
      · rename_i q; split at h4 <;> cases h4
theorem getL_none {x : Str} {as : Loc} {es : List DictEntry} (h : es.map (fun e => (un e.key, un e.val)) = as.map (fun p => (Value.str p.1 0, p.2))) (hl : as.lookup x = none) : getL x es = some none := by
  have hk : ∀ e ∈ es, ∃ y t, e.key = .str y t ∧ y ≠ x := by
    intro e he
    have : (un e.key, un e.val) ∈ as.map (fun p => (Value.str p.1 0, p.2)) := by rw [← h]; exact List.mem_map_of_mem (f := fun e : DictEntry => (un e.key, un e.val)) he
    obtain ⟨p, hp1, hp2⟩ := List.mem_map.mp this
    obtain ⟨t, ht⟩ := un_str (Prod.mk.inj hp2).1.symm
    refine ⟨p.1, t, ht, fun e => ?_⟩
    have : as.lookup x ≠ none := by
      clear hl h this hp2
      induction as with
      | nil => cases hp1
      | cons q as ih =>
        rw [List.lookup_cons]
        cases hq : x == q.1 with
        | true => simp
        | false =>
          rcases List.mem_cons.mp hp1 with rfl | hp1
          · have : ¬ x = p.1 := by simpa using hq
            exact absurd e.symm this
          · exact ih hp1
    exact this hl
  unfold getL
  have h1 : es.find? (·.key.isStr x) = none := by
    rw [List.find?_eq_none]
    intro e he
    obtain ⟨y, t, hk, hne⟩ := hk e he
    simp [hk, Value.isStr, hne]
  have h2 : es.any (·.refKey) = false := by
    rw [List.any_eq_false]
    intro e he
    obtain ⟨y, t, hk, hne⟩ := hk e he
    simp [DictEntry.refKey, hk]
  simp [h1, h2]
theorem putL_as {x : Str} {v : Value} {hs : Int} {t : Tok} {as as' : Loc} (P : Put x (un v) as as') : ∀ {es : List DictEntry}, es.map (fun e => (un e.key, un e.val)) = as.map (fun p => (Value.str p.1 0, p.2)) →
    (putL x hs (.str x t) v es).map (fun e => (un e.key, un e.val)) = as'.map (fun p => (Value.str p.1 0, p.2)) := by
  induction P with
  | nil => intro es h; cases es with | nil => simp [putL, un] | cons _ _ => cases h
  | here =>
    intro es h
    cases es with
    | nil => cases h
    | cons e es =>
      simp only [List.map_cons, List.cons.injEq, Prod.mk.injEq] at h
      obtain ⟨⟨h1, h2⟩, h3⟩ := h
      obtain ⟨t, hk⟩ := un_str h1
      simp only [putL, hk, Value.isStr, beq_self_eq_true, if_true, List.map_cons, h3]
      rfl
  | there hne _ ih =>
    intro es h
    cases es with
    | nil => cases h
    | cons e es =>
      simp only [List.map_cons, List.cons.injEq, Prod.mk.injEq] at h
      obtain ⟨⟨h1, h2⟩, h3⟩ := h
      obtain ⟨t, hk⟩ := un_str h1
      rename_i y u r r' _
      have : (y == x) = false := by simpa using hne
      simp only [putL, hk, Value.isStr, this, List.map_cons, ih h3, List.cons.injEq, Prod.mk.injEq, and_true, Bool.false_eq_true, if_false]
      exact ⟨by simp [un], h2⟩
theorem putL_len {x : Str} {v k : Value} {hs : Int} : ∀ {es : List DictEntry}, (putL x hs k v es).length ≤ es.length + 1
  | [] => by simp [putL]
  | e :: es => by
    unfold putL
    split
    · simp
    · have := putL_len (x := x) (v := v) (k := k) (hs := hs) (es := es)
      simp only [List.length_cons]; lia
theorem handed_un {u : Value} : handedIn (un u) = handedIn u := by cases u <;> rfl
noncomputable def TAt (C : Cx) (m : Loc) (l : Led) (o : Value) (name : Str) (Q E : Pv) : Prop := ∀ vo, un vo = o → TV C m l (getAttr vo name true) Q E
noncomputable def TSa (C : Cx) (m : Loc) (l : Led) (o : Value) (name : Str) (v : Value) (Q : Ps) (E : Pv) : Prop := ∀ vo vv, un vo = o → un vv = v → TU C m l (setAttr vo name vv) Q E
structure ClsK (K : Frag) (Cl : Addr) : Prop where
  get : plainGet K Cl "" = true
  cls : isClsIn K Cl = true
  set : findIn K (.ref Cl) "__setattr__" = some (some (.builtin "object.__setattr__"))
  over : plainOver K Cl = true
end
section
set_option Elab.async false
set_option linter.all false
set_option maxRecDepth 100000
section
variable {K : Frag} {C : Cx} {m : Loc} {l l' : Led} {E : Pv} {env : Env} {a b x dx Cl : Addr} {vs ws : List Value} {v w : Value} {sl sl' : List (Option Value)} {as as' : Loc} {name : Str}
theorem St.inst {h : Heap} (S : St C.base C.L m l h) (h1 : (x, instS Cl dx sl) ∈ l) (h2 : (dx, attrS as) ∈ l) :
    ∃ slots es n, InstAt h x ⟨.ref Cl, some dx, .plain, slots⟩ Cl (some (dictOf es n)) ∧ slots.toList.map (Option.map un) = sl ∧ es.map (fun e => (un e.key, un e.val)) = as.map fun p => (Value.str p.1 0, p.2) := by
  obtain ⟨o, ho, slots, rfl, hs⟩ := S.get _ h1
  obtain ⟨o', ho', es, n, rfl, he⟩ := S.get _ h2
  exact ⟨slots, es, n, ⟨ho, rfl, rfl, ho'⟩, hs, he⟩
noncomputable abbrev KAt (C : Cx) (attr : Str) (Q E : Pv) : Pv := fun o m l => TAt C m l o attr Q E
noncomputable abbrev KSa (C : Cx) (attr : Str) (v : Value) (Q : Ps) (E : Pv) : Pv := fun ov m l => TSa C m l ov attr v Q E
noncomputable abbrev KAu4 (C : Cx) (ov : Value) (attr : Str) (Q : Ps) (E : Pv) : Pv := fun new m l => TSa C m l ov attr new Q E
noncomputable abbrev KAu3 (C : Cx) (op : Operator) (ov : Value) (attr : Str) (old : Value) (Q : Ps) (E : Pv) : Pv := fun v m l => TI C m l op old v (KAu4 C ov attr Q E) E
noncomputable abbrev KAu2 (C : Cx) (env : Env) (op : Operator) (attr : Str) (value : Expr) (ov : Value) (Q : Ps) (E : Pv) : Pv := fun old m l => TV C m l (eval value env) (KAu3 C op ov attr old Q E) E
noncomputable abbrev KAu (C : Cx) (env : Env) (op : Operator) (attr : Str) (value : Expr) (Q : Ps) (E : Pv) : Pv := fun ov m l => TAt C m l ov attr (KAu2 C env op attr value ov Q E) E
theorem e_attr {value : Expr} {attr : Str} {pos : Pos} {Q : Pv} (h : TV C m l (eval value env) (KAt C attr Q E) E)
    (he : eval (.Attribute value attr pos) env = (do
      let o ← eval value env
      standAt pos.atName
      let r ← holding [o] (getAttr o attr true)
      letTemporaryGo value o r
      pure r) := by with_unfolding_all rfl) : TV C m l (eval (.Attribute value attr pos) env) Q E := fun s S =>
  Attribute_any_ (T.next h S (Rel.refl s) fun o s₁ m₁ l₁ S₁ r₁ q₁ => T.fin (q₁ o rfl) S₁ r₁) he
theorem a_attr {o : Expr} {attr : Str} {pos : Pos} {v : Value} {Q : Ps} (h : TV C m l (eval o env) (KSa C attr v Q E) E) : TA C m l (.Attribute o attr pos) env v Q E := fun va hv s S => by
  rw [assign_Attribute]
  refine wpAny_bind (wpAny_holding (T.next h S (Rel.refl s) fun ov s₁ m₁ l₁ S₁ r₁ q₁ => wpAny_bind (wpAny_standAt (wpAny_bind (wpAny_holding (T.next (q₁ ov va rfl hv) S₁ r₁ fun _ s₂ m₂ l₂ S₂ r₂ q₂ => ?_))))))
  exact wpAny_release (Out.here r₂ S₂ q₂)
theorem x_assignA {o e : Expr} {attr : Str} {pos' pos : Pos} {Q} (h : TV C m l (eval e env) (KAs C env (.Attribute o attr pos') (Q .next) E) E)
    (hs : swapsWith e (some (.Attribute o attr pos')) pos.line env = pure false := by with_unfolding_all rfl) : TF C m l (exec (.Assign [.Attribute o attr pos'] e pos) env) Q E := fun s S => by
  rw [plainObj_exec_Assign_Attribute _ _ _ _ _ hs]
  exact wpAny_bind (wpAny_standAt (wpAny_bind (T.next h S (Rel.refl s) fun v s₁ m₁ l₁ S₁ r₁ q₁ => wpAny_bind (T.next (q₁ v rfl) S₁ r₁ fun _ s₂ m₂ l₂ S₂ r₂ q₂ => wpAny_pure (Out.here r₂ S₂ q₂)))))
theorem x_augA {o value : Expr} {attr : Str} {tpos pos : Pos} {op : Operator} {Q} (h : TV C m l (eval o env) (KAu C env op attr value (Q .next) E) E) :
    TF C m l (exec (.AugAssign (.Attribute o attr tpos) op value pos) env) Q E := fun s S =>
  wpAny_AugAssign_AttributeAny (T.next h S (Rel.refl s) fun ov s₁ m₁ l₁ S₁ r₁ q₁ => T.next (q₁ ov rfl) S₁ r₁ fun old s₂ m₂ l₂ S₂ r₂ q₂ => T.next q₂ S₂ r₂ fun v s₃ m₃ l₃ S₃ r₃ q₃ =>
    T.next (q₃ old v rfl rfl) S₃ r₃ fun new s₄ m₄ l₄ S₄ r₄ q₄ => T.next (q₄ ov new rfl rfl) S₄ r₄ fun _ s₅ m₅ l₅ S₅ r₅ q₅ => Out.here r₅ S₅ q₅)
theorem at_own {Q : Pv} (O : Ok K C) (Kc : ClsK K Cl) (hd : hasDictIn K Cl = true) (hf : findIn K (.ref Cl) name = some none) (h1 : (x, instS Cl dx sl) ∈ l) (h2 : (dx, attrS as) ∈ l) (lk : Look name v as) (hh : handedIn v = true) (h : Q v m l) : TAt C m l (.ref x) name Q E :=
  fun vo hv s S => by
    obtain rfl := un_ref hv
    obtain ⟨slots, es, n, I, hs, he⟩ := S.inst h1 h2
    obtain ⟨mv, hns, hx⟩ := S.ns
    obtain ⟨u, hu, rfl⟩ := getL_some he lk.lookup
    exact get_own (h₀ := C.base) (L := C.L) ⟨hns, S.keep, S.above⟩ O.X I Kc.get hd hf rfl hu (by rw [← handed_un]; exact hh) (Out.here (Rel.tok s _) S h)
theorem ts_own {Q : Ps} (O : Ok K C) (Kc : ClsK K Cl) (hd : hasDictIn K Cl = true) (ht : takerIn K Cl name = some none) (h1 : (x, instS Cl dx sl) ∈ l) (U : Upd dx (attrS as) (attrS as') l l') (P : Put name v as as') (hz : as.length ≤ 900) (h : Q m l') : TSa C m l (.ref x) name v Q E :=
  fun vo vv ho hv s S => by
    obtain rfl := un_ref ho
    subst hv
    obtain ⟨slots, es, n, I, hs, he⟩ := S.inst h1 U.mem
    obtain ⟨mv, o, nw, F, N, hg, ⟨es', n', rfl, he'⟩, hu⟩ := S.byNews U
    have e0 : dictOf es n = dictOf es' n' := by
      have h2 := I.dict
      dsimp only at h2
      rw [h2] at hg
      exact Option.some.inj hg
    have e1 : es = es' ∧ n = n' := by
      have := congrArg Obj.data e0
      simp only [Data.dict.injEq] at this
      exact ⟨by simpa using congrArg Array.toList this.1, this.2⟩
    obtain ⟨rfl, rfl⟩ := e1
    have hlen : es.length = as.length := by have := congrArg List.length he; simpa using this
    obtain ⟨n', hU, hfin⟩ := hu (dictOf (putL name (PyData.keyHash C.w.params name) (.str name (s.toks + 1)) vv es) (putN name es n)) ⟨_, _, rfl, putL_as P he⟩
    refine set_dict (dx := dx) F O.X N I rfl Kc.set Kc.over ht hd ?_ rfl hU ?_ fun h' F' N' => Out.here (Rel.of s _ _) (hfin h' F' N') h
    · cases hl : as.lookup name with
      | none => rw [getL_none he hl]; rfl
      | some v => obtain ⟨u, hu, _⟩ := getL_some he hl; rw [hu]; rfl
    · have := putL_len (x := name) (v := vv) (k := .str name (s.toks + 1)) (hs := PyData.keyHash C.w.params name) (es := es)
      lia
theorem at_slot {Q : Pv} {p i : Nat} (O : Ok K C) (Kc : ClsK K Cl) (ha : findIn K (.ref Cl) name = some (some (.ref p))) (hn : specialIn K (.ref p) "__get__" = some (some (.builtin "member_descriptor.__get__"))) (ht : takesIn K (.ref p) = some true) (hp : slotIn K p Cl = some i)
    (h1 : (x, instS Cl dx sl) ∈ l) (h2 : (dx, attrS as) ∈ l) (hv : sl[i]? = some (some v)) (hh : handedIn v = true) (h : Q v m l) : TAt C m l (.ref x) name Q E :=
  fun vo hvo s S => by
    obtain rfl := un_ref hvo
    obtain ⟨slots, es, n, I, hs, he⟩ := S.inst h1 h2
    obtain ⟨mv, hns, hx⟩ := S.ns
    rw [← hs] at hv
    simp only [List.getElem?_map, Option.map_eq_some_iff] at hv
    obtain ⟨ou, hou, u, rfl, rfl⟩ := hv
    exact get_slot (h₀ := C.base) (L := C.L) ⟨hns, S.keep, S.above⟩ O.X I Kc.get Kc.cls ha hn ht hp (by
      have : slots[i]? = some (some u) := by simpa using hou
      show (slots[i]?).join = some u
      rw [this]; rfl) (by rw [← handed_un]; exact hh) (Out.here (Rel.tok s _) S h)
theorem ts_slot {Q : Ps} {p i : Nat} (O : Ok K C) (Kc : ClsK K Cl) (ht : takerIn K Cl name = some (some (.ref p))) (hT : typeIn K (.ref p) = some (.type "member_descriptor")) (hp : slotIn K p Cl = some i) (hi : i < 1000)
    (h2 : (dx, attrS as) ∈ l) (U : Upd x (instS Cl dx sl) (instS Cl dx sl') l l') (hsl : sl' = (sl ++ List.replicate (i + 1 - sl.length) none).set i (some v)) (h : Q m l') : TSa C m l (.ref x) name v Q E :=
  fun vo vv ho hv s S => by
    obtain rfl := un_ref ho
    subst hv
    obtain ⟨slots, es, n, I, hs, he⟩ := S.inst U.mem h2
    obtain ⟨mv, o, nw, F, N, hg, ⟨slots', rfl, hs'⟩, hu⟩ := S.byNews U
    have e0 : slots = slots' := by
      have h3 := I.at_
      rw [h3] at hg
      have := congrArg Obj.slots (Option.some.inj hg)
      exact this
    subst e0
    have hlen : slots.size = sl.length := by rw [← hs]; simp
    obtain ⟨n', hU, hfin⟩ := hu ⟨.ref Cl, some dx, .plain, (slots ++ Array.replicate (i + 1 - slots.size) none).setIfInBounds i (some vv)⟩ ⟨_, rfl, by
      rw [hsl, Array.toList_setIfInBounds, List.map_set, Array.toList_append, List.map_append, hs, hlen]
      simp⟩
    exact set_slot F O.X N I Kc.set Kc.over ht hT hp hi rfl rfl hU fun h' F' N' => Out.here (Rel.of s _ _) (hfin h' F' N') h
theorem tm_inst {f : Addr} {Q : Value → List Value → Loc → Led → Prop} (O : Ok K C) (Kc : ClsK K Cl) (hf : findIn K (.ref Cl) name = some (some (.ref f))) (ht : isFn K (.ref f) = true) (h1 : (x, instS Cl dx sl) ∈ l) (h2 : (dx, attrS as) ∈ l) (hl : as.lookup name = none) (h : Q (.ref f) [.ref x] m l) :
    TM C m l (.ref x) name Q E := fun vo pl hvo s S => by
  obtain rfl := un_ref hvo
  obtain ⟨slots, es, n, I, hs, he⟩ := S.inst h1 h2
  obtain ⟨mv, hns, hx⟩ := S.ns
  exact method_inst (h₀ := C.base) (L := C.L) ⟨hns, S.keep, S.above⟩ O.X I Kc.get hf ht (getL_none he hl) (Out.here (Rel.refl s) S h)
/-! ### a class is called -/
noncomputable abbrev Cx.under (C : Cx) (Cl : Addr) (vs : List Value) : Cx := { C with A := C.A.under (.builtin "type.__call__" ⟨.ref Cl :: vs, []⟩) }
theorem Room.under {n : Nat} (R : Room C.A (n + 1)) : Room (C.under Cl vs).A n := ⟨by
    have := R.depth
    show (C.A.under (.builtin "type.__call__" ⟨.ref Cl :: vs, []⟩)).depth + n < recursionLimit
    rw [depth_under_kw]; lia, by
    have := R.units
    have e : (C.A.under (.builtin "type.__call__" ⟨.ref Cl :: vs, []⟩)).units = C.A.units + (Code.builtin "type.__call__" ⟨.ref Cl :: vs, []⟩).cUnits := rfl
    have e2 : (Code.builtin "type.__call__" ⟨.ref Cl :: vs, []⟩).cUnits ≤ 10 := by
      have : (Code.builtin "type.__call__" ⟨.ref Cl :: vs, []⟩).frames = 0 := by rfl
      show 1 + 3 * (Code.builtin "type.__call__" ⟨.ref Cl :: vs, []⟩).frames ≤ 10
      rw [this]; decide
    show (C.A.under (.builtin "type.__call__" ⟨.ref Cl :: vs, []⟩)).units + 10 * n + 100 < cLine
    rw [e]; lia, R.handled⟩
theorem Ok.under (O : Ok K C) : Ok K (C.under Cl vs) := ⟨O.X, O.lim, O.g, O.b, O.sm⟩
theorem f_make {fI : Addr} {Q : Pv} (O : Ok K C) (hm : makesIn K Cl = true) (hi : findIn K (.ref Cl) "__init__" = some (some (.ref fI))) (hf : typeIn K (.ref fI) = some (.type "function"))
    (h : ∀ x dx vvs, TCd (C.under Cl vvs) m ((x, instS Cl dx []) :: (dx, attrS []) :: l) (.ref fI) (.ref x :: vs) [] (fun v m' l' => v = .none ∧ Q (.ref x) m' l') E) : TCall C m l (.ref Cl) vs [] Q E := by
  intro vf vvs vkw hvf hvs hkw s S
  obtain rfl := un_ref hvf
  obtain rfl := kw0 hkw
  refine wpAny_call ?_
  have X := O.X.keeps S.keep
  have S1 := S.push (P := attrS []) emptyDict rfl ⟨[], _, rfl, rfl⟩
  have S2 := S1.push (P := instS Cl s.heap.objs.size []) (instObj Cl s.heap.objs.size) rfl ⟨_, rfl, rfl⟩
  rw [Heap.size_push] at S2
  have key := h (s.heap.objs.size + 1) s.heap.objs.size vvs (.ref fI) (.ref (s.heap.objs.size + 1) :: vvs) [] rfl (by simp [hvs, un]) rfl { s with heap := (s.heap.push emptyDict).push (instObj Cl s.heap.objs.size) } S2
  obtain ⟨hh, g, d, t, os⟩ := s
  refine make_core (makes_of X hm) (looks_findIn X hi) (fun self => bind_fn X self hf) (.inl rfl) (codeAny_mono key fun r s' z => ?_)
  rcases r with e | (v | _ | _ | _)
  · exact Out.lift (Rel.heap _ _) z
  all_goals first | exact z.elim | skip
  obtain ⟨hr, m', l', S', hv, hq⟩ := z
  exact ⟨un_none hv, (Rel.heap _ _).trans hr, m', l', S', hq⟩
end
end
section
set_option Elab.async false
set_option linter.all false
set_option maxRecDepth 100000
/-! ## dicts with int keys -/
noncomputable def unP (kvs : List (Int × Value)) : List (Int × Value) := kvs.map fun p => (p.1, un p.2)
noncomputable def dictE (ep : Nat) (kvs : List (Int × Value)) : Shape := fun o => ∃ es kv', o.ExactDict ∧ o.data = .dict es ep ∧ (∀ prog w, KeysOf (intKind prog w) es ∧ Pairs (intKind prog w) es.toList kv') ∧ (kv'.map (·.1)).Nodup ∧ unP kv' = kvs
theorem pairs_any {p p' : Program} {w w' : World} {es : List DictEntry} {kv : List (Int × Value)} (h : Pairs (intKind p w) es kv) : Pairs (intKind p' w') es kv := by
  induction h with
  | nil => exact .nil
  | cons a b _ ih => exact .cons a b ih
theorem keys_any {p p' : Program} {w w' : World} {es : Array DictEntry} (h : KeysOf (intKind p w) es) : KeysOf (intKind p' w') es := h
theorem valueAt_un (k : Int) : ∀ kv : List (Int × Value), (valueAt kv k).map un = valueAt (unP kv) k
  | [] => rfl
  | (j, v) :: r => by
    have ih := valueAt_un k r
    unfold valueAt unP at *
    simp only [List.map_cons, List.find?_cons]
    by_cases h : j = k
    · simp [h]
    · simpa [h] using ih
theorem any_un (k : Int) (kv : List (Int × Value)) : (unP kv).any (fun p => decide (p.1 = k)) = kv.any fun p => decide (p.1 = k) := by
  unfold unP; rw [List.any_map]; rfl
theorem stored_un (k : Int) (v : Value) (kv : List (Int × Value)) : unP (stored kv k v) = stored (unP kv) k (un v) := by
  unfold stored
  rw [any_un]
  split
  · unfold unP
    rw [List.map_map, List.map_map]
    refine List.map_congr_left fun p _ => ?_
    by_cases h : p.1 = k <;> simp [h]
  · unfold unP; simp
theorem without_un (k : Int) (kv : List (Int × Value)) : unP (without kv k) = without (unP kv) k := by
  unfold without unP
  rw [List.filter_map]
  rfl
theorem unP_len (kv : List (Int × Value)) : (unP kv).length = kv.length := by simp [unP]
theorem unP_keys (kv : List (Int × Value)) : (unP kv).map (·.1) = kv.map (·.1) := by simp [unP]
noncomputable def TSi (C : Cx) (m : Loc) (l : Led) (o i v : Value) (Q : Ps) (E : Pv) : Prop := ∀ vo vi vv, un vo = o → un vi = i → un vv = v → TU C m l (setItem vo vi vv) Q E
noncomputable def TDi (C : Cx) (m : Loc) (l : Led) (o i : Value) (Q : Ps) (E : Pv) : Prop := ∀ vo vi, un vo = o → un vi = i → TU C m l (delItem vo vi) Q E
section
variable {K : Frag} {C : Cx} {m : Loc} {l l' : Led} {E : Pv} {env : Env} {a b d : Addr} {vs ws : List Value} {v w : Value} {kvs : List (Int × Value)} {ep : Nat} {k : Int}
theorem dictE_at {h : Heap} {prog : Program} {w : World} {o : Obj} (ho : h.get? d = some o) (hp : dictE ep kvs o) : ∃ kv', h.DictAt (intKind prog w) d kv' ep ∧ unP kv' = kvs := by
  obtain ⟨es, kv', h1, h2, h3, h4, h5⟩ := hp
  exact ⟨kv', ⟨o, es, ho, h1, h2, (h3 prog w).1, (h3 prog w).2, h4⟩, h5⟩
theorem dictE_of {h : Heap} {prog : Program} {w : World} {kv' : List (Int × Value)} (x : h.DictAt (intKind prog w) d kv' ep) : ∃ o, h.get? d = some o ∧ dictE ep (unP kv') o := by
  obtain ⟨o, es, ho, h1, h2, h3, h4, h5⟩ := x
  exact ⟨o, ho, es, kv', h1, h2, fun p w' => ⟨keys_any h3, pairs_any h4⟩, h5, rfl⟩
theorem St.dict {h : Heap} (S : St C.base C.L m l h) (hm : (d, dictE ep kvs) ∈ l) : ∃ kv', h.DictAt (intKind C.prog C.w) d kv' ep ∧ unP kv' = kvs := by
  obtain ⟨o, ho, hp⟩ := S.get _ hm
  exact dictE_at ho hp
theorem sys_ne (O : Ok K C) {h : Heap} (S : St C.base C.L m l h) {P : Shape} (hm : (d, P) ∈ l) : (d == sysModules) = false := by
  have h1 := S.fresh _ hm
  obtain ⟨o, h2⟩ := O.sm
  have : d ≠ sysModules := fun e => by
    simp only at h1
    rw [e, h2] at h1
    cases h1
  simpa using this
theorem getD_un {kv' : List (Int × Value)} (h : unP kv' = kvs) : un ((valueAt kv' k).getD .none) = (valueAt kvs k).getD .none := by
  rw [← h, ← valueAt_un]
  cases valueAt kv' k <;> rfl
theorem e_dict0 {pos : Pos} {Q : Pv} (h : ∀ d, Q (.ref d) m ((d, dictE 0 []) :: l)) : TV C m l (eval (.Dict [] [] pos) env) Q E := fun s S => by
  rw [eval_Dict_empty]
  refine wpAny_bind (wpAny_standAt ?_)
  exact wpAny_newObj_type (Out.here (Rel.heap s _) (S.push _ rfl ⟨#[], [], ⟨rfl, rfl, rfl⟩, rfl, fun p w => ⟨fun e he => by simp at he, .nil⟩, by simp, rfl⟩) (h _))
theorem sd_get {x y : Expr} {Q : Pv} (hm : (d, dictE ep kvs) ∈ l) (hv : valueAt kvs k = some v) (h : Q v m l)
    (hs : ∀ va vi, subscripted y false va vi = operate [va, vi] (getItem va vi) := by intros; with_unfolding_all rfl) : TSub C m l x y (.ref d) (.int k 0) Q E := fun vo vi ho hi s S => by
  obtain rfl := un_ref ho
  obtain ⟨t, rfl⟩ := un_int hi
  obtain ⟨kv', hd, hu⟩ := S.dict hm
  rw [← hu, ← valueAt_un, Option.map_eq_some_iff] at hv
  obtain ⟨u, hv1, rfl⟩ := hv
  exact tail_any hd.dictOf.typeIs F.slot_dict_getitem.lookup (wpAny_getItem_of (intKind_is _ _ k t) hd.dictOf.mapOf hv1 (Out.here (Rel.tok s _) S h)) (hs _ _)
theorem si_dict {Q : Ps} {l' : Nat → Led} (U : ∀ ep', Upd d (dictE ep kvs) (dictE ep' (stored kvs k v)) l (l' ep')) (hz : kvs.length ≤ 16000000) (h : ∀ ep', Q m (l' ep')) : TSi C m l (.ref d) (.int k 0) v Q E := fun vo vi vv ho hi hv s S => by
  obtain rfl := un_ref ho
  obtain ⟨t, rfl⟩ := un_int hi
  subst hv
  obtain ⟨kv', hd, hu⟩ := S.dict (U 0).mem
  have hlen : kv'.length = kvs.length := by rw [← hu, unP_len]
  refine wpAny_setItem_pairs (intKind_is C.prog C.w k t) hd.dictOf (fun h' hd' hs => ?_) (by rw [hlen, sizeLine_eq]; lia)
  obtain ⟨ep', hd''⟩ := hd'.dictAt
  obtain ⟨o, ho, hp⟩ := dictE_of hd''
  rw [stored_un, hu] at hp
  exact Out.here (Rel.of s _ _) (S.upd (U ep') hs ho hp) (h ep')
theorem c_inD {Q : Pv} (O : Ok K C) (hm : (d, dictE ep kvs) ∈ l) (h : Q (.bool (valueAt kvs k).isSome) m l) : TC C m l .In (.int k 0) (.ref d) Q E := fun va vb ha hb s S => by
  obtain ⟨t, rfl⟩ := un_int ha
  obtain rfl := un_ref hb
  obtain ⟨kv', hd, hu⟩ := S.dict hm
  refine wpAny_in_of (intKind_is C.prog C.w k t) (sys_ne O S hm) hd.dictOf.mapOf (Out.here (Rel.tok s _) S ?_)
  have : (valueAt kv' k).isSome = (valueAt kvs k).isSome := by rw [← hu, ← valueAt_un]; simp
  rw [this]; exact h
theorem tm_get {Q : Value → List Value → Loc → Led → Prop} (hm : (d, dictE ep kvs) ∈ l) (h : Q (.builtin "dict.get") [.ref d] m l) : TM C m l (.ref d) (Str.ofString "get") Q E :=
  tm_obj (T := "dict") (fun o ⟨_, _, hx, _⟩ => ⟨hx.1, hx.2.1⟩) F.plainAttrs_dict F.slot_dict_get F.type_dict_get hm h
theorem m_get {Q : Pv} (O : Ok K C) (hm : (d, dictE ep kvs) ∈ l) (h : Q ((valueAt kvs k).getD .none) m l) : TCall C m l (.builtin "dict.get") [.ref d, .int k 0] [] Q E :=
  call2 Own.builtin fun x y hx hy s S => by
    obtain rfl := un_ref hx
    obtain ⟨t, rfl⟩ := un_int hy
    obtain ⟨kv', hd, hu⟩ := S.dict hm
    refine call_meetsIn F.slot_dict_get hd.dictOf.typeIs F.entry_dict_get (F.args_dict_get_2 _ _) (meets_dict_get (intKind C.prog C.w) d (intKind_is _ _ k t) (sys_ne O S hm)) ⟨_, hd.dictOf.mapOf, Out.here (Rel.tok s _) S ?_⟩
    rw [getD_un hu]; exact h
end
end
section
set_option Elab.async false
set_option linter.all false
set_option maxRecDepth 100000
noncomputable def kitS (d : Addr) (n ep : Nat) (i : Nat) : Shape := fun o => o.cls = .type "dict_keyiterator" ∧ o.data = .fields #[.ref d, .int i 0, .int n 0, .int ep 0]
noncomputable def vitS (d : Addr) (n ep : Nat) (i : Nat) : Shape := fun o => o.cls = .type "dict_valueiterator" ∧ o.data = .fields #[.ref d, .int i 0, .int n 0, .int ep 0]
noncomputable def viewS (d : Addr) : Shape := fun o => o.cls = .type "dict_values" ∧ o.data = .fields #[.ref d]
noncomputable def setS (ks : List Int) : Shape := fun o => o.IntSetOf (fun k => ks.contains k) ks.length ∧ ks.Nodup
section
variable {K : Frag} {C : Cx} {m : Loc} {l l' : Led} {E : Pv} {env : Env} {a b d : Addr} {vs ws : List Value} {v w : Value} {kvs : List (Int × Value)} {ep : Nat} {k : Int} {ks : List Int}
noncomputable abbrev KSi3 (C : Cx) (ov v : Value) (Q : Ps) (E : Pv) : Pv := fun iv m l => TSi C m l ov iv v Q E
noncomputable abbrev KSi2 (C : Cx) (env : Env) (i : Expr) (v : Value) (Q : Ps) (E : Pv) : Pv := fun ov m l => TV C m l (eval i env) (KSi3 C ov v Q E) E
noncomputable abbrev KSi (C : Cx) (env : Env) (o i : Expr) (Q : Ps) (E : Pv) : Pv := fun v m l => TV C m l (eval o env) (KSi2 C env i v Q E) E
noncomputable abbrev KDi2 (C : Cx) (ov : Value) (Q : Ps) (E : Pv) : Pv := fun iv m l => TDi C m l ov iv Q E
noncomputable abbrev KDi (C : Cx) (env : Env) (i : Expr) (Q : Ps) (E : Pv) : Pv := fun ov m l => TV C m l (eval i env) (KDi2 C ov Q E) E
theorem x_assignS {o i e : Expr} {pos' pos : Pos} {Q} (h : TV C m l (eval e env) (KSi C env o i (Q .next) E) E)
    (hs : swapsWith e (some (.Subscript o i pos')) pos.line env = pure false := by with_unfolding_all rfl) : TF C m l (exec (.Assign [.Subscript o i pos'] e pos) env) Q E := fun s S =>
  wpAny_Assign_Subscript (T.next h S (Rel.refl s) fun v s₁ m₁ l₁ S₁ r₁ q₁ => T.next q₁ S₁ r₁ fun ov s₂ m₂ l₂ S₂ r₂ q₂ => T.next q₂ S₂ r₂ fun iv s₃ m₃ l₃ S₃ r₃ q₃ =>
    T.next (q₃ ov iv v rfl rfl rfl) S₃ r₃ fun _ s₄ m₄ l₄ S₄ r₄ q₄ => Out.here r₄ S₄ q₄) hs
theorem a_sub {o i : Expr} {pos : Pos} {Q : Ps} (h : TV C m l (eval o env) (KSi2 C env i v Q E) E) : TA C m l (.Subscript o i pos) env v Q E := fun va hv s S => by
  rw [assign_Subscript]
  refine wpAny_bind (wpAny_holding (T.next h S (Rel.refl s) fun ov s₁ m₁ l₁ S₁ r₁ q₁ => ?_))
  refine wpAny_bind (wpAny_holding (T.next q₁ S₁ r₁ fun iv s₂ m₂ l₂ S₂ r₂ q₂ => ?_))
  refine wpAny_bind (wpAny_standAt (wpAny_bind (wpAny_holding (T.next (q₂ ov iv va rfl rfl hv) S₂ r₂ fun _ s₃ m₃ l₃ S₃ r₃ q₃ => ?_))))
  exact wpAny_release (Out.here r₃ S₃ q₃)
theorem x_delS {o i : Expr} {pos' pos : Pos} {Q} (h : TV C m l (eval o env) (KDi C env i (Q .next) E) E) : TF C m l (exec (.Delete [.Subscript o i pos'] pos) env) Q E := fun s S =>
  wpAny_Delete (wpAny_deleteEach_cons (delete_Subscript (T.next h S (Rel.refl s) fun ov s₁ m₁ l₁ S₁ r₁ q₁ => T.next q₁ S₁ r₁ fun iv s₂ m₂ l₂ S₂ r₂ q₂ => T.next (q₂ ov iv rfl rfl) S₂ r₂ fun _ s₃ m₃ l₃ S₃ r₃ q₃ => wpAny_deleteEach_nil (Out.here r₃ S₃ q₃))))
theorem di_dict {Q : Ps} {l' : Nat → Led} (U : ∀ ep', Upd d (dictE ep kvs) (dictE ep' (without kvs k)) l (l' ep')) (hv : (valueAt kvs k).isSome = true) (hz : kvs.length ≤ 16000000) (h : ∀ ep', Q m (l' ep')) : TDi C m l (.ref d) (.int k 0) Q E := fun vo vi ho hi s S => by
  obtain rfl := un_ref ho
  obtain ⟨t, rfl⟩ := un_int hi
  obtain ⟨kv', hd, hu⟩ := S.dict (U 0).mem
  have hlen : kv'.length = kvs.length := by rw [← hu, unP_len]
  have hT := hd.dictOf.typeIs (s := s)
  unfold delItem
  try with_reducible refine wpAny_holding ?_
  refine wpAny_bind (wpAny_sequenceKey hT (by decide) ?_)
  refine wpAny_bind (wpAny_callSpecial?_slot (name := Str.ofString "__delitem__") hT F.slot_dict_delitem
    (call_meetsIn F.slot_dict_delitem hT F.entry_dict_delitem (F.args_dict_delitem_2 _ _) (meets_dict_delitem_pairs (intKind C.prog C.w) d (intKind_is _ _ k t)) ⟨kv', hd.dictOf, by rw [hlen, sizeLine_eq]; lia, ?_, fun h' hd' hs => wpAny_pure ?_⟩))
  · rw [← hu, ← valueAt_un] at hv; simpa using hv
  · obtain ⟨ep', hd''⟩ := hd'.dictAt
    obtain ⟨o, ho, hp⟩ := dictE_of hd''
    rw [without_un, hu] at hp
    exact Out.here (Rel.of s _ _) (S.upd (U ep') hs ho hp) (h ep')
/-! ### walking over a dict -/
theorem it_dict {Q : Pv} (O : Ok K C) (hm : (d, dictE ep kvs) ∈ l) (h : ∀ it, Q (.ref it) m ((it, kitS d kvs.length ep 0) :: l)) : TIt C m l (.ref d) Q E := fun vx hx s S => by
  obtain rfl := un_ref hx
  obtain ⟨kv', hd, hu⟩ := S.dict hm
  have hlen : kv'.length = kvs.length := by rw [← hu, unP_len]
  exact wpAny_pyIter_dict (sys_ne O S hm) hd (Out.here (Rel.heap s _) (S.push _ rfl ⟨rfl, by simp [hlen]⟩) (h _))
theorem keys_get {kv' : List (Int × Value)} (hu : unP kv' = kvs) {i : Nat} {x : Value} (hv : (iL (kvs.map (·.1)))[i]? = some x) : ∃ k u, kv'[i]? = some (k, u) ∧ x = .int k 0 := by
  rw [← hu, unP_keys] at hv
  unfold iL at hv
  simp only [List.getElem?_map, Option.map_eq_some_iff] at hv
  obtain ⟨k, ⟨p, h1, rfl⟩, rfl⟩ := hv
  exact ⟨p.1, p.2, h1, rfl⟩
theorem iter_dict {it : Addr} (hh : C.A.handled = none) : TIter C it (kitS d kvs.length ep) (iL (kvs.map (·.1))) (fun l => (d, dictE ep kvs) ∈ l) where
  item := fun i v m l Q E hv hm hQ s S => by
    obtain ⟨kv', hd, hu⟩ := (S.sub (List.sublist_cons_self _ _)).dict hm
    have hlen : kv'.length = kvs.length := by rw [← hu, unP_len]
    obtain ⟨o, ho, hc, hdd⟩ := S.get _ (.head _)
    obtain ⟨k, u, hk, rfl⟩ := keys_get hu hv
    refine wpAny_pyNext_dict_item (kvs := kv') ⟨o, ho, hc, by rw [hlen]; exact hdd⟩ hd hk fun key h' hkey hit hs => ?_
    obtain ⟨t, rfl⟩ := Value.isInt_shape hkey
    obtain ⟨o', ho', hc', hd'⟩ := hit
    rw [hlen] at hd'
    exact Out.here (Rel.heap s _) (S.upd Upd.here hs ho' ⟨hc', hd'⟩) hQ
  done := fun m l Q E hm hQ s S => by
    obtain ⟨kv', hd, hu⟩ := (S.sub (List.sublist_cons_self _ _)).dict hm
    have hlen : kv'.length = kvs.length := by rw [← hu, unP_len]
    obtain ⟨o, ho, hc, hdd⟩ := S.get _ (.head _)
    have e : (iL (kvs.map (·.1))).length = kvs.length := by simp [iL]
    rw [e] at hdd
    refine wpAny_pyNext_dict_end (kvs := kv') (i := kvs.length) hh ⟨o, ho, hc, by rw [hlen]; exact hdd⟩ hd (by simp [hlen]) fun h' he => ?_
    exact Out.here (Rel.heap s _) (S.dropBut he) hQ
theorem tm_values {Q : Value → List Value → Loc → Led → Prop} (hm : (d, dictE ep kvs) ∈ l) (h : Q (.builtin "dict.values") [.ref d] m l) : TM C m l (.ref d) (Str.ofString "values") Q E :=
  tm_obj (T := "dict") (fun o ⟨_, _, hx, _⟩ => ⟨hx.1, hx.2.1⟩) F.plainAttrs_dict F.slot_dict_values F.type_dict_values hm h
theorem m_values {Q : Pv} (O : Ok K C) (hm : (d, dictE ep kvs) ∈ l) (h : ∀ v, Q (.ref v) m ((v, viewS d) :: l)) : TCall C m l (.builtin "dict.values") [.ref d] [] Q E :=
  call1 Own.builtin fun x hx s S => by
    obtain rfl := un_ref hx
    obtain ⟨kv', hd, hu⟩ := S.dict hm
    exact call_meetsIn F.slot_dict_values hd.dictOf.typeIs F.entry_dict_values (F.args_dict_values_1 _) (meets_dict_values (intKind C.prog C.w) d (sys_ne O S hm)) ⟨⟨_, hd.dictOf⟩, Out.here (Rel.heap s _) (S.push _ rfl ⟨rfl, rfl⟩) (h _)⟩
theorem it_values {Q : Pv} {vw : Addr} (hv : (vw, viewS d) ∈ l) (hm : (d, dictE ep kvs) ∈ l) (h : ∀ it, Q (.ref it) m ((it, vitS d kvs.length ep 0) :: l)) : TIt C m l (.ref vw) Q E := fun vx hx s S => by
  obtain rfl := un_ref hx
  obtain ⟨kv', hd, hu⟩ := S.dict hm
  obtain ⟨o, ho, hc, hdd⟩ := S.get _ hv
  have hlen : kv'.length = kvs.length := by rw [← hu, unP_len]
  exact wpAny_pyIter_values ⟨o, ho, hc, hdd⟩ hd (Out.here (Rel.heap s _) (S.push _ rfl ⟨rfl, by simp [hlen]⟩) (h _))
theorem iter_values {it : Addr} (hh : C.A.handled = none) : TIter C it (vitS d kvs.length ep) (kvs.map (·.2)) (fun l => (d, dictE ep kvs) ∈ l) where
  item := fun i v m l Q E hv hm hQ s S => by
    obtain ⟨kv', hd, hu⟩ := (S.sub (List.sublist_cons_self _ _)).dict hm
    have hlen : kv'.length = kvs.length := by rw [← hu, unP_len]
    obtain ⟨o, ho, hc, hdd⟩ := S.get _ (.head _)
    rw [← hu] at hv
    unfold unP at hv
    simp only [List.getElem?_map, Option.map_eq_some_iff] at hv
    obtain ⟨p, ⟨q, hq, rfl⟩, rfl⟩ := hv
    refine wpAny_pyNext_values_item (kvs := kv') (k := q.1) (v := q.2) ⟨o, ho, hc, by rw [hlen]; exact hdd⟩ hd hq fun h' hit hs => ?_
    obtain ⟨o', ho', hc', hd'⟩ := hit
    rw [hlen] at hd'
    exact Out.here (Rel.heap s _) (S.upd Upd.here hs ho' ⟨hc', hd'⟩) hQ
  done := fun m l Q E hm hQ s S => by
    obtain ⟨kv', hd, hu⟩ := (S.sub (List.sublist_cons_self _ _)).dict hm
    have hlen : kv'.length = kvs.length := by rw [← hu, unP_len]
    obtain ⟨o, ho, hc, hdd⟩ := S.get _ (.head _)
    have e : (kvs.map (·.2)).length = kvs.length := by simp
    rw [e] at hdd
    refine wpAny_pyNext_values_end (kvs := kv') (i := kvs.length) hh ⟨o, ho, hc, by rw [hlen]; exact hdd⟩ hd (by simp [hlen]) fun h' he => ?_
    exact Out.here (Rel.heap s _) (S.dropBut he) hQ
/-! ### sets of ints -/
theorem f_set0 {Q : Pv} (h : ∀ a, Q (.ref a) m ((a, setS []) :: l)) : TCall C m l (.type "set") [] [] Q E :=
  call0 Own.type fun s S => call_set_0 fun led => Out.here (Rel.heap s _) (S.push _ rfl ⟨by
    have := intSetOf_fresh led
    simpa using this, by simp⟩) (h _)
theorem St.set {h : Heap} (S : St C.base C.L m l h) (hm : (a, setS ks) ∈ l) (hz : ks.length < 4000) : h.SetOf (intKind C.prog C.w) a (fun k => ks.contains k) ks.length := by
  obtain ⟨o, ho, hp, _⟩ := S.get _ hm
  exact (hp.kind C.prog C.w).setOf ho (by show ks.length < 4096; lia)
theorem c_inS {Q : Pv} (hm : (a, setS ks) ∈ l) (hz : ks.length < 4000) (h : Q (.bool (ks.contains k)) m l) : TC C m l .In (.int k 0) (.ref a) Q E := fun va vb ha hb s S => by
  obtain ⟨t, rfl⟩ := un_int ha
  obtain rfl := un_ref hb
  exact wpAny_inSet_of (intKind_is C.prog C.w k t) rfl (S.set hm hz) (Out.here (Rel.tok s _) S h)
theorem tm_add {Q : Value → List Value → Loc → Led → Prop} (hm : (a, setS ks) ∈ l) (h : Q (.builtin "set.add") [.ref a] m l) : TM C m l (.ref a) (Str.ofString "add") Q E :=
  tm_obj (T := "set") (fun o ⟨hx, _⟩ => let y := (hx C.prog C.w).1; ⟨y.1, y.2.1⟩) F.plainAttrs_set F.slot_set_add F.type_set_add hm h
theorem m_add {Q : Pv} (U : Upd a (setS ks) (setS (ks ++ [k])) l l') (hz : ks.length < 4000) (hn : k ∉ ks) (h : Q .none m l') : TCall C m l (.builtin "set.add") [.ref a, .int k 0] [] Q E :=
  call2 Own.builtin fun x y hx hy s S => by
    obtain rfl := un_ref hx
    obtain ⟨t, rfl⟩ := un_int hy
    have hnd := (S.get _ U.mem)
    obtain ⟨o0, _, _, hnd⟩ := hnd
    refine call_set_add (intKind_is C.prog C.w k t) rfl (S.set U.mem hz) (by show ks.length + 1 < 4096; lia) fun h' hs hS => ?_
    obtain ⟨o, ho, hp⟩ := hS.objOf
    have hc : ks.contains k = false := by simpa using hn
    rw [hc] at hp
    have e : (fun k' => ks.contains k' || decide (k' = k)) = fun k' => (ks ++ [k]).contains k' := by
      funext k'
      by_cases h : k' = k
      · subst h; simp
      · simp [h]
    rw [e] at hp
    refine Out.here (Rel.of s _ _) (S.upd U hs ho ⟨?_, ?_⟩) h
    · have := hp.intSetOf
      simpa using this
    · rw [List.nodup_append]
      exact ⟨hnd, by simp, fun a ha b hb => by simp at hb; subst hb; exact fun e => hn (e ▸ ha)⟩
end
end
section
set_option Elab.async false
set_option linter.all false
set_option maxRecDepth 100000
noncomputable def titS (a : Addr) (i : Nat) : Shape := fun o => o.cls = .type "tuple_iterator" ∧ o.data = .fields #[.ref a, .int i 0]
section
variable {K : Frag} {C : Cx} {m : Loc} {l l' : Led} {E : Pv} {env : Env} {a b d : Addr} {vs ws : List Value} {v w : Value}
theorem it_tup {Q : Pv} (hm : (a, tupS vs) ∈ l) (h : ∀ it, Q (.ref it) m ((it, titS a 0) :: l)) : TIt C m l (.ref a) Q E := fun vx hx s S => by
  obtain rfl := un_ref hx
  obtain ⟨items, n, ht, hi⟩ := S.isTup hm
  exact wpAny_pyIter_tuple (items := items) ⟨_, ht, rfl, n, rfl⟩ (Out.here (Rel.heap s _) (S.push _ rfl ⟨rfl, rfl⟩) (h _))
theorem iter_tup {it : Addr} (hh : C.A.handled = none) : TIter C it (titS a) vs (fun l => (a, tupS vs) ∈ l) where
  item := fun i v m l Q E hv hm hQ s S => by
    obtain ⟨items, n, ht, hi⟩ := (S.sub (List.sublist_cons_self _ _)).isTup (a := a) (vs := vs) hm
    obtain ⟨o, ho, hc, hd⟩ := S.get _ (.head _)
    obtain ⟨u, hu, rfl⟩ := get_of hi hv
    refine wpAny_pyNext_tuple_item ⟨o, ho, hc, hd⟩ (items := items) ⟨_, ht, rfl, n, rfl⟩ hu fun h' hit hs => ?_
    obtain ⟨o', ho', hc', hd'⟩ := hit
    exact Out.here (Rel.heap s _) (S.upd Upd.here hs ho' ⟨hc', hd'⟩) hQ
  done := fun m l Q E hm hQ s S => by
    obtain ⟨items, n, ht, hi⟩ := (S.sub (List.sublist_cons_self _ _)).isTup (a := a) (vs := vs) hm
    obtain ⟨o, ho, hc, hd⟩ := S.get _ (.head _)
    refine wpAny_pyNext_tuple_end hh ⟨o, ho, hc, hd⟩ (items := items) ⟨_, ht, rfl, n, rfl⟩ (by rw [← len_of hi]; simp) fun h' he => ?_
    exact Out.here (Rel.heap s _) (S.dropBut he) hQ
theorem for_tup {t : Expr} {body orelse : List Stmt} {Q} (hm : (a, tupS vs) ∈ l) (hh : C.A.handled = none) (I : Nat → Loc → Led → Prop) {m₀ : Loc} {l₀ : Led} (hf : Fg m₀ m) (hs : Sb l₀ l) (hS : ∀ i m l, I i m l → (a, tupS vs) ∈ l) (h0 : I 0 m₀ l₀)
    (turn : ∀ it P i v m l, vs[i]? = some v → I i m l → TA C m ((it, P) :: l) t env v (KX C env body (LoopQ (I (i + 1)) Q it P) no) no)
    (fin : ∀ m l, I vs.length m l → TF C m l (execs orelse env) Q no) (ht : ∀ it v, letOwnedTupleGo t (.ref it) v = pure () := by intro _ _; with_unfolding_all rfl) :
    TIt C m l (.ref a) (KLoop C t body orelse env Q E) E :=
  for_T (sh := titS a) (fun Q' h => it_tup hm h) (fun it => iter_tup hh) I hf hs hS h0 turn fin ht
theorem for_dict {t : Expr} {body orelse : List Stmt} {kvs : List (Int × Value)} {ep : Nat} {Q} (O : Ok K C) (hm : (d, dictE ep kvs) ∈ l) (hh : C.A.handled = none) (I : Nat → Loc → Led → Prop) {m₀ : Loc} {l₀ : Led} (hf : Fg m₀ m) (hs : Sb l₀ l) (hS : ∀ i m l, I i m l → (d, dictE ep kvs) ∈ l) (h0 : I 0 m₀ l₀)
    (turn : ∀ it P i k m l, (kvs.map (·.1))[i]? = some k → I i m l → TA C m ((it, P) :: l) t env (.int k 0) (KX C env body (LoopQ (I (i + 1)) Q it P) no) no)
    (fin : ∀ m l, I kvs.length m l → TF C m l (execs orelse env) Q no) (ht : ∀ it v, letOwnedTupleGo t (.ref it) v = pure () := by intro _ _; with_unfolding_all rfl) :
    TIt C m l (.ref d) (KLoop C t body orelse env Q E) E := by
  refine for_T (sh := kitS d kvs.length ep) (vs := iL (kvs.map (·.1))) (fun Q' h => it_dict O hm h) (fun it => iter_dict hh) I hf hs hS h0 (fun it P i v m l hv hi => ?_) (by rw [iL_len, List.length_map]; exact fin) ht
  unfold iL at hv
  simp only [List.getElem?_map, Option.map_eq_some_iff] at hv
  obtain ⟨c, ⟨p, h1, rfl⟩, rfl⟩ := hv
  exact turn it P i p.1 m l (by simp [h1]) hi
theorem f_len_tup {Q : Pv} (hm : (a, tupS vs) ∈ l) (hz : vs.length ≤ 16000000) (h : Q (.int vs.length 0) m l) : TCall C m l (.builtin "len") [.ref a] [] Q E :=
  call1 Own.builtin fun x hx s S => by
    obtain rfl := un_ref hx
    obtain ⟨items, n, ht, hi⟩ := S.isTup hm
    exact PyProof.Rows.len_tuple (items := items) ⟨_, ht, rfl, n, rfl⟩ (by rw [len_of hi]; lia) (Out.here (Rel.tok s _) S (by show Q (.int (items.size : Int) 0) m l; rw [len_of hi]; exact h))
theorem f_tuple {Q : Pv} (hm : (a, listS vs) ∈ l) (hz : vs.length ≤ 16000000) (h : ∀ t, Q (.ref t) m ((t, tupS vs) :: l)) : TCall C m l (.type "tuple") [.ref a] [] Q E :=
  call1 Own.type fun x hx s S => by
    obtain rfl := un_ref hx
    obtain ⟨items, n, hl, hi⟩ := S.isL hm
    exact call_tuple_list hl.isList (fun h' hk => Out.here (Rel.heap s _) ((S.grow hk).push _ rfl ⟨items, _, rfl, hi⟩) (h _)) (by rw [len_of hi, sizeLine_eq]; lia)
theorem meets_bool_list {ra : Addr} {items : Array Value} {n : Nat} (hz : items.size ≤ 16000000) : Meets (Builtin.«bool.__new__» ⟨[.type "bool", .ref ra], []⟩) (fun _ R s => IsL s.heap ra items n ∧ ∀ k, R (.ok (.ret (.bool (!items.isEmpty)))) { s with toks := k }) := by
  refine .of_wp fun prog w A R s h => ?_
  obtain ⟨hl, h⟩ := h
  obtain ⟨hp, g, d, tk, os⟩ := s
  have f1 := F.conv_sub_bool
  have ht : ∀ {A : Around} {Q : Bool → Shared → Prop} {E : Value → Shared → Prop}, Q (!items.isEmpty) ⟨hp, g, d, tk + 1 + 1, os⟩ → wpAny (model prog w) A (truthy (.ref ra)) Q E ⟨hp, g, d, tk, os⟩ := fun q => wpAny_truthy_list (s := ⟨hp, g, d, tk, os⟩) hl.isList (by lia) q
  repeat (any_goals (first | assumption | (with_reducible refine ht ?_) | wp_step))
  all_goals first | exact ⟨_, rfl, h _⟩ | exact h _ | skip
theorem f_bool_list {Q : Pv} (hm : (a, listS vs) ∈ l) (hz : vs.length ≤ 16000000) (h : Q (.bool (!vs.isEmpty)) m l) : TCall C m l (.type "bool") [.ref a] [] Q E :=
  call1 Own.type fun x hx s S => by
    obtain rfl := un_ref hx
    obtain ⟨items, n, hl, hi⟩ := S.isL hm
    have he : items.isEmpty = vs.isEmpty := by subst hi; simp
    refine call_bool_1 (meets_bool_list (by rw [len_of hi]; exact hz)) (show IsL s.heap a items n ∧ ∀ k, wants (fun obj s₁ => s₁.TypeIs obj "bool" ∧ Out C.base C.L s (Q (un obj)) s₁) _ _ _ from ⟨hl, fun k => ⟨rfl, Out.here (Rel.tok s _) S ?_⟩⟩)
    rw [he]; exact h
end
end
section
set_option Elab.async false
set_option linter.all false
set_option maxRecDepth 100000
set_option maxHeartbeats 1000000
/-! ## iter(..).__next__ -/
theorem slot_lga : Slot "list_iterator" "__getattribute__" "object.__getattribute__" :=
  .of (owner := "object") (n := "__getattribute__") (by rw [typeLookup_type, builtinLookup_eq_fast]; kernel_rfl) (by decide +kernel) (by decide +kernel) (by decide +kernel)
    (by first | exact .inl (by decide +kernel) | exact .inr (by decide +kernel)) (by rw [isSubtype_type]; kernel_rfl)
theorem entry_lga : entryFor table "object.__getattribute__" = some Builtin.«object.__getattribute__» := entryFor_of_tree (by kernel_rfl)
theorem args_lga (a b : Value) : argsOk "object.__getattribute__" ⟨[a, b], []⟩ := by unfold argsOk; kernel_rfl
theorem lk_next : typeLookup (.type "list_iterator") "__next__" = pure (some (.builtin "list_iterator.__next__")) := by rw [typeLookup_type, builtinLookup_eq_fast]; kernel_rfl
theorem type_next : typeOf (.builtin "list_iterator.__next__") = pure (.type "wrapper_descriptor") := by show builtinType _ = _; rw [builtinType_eq_fast]; kernel_rfl
theorem slot_wget : Slot "wrapper_descriptor" "__get__" "wrapper_descriptor.__get__" :=
  .of (owner := "wrapper_descriptor") (n := "__get__") (by rw [typeLookup_type, builtinLookup_eq_fast]; kernel_rfl) (by decide +kernel) (by decide +kernel) (by decide +kernel)
    (by first | exact .inl (by decide +kernel) | exact .inr (by decide +kernel)) (by rw [isSubtype_type]; kernel_rfl)
theorem entry_wget : entryFor table "wrapper_descriptor.__get__" = some Builtin.«wrapper_descriptor.__get__» := entryFor_of_tree (by kernel_rfl)
theorem args_wget (a b c : Value) : argsOk "wrapper_descriptor.__get__" ⟨[a, b, c], []⟩ := by unfold argsOk; kernel_rfl
theorem lk_wset : typeLookup (.type "wrapper_descriptor") "__set__" = pure none := by rw [typeLookup_type, builtinLookup_eq_fast]; kernel_rfl
theorem lk_wdel : typeLookup (.type "wrapper_descriptor") "__delete__" = pure none := by rw [typeLookup_type, builtinLookup_eq_fast]; kernel_rfl
section
variable {prog : Program} {w : World} {A : Around} {E : Value → Shared → Prop} {h : Heap} {g : Array GenState} {d : Drawn} {t : Nat} {os : OsState} {a : Addr} {o : Obj}
theorem sub_next : isSubtype (.type "list_iterator") (.type (".".intercalate ("list_iterator.__next__".cutAt '.').dropLast)) = pure true := by
  rw [show (".".intercalate ("list_iterator.__next__".cutAt '.').dropLast) = "list_iterator" by decide +kernel, isSubtype_type]; kernel_rfl
theorem wget_next {R : Result → Shared → Prop} (hx : h.get? a = some o) (hc : o.cls = .type "list_iterator")
    (hq : R (.ok (.ret (.ref h.objs.size))) ⟨h.push { cls := .type "method-wrapper", data := .fields #[.builtin "list_iterator.__next__", .ref a] }, g, d, t, os⟩) :
    codeAny (model prog w) A (.call (.builtin "wrapper_descriptor.__get__") ⟨[.builtin "list_iterator.__next__", .ref a, .type "list_iterator"], []⟩) R ⟨h, g, d, t, os⟩ := by
  have hT : (⟨h, g, d, t, os⟩ : Shared).TypeIs (.ref a) "list_iterator" := ⟨_, hx, hc⟩
  have hT5 : (⟨h, g, d, t, os⟩ : Shared).TypeIs (.builtin "list_iterator.__next__") "wrapper_descriptor" := type_next
  have f8 := sub_next
  refine codeAny_call_builtin slot_wget.plain entry_wget (slot_wget.check _ _ _ _ _ _ _ _ hT5 (args_wget _ _ _) ?_)
  repeat (any_goals (first | assumption | wp_step))
theorem entry_next {tk : Tok} {Q : Fin → Shared → Prop} {vs : Array Value} (hx : h.get? a = some ⟨.type "list_iterator", none, .fields vs, #[]⟩)
    (hq : Q (.done (.ret (.ref h.objs.size))) ⟨h.push { cls := .type "method-wrapper", data := .fields #[.builtin "list_iterator.__next__", .ref a] }, g, d, t, os⟩) :
    wpAny (model prog w) A (Builtin.«object.__getattribute__» ⟨[.ref a, .str "__next__" tk], []⟩) Q E ⟨h, g, d, t, os⟩ := by
  have hT : (⟨h, g, d, t, os⟩ : Shared).TypeIs (.ref a) "list_iterator" := ⟨_, hx, rfl⟩
  have hT5 : (⟨h, g, d, t, os⟩ : Shared).TypeIs (.builtin "list_iterator.__next__") "wrapper_descriptor" := type_next
  have f4 := lk_next
  have f5 := type_next
  have f6 := slot_wget.lookup
  have f7 := lk_wset
  have f8 := lk_wdel
  repeat (any_goals (first | assumption | wp_step))
  refine wget_next hx rfl ?_
  repeat (any_goals (first | assumption | wp_step))
theorem by_next {tk : Tok} {b e : Bool} {Q : Value → Shared → Prop} {vs : Array Value} (hx : h.get? a = some ⟨.type "list_iterator", none, .fields vs, #[]⟩)
    (hq : Q (.ref h.objs.size) ⟨h.push { cls := .type "method-wrapper", data := .fields #[.builtin "list_iterator.__next__", .ref a] }, g, d, t, os⟩) :
    wpAny (model prog w) A (getAttrBy (.ref a) (.str "__next__" tk) b e) Q E ⟨h, g, d, t, os⟩ := by
  have hT : (⟨h, g, d, t, os⟩ : Shared).TypeIs (.ref a) "list_iterator" := ⟨_, hx, rfl⟩
  have f2 := slot_lga.lookup
  have f3 := slot_lga.bind (.ref a)
  repeat (any_goals (first | assumption | wp_step))
  rw [show (e && onTheHeap (Value.builtin "object.__getattribute__")) = false by cases e <;> rfl]
  repeat (any_goals (first | assumption | wp_step))
  refine codeAny_call_builtin slot_lga.plain entry_lga (slot_lga.check _ _ _ _ _ _ _ _ hT (args_lga _ _) (entry_next hx ?_))
  repeat (any_goals (first | assumption | wp_step))
end
noncomputable def litF (a : Addr) : Shape := fun o => o = ⟨.type "list_iterator", none, .fields #[.ref a, .int 0 0], #[]⟩
noncomputable def mwS (it : Addr) : Shape := fun o => o = ⟨.type "method-wrapper", none, .fields #[.builtin "list_iterator.__next__", .ref it], #[]⟩
section
variable {K : Frag} {C : Cx} {m : Loc} {l l' : Led} {E : Pv} {env : Env} {a it : Addr}
theorem at_next {Q : Pv} (hm : (it, litF a) ∈ l) (h : ∀ mw, Q (.ref mw) m ((mw, mwS it) :: l)) : TAt C m l (.ref it) (Str.ofString "__next__") Q E := fun vo hv s S => by
  obtain rfl := un_ref hv
  obtain ⟨o, ho, rfl⟩ := S.get _ hm
  obtain ⟨hh, g, d, t, os⟩ := s
  unfold getAttr
  refine wpAny_bind (wpAny_mkText ?_)
  exact by_next ho (Out.here (Rel.of _ _ _) (S.push (P := mwS it) _ rfl rfl) (h _))
end
end
section
set_option Elab.async false
set_option linter.all false
set_option maxRecDepth 100000
set_option maxHeartbeats 1000000
/-! ## calling a list iterator's __next__ -/
section
variable {K : Frag} {C : Cx} {m : Loc} {l l' : Led} {E : Pv} {env : Env} {a it mw : Addr} {vs : List Value} {v : Value} {i : Nat}
theorem cbc_next (a : Value) : checkBoundCall "list_iterator.__next__" ⟨[a], []⟩ = pure () := by kernel_rfl
theorem c_mw_item {Q : Pv} (hm : (mw, mwS it) ∈ l) (hl : (a, listS vs) ∈ l) (U : Upd it (litS a i) (litS a (i + 1)) l l') (hv : vs[i]? = some v) (h : Q v m l') : TCall C m l (.ref mw) [] [] Q E :=
  call0 Own.ref fun s S => by
    obtain ⟨o, ho, rfl⟩ := S.get _ hm
    obtain ⟨items, n, hll, hi⟩ := S.isL hl
    obtain ⟨oi, hoi, hc, hd⟩ := S.get _ U.mem
    obtain ⟨u, hu, rfl⟩ := get_of hi hv
    obtain ⟨hh, g, d, t, os⟩ := s
    refine wpAny_call (codeAny_of_tree ?_)
    show wpAny _ _ (callAny (.ref mw) _) _ _ _
    refine nd_load ho ?_
    show wpAny _ _ (checkBoundCall "list_iterator.__next__" ⟨[.ref it], []⟩ >>= fun _ => again (.builtin "list_iterator.__next__" ⟨[.ref it], []⟩)) _ _ _
    refine wpAny_bind (wpAny_of_eq (cbc_next _) ?_)
    refine wpAny_pure ⟨Code.quiet_builtin _ (by decide +kernel), codeAny_builtin entry_listiter_next ?_⟩
    show wpAny _ _ (field (.ref it) 0 >>= _) _ _ _
    refine wpAny_bind (wpAny_field hoi hd (x := .ref a) rfl ?_)
    show wpAny _ _ (if (Value.ref a == Value.none) = true then _ else _) _ _ _
    rw [if_neg (show ¬ ((Value.ref a == Value.none) = true) from Bool.false_ne_true)]
    show wpAny _ _ (field (.ref it) 1 >>= _) _ _ _
    refine wpAny_bind (wpAny_field hoi hd (x := .int i 0) rfl ?_)
    show wpAny _ _ (seqItems? (.ref a) >>= _) _ _ _
    refine wpAny_bind (wpAny_seqItems hll rfl ?_)
    simp only [Int.toNat_natCast, hu]
    refine wpAny_bind (wpAny_setField hoi hd (by simp) (wpAny_pure ?_))
    exact Out.here (Rel.heap _ _) (S.upd U (Heap.SameBut.update ..) (Heap.get?_update_self _ hoi (Obj.isFreed_of_fields (Obj.data_mapFields hd _))) ⟨(Obj.cls_mapFields ..).trans hc, by rw [Obj.data_mapFields hd]; simp [rawInt]⟩) h
end
end
section
set_option Elab.async false
set_option linter.all false
set_option maxRecDepth 100000
set_option maxHeartbeats 1000000
/-! ## exceptions -/
noncomputable def excN (cls : Value) : Shape := fun o => o.cls = cls ∧ ∃ vs, o.data = .fields vs ∧ vs[1]? = some .none
noncomputable def excT (cls : Value) (t : Addr) : Shape := fun o => o.cls = cls ∧ ∃ vs, o.data = .fields vs ∧ vs[1]? = some (.ref t)
noncomputable def tbF : Shape := fun o => ∃ ts, o.data = .fields ts ∧ 3 < ts.size
noncomputable def tbS : Shape := fun o => ∃ ts, o.data = .fields ts ∧ ts[3]? = some .none
noncomputable def FrO (L : Addr) (l : Led) (fs : List Env) : Prop := ∀ e ∈ fs, e.scope.kind ≠ .module ∧ ∃ a, e.frame = some a ∧ (a = L ∨ ∃ m', (a, Frm m') ∈ l)
structure Fra (C : Cx) (l : Led) : Prop where
  ex : ∃ fs, C.A.frames = some fs ∧ FrO C.L l fs
structure FraH (C : Cx) (env : Env) (l : Led) : Prop where
  ex : ∃ fs, C.A.frames = some (env :: fs) ∧ FrO C.L l (env :: fs)
  hf : env.frame = some C.L
theorem Fra.mono {C : Cx} {l l' : Led} (F : Fra C l) (h : ∀ p ∈ l, p ∈ l') : Fra C l' :=
  let ⟨fs, h1, h2⟩ := F.ex
  ⟨fs, h1, fun e he => let ⟨a, b, c, d⟩ := h2 e he; ⟨a, b, c, d.imp id fun ⟨m', hm⟩ => ⟨m', h _ hm⟩⟩⟩
theorem FraH.mono {C : Cx} {env : Env} {l l' : Led} (F : FraH C env l) (h : ∀ p ∈ l, p ∈ l') : FraH C env l' :=
  let ⟨fs, h1, h2⟩ := F.ex
  ⟨⟨fs, h1, fun e he => let ⟨a, b, c, d⟩ := h2 e he; ⟨a, b, c, d.imp id fun ⟨m', hm⟩ => ⟨m', h _ hm⟩⟩⟩, F.hf⟩
theorem FraH.fra {C : Cx} {env : Env} {l : Led} (F : FraH C env l) : Fra C l := let ⟨fs, h1, h2⟩ := F.ex; ⟨env :: fs, h1, h2⟩
theorem Fra.sub {C : Cx} {env : Env} {l l' : Led} {m : Loc} (F : Fra C l) (hf : env.frame = some env.locals) (hk : env.scope.kind ≠ .module) (h : ∀ p ∈ l, p ∈ l') (hm : (C.L, Frm m) ∈ l') : FraH (sub C env) env l' := by
  obtain ⟨fs, h1, h2⟩ := F.ex
  refine ⟨⟨fs, Around.frames_deeper h1, fun e he => ?_⟩, hf⟩
  rcases List.mem_cons.mp he with rfl | he
  · exact ⟨hk, _, hf, .inl rfl⟩
  · obtain ⟨a, b, c, d⟩ := h2 e he
    refine ⟨a, b, c, .inr ?_⟩
    rcases d with rfl | ⟨m', hm'⟩
    · exact ⟨m, hm⟩
    · exact ⟨m', h _ hm'⟩
section
variable {C : Cx} {m : Loc} {l l' : Led} {E : Pv} {env : Env} {e t : Addr} {cls : Value}
theorem key_eq {l : Led} (hn : (l.map (·.1)).Nodup) {a : Addr} {P P' : Shape} (h1 : (a, P) ∈ l) (h2 : (a, P') ∈ l) : P = P' := by
  induction l with
  | nil => cases h1
  | cons p l ih =>
    simp only [List.map_cons, List.nodup_cons] at hn
    rcases List.mem_cons.mp h1 with e1 | h1'
    · rcases List.mem_cons.mp h2 with e2 | h2'
      · rw [← e1] at e2; exact (Prod.mk.inj e2).2.symm
      · exact absurd (by rw [← e1]; exact List.mem_map_of_mem (f := (·.1)) h2') hn.1
    · rcases List.mem_cons.mp h2 with e2 | h2'
      · exact absurd (by rw [← e2]; exact List.mem_map_of_mem (f := (·.1)) h1') hn.1
      · exact ih hn.2 h1' h2'
theorem frm_slots {mv : Str → Option Value} {o : Obj} {sl : Array (Option Value)} (h : NsO o mv) : NsO { o with slots := sl } mv := h
theorem St.slots {base : Heap} {L : Addr} {h h' : Heap} (S : St base L m l h) {F : List Addr} (hs : Heap.SlotsOnly F h h') (hF : ∀ a ∈ F, a = L ∨ ∃ m', (a, Frm m') ∈ l) : St base L m l h' := by
  have hnb : ∀ a ∈ F, base.get? a = none := fun a ha => by
    rcases hF a ha with rfl | ⟨m', hm⟩
    · cases q : base.get? a with
      | none => rfl
      | some o => exact absurd (Heap.lt_size q) (Nat.not_lt.mpr S.above)
    · exact S.fresh _ hm
  refine ⟨fun b o hb => ?_, S.above, ?_, fun p hp => ?_, S.fresh, S.nd⟩
  · rw [hs.2.1 b fun hm => by rw [hnb b hm] at hb; cases hb]; exact S.keep b o hb
  · obtain ⟨mv, hn, hx⟩ := S.ns
    obtain ⟨o, ho, hn⟩ := ns_iff.mp hn
    obtain ⟨sl, hsl⟩ := hs.2.2 _ _ ho
    exact ⟨mv, ns_iff.mpr ⟨_, hsl, frm_slots hn⟩, hx⟩
  · obtain ⟨o, ho, hp'⟩ := S.get p hp
    by_cases hm : p.1 ∈ F
    · rcases hF _ hm with e1 | ⟨m', hm'⟩
      · exact absurd e1 (S.ne (a := p.1) (P := p.2) hp)
      · obtain ⟨sl, hsl⟩ := hs.2.2 _ _ ho
        have : p.2 = Frm m' := key_eq S.nodup (a := p.1) hp hm'
        rw [this] at hp' ⊢
        obtain ⟨mv, h1, h2⟩ := hp'
        exact ⟨_, hsl, mv, frm_slots h1, h2⟩
    · exact ⟨o, (hs.2.1 _ hm).trans ho, hp'⟩
theorem FrO.fun {L : Addr} {base h : Heap} (S : St base L m l h) : ∀ {fs : List Env}, FrO L l fs → h.FunFrames base fs
  | [], _ => trivial
  | env :: fs, F => by
    obtain ⟨h1, a, h2, h3⟩ := F env (.head _)
    refine ⟨h1, ?_, FrO.fun S fun e he => F e (.tail _ he)⟩
    have hb : ∀ a, base.objs.size ≤ a → base.get? a = none := fun a ha => by
      cases q : base.get? a with
      | none => rfl
      | some o => exact absurd (Heap.lt_size q) (Nat.not_lt.mpr ha)
    rcases h3 with rfl | ⟨m', hm⟩
    · obtain ⟨mv, hn, _⟩ := S.ns
      obtain ⟨o, ho, es, ep, hd, _⟩ := ns_iff.mp hn
      exact ⟨a, o, h2, hb _ S.above, ho, fun vs q => by rw [hd] at q; cases q⟩
    · obtain ⟨o, ho, mv, ⟨es, ep, hd, _⟩, _⟩ := S.get _ hm
      exact ⟨a, o, h2, S.fresh _ hm, ho, fun vs q => by rw [hd] at q; cases q⟩
theorem fro_mem {L : Addr} {fs : List Env} (F : FrO L l fs) : ∀ a ∈ fs.filterMap (·.frame), a = L ∨ ∃ m', (a, Frm m') ∈ l := fun a ha => by
  obtain ⟨e, he, hf⟩ := List.mem_filterMap.mp ha
  obtain ⟨_, b, h2, h3⟩ := F e he
  rw [h2] at hf
  cases hf
  exact h3
theorem entry_T {P : Shape} {head : Value} {hadNext : Bool} {s : Shared} {K : Unit → Shared → Prop} {E : Value → Shared → Prop} (F : FraH C env l) (hP : ∀ o, P o → o.cls = cls ∧ ∃ vs, o.data = .fields vs ∧ 1 < vs.size)
    (S : St C.base C.L m ((e, P) :: l) s.heap)
    (h : ∀ h' t, St C.base C.L m ((e, excT cls t) :: (t, tbS) :: l) h' → K () { s with heap := h' }) :
    wpAny (model C.prog C.w) C.A (do let a ← frameOf env; let pl ← entryPlaceOf C.L hadNext; let b ← EntryCells.newEntry head a .none (rawInt C.L) .none pl; setField (.ref e) 1 b) (fun _ s' => wpAny (model C.prog C.w) C.A (setFlight (.ref e) none) K E s') E s := by
  obtain ⟨fs, h1, h2⟩ := F.ex
  have h2' : FrO C.L ((e, P) :: l) (env :: fs) := fun e' he => let ⟨a, b, c, d⟩ := h2 e' he; ⟨a, b, c, d.imp id fun ⟨m', hm⟩ => ⟨m', .tail _ hm⟩⟩
  refine wpAny_bind (wpAny_frameOf_fun h1 (FrO.fun S h2') F.hf fun h₁ hs₁ => ?_)
  have S₁ := S.slots hs₁ (fro_mem h2')
  refine wpAny_bind (wpAny_entryPlaceOf fun pl hpl => ?_)
  unfold EntryCells.newEntry newFields
  refine wpAny_bind (wpAny_newObj_type ?_ (hpl.sizeOk5 _ _ _ _ _))
  have S₂ := S₁.push (P := tbF) { cls := .type "traceback", dict := none, data := .fields ([head, .ref C.L, .none, rawInt C.L, .none] ++ (if pl.isEmpty then List.replicate 6 Value.none else pl)).toArray } rfl ⟨_, rfl, by simp only [List.size_toArray, List.length_append, List.length_cons, List.length_nil]; lia⟩
  obtain ⟨oe, he, hp⟩ := S₂.get (e, P) (.tail _ (.head _))
  obtain ⟨hc, vs, hd, hsz⟩ := hP oe hp
  refine wpAny_setField he hd hsz ?_
  have hd₃ := Obj.data_mapFields hd (·.setIfInBounds 1 (Value.ref h₁.objs.size))
  have he₃ := Heap.get?_update_self (Obj.mapFields (·.setIfInBounds 1 (Value.ref h₁.objs.size))) he (Obj.isFreed_of_fields hd₃)
  have S₃ := S₂.upd (P' := excT cls h₁.objs.size) (.there .here) (Heap.SameBut.update ..) he₃ ⟨(Obj.cls_mapFields ..).trans hc, _, hd₃, by simp [hsz]⟩
  obtain ⟨ot, hot, ts, hdt, hst⟩ := S₃.get (h₁.objs.size, tbF) (.head _)
  refine wpAny_setFlight_none he₃ hd₃ (by simp [hsz]) hot hdt hst (h _ h₁.objs.size ?_)
  have hd₄ := Obj.data_mapFields hdt (·.setIfInBounds 3 Value.none)
  have S₄ := S₃.upd (P' := tbS) .here (Heap.SameBut.update ..) (Heap.get?_update_self (Obj.mapFields (·.setIfInBounds 3 .none)) hot (Obj.isFreed_of_fields hd₄)) ⟨_, hd₄, by simp [hst]⟩
  exact S₄.perm (List.Perm.swap _ _ _)
theorem note_new {s : Shared} {K : Unit → Shared → Prop} {E : Value → Shared → Prop} (F : FraH C env l) (S : St C.base C.L m ((e, excN cls) :: l) s.heap)
    (h : ∀ h' t, St C.base C.L m ((e, excT cls t) :: (t, tbS) :: l) h' → K () { s with heap := h' }) :
    wpAny (model C.prog C.w) C.A (noteFrame (.ref e) env) (fun _ s' => wpAny (model C.prog C.w) C.A (setFlight (.ref e) none) K E s') E s := by
  obtain ⟨oe, he, hc, vs, hd, h1⟩ := S.get _ (.head _)
  unfold noteFrame
  simp only [F.hf]
  refine wpAny_bind (wpAny_field he hd h1 ?_)
  rw [if_neg (by decide)]
  exact entry_T F (fun o ⟨a, vs, b, c⟩ => ⟨a, vs, b, (Array.getElem?_eq_some_iff.mp c).1⟩) S h
theorem note_next {s : Shared} {K : Unit → Shared → Prop} {E : Value → Shared → Prop} (F : FraH C env l) (S : St C.base C.L m ((e, excT cls t) :: (t, tbS) :: l) s.heap)
    (h : ∀ h' t, St C.base C.L m ((e, excT cls t) :: (t, tbS) :: l) h' → K () { s with heap := h' }) :
    wpAny (model C.prog C.w) C.A (noteFrame (.ref e) env) (fun _ s' => wpAny (model C.prog C.w) C.A (setFlight (.ref e) none) K E s') E s := by
  obtain ⟨oe, he, hc, vs, hd, h1⟩ := S.get _ (.head _)
  obtain ⟨ot, ht, ts, hdt, h3⟩ := S.get _ (.tail _ (.head _))
  unfold noteFrame
  simp only [F.hf]
  refine wpAny_bind (wpAny_field he hd h1 ?_)
  rw [if_pos (show (Value.ref t != Value.none) = true from by simp)]
  refine wpAny_bind (wpAny_field ht hdt h3 ?_)
  rw [if_neg (show ¬ ((Value.none == rawInt C.L) = true) from by simp [rawInt])]
  refine wpAny_bind (wpAny_setField ht hdt (Array.getElem?_eq_some_iff.mp h3).1 ?_)
  have S₁ : St C.base C.L m ((e, excT cls t) :: l) (s.heap.update t (Obj.mapFields (·.setIfInBounds 3 .none))) :=
    St.dropBut (S.perm (List.Perm.swap _ _ _)) fun b o hb hg => (Heap.get?_update_other _ _ (Ne.symm hb)).trans hg
  exact entry_T (s := { s with heap := s.heap.update t (Obj.mapFields (·.setIfInBounds 3 .none)) }) F (fun o ⟨a, vs, b, c⟩ => ⟨a, vs, b, (Array.getElem?_eq_some_iff.mp c).1⟩) S₁ h
theorem flight_again {s : Shared} {K : Unit → Shared → Prop} {A : Around} {E : Value → Shared → Prop} (S : St C.base C.L m ((e, excT cls t) :: (t, tbS) :: l) s.heap)
    (h : ∀ h', St C.base C.L m ((e, excT cls t) :: (t, tbS) :: l) h' → K () { s with heap := h' }) :
    wpAny (model C.prog C.w) A (setFlight (.ref e) none) K E s := by
  obtain ⟨oe, he, hc, vs, hd, h1⟩ := S.get _ (.head _)
  obtain ⟨ot, ht, ts, hdt, h3⟩ := S.get _ (.tail _ (.head _))
  have hz := (Array.getElem?_eq_some_iff.mp h3).1
  refine wpAny_setFlight_none he hd h1 ht hdt hz (h _ ?_)
  have hd₄ := Obj.data_mapFields hdt (·.setIfInBounds 3 Value.none)
  exact S.upd (.there .here) (Heap.SameBut.update ..) (Heap.get?_update_self (Obj.mapFields (·.setIfInBounds 3 .none)) ht (Obj.isFreed_of_fields hd₄)) ⟨_, hd₄, by simp [hz]⟩
end
end
section
set_option Elab.async false
set_option linter.all false
set_option maxRecDepth 100000
set_option maxHeartbeats 1000000
section
variable {K : Frag} {C : Cx} {m : Loc} {l l' : Led} {E : Pv} {env : Env} {a it mw e t : Addr} {vs : List Value} {v : Value} {i : Nat} {cls : Value}
theorem c_mw_end {Q : Pv} (hh : C.A.handled = none) (hx : Ext [(it, litS a i)] l' l) (hm : (mw, mwS it) ∈ l') (hl : (a, listS vs) ∈ l') (hv : vs[i]? = none) (h : ∀ e, E (.ref e) m ((e, excN (.type "StopIteration")) :: l')) : TCall C m l (.ref mw) [] [] Q E :=
  call0 Own.ref fun s S => by
    have S := S.perm hx.perm
    obtain ⟨o, ho, rfl⟩ := S.get _ (.tail _ hm)
    obtain ⟨items, n, hll, hi⟩ := S.isL (.tail _ hl)
    obtain ⟨oi, hoi, hc, hd⟩ := S.get _ (.head _)
    have hu : items[i]? = none := by
      rw [List.getElem?_eq_none_iff] at hv
      rw [Array.getElem?_eq_none_iff, len_of hi]
      exact hv
    obtain ⟨hp, g, d, t, os⟩ := s
    refine wpAny_call (codeAny_of_tree ?_)
    show wpAny _ _ (callAny (.ref mw) _) _ _ _
    refine nd_load ho ?_
    show wpAny _ _ (checkBoundCall "list_iterator.__next__" ⟨[.ref it], []⟩ >>= fun _ => again (.builtin "list_iterator.__next__" ⟨[.ref it], []⟩)) _ _ _
    refine wpAny_bind (wpAny_of_eq (cbc_next _) ?_)
    refine wpAny_pure ⟨Code.quiet_builtin _ (by decide +kernel), codeAny_builtin entry_listiter_next ?_⟩
    show wpAny _ _ (field (.ref it) 0 >>= _) _ _ _
    refine wpAny_bind (wpAny_field hoi hd (x := .ref a) rfl ?_)
    show wpAny _ _ (if (Value.ref a == Value.none) = true then _ else _) _ _ _
    rw [if_neg (show ¬ ((Value.ref a == Value.none) = true) from Bool.false_ne_true)]
    show wpAny _ _ (field (.ref it) 1 >>= _) _ _ _
    refine wpAny_bind (wpAny_field hoi hd (x := .int i 0) rfl ?_)
    show wpAny _ _ (seqItems? (.ref a) >>= _) _ _ _
    refine wpAny_bind (wpAny_seqItems hll rfl ?_)
    simp only [Int.toNat_natCast, hu]
    refine wpAny_bind (wpAny_rule (wpAny_bind (wpAny_setField hoi hd (by simp) ?_)))
    have S₁ : St C.base C.L m l' (hp.update it (Obj.mapFields (·.setIfInBounds 0 .none))) :=
      St.dropBut S fun b o hb hg => (Heap.get?_update_other _ _ (Ne.symm hb)).trans hg
    show wpAny _ _ (newExc (.type "StopIteration") [] >>= _) _ _ _
    refine wpAny_bind ?_
    simp only [newExc, newTuple]
    refine wpAny_bind (wpAny_newObj_type ?_ (by size_fits))
    have S₂ := S₁.grow (h' := (hp.update it (Obj.mapFields (·.setIfInBounds 0 .none))).push { cls := .type "tuple", dict := none, data := .seq ([] : List Value).toArray }) fun b o hb => Heap.get?_push_of_some _ hb
    refine wpAny_bind (m := firstArgMember _ _) (wpAny_of_eq (a := Value.none) (by first | rfl | (simp only [firstArgMember]; rfl)) ?_)
    refine wpAny_newObj_type ?_ (by size_fits)
    simp only [raiseNew]
    refine wpAny_bind (wpAny_handled ?_)
    rw [show (C.A.under (Code.builtin "list_iterator.__next__" { pos := [Value.ref it] })).handled = none from hh]
    refine wpAny_bind (wpAny_pure (wpAny_throw ?_))
    exact Out.here (Rel.heap _ _) (S₂.push (P := excN (.type "StopIteration")) _ rfl ⟨rfl, _, rfl, rfl⟩) (h _)
end
end
section
set_option Elab.async false
set_option linter.all false
set_option maxRecDepth 100000
set_option maxHeartbeats 1000000
noncomputable abbrev Cx.mark (C : Cx) (e : Addr) : Cx := { C with A := C.A.mark (some (.ref e)) }
theorem Ok.mark {K : Frag} {C : Cx} (O : Ok K C) (e : Addr) : Ok K (C.mark e) := ⟨O.X, O.lim, O.g, O.b, O.sm⟩
section
variable {α β : Type}
variable {K : Frag} {C : Cx} {m : Loc} {l l' : Led} {E : Pv} {env : Env} {a it mw e t : Addr} {vs : List Value} {v : Value} {i : Nat} {cls : Value}
theorem T.sure {φ : α → β} {t : Sem α} {Q : β → Loc → Led → Prop} (h : T C φ m l t Q no) {s s₁ : Shared} (S : St C.base C.L m l s₁.heap) (hs : Rel s s₁) {K : α → Shared → Prop} {X : Value → Shared → Prop}
    (hk : ∀ a s' m' l', St C.base C.L m' l' s'.heap → Rel s s' → Q (φ a) m' l' → K a s') : wpAny (model C.prog C.w) C.A t K X s₁ :=
  wpAny_mono (h.next S hs hk) (fun _ _ x => x) fun _ _ x => by obtain ⟨_, _, _, _, hf⟩ := x; exact hf.elim
noncomputable abbrev KNx (Q : Qf) : Pv := fun _ m l => Q .next m l
theorem x_exprR {x : Expr} {pos : Pos} {Q} (h : TV C m l (eval x env) (KNx Q) E)
    (hi : interactive env = false := by with_unfolding_all rfl) (hs : swapsWith x none pos.line env = pure false := by with_unfolding_all rfl) : TF C m l (exec (.Expr x pos) env) Q E := fun s S => by
  rw [exec_Expr env x pos hi hs]
  exact wpAny_bind (wpAny_standAt (wpAny_bind (T.next h S (Rel.refl s) fun v s' m' l' S' hr q => wpAny_dropValue (Out.here hr S' q))))
noncomputable def Caught (C : Cx) (env : Env) (hs : List ExceptHandler) (Q : Flow → Loc → Led → Prop) (E : Pv) : Pv := fun x m l => ∃ e cls l₁, x = .ref e ∧ (Sb ((e, excN cls) :: l₁) l ∨ ∃ t, Sb ((e, excT cls t) :: (t, tbS) :: l₁) l) ∧ FraH C env l₁ ∧
  ∀ t, TF C m ((e, excT cls t) :: (t, tbS) :: l₁) (handleBy (.ref e) env hs) Q E
theorem caught_new {hs : List ExceptHandler} {Q : Flow → Loc → Led → Prop} {l₁ : Led} (hb : Sb ((e, excN cls) :: l₁) l) (F : FraH C env l₁) (h : ∀ t, TF C m ((e, excT cls t) :: (t, tbS) :: l₁) (handleBy (.ref e) env hs) Q E) : Caught C env hs Q E (.ref e) m l :=
  ⟨e, cls, l₁, rfl, .inl hb, F, h⟩
theorem caught_next {hs : List ExceptHandler} {Q : Flow → Loc → Led → Prop} {l₁ : Led} (hb : Sb ((e, excT cls t) :: (t, tbS) :: l₁) l) (F : FraH C env l₁) (h : ∀ t, TF C m ((e, excT cls t) :: (t, tbS) :: l₁) (handleBy (.ref e) env hs) Q E) : Caught C env hs Q E (.ref e) m l :=
  ⟨e, cls, l₁, rfl, .inr ⟨t, hb⟩, F, h⟩
theorem x_try {body orelse : List Stmt} {h₀ : ExceptHandler} {hs : List ExceptHandler} {pos : Pos} {Q} (h : TF C m l (execs body env) (Then (KX C env orelse Q E) Q) (Caught C env (h₀ :: hs) Q E)) :
    TF C m l (exec (.Try body (h₀ :: hs) orelse [] pos) env) Q E := fun s S => by
  refine wpAny_Try_except (wpAny_mono (h s S) (fun f s' o => ?_) (fun x s' o => ?_))
  · obtain ⟨hr, m', l', S', q⟩ := o
    cases f with
    | next => exact T.fin q S' hr
    | brk => exact Out.here hr S' q
    | cont => exact Out.here hr S' q
    | ret v => exact Out.here hr S' q
  · obtain ⟨hr, m', l', S', e, cls, l₁, rfl, hb, F, hh⟩ := o
    rcases hb with hb | ⟨t, hb⟩
    · refine note_new F (hb.st S') fun h' t S₂ => ?_
      exact T.fin (s₁ := { s' with heap := h' }) (hh t) S₂ (hr.trans (Rel.heap _ _))
    · refine note_next F (hb.st S') fun h' t S₂ => ?_
      exact T.fin (s₁ := { s' with heap := h' }) (hh t) S₂ (hr.trans (Rel.heap _ _))
theorem handle_T {X Tn : String} {x : Expr} {b₀ : Stmt} {suite : List Stmt} {pos : Pos} {rest : List ExceptHandler} {Q : Flow → Loc → Led → Prop}
    (ht : TV (C.mark e) m ((e, excT (.type X) t) :: (t, tbS) :: l) (eval x env) (fun c m₂ l₂ => c = .type Tn ∧ m₂ = m ∧ l₂ = (e, excT (.type X) t) :: (t, tbS) :: l) no)
    (hs : TF (C.mark e) m ((e, excT (.type X) t) :: (t, tbS) :: l) (execs (b₀ :: suite) env) Q no)
    (hexc : isSubtype (.type Tn) (.type "BaseException") = pure true) (hnt : isSubtype (.type ((Manifest.find? Tn).elim "type" fun y => y.metatype)) (.type "tuple") = pure false) (hsub : isSubtype (.type X) (.type Tn) = pure true) :
    TF C m ((e, excT (.type X) t) :: (t, tbS) :: l) (handleBy (.ref e) env (.ExceptHandler (some x) none (b₀ :: suite) pos :: rest)) Q E := fun s S => by
  refine wpAny_handleBy_builtin (X := X) (T := Tn) (b := true) hexc hnt hsub ?_
  refine T.sure ht S (Rel.refl s) fun c s₁ m₁ l₁ S₁ r₁ q => ?_
  obtain ⟨hc, rfl, rfl⟩ := q
  refine ⟨un_type hc, ?_, ?_⟩
  · obtain ⟨o, ho, hcl, _⟩ := S₁.get _ (.head _)
    exact ⟨o, ho, hcl⟩
  · rw [if_pos rfl]
    refine flight_again (C := C.mark e) S₁ fun h' S₂ => ?_
    exact T.sure (s₁ := { s₁ with heap := h' }) hs S₂ (r₁.trans (Rel.heap _ _)) fun f s₃ m₃ l₃ S₃ r₃ q₃ => Out.here r₃ S₃ q₃
theorem sub_stop : isSubtype (.type "StopIteration") (.type "StopIteration") = pure true := isSubtype_stop
theorem exc_stop : isSubtype (.type "StopIteration") (.type "BaseException") = pure true := by rw [isSubtype_type]; kernel_rfl
theorem nt_stop : isSubtype (.type ((Manifest.find? "StopIteration").elim "type" fun y => y.metatype)) (.type "tuple") = pure false := by
  rw [show ((Manifest.find? "StopIteration").elim "type" fun y => y.metatype) = "type" by decide +kernel, isSubtype_type]; kernel_rfl
noncomputable def ExcK (K : Frag) (Cl : Addr) : Prop := ∃ nm q N bs bm hdct sn sub ab col dd k0 k1 k2 k3 k5 newId, K.lookup Cl = some (excClassObj nm q Cl N bs bm hdct sn sub ab col dd k0 k1 k2 k3 k5 newId) ∧ bm.contains (.type "BaseException") = true
theorem handle_O {Cl : Addr} {x : Expr} {b₀ : Stmt} {suite : List Stmt} {pos : Pos} {rest : List ExceptHandler} {Q : Flow → Loc → Led → Prop} (O : Ok K C) (hK : ExcK K Cl)
    (ht : TV (C.mark e) m ((e, excT (.ref Cl) t) :: (t, tbS) :: l) (eval x env) (fun c m₂ l₂ => c = .ref Cl ∧ m₂ = m ∧ l₂ = (e, excT (.ref Cl) t) :: (t, tbS) :: l) no)
    (hs : TF (C.mark e) m ((e, excT (.ref Cl) t) :: (t, tbS) :: l) (execs (b₀ :: suite) env) Q no) :
    TF C m ((e, excT (.ref Cl) t) :: (t, tbS) :: l) (handleBy (.ref e) env (.ExceptHandler (some x) none (b₀ :: suite) pos :: rest)) Q E := fun s S => by
  obtain ⟨nm, q, N, bs, bm, hdct, sn, sub, ab, col, dd, k0, k1, k2, k3, k5, newId, hk, hbase⟩ := hK
  refine wpAny_handleBy_cons (codeAny_handlers_test ?_) (by intro q; cases q)
  refine T.sure ht S (Rel.refl s) fun c s₁ m₁ l₁ S₁ r₁ q => ?_
  obtain ⟨hc, rfl, rfl⟩ := q
  obtain rfl := un_ref hc
  obtain ⟨o, ho, hcl, _⟩ := S₁.get _ (.head _)
  obtain ⟨hh, g, d, tk, os⟩ := s₁
  refine wpAny_excMatches_sub_self (O.X.keeps S₁.keep _ _ hk) ho hcl hbase (codeAny_handlers_suite ?_)
  refine flight_again (C := C.mark e) S₁ fun h' S₂ => ?_
  exact T.sure (s₁ := ⟨h', g, d, tk, os⟩) hs S₂ (r₁.trans (Rel.heap _ _)) fun f s₃ m₃ l₃ S₃ r₃ q₃ => Out.here r₃ S₃ q₃
end
end
section
set_option Elab.async false
set_option linter.all false
set_option maxRecDepth 100000
set_option maxHeartbeats 1000000
section
variable {α β : Type}
variable {K : Frag} {C : Cx} {m : Loc} {l l' : Led} {E : Pv} {env : Env} {a b it mw e t sl : Addr} {vs : List Value} {v : Value} {i : Nat} {cls : Value}
theorem St.weak {base : Heap} {L : Addr} {h : Heap} {P P' : Shape} (S : St base L m l h) (U : Upd a P P' l l') (hp : ∀ o, P o → P' o) : St base L m l' h := by
  obtain ⟨o, ho, hP⟩ := S.get _ U.mem
  exact S.upd U (Heap.SameBut.refl ..) ho (hp o hP)
theorem T.weak {φ : α → β} {t : Sem α} {Q : β → Loc → Led → Prop} {P P' : Shape} (U : Upd a P P' l l') (hp : ∀ o, P o → P' o) (h : T C φ m l' t Q E) : T C φ m l t Q E :=
  T.led (fun _ S => S.weak U hp) h
theorem litF_litS (a : Addr) : ∀ o, litF a o → litS a 0 o := by rintro o rfl; exact ⟨rfl, rfl⟩
theorem f_iter {Q : Pv} (hm : (a, listS vs) ∈ l) (h : ∀ it, Q (.ref it) m ((it, litF a) :: l)) : TCall C m l (.builtin "iter") [.ref a] [] Q E :=
  call1 Own.builtin fun x hx s S => by
    obtain rfl := un_ref hx
    obtain ⟨items, n, hl, hi⟩ := S.isL hm
    refine call_function_entry (by decide +kernel) (by decide +kernel) kdk_entry_iter (kdk_args_iter _) ?_
    unfold Builtin.«iter»
    refine wpAny_bind (m := someArgs "iter" 1 2 _) (wpAny_of_eq (a := [Value.ref a]) (by first | rfl | kernel_rfl!) ?_)
    show wpAny _ _ (pyIter (.ref a) >>= _) _ _ _
    refine wpAny_bind (wpAny_pyIter_list hl.isList ?_)
    exact wpAny_pure ⟨_, rfl, Out.here (Rel.heap s _) (S.push (P := litF a) _ rfl rfl) (h _)⟩
theorem e_callmw {fx : Expr} {pos : Pos} {Q : Pv}
    (h : TV C m l (eval fx env) (fun f m l => ∃ mw it, f = .ref mw ∧ (mw, mwS it) ∈ l ∧ TCall C m l (.ref mw) [] [] Q E) E)
    (he : eval (.Call fx [] [] pos) env = (do callWith pos (← eval fx env) [] (backTo pos (starEach [] env)) (backToKw pos (keywordEach [] env))) := by with_unfolding_all rfl) : TV C m l (eval (.Call fx [] [] pos) env) Q E := fun s S =>
  Call_ (T.next h S (Rel.refl s) fun f s₁ m₁ l₁ S₁ r₁ q₁ => by
    obtain ⟨mw, it, hf, hm, hc⟩ := q₁
    obtain rfl := un_ref hf
    refine callWith_of (P := fun h => ∃ o, h.get? mw = some o ∧ mwS it o) rfl (fun hp ⟨o, ho, hP⟩ => ?_) (evalArgs_ns rfl ?_)
    · obtain rfl : o = _ := hP
      refine ⟨.machine, .inr (.inl rfl), fun A Q E s k q => ?_⟩
      unfold keeperOf
      refine wpAny_bind (wpAny_load (k _ _ ho) ?_)
      exact wpAny_pure q
    · refine PyProof.Rows.args_nil ⟨S₁.get _ hm, ?_⟩
      exact T.fin (hc (.ref mw) [] [] rfl rfl rfl) S₁ r₁) he
/-! ### slices -/
noncomputable def sliS (lo hi st : Value) : Shape := fun o => ∃ a b c, o = { cls := .type "slice", data := .fields #[a, b, c] } ∧ un a = lo ∧ un b = hi ∧ un c = st
noncomputable def pv : Option Int → Value
  | none => .none
  | some i => .int i 0
theorem part_of {v : Value} {o : Option Int} (h : un v = pv o) : IsPart v o := by
  cases o with
  | none => obtain rfl := un_none h; exact .none
  | some i => obtain ⟨t, rfl⟩ := un_int h; exact .int i t
noncomputable abbrev TPart (C : Cx) (m : Loc) (l : Led) (x : Option Expr) (env : Env) (Q : Pv) (E : Pv) : Prop := TV C m l (evalPart x env) Q E
theorem p_none {Q : Pv} (h : Q .none m l) : TPart C m l none env Q E := fun s S => by rw [evalPart_none]; exact wpAny_pure (Out.here (Rel.refl s) S h)
theorem p_some {x : Expr} {Q : Pv} (h : TV C m l (eval x env) Q E) (he : evalPart (some x) env = eval x env := by with_unfolding_all rfl) : TPart C m l (some x) env Q E := fun s S => by rw [he]; exact h s S
noncomputable abbrev KSl3 (lo hi : Value) (Q : Pv) : Pv := fun st m l => ∀ a, Q (.ref a) m ((a, sliS lo hi st) :: l)
noncomputable abbrev KSl2 (C : Cx) (env : Env) (step : Option Expr) (lo : Value) (Q E : Pv) : Pv := fun hi m l => TPart C m l step env (KSl3 lo hi Q) E
noncomputable abbrev KSl (C : Cx) (env : Env) (upper step : Option Expr) (Q E : Pv) : Pv := fun lo m l => TPart C m l upper env (KSl2 C env step lo Q E) E
theorem e_slice {lower upper step : Option Expr} {p : Pos} {Q : Pv} (h : TPart C m l lower env (KSl C env upper step Q E) E) :
    TV C m l (eval (.Slice lower upper step p) env) Q E := fun s S =>
  wpAny_Slice (T.next h S (Rel.refl s) fun lo s₁ m₁ l₁ S₁ r₁ q₁ => T.next q₁ S₁ r₁ fun hi s₂ m₂ l₂ S₂ r₂ q₂ => T.next q₂ S₂ r₂ fun st s₃ m₃ l₃ S₃ r₃ q₃ =>
    Out.here (r₃.trans (Rel.heap _ _)) (S₃.push (P := sliS (un lo) (un hi) (un st)) _ rfl ⟨_, _, _, rfl, rfl, rfl, rfl⟩) (q₃ _))
noncomputable def pickL (vs : List Value) (lo hi st : Option Int) : List Value := (sliceRange (sliceBounds lo hi st vs.length).1 (sliceBounds lo hi st vs.length).2.1 (sliceBounds lo hi st vs.length).2.2).filterMap (vs[·]?)
theorem pick_map {items : Array Value} {vs : List Value} (hi : items.toList.map un = vs) (lo h st : Option Int) : (slicePick items lo h st).toList.map un = pickL vs lo h st := by
  subst hi
  unfold slicePick pickL
  simp only [List.map_filterMap, List.length_map, Array.length_toList, List.getElem?_map, Array.getElem?_toList]
theorem s_slice {x y : Expr} {lo hi st : Option Int} {vl vu vk : Value} {Q : Pv} (hm : (a, listS vs) ∈ l) (hsl : (sl, sliS vl vu vk) ∈ l) (el : vl = pv lo) (eu : vu = pv hi) (ek : vk = pv st) (h0 : st ≠ some 0) (hz : vs.length ≤ 16000000)
    (h : ∀ r, Q (.ref r) m ((r, listS (pickL vs lo hi st)) :: l))
    (hs : ∀ va vi, ∃ ops, subscripted y false va vi = operate ops (getItem va vi) := by intro va vi; exact ⟨_, by with_unfolding_all rfl⟩) : TSub C m l x y (.ref a) (.ref sl) Q E := fun vo vi ho hi s S => by
  obtain rfl := un_ref ho
  obtain rfl := un_ref hi
  subst el eu ek
  obtain ⟨items, n, hl, hit⟩ := S.isL hm
  obtain ⟨o, ho, vl, vu, vk, rfl, h1, h2, h3⟩ := S.get _ hsl
  obtain ⟨ops, hs⟩ := hs (.ref a) (.ref sl)
  refine tail_any hl.isList.typeIs F.slot_list_getitem.lookup ?_ hs
  refine wpAny_getItem_list_slice hl.isList ⟨_, ho, rfl, rfl⟩ (part_of h1) (part_of h2) (part_of h3) h0 ?_ (by rw [len_of hit, sizeLine_eq]; lia)
  exact Out.here (Rel.heap s _) (S.push (P := listS (pickL vs lo _ st)) _ rfl ⟨_, _, rfl, pick_map hit ..⟩) (h _)
theorem pickL_plain (vs : List Value) (lo hi : Option Int) : pickL vs lo hi none = (vs.drop (kms_lo lo vs.length)).take (kms_hi hi vs.length - kms_lo lo vs.length) := by
  have h := kms_pick_eq vs.toArray lo hi
  unfold slicePick at h
  unfold pickL
  have h2 := congrArg Array.toList h
  simpa [kms_pick] using h2
end
end
section
set_option Elab.async false
set_option linter.all false
set_option maxRecDepth 100000
set_option maxHeartbeats 1000000
/-! ## comprehensions -/
noncomputable abbrev cx (C : Cx) (L' : Addr) : Cx := { C with L := L' }
structure TSelf (C : Cx) (P : Shape) : Prop where
  self : ∀ (it : Addr) (m : Loc) (l : Led) (s : Shared) (K : Value → Shared → Prop) (E : Value → Shared → Prop), St C.base C.L m ((it, P) :: l) s.heap → K (.ref it) s → wpAny (model C.prog C.w) C.A (pyIter (.ref it)) K E s
noncomputable def TTests (C : Cx) (m : Loc) (l : Led) (ifs : List Expr) (env : Env) (Q : Bool → Loc → Led → Prop) (E : Pv) : Prop :=
  T C id m l (forIn ifs true fun c r => if r = true then do let ok ← isTrue c env (eval c env); pure (ForInStep.yield ok) else pure (ForInStep.yield r)) Q E
noncomputable def CNext (C : Cx) (m : Loc) (it : Addr) (P : Shape) (acc : Addr) (ys : List Value) (J : Led → Prop) (l : Led) : Prop := ∃ l₁, Sb ((it, P) :: (acc, listS ys) :: (C.L, Frm m) :: l₁) l ∧ J l₁
noncomputable def TComp (C : Cx) (m : Loc) (l : Led) (it : Value) (elt target iter : Expr) (ifs : List Expr) (scope : Scope) (pos : Pos) (cl : List (Str × Addr)) (env : Env) (J : Value → Led → Prop) : Prop :=
  ∀ vit, un vit = it → ∀ (s : Shared) (E : Value → Shared → Prop) (RR : Value → Addr → Result → Shared → Prop), St C.base C.L m l s.heap →
    (∀ L' acc s' mc l', St C.base C.L m ((L', Frm mc) :: l') s'.heap → Rel s s' → J (.ref acc) l' → RR (.ref acc) L' (.ok .next) s') →
    wpAny (model C.prog C.w) C.A (newList []) (fun acc s₃ => wpAny (model C.prog C.w) C.A (newFunctionEnv scope env.globals cl [] env.qual none .none (some env)) (fun cenv s₄ =>
      codeAny (model C.prog C.w) C.A (.compStart (.ListComp elt [⟨target, iter, ifs, 0⟩] scope pos) 0 vit acc { cenv with scope := relabel scope env }) (RR acc cenv.locals) s₄) E s₃) E s
section
variable {K : Frag} {C : Cx} {m : Loc} {l l' : Led} {E : Pv} {env : Env} {a b it d : Addr} {vs : List Value} {v : Value} {i : Nat}
theorem St.swapF {base : Heap} {L L' : Addr} {m m' : Loc} {l : Led} {h : Heap} (hab : base.objs.size ≤ L) (S : St base L' m' ((L, Frm m) :: l) h) : St base L m ((L', Frm m') :: l) h := by
  obtain ⟨mv', hn', hx'⟩ := S.ns
  obtain ⟨o', ho', hn'⟩ := ns_iff.mp hn'
  obtain ⟨o, e, mv, h1, h2⟩ := S.get _ (.head _)
  refine ⟨S.keep, hab, ⟨mv, ns_iff.mpr ⟨o, e, h1⟩, h2⟩, fun p hp => ?_, fun p hp => ?_, ?_⟩
  · rcases List.mem_cons.mp hp with rfl | hp
    · exact ⟨o', ho', mv', hn', hx'⟩
    · exact S.get p (.tail _ hp)
  · rcases List.mem_cons.mp hp with rfl | hp
    · cases q : base.get? L' with
      | none => rfl
      | some o => exact absurd (Heap.lt_size q) (Nat.not_lt.mpr S.above)
    · exact S.fresh p (.tail _ hp)
  · have h0 := S.nd
    simp only [List.map_cons, List.nodup_cons, List.mem_cons, not_or] at h0 ⊢
    exact ⟨⟨Ne.symm h0.1.1, h0.2.1⟩, h0.1.2, h0.2.2⟩
theorem self_list : TSelf C (litS a 0) := ⟨fun it m l s K E S k => by
  obtain ⟨o, ho, hc, hd⟩ := S.get _ (.head _)
  exact wpAny_pyIter_listiter (l := a) (i := 0) ⟨o, ho, hc, hd⟩ k⟩
theorem self_range {x c k : Int} : TSelf C (ritS x k c) := ⟨fun it m l s K E S hk => by
  obtain ⟨o, ho, rfl⟩ := S.get _ (.head _)
  exact wpAny_pyIter_rangeiter ho hk⟩
theorem self_vals {n ep : Nat} : TSelf C (vitS d n ep 0) := ⟨fun it m l s K E S k => by
  obtain ⟨o, ho, hc, hd⟩ := S.get _ (.head _)
  exact wpAny_pyIter_valiter (i := 0) ⟨o, ho, hc, hd⟩ k⟩
theorem tests_nil {Q} (h : Q true m l) : TTests C m l [] env Q E := fun s S => wpAny_tests_nil (Out.here (Rel.refl s) S h)
theorem tests_one {c : Expr} {Q} (h : Tb C m l (isTrue c env (eval c env)) Q E) : TTests C m l [c] env Q E := fun s S => wpAny_tests_one (T.fin h S (Rel.refl s))
noncomputable abbrev KC3 (C : Cx) (m : Loc) (it : Addr) (P : Shape) (acc : Addr) (ys : List Value) (I : List Value → Led → Prop) : Pv := fun y _ l₃ => CNext C m it P acc ys (I (ys ++ [y])) l₃
noncomputable abbrev KC2 (C : Cx) (m : Loc) (it : Addr) (P : Shape) (acc : Addr) (ys : List Value) (I : List Value → Led → Prop) (C' : Cx) (env' : Env) (elt : Expr) : Qb := fun b m₂ l₂ => Br b (TV C' m₂ l₂ (eval elt env') (KC3 C m it P acc ys I) no) (CNext C m it P acc ys (I ys) l₂)
noncomputable abbrev KC1 (C : Cx) (m : Loc) (it : Addr) (P : Shape) (acc : Addr) (ys : List Value) (I : List Value → Led → Prop) (C' : Cx) (env' : Env) (elt : Expr) (ifs : List Expr) : Ps := fun m₁ l₁ => TTests C' m₁ l₁ ifs env' (KC2 C m it P acc ys I C' env' elt) no
theorem comp_by {elt target iter : Expr} {ifs : List Expr} {scope : Scope} {pos : Pos} {cl : List (Str × Addr)} {sh : Nat → Shape} {Sup : Led → Prop} {J : Value → Led → Prop}
    (W : ∀ L', TIter (cx C L') it sh vs Sup) (Ws : ∀ L', TSelf (cx C L') (sh 0)) (hz : vs.length ≤ 16000000)
    (hcell : ∀ y ∈ scope.names, y.2 ≠ .cell) (hkind : scope.kind = .function)
    (I : Nat → List Value → Led → Prop) (hS : ∀ i ys l p q, I i ys l → Sup (p :: q :: l)) (h0 : I 0 [] l)
    (turn : ∀ L' P acc i v ys l', vs[i]? = some v → I i ys l' → ys.length ≤ i →
      TA (cx C L') [] ((it, P) :: (acc, listS ys) :: (C.L, Frm m) :: l') target (compEnvC scope cl L' env) v
        (KC1 C m it P acc ys (I (i + 1)) (cx C L') (compEnvC scope cl L' env) elt ifs) no)
    (fin : ∀ acc l' ys, I vs.length ys l' → J (.ref acc) ((acc, listS ys) :: l'))
    (ht : ∀ v, letOwnedTupleGo target (.ref it) v = pure () := by intro _; with_unfolding_all rfl) :
    TComp C m ((it, sh 0) :: l) (.ref it) elt target iter ifs scope pos cl env J := by
  intro vit hv s E RR S hRR
  obtain rfl := un_ref hv
  refine wpAny_newObj_type ?_ (by show (([] : List Value).toArray).size ≤ sizeLine; rw [sizeLine_eq]; simp)
  have S₁ := S.push (P := listS []) { cls := .type "list", dict := none, data := .seq ([] : List Value).toArray } rfl ⟨_, _, rfl, rfl⟩
  refine wpAny_newFunctionEnv hcell (by intro y hy; simp at hy) (fun h₁ hns hsb => ?_) hkind
  generalize hH : s.heap.push { cls := .type "list", dict := none, data := .seq ([] : List Value).toArray } = H at S₁ hns hsb ⊢
  have hkeep : ∀ b o, H.get? b = some o → h₁.get? b = some o := fun b o e => hsb.extBut b o (Nat.ne_of_lt (Heap.lt_size e)) (Heap.get?_push_of_some _ e)
  have S₂ : St C.base H.objs.size [] ((C.L, Frm m) :: (s.heap.objs.size, listS []) :: (it, sh 0) :: l) h₁ := S₁.enter (Nat.le_refl _) hkeep hns (fun x v e => nomatch e)
  have S₃ : St C.base H.objs.size [] ((it, sh 0) :: (s.heap.objs.size, listS []) :: (C.L, Frm m) :: l) h₁ := S₂.perm ((List.Perm.swap _ _ _).trans (((List.Perm.swap _ _ _).cons _).trans (List.Perm.swap _ _ _)))
  have loop : codeAny (model C.prog C.w) C.A (.compLoop (.ListComp elt [⟨target, iter, ifs, 0⟩] scope pos) 0 (.ref it) (.ref s.heap.objs.size) (compEnvC scope cl H.objs.size env)) (RR (.ref s.heap.objs.size) H.objs.size) { s with heap := h₁, toks := s.toks + ([] : List (Str × Value)).length } := by
    refine codeAny_compLoop_tests (fun k s' => ∃ i ys l', k = vs.length - i ∧ i ≤ vs.length ∧ ys.length ≤ i ∧ I i ys l' ∧ St C.base H.objs.size [] ((it, sh i) :: (s.heap.objs.size, listS ys) :: (C.L, Frm m) :: l') s'.heap ∧ Rel s s') ?_ vs.length ⟨0, [], l, by simp, by simp, by simp, h0, S₃, Rel.of s _ _⟩ ht
    rintro k s' ⟨i, ys, l', rfl, hi, hy, hI, S₄, r₄⟩
    rcases Nat.lt_or_ge i vs.length with hlt | hge
    · have hv : vs[i]? = some vs[i] := by simp [hlt]
      refine T.sure (C := cx C H.objs.size) ((W H.objs.size).item i vs[i] [] ((s.heap.objs.size, listS ys) :: (C.L, Frm m) :: l') (fun o mm ll => o = some vs[i] ∧ mm = [] ∧ ll = (it, sh (i + 1)) :: (s.heap.objs.size, listS ys) :: (C.L, Frm m) :: l') no hv (hS _ _ _ _ _ hI) ⟨rfl, rfl, rfl⟩) S₄ r₄ fun r s₂ m₂ l₂ S₅ r₅ q₂ => ?_
      obtain ⟨hr, rfl, rfl⟩ := q₂
      match r, hr with
      | some u, hr =>
        have hu : un u = vs[i] := by simpa using hr
        refine T.sure (C := cx C H.objs.size) (turn H.objs.size _ s.heap.objs.size i vs[i] ys l' hv hI hy u hu) S₅ r₅ fun _ s₃ m₃ l₃ S₆ r₆ q₃ => ?_
        refine T.sure (C := cx C H.objs.size) q₃ S₆ r₆ fun ok s₄ m₄ l₄ S₇ r₇ q₄ => ?_
        cases ok with
        | true =>
          rw [if_pos rfl]
          refine T.sure (C := cx C H.objs.size) (q₄.1 rfl) S₇ r₇ fun y s₅ m₅ l₅ S₈ r₈ q₅ => ?_
          obtain ⟨l₆, hb, hI'⟩ := q₅
          have S₉ := (hb.st S₈).forget Fg.nil
          have app : TCall (cx C H.objs.size) [] ((it, sh (i + 1)) :: (s.heap.objs.size, listS ys) :: (C.L, Frm m) :: l₆) (.builtin "list.append") [.ref s.heap.objs.size, un y] [] (fun _ mm ll => mm = [] ∧ ll = (it, sh (i + 1)) :: (s.heap.objs.size, listS (ys ++ [un y])) :: (C.L, Frm m) :: l₆) no :=
            m_append (.there .here) (by lia) ⟨rfl, rfl⟩
          refine T.sure (C := cx C H.objs.size) (app (.builtin "list.append") [.ref s.heap.objs.size, y] [] rfl rfl rfl) S₉ r₈ fun _ s₆ m₆ l₇ S₁₀ r₉ q₆ => ?_
          obtain ⟨rfl, rfl⟩ := q₆
          exact ⟨vs.length - (i + 1), by lia, i + 1, ys ++ [un y], l₆, rfl, by lia, by simp; lia, hI', S₁₀, r₉⟩
        | false =>
          rw [if_neg (by simp)]
          obtain ⟨l₆, hb, hI'⟩ := q₄.2 rfl
          exact ⟨vs.length - (i + 1), by lia, i + 1, ys, l₆, rfl, by lia, by lia, hI', (hb.st S₇).forget Fg.nil, r₇⟩
    · have he : i = vs.length := by lia
      subst he
      refine T.sure (C := cx C H.objs.size) ((W H.objs.size).done [] ((s.heap.objs.size, listS ys) :: (C.L, Frm m) :: l') (fun o mm ll => o = none ∧ mm = [] ∧ ll = (s.heap.objs.size, listS ys) :: (C.L, Frm m) :: l') no (hS _ _ _ _ _ hI) ⟨rfl, rfl, rfl⟩) S₄ r₄ fun r s₂ m₂ l₂ S₅ r₅ q₂ => ?_
      obtain ⟨hr, rfl, rfl⟩ := q₂
      match r, hr with
      | none, _ => exact hRR _ _ s₂ [] _ (St.swapF S.above (S₅.perm (List.Perm.swap _ _ _))) r₅ (fin _ l' ys hI)
  exact codeAny_compStart_list loop ((Ws H.objs.size).self it [] _ { s with heap := h₁, toks := s.toks + ([] : List (Str × Value)).length } _ _ S₃ loop)
end
end
section
set_option Elab.async false
set_option linter.all false
set_option maxRecDepth 100000
set_option maxHeartbeats 1000000
section
variable {K : Frag} {C : Cx} {m : Loc} {l l' l₀ : Led} {E : Pv} {env : Env} {a b it d : Addr} {vs : List Value} {v : Value} {i : Nat}
variable {elt target iter : Expr} {ifs : List Expr} {scope : Scope} {pos : Pos} {cl : List (Str × Addr)}
noncomputable abbrev KV (Q : Pv) : Loc → Value → Led → Prop := fun m v l' => Q v m l'
noncomputable abbrev KVa (y : Str) (Q : Ps) : Loc → Value → Led → Prop := fun m v l' => ∃ m', Put y v m m' ∧ Q m' l'
noncomputable abbrev KCo (C : Cx) (elt target iter : Expr) (ifs : List Expr) (scope : Scope) (pos : Pos) (cl : List (Str × Addr)) (env : Env) (J : Loc → Value → Led → Prop) : Pv := fun it m l => TComp C m l it elt target iter ifs scope pos cl env (J m)
noncomputable abbrev KCi (C : Cx) (elt target iter : Expr) (ifs : List Expr) (scope : Scope) (pos : Pos) (cl : List (Str × Addr)) (env : Env) (J : Loc → Value → Led → Prop) (E : Pv) : Pv := fun x m l => TIt C m l x (KCo C elt target iter ifs scope pos cl env J) E
theorem e_comp {Q : Pv} (hclos : closureFor scope env = pure cl) (hkind : scope.kind = .function) (hnames : ∀ x ∈ scope.names, x.2 = .local → scope.names.lookup x.1 = some .local)
    (h : TV C m l (eval iter env) (KCi C elt target iter ifs scope pos cl env (KV Q) E) E)
    (hs : ∀ x, foldedSetIterable iter env x = pure x := by intro _; with_unfolding_all rfl) : TV C m l (eval (.ListComp elt [⟨target, iter, ifs, 0⟩] scope pos) env) Q E := fun s S => by
  rw [eval_ListComp]
  refine wpAny_comprehension_free (use := none) rfl hs hclos hkind hnames (T.next h S (Rel.refl s) fun x s₁ m₁ l₁ S₁ r₁ q₁ => T.next (q₁ x rfl) S₁ r₁ fun it s₂ m₂ l₂ S₂ r₂ q₂ => ?_)
  refine q₂ it rfl s₂ _ (fun acc C' => compPost (model C.prog C.w) C.A _ none _ acc C') S₂ fun L' acc s' mc l' S' r' hJ => ?_
  obtain ⟨o, ho, mv, hn, hx⟩ := S'.get _ (.head _)
  exact ⟨mv, ns_iff.mpr ⟨o, ho, hn⟩, fun h' hs' => Out.here ((r₂.trans r').trans (Rel.heap _ _)) (S'.dropBut fun b o hb hg => (hs'.2 b hb).trans hg) hJ⟩
theorem x_assignC {y : Str} {py spos : Pos} {Q : Flow → Loc → Led → Prop} (hsw : swapsWith (.ListComp elt [⟨target, iter, ifs, 0⟩] scope pos) (some (.Name y py)) spos.line env = pure true) (hclos : closureFor scope env = pure cl) (hkind : scope.kind = .function) (hnames : ∀ x ∈ scope.names, x.2 = .local → scope.names.lookup x.1 = some .local)
    (h : TV C m l (eval iter env) (KCi C elt target iter ifs scope pos cl env (KVa y (Q .next)) E) E)
    (hs : ∀ x, foldedSetIterable iter env x = pure x := by intro _; with_unfolding_all rfl) (hl : env.kindOf y = some .local := by with_unfolding_all rfl) (he : env.locals = C.L := by with_unfolding_all rfl)
    (hp : (env.scope.kind == .class || (env.scope.kind == .module && env.locals != env.globals)) = false := by with_unfolding_all rfl) :
    TF C m l (exec (.Assign [.Name y py] (.ListComp elt [⟨target, iter, ifs, 0⟩] scope pos) spos) env) Q E := fun s S => by
  rw [exec_Assign_Name_used _ _ _ _ hsw]
  refine wpAny_bind (wpAny_standAt (wpAny_bind ?_))
  show wpAny _ C.A (do let _ ← comprehension (.ListComp elt [⟨target, iter, ifs, 0⟩] scope pos) scope env _ (newList []) false (eval iter env) (some (assign (.Name y py) env))) _ _ s
  refine wpAny_bind (wpAny_mono (wpAny_comprehension_free (use := some (assign (.Name y py) env)) (Q := fun _ s' => Out C.base C.L s (Q .next) s') rfl hs hclos hkind hnames
    (T.next h S (Rel.refl s) fun x s₁ m₁ l₁ S₁ r₁ q₁ => T.next (q₁ x rfl) S₁ r₁ fun it s₂ m₂ l₂ S₂ r₂ q₂ => ?_)) (fun _ s' o => wpAny_pure (wpAny_pure o)) fun _ _ o => o)
  refine q₂ it rfl s₂ _ (fun acc C' => compPost (model C.prog C.w) C.A _ (some (assign (.Name y py) env)) _ acc C') S₂ fun L' acc s' mc l' S' r' hJ => ?_
  obtain ⟨m', hP, hq⟩ := hJ
  have st : TA C m₂ ((L', Frm mc) :: l') (.Name y py) env (.ref acc) (fun mm ll => mm = m' ∧ ll = (L', Frm mc) :: l') no := a_name (store hP ⟨rfl, rfl⟩ hl he hp)
  refine T.sure (st (.ref acc) rfl) S' r' fun _ s₃ m₃ l₃ S₃ r₃ q₃ => ?_
  obtain ⟨rfl, rfl⟩ := q₃
  obtain ⟨o, ho, mv, hn, hx⟩ := S₃.get _ (.head _)
  exact ⟨mv, ns_iff.mpr ⟨o, ho, hn⟩, fun h' hs' => Out.here ((r₂.trans r₃).trans (Rel.heap _ _)) (S₃.dropBut fun b o hb hg => (hs'.2 b hb).trans hg) hq⟩
theorem comp_T {x : Value} {sh : Nat → Shape} {Sup : Led → Prop} {J : Loc → Value → Led → Prop} (hit : ∀ Q' : Pv, (∀ it, Q' (.ref it) m ((it, sh 0) :: l)) → TIt C m l x Q' E)
    (W : ∀ it L', TIter (cx C L') it sh vs Sup) (Ws : ∀ L', TSelf (cx C L') (sh 0)) (hz : vs.length ≤ 16000000)
    (I : Nat → List Value → Led → Prop) (hb : Sb l₀ l) (hS : ∀ i ys l p q, I i ys l → Sup (p :: q :: l)) (h0 : I 0 [] l₀)
    (turn : ∀ it L' P acc i v ys l', vs[i]? = some v → I i ys l' → ys.length ≤ i →
      TA (cx C L') [] ((it, P) :: (acc, listS ys) :: (C.L, Frm m) :: l') target (compEnvC scope cl L' env) v
        (KC1 C m it P acc ys (I (i + 1)) (cx C L') (compEnvC scope cl L' env) elt ifs) no)
    (fin : ∀ acc l' ys, I vs.length ys l' → J m (.ref acc) ((acc, listS ys) :: l'))
    (hcell0 : (scope.names.all fun x => x.2 != .cell) = true := by rfl) (hkind : scope.kind = .function := by rfl) (ht : ∀ it v, letOwnedTupleGo target (.ref it) v = pure () := by intro _ _; with_unfolding_all rfl) :
    TIt C m l x (KCo C elt target iter ifs scope pos cl env J) E := by
  refine hit _ fun it => ?_
  have key : TComp C m ((it, sh 0) :: l₀) (.ref it) elt target iter ifs scope pos cl env (J m) := comp_by (W it) Ws hz (fun x hx => by simpa using List.all_eq_true.mp hcell0 x hx) hkind I hS h0 (turn it) fin (ht it)
  intro vit hv s E RR S hRR
  exact key vit hv s E RR ((Sb.take Ext.one hb).st S) hRR
theorem comp_list {J : Loc → Value → Led → Prop} (hm : (a, listS vs) ∈ l) (hh : C.A.handled = none) (hz : vs.length ≤ 16000000)
    (I : Nat → List Value → Led → Prop) (hb : Sb l₀ l) (hS : ∀ i ys l, I i ys l → (a, listS vs) ∈ l) (h0 : I 0 [] l₀)
    (turn : ∀ it L' P acc i v ys l', vs[i]? = some v → I i ys l' → ys.length ≤ i →
      TA (cx C L') [] ((it, P) :: (acc, listS ys) :: (C.L, Frm m) :: l') target (compEnvC scope cl L' env) v
        (KC1 C m it P acc ys (I (i + 1)) (cx C L') (compEnvC scope cl L' env) elt ifs) no)
    (fin : ∀ acc l' ys, I vs.length ys l' → J m (.ref acc) ((acc, listS ys) :: l'))
    (hcell0 : (scope.names.all fun x => x.2 != .cell) = true := by rfl) (hkind : scope.kind = .function := by rfl) (ht : ∀ it v, letOwnedTupleGo target (.ref it) v = pure () := by intro _ _; with_unfolding_all rfl) :
    TIt C m l (.ref a) (KCo C elt target iter ifs scope pos cl env J) E :=
  comp_T (sh := litS a) (fun Q' h => it_list hm h) (fun it L' => iter_list (C := cx C L') hh) (fun L' => self_list) hz I hb (fun i ys l p q h => .tail _ (.tail _ (hS i ys l h))) h0 turn fin hcell0 hkind ht
theorem comp_values {kvs : List (Int × Value)} {ep : Nat} {vw : Addr} {J : Loc → Value → Led → Prop} (hvw : (vw, viewS d) ∈ l) (hm : (d, dictE ep kvs) ∈ l) (hh : C.A.handled = none) (hz : kvs.length ≤ 16000000)
    (I : Nat → List Value → Led → Prop) (hb : Sb l₀ l) (hS : ∀ i ys l, I i ys l → (d, dictE ep kvs) ∈ l) (h0 : I 0 [] l₀)
    (turn : ∀ it L' P acc i v ys l', (kvs.map (·.2))[i]? = some v → I i ys l' → ys.length ≤ i →
      TA (cx C L') [] ((it, P) :: (acc, listS ys) :: (C.L, Frm m) :: l') target (compEnvC scope cl L' env) v
        (KC1 C m it P acc ys (I (i + 1)) (cx C L') (compEnvC scope cl L' env) elt ifs) no)
    (fin : ∀ acc l' ys, I kvs.length ys l' → J m (.ref acc) ((acc, listS ys) :: l'))
    (hcell0 : (scope.names.all fun x => x.2 != .cell) = true := by rfl) (hkind : scope.kind = .function := by rfl) (ht : ∀ it v, letOwnedTupleGo target (.ref it) v = pure () := by intro _ _; with_unfolding_all rfl) :
    TIt C m l (.ref vw) (KCo C elt target iter ifs scope pos cl env J) E :=
  comp_T (sh := vitS d kvs.length ep) (vs := kvs.map (·.2)) (fun Q' h => it_values hvw hm h) (fun it L' => iter_values (C := cx C L') hh) (fun L' => self_vals) (by simpa using hz) I hb (fun i ys l p q h => .tail _ (.tail _ (hS i ys l h))) h0 turn (by simpa using fin) hcell0 hkind ht
theorem comp_range {x y c : Int} {J : Loc → Value → Led → Prop} (hm : (a, rangeS x y c) ∈ l) (hc : 0 < c) (hx : x.natAbs ≤ 1000000) (hy : y.natAbs ≤ 1000000) (hc' : c ≤ 1000000) (hh : C.A.handled = none)
    (I : Nat → List Value → Led → Prop) (hb : Sb l₀ l) (h0 : I 0 [] l₀)
    (turn : ∀ it L' P acc i k ys l', (rI x y c)[i]? = some k → I i ys l' → ys.length ≤ i →
      TA (cx C L') [] ((it, P) :: (acc, listS ys) :: (C.L, Frm m) :: l') target (compEnvC scope cl L' env) (.int k 0)
        (KC1 C m it P acc ys (I (i + 1)) (cx C L') (compEnvC scope cl L' env) elt ifs) no)
    (fin : ∀ acc l' ys, I (rI x y c).length ys l' → J m (.ref acc) ((acc, listS ys) :: l'))
    (hcell0 : (scope.names.all fun x => x.2 != .cell) = true := by rfl) (hkind : scope.kind = .function := by rfl) (ht : ∀ it v, letOwnedTupleGo target (.ref it) v = pure () := by intro _ _; with_unfolding_all rfl) :
    TIt C m l (.ref a) (KCo C elt target iter ifs scope pos cl env J) E := by
  have hn := rsize_le hc (by lia : x.natAbs ≤ 1000000000) (by lia : y.natAbs ≤ 1000000000)
  have e : ((Builtin.Range.rangeSize x y c).toNat : Int) = Builtin.Range.rangeSize x y c := Int.toNat_of_nonneg hn.1
  have el : rInts x (Builtin.Range.rangeSize x y c).toNat c = iL (rI x y c) := by unfold rInts iL rI; simp
  have hsm : (Builtin.Range.rangeSize x y c) ≤ 2000000 := by
    unfold Builtin.Range.rangeSize
    rw [if_pos hc]
    split
    · have h1 : (y - x - 1) / c ≤ y - x - 1 := Int.ediv_le_self _ (by lia)
      lia
    · lia
  refine comp_T (sh := fun i => ritS (x + i * c) (((Builtin.Range.rangeSize x y c).toNat : Int) - i) c) (vs := iL (rI x y c)) (Sup := fun _ => True) (fun Q' h => it_range hm (range_small hc (by lia) (by lia) (by lia)) fun it => ?_) (fun it L' => by rw [← el]; exact iter_range (C := cx C L') hh) (fun L' => self_range) (by rw [iL_len]; unfold rI; simp; lia) I hb (fun _ _ _ _ _ _ => trivial) h0 (fun it L' P acc i v ys l' hv hi hy => ?_) (by rw [iL_len]; exact fin) hcell0 hkind ht
  · have := h it
    simpa [e] using this
  · unfold iL at hv
    simp only [List.getElem?_map, Option.map_eq_some_iff] at hv
    obtain ⟨k, h1, rfl⟩ := hv
    exact turn it L' P acc i k ys l' h1 hi hy
/-! ## cells -/
noncomputable def cellS (ov : Option Value) : Shape := fun o => ∃ v, o.data = .cell v ∧ v.map un = ov
theorem e_cell {x : Str} {pos : Pos} {c : Addr} {v : Value} {Q : Pv} (hl : env.kindOf x = some .cell) (hc : env.cells.lookup x = some c) (hm : (c, cellS (some v)) ∈ l) (h : Q v m l) (hk : env.scope.kind = .function := by with_unfolding_all rfl)
    (hd : (x == ("__debug__" : Str)) = false := by decide) : TV C m l (eval (.Name x pos) env) Q E := fun s S => by
  obtain ⟨o, ho, w, hd', hw⟩ := S.get _ hm
  obtain ⟨u, rfl, rfl⟩ := Option.map_eq_some_iff.mp hw
  exact wpAny_Name (wpAny_loadName_cell hk hl hc ⟨o, ho, hd'⟩ (Out.here (Rel.refl s) S h)) hd
theorem store_cell {x : Str} {c : Addr} {v : Value} {ov : Option Value} {Q : Ps} (hl : env.kindOf x = some .cell) (hc : env.cells.lookup x = some c) (U : Upd c (cellS ov) (cellS (some v)) l l') (h : Q m l') (hk : env.scope.kind = .function := by with_unfolding_all rfl) : TS C m l env x v Q E := by
  rintro va rfl s S
  obtain ⟨o, ho, w, hd, hw⟩ := S.get _ U.mem
  refine wpAny_storeName_cell hk hl hc ⟨o, ho, hd⟩ fun h' hv hs => ?_
  obtain ⟨o', ho', hd'⟩ := hv
  exact Out.here (Rel.heap _ _) (S.upd U hs ho' ⟨_, hd', rfl⟩) h
end
/-! ### entering a def with cells -/
theorem bindL_eq (k : Str → Option NameKind) : ∀ (b : List (Str × Value)) (m : Str → Option Value) (x : Str), bindL k b m x = (((b.filter fun p => decide (k p.1 = some .local)).reverse.lookup x).or (m x))
  | [], m, x => by simp [bindL]
  | (n, v) :: r, m, x => by
    unfold bindL
    rw [bindL_eq k r]
    by_cases h : k n = some .local
    · simp only [h, if_true, decide_true, List.filter_cons, List.reverse_cons, List.lookup_append]
      rw [Option.or_assoc]
      congr 1
      by_cases hx : x = n
      · subst hx; simp [List.lookup_cons]
      · have : (x == n) = false := by simpa using hx
        simp [List.lookup_cons, hx, this]
    · simp [h, List.filter_cons]
theorem bindC_eq (k : Str → Option NameKind) : ∀ (b : List (Str × Value)) (m : Str → Option Value) (x : Str), bindC k b m x = (((b.filter fun p => !decide (k p.1 = some .local)).reverse.lookup x).or (m x))
  | [], m, x => by simp [bindC]
  | (n, v) :: r, m, x => by
    unfold bindC
    rw [bindC_eq k r]
    by_cases h : k n = some .local
    · simp [h, List.filter_cons]
    · simp only [h, if_false, decide_false, Bool.not_false, if_true, List.filter_cons, List.reverse_cons, List.lookup_append]
      rw [Option.or_assoc]
      congr 1
      by_cases hx : x = n
      · subst hx; simp [List.lookup_cons]
      · have : (x == n) = false := by simpa using hx
        simp [List.lookup_cons, hx, this]
theorem filter_unB (p : Str → Bool) (b : List (Str × Value)) : unB (b.filter fun x => p x.1) = (unB b).filter fun x => p x.1 := by
  unfold unB
  rw [List.filter_map]
  rfl
end
section
set_option Elab.async false
set_option linter.all false
set_option maxRecDepth 100000
set_option maxHeartbeats 1000000
/-! ## entering a def with cells -/
noncomputable def cellLed (names : List (Str × NameKind)) (bs : List (Str × Value)) (n : Nat) : Led := (cellsFrom n names []).map fun p => (p.2, cellS ((bs.filter fun q => !decide (names.lookup q.1 = some .local)).reverse.lookup p.1))
theorem cells_names : ∀ (names : List (Str × NameKind)) (n k : Nat) (acc acc' : List (Str × Addr)), acc.map (·.1) = acc'.map (·.1) → (cellsFrom n names acc).map (·.1) = (cellsFrom k names acc').map (·.1)
  | [], _, _, _, _, h => h
  | (x, kd) :: r, n, k, acc, acc', h => by
    unfold cellsFrom
    by_cases hk : (kd == NameKind.cell) = true
    · rw [if_pos hk, if_pos hk]; exact cells_names r _ _ _ _ (by simp [h])
    · rw [if_neg hk, if_neg hk]; exact cells_names r _ _ _ _ h
theorem lookup_of_mem {α : Type} : ∀ {cs : List (Str × α)}, (cs.map (·.1)).Nodup → ∀ {n : Str} {c : α}, (n, c) ∈ cs → cs.lookup n = some c
  | [], _, n, c, h => nomatch h
  | (x, d) :: r, hn, n, c, h => by
    simp only [List.map_cons, List.nodup_cons] at hn
    rw [List.lookup_cons]
    rcases List.mem_cons.mp h with e | h
    · cases e; simp
    · have : (n == x) = false := by
        have : n ≠ x := fun e => hn.1 (e ▸ List.mem_map_of_mem (f := (·.1)) h)
        simpa using this
      rw [this]; exact lookup_of_mem hn.2 h
theorem St.more {base : Heap} {L c : Addr} {m : Loc} {l : Led} {h : Heap} {P : Shape} (S : St base L m l h) {o : Obj} (ho : h.get? c = some o) (hp : P o) (hb : base.get? c = none) (hL : c ≠ L) (hl : c ∉ l.map (·.1)) : St base L m ((c, P) :: l) h := by
  refine ⟨S.keep, S.above, S.ns, fun p hp' => ?_, fun p hp' => ?_, ?_⟩
  · rcases List.mem_cons.mp hp' with rfl | hp'
    · exact ⟨o, ho, hp⟩
    · exact S.get p hp'
  · rcases List.mem_cons.mp hp' with rfl | hp'
    · exact hb
    · exact S.fresh p hp'
  · have h0 := S.nd
    simp only [List.map_cons, List.nodup_cons, List.mem_cons, not_or] at h0 ⊢
    exact ⟨⟨Ne.symm hL, h0.1⟩, hl, h0.2⟩
theorem St.cells {base : Heap} {L : Addr} {m : Loc} {l : Led} {h : Heap} (f : Str × Addr → Shape) (S : St base L m l h) : ∀ (cs : List (Str × Addr)), (∀ p ∈ cs, (∃ o, h.get? p.2 = some o ∧ f p o) ∧ base.get? p.2 = none ∧ p.2 ≠ L ∧ p.2 ∉ l.map (·.1)) → (cs.Pairwise fun x y => x.2 ≠ y.2) →
    St base L m (cs.map (fun p => (p.2, f p)) ++ l) h
  | [], _, _ => S
  | p :: r, hp, ha => by
    have ih := S.cells f r (fun q hq => hp q (.tail _ hq)) (List.pairwise_cons.mp ha).2
    obtain ⟨⟨o, h1, h2⟩, h3, h4, h5⟩ := hp p (.head _)
    refine ih.more h1 h2 h3 h4 fun hm => ?_
    rw [List.map_append, List.mem_append, List.map_map] at hm
    rcases hm with hm | hm
    · obtain ⟨q, hq, e⟩ := List.mem_map.mp hm
      exact (List.pairwise_cons.mp ha).1 q hq e.symm
    · exact h5 hm
theorem enterCC {C : Cx} {m : Loc} {l : Led} {E : Pv} {f : Addr} {fd : FuncData} {body : List Stmt} {o : Obj} {vs : List Value} {kw bs : List (Str × Value)} {m' : Loc} {Q : Pv}
    (ho : C.base.get? f = some o) (hd : o.data = .func fd) (hbody : fd.body = .stmts body) (hclo : fd.closure = []) (hcd : C.base.CodeRec fd.code fd.qualname) (hlim : C.base.NoLimit) (hroom : C.A.depth < recursionLimit)
    (hb : ∀ vvs vkw, vvs.map un = vs → unK vkw = kw → T { C with A := C.A.in1 } unB m l (bindArgs fd ⟨vvs, vkw⟩) (fun b m₁ l₁ => b = bs ∧ m₁ = m ∧
      ∀ L', TF (sub C (callEnvC fd L' f)) m' (cellLed fd.scope.names bs (L' + 1) ++ ((C.L, Frm m) :: l₁)) (execs body (callEnvC fd L' f)) (RetQ C m Q) no) E)
    (hm : m' = (bs.filter fun p => decide (fd.scope.names.lookup p.1 = some .local)).reverse) (hnd : ((cellsFrom 0 fd.scope.names []).map (·.1)).Nodup)
    (hloc0 : (bs.all fun x => decide (fd.scope.names.lookup x.1 = some .local) || (decide (fd.scope.names.lookup x.1 = some .cell) && (((cellsFrom 0 fd.scope.names []).map (·.1)).contains x.1))) = true)
    (hco : fd.scope.isCoroutine = false) (hgen : fd.scope.isGenerator = false) (hk : fd.scope.kind = .function) : TCd C m l (.ref f) vs kw Q E := by
  intro vf vvs vkw hf hvs hkw s S
  obtain rfl := un_ref hf
  have hnames : ∀ n, (cellsFrom n fd.scope.names []).map (·.1) = (cellsFrom 0 fd.scope.names []).map (·.1) := fun n => cells_names _ _ _ _ _ rfl
  refine codeAny_call_function hroom (S.keep _ _ ho) hd hco hgen hbody (hcd.keeps S.keep) ?_
  refine T.next (C := { C with A := C.A.in1 }) (hb vvs vkw hvs hkw) S (Rel.refl s) fun b s₁ m₁ l₁ S₁ r₁ q₁ => ?_
  obtain ⟨hb', rfl, q₁⟩ := q₁
  rw [hclo]
  have hloc' : ∀ x ∈ b, fd.scope.names.lookup x.1 = some .local ∨ (fd.scope.names.lookup x.1 = some .cell ∧ ((cellsFrom (s₁.heap.objs.size + 1) fd.scope.names []).lookup x.1).isSome = true) := fun x hx => by
    have hx' : (x.1, un x.2) ∈ bs := hb' ▸ List.mem_map_of_mem (f := fun p : Str × Value => (p.1, un p.2)) hx
    have := List.all_eq_true.mp hloc0 _ hx'
    simp only [Bool.or_eq_true, Bool.and_eq_true, decide_eq_true_eq] at this
    rcases this with h | ⟨h, h2⟩
    · exact .inl h
    · refine .inr ⟨h, ?_⟩
      rw [← hnames (s₁.heap.objs.size + 1)] at h2
      have h2 : x.1 ∈ (cellsFrom (s₁.heap.objs.size + 1) fd.scope.names []).map (·.1) := by simpa using h2
      obtain ⟨q, hq, e⟩ := List.mem_map.mp h2
      have hnd' : ((cellsFrom (s₁.heap.objs.size + 1) fd.scope.names []).map (·.1)).Nodup := by rw [hnames]; exact hnd
      rw [← e, lookup_of_mem hnd' (n := q.1) (c := q.2) hq]; rfl
  refine wpAny_newFunctionEnv_cells hk hloc' fun env he s' x => ?_
  subst he
  refine ⟨(hlim.keeps S₁.keep).keeps x.toInCall.keep, codeAny_func ?_⟩
  obtain ⟨h', tk, hs'⟩ := x.toInCall.same
  have hkeep : ∀ b o, s₁.heap.get? b = some o → h'.get? b = some o := fun b o e => by have := x.toInCall.keep b o e; rw [hs'] at this; exact this
  have hns := x.toInCall.ns
  rw [hs'] at hns
  have S₂ : St C.base s₁.heap.objs.size m' ((C.L, Frm m₁) :: l₁) h' := S₁.enter (Nat.le_refl _) hkeep hns (fun y v e => by
    rw [bindL_eq, Option.or_none, lookup_rev_un]
    rw [hm, ← hb'] at e
    show (unB (b.filter fun x => decide (fd.scope.names.lookup x.1 = some .local))).reverse.lookup y = some v
    rw [filter_unB (fun y => decide (fd.scope.names.lookup y = some .local)) b]
    exact e)
  have S₃ : St C.base s₁.heap.objs.size m' (cellLed fd.scope.names bs (s₁.heap.objs.size + 1) ++ ((C.L, Frm m₁) :: l₁)) h' := by
    refine St.cells (fun p => cellS ((bs.filter fun q => !decide (fd.scope.names.lookup q.1 = some .local)).reverse.lookup p.1)) S₂ _ (fun p hp => ?_) x.apart
    have hnd' : ((cellsFrom (s₁.heap.objs.size + 1) fd.scope.names []).map (·.1)).Nodup := by rw [hnames]; exact hnd
    obtain ⟨oc, hoc, hdc⟩ := x.cell p.1 p.2 (lookup_of_mem hnd' hp)
    have hab : s₁.heap.objs.size < p.2 := x.above p.1 p.2 hp
    rw [hs'] at hoc
    have hnone : s₁.heap.get? p.2 = none := Heap.get?_none_of_le (Nat.le_of_lt hab)
    refine ⟨⟨oc, hoc, _, hdc, ?_⟩, ?_, Nat.ne_of_gt hab, fun hm => ?_⟩
    · rw [bindC_eq, Option.or_none, lookup_rev_un, ← hb']
      rw [← filter_unB (fun y => !decide (fd.scope.names.lookup y = some .local)) b]
      try rfl
    · cases q : C.base.get? p.2 with
      | none => rfl
      | some o => have := S₁.keep _ _ q; rw [hnone] at this; cases this
    · rcases List.mem_map.mp hm with ⟨q, hq, e⟩
      rcases List.mem_cons.mp hq with rfl | hq
      · obtain ⟨mv, hn, _⟩ := S₁.ns
        obtain ⟨o, ho, _⟩ := ns_iff.mp hn
        simp only at e
        rw [← e, ho] at hnone; cases hnone
      · obtain ⟨o, ho, _⟩ := S₁.get q hq
        rw [← e, ho] at hnone; cases hnone
  have key := T.next (q₁ s₁.heap.objs.size) (s := s) (s₁ := s') (by rw [hs']; exact S₃) (by rw [hs']; exact r₁.trans (Rel.of s₁ h' tk))
    (K := fun fl s' => Out C.base C.L s (Q (un (match fl with | .ret v => v | _ => .none))) s') (fun fl s' m₂ l₂ S₃ r₃ q₃ => by
      obtain ⟨l₃, hsub, hq⟩ := q₃
      cases fl <;> exact Out.here r₃ (St.leave S.above (hsub.st S₃)) hq)
  exact wpAny_mono key (fun _ _ x => x) fun _ _ x => by obtain ⟨_, _, _, _, hf⟩ := x; exact hf.elim
/-! ### a def that may raise -/
noncomputable def RaiseQ (C : Cx) (m : Loc) (E : Pv) : Pv := fun x _ l' => ∃ e cls l₁, x = .ref e ∧ Sb ((e, excN cls) :: (C.L, Frm m) :: l₁) l' ∧ Fra C l₁ ∧ ∀ t, E (.ref e) m ((e, excT cls t) :: (t, tbS) :: l₁)
theorem enterE {C : Cx} {m : Loc} {l : Led} {E : Pv} {f : Addr} {fd : FuncData} {body : List Stmt} {o : Obj} {vs : List Value} {kw bs : List (Str × Value)} {m' : Loc} {Q : Pv}
    (ho : C.base.get? f = some o) (hd : o.data = .func fd) (hbody : fd.body = .stmts body) (hclo : fd.closure = []) (hcd : C.base.CodeRec fd.code fd.qualname) (hlim : C.base.NoLimit) (hroom : C.A.depth < recursionLimit)
    (hb : ∀ vvs vkw, vvs.map un = vs → unK vkw = kw → T { C with A := C.A.in1 } unB m l (bindArgs fd ⟨vvs, vkw⟩) (fun b m₁ l₁ => b = bs ∧ m₁ = m ∧
      ∀ L', TF (sub C (callEnv fd L' f)) m' ((C.L, Frm m) :: l₁) (execs body (callEnv fd L' f)) (RetQ C m Q) (RaiseQ C m E)) E)
    (hm : m' = bs.reverse) (hcell0 : (fd.scope.names.all fun x => x.2 != .cell) = true) (hloc0 : (bs.all fun x => decide (fd.scope.names.lookup x.1 = some .local)) = true)
    (hco : fd.scope.isCoroutine = false) (hgen : fd.scope.isGenerator = false) (hk : fd.scope.kind = .function) : TCd C m l (.ref f) vs kw Q E := by
  intro vf vvs vkw hf hvs hkw s S
  obtain rfl := un_ref hf
  have hcell : ∀ x ∈ fd.scope.names, x.2 ≠ .cell := fun x hx => by simpa using List.all_eq_true.mp hcell0 x hx
  have hloc : ∀ x ∈ bs, fd.scope.names.lookup x.1 = some .local := fun x hx => of_decide_eq_true (List.all_eq_true.mp hloc0 x hx)
  refine codeAny_call_function hroom (S.keep _ _ ho) hd hco hgen hbody (hcd.keeps S.keep) ?_
  refine T.next (C := { C with A := C.A.in1 }) (hb vvs vkw hvs hkw) S (Rel.refl s) fun b s₁ m₁ l₁ S₁ r₁ q₁ => ?_
  obtain ⟨hb', rfl, q₁⟩ := q₁
  have hloc' : ∀ x ∈ b, fd.scope.names.lookup x.1 = some .local := fun x hx => by
    have : (x.1, un x.2) ∈ bs := hb' ▸ List.mem_map_of_mem (f := fun p : Str × Value => (p.1, un p.2)) hx
    exact hloc (x.1, un x.2) this
  refine wpAny_newFunctionEnv hcell hloc' (fun h' hns hsb => ⟨?_, codeAny_func ?_⟩) hk
  · exact (hlim.keeps S₁.keep).fresh _ hsb
  · have hkeep : ∀ b o, s₁.heap.get? b = some o → h'.get? b = some o := fun b o e => hsb.extBut b o (Nat.ne_of_lt (Heap.lt_size e)) (Heap.get?_push_of_some _ e)
    have S₂ : St C.base s₁.heap.objs.size m' ((C.L, Frm m₁) :: l₁) h' := S₁.enter (Nat.le_refl _) hkeep hns (fun x v e => by rw [lookup_rev_un, hb', ← hm]; exact e)
    refine wpAny_mono (q₁ s₁.heap.objs.size { s₁ with heap := h', toks := s₁.toks + b.length } S₂) (fun fl s' o => ?_) (fun x s' o => ?_)
    · obtain ⟨hr, m₂, l₂, S₃, l₃, hsub, hq⟩ := o
      cases fl <;> exact Out.here ((r₁.trans (Rel.of s₁ _ _)).trans hr) (St.leave S.above (hsub.st S₃)) hq
    · obtain ⟨hr, m₂, l₂, S₃, e, cls, l₃, rfl, hsub, F, hE⟩ := o
      unfold leaving
      refine wpAny_bind ?_
      have FH : FraH (sub C (callEnv fd s₁.heap.objs.size f)) (callEnv fd s₁.heap.objs.size f) ((C.L, Frm m₁) :: l₃) := F.sub rfl (by show fd.scope.kind ≠ .module; rw [hk]; intro h; cases h) (fun p hp => .tail _ hp) (.head _)
      refine note_new FH (hsub.st S₃) fun h₂ t S₄ => ?_
      have S₅ := S₄.perm (l' := (C.L, Frm m₁) :: (e, excT cls t) :: (t, tbS) :: l₃) (List.perm_middle (l₁ := [(e, excT cls t), (t, tbS)]) (l₂ := l₃))
      exact Out.here (((r₁.trans (Rel.of s₁ _ _)).trans hr).trans (Rel.heap _ _)) (St.leave S.above S₅) (hE t)
end
section
set_option Elab.async false
set_option linter.all false
set_option maxRecDepth 100000
set_option maxHeartbeats 1000000
theorem Ok.cx {K : Frag} {C : Cx} (O : Ok K C) (L : Addr) : Ok K (cx C L) := ⟨O.X, O.lim, O.g, O.b, O.sm⟩
section
variable {K : Frag} {C : Cx} {m : Loc} {l l' l₀ : Led} {E : Pv} {env : Env} {a b it d : Addr} {vs : List Value} {v : Value} {i : Nat}
theorem e_jstr1 {x : Expr} {pos : Pos} {Q : Pv} (h : TV C m l (eval x env) Q E) : TV C m l (eval (.JoinedStr [x] pos) env) Q E := fun s S => wpAny_JoinedStr_one (h s S)
theorem x_raise {Cl : Addr} {bm : List Value} {B newId initId : String} {x : Str} {np cpos pos : Pos} {e₀ : Expr} {rest : List Expr} {Q : Flow → Loc → Led → Prop} {name : Str} {scope : Scope} {fa : Addr} {cd : Value} (O : Ok K C) (FB : ExcBaseFacts B newId initId bm)
    (hO : ∀ mg, C.base.Ns mainGlobals mg → OwnCls x Cl bm newId mg C.base) (hh : C.A.handled = none) (henv : env = envOf name scope C.L fa cd)
    (h : TL C m l (spliced (backTo cpos (starEach (e₀ :: rest) env))) (fun vs m l => vs.length ≤ 16000000 ∧ ∀ e, E (.ref e) m ((e, excN (.ref Cl)) :: l)) E)
    (he : starEach (e₀ :: rest) env = (false, eval e₀ env) :: starEach rest env := by with_unfolding_all rfl)
    (hplain : (backTo cpos (starEach rest env)).any (·.1) = false := by with_unfolding_all rfl)
    (hk : scope.kind = .function := by with_unfolding_all rfl) (hx : env.kindOf x = some .globalImplicit := by with_unfolding_all rfl) (hd : (x == ("__debug__" : Str)) = false := by decide) :
    TF C m l (exec (.Raise (some (.Call (.Name x np) (e₀ :: rest) [] cpos)) none pos) env) Q E := fun s S => by
  subst henv
  obtain ⟨mg, G⟩ := O.g
  obtain ⟨mv, hns, hxm⟩ := S.ns
  refine Raise_own (F := (⟨hns, S.keep, S.above⟩ : Fr C.base C.L s.heap mv)) G (hO mg G) FB hh (T.next h S (Rel.refl s) fun vs s₂ m₂ l₂ S₂ r₂ q₂ => ?_) he hplain hk hx hd
  refine ⟨by have := q₂.1; rw [List.length_map] at this; rw [sizeLine_eq]; lia, S₂.keep, fun h' e hm => ?_⟩
  obtain ⟨t, ht, _, _⟩ := hm.there
  exact Out.here (r₂.trans (Rel.heap _ _)) (S₂.new (P := excN (.ref Cl)) hm.new hm.keeps ht ⟨rfl, _, rfl, rfl⟩) (q₂.2 e)
end
end
section
set_option Elab.async false
set_option linter.all false
set_option maxRecDepth 100000
set_option maxHeartbeats 1000000
/-! ## data laid as lists, tuples, ints -/
mutual
inductive RdL (l : Led) : Value → Dat → Prop
  | none : RdL l .none .none
  | int (i : Int) : RdL l (.int i 0) (.int i)
  | list {a : Addr} {vs : List Value} {ds : List Dat} : (a, listS vs) ∈ l → RdsL l vs ds → RdL l (.ref a) (.list ds)
  | tup {a : Addr} {vs : List Value} {ds : List Dat} : (a, tupS vs) ∈ l → RdsL l vs ds → RdL l (.ref a) (.tuple ds)
inductive RdsL (l : Led) : List Value → List Dat → Prop
  | nil : RdsL l [] []
  | cons {v : Value} {vs : List Value} {d : Dat} {ds : List Dat} : RdL l v d → RdsL l vs ds → RdsL l (v :: vs) (d :: ds)
end
mutual
theorem RdL.mono {l l' : Led} (hm : ∀ p ∈ l, p ∈ l') : ∀ {v : Value} {d : Dat}, RdL l v d → RdL l' v d
  | _, _, .none => .none
  | _, _, .int i => .int i
  | _, _, .list h r => .list (hm _ h) (RdsL.mono hm r)
  | _, _, .tup h r => .tup (hm _ h) (RdsL.mono hm r)
theorem RdsL.mono {l l' : Led} (hm : ∀ p ∈ l, p ∈ l') : ∀ {v : List Value} {d : List Dat}, RdsL l v d → RdsL l' v d
  | _, _, .nil => .nil
  | _, _, .cons h r => .cons (RdL.mono hm h) (RdsL.mono hm r)
end
mutual
theorem RdL.reads {base : Heap} {L : Addr} {m : Loc} {l : Led} {h : Heap} (S : St base L m l h) : ∀ {v : Value} {d : Dat}, RdL l v d → ∀ {u : Value}, un u = v → ∃ as, Reads h u (kqdP d) as
  | _, _, .none, u, hu => by obtain rfl := un_none hu; exact ⟨_, .none⟩
  | _, _, .int i, u, hu => by obtain ⟨t, rfl⟩ := un_int hu; exact ⟨_, .int i t⟩
  | _, _, .list hm r, u, hu => by
    obtain rfl := un_ref hu
    obtain ⟨o, ho, items, n, rfl, hi⟩ := S.get _ hm
    obtain ⟨as, q⟩ := RdsL.reads S r hi
    rw [kqdP]
    exact ⟨_, .list ho rfl rfl q⟩
  | _, _, .tup hm r, u, hu => by
    obtain rfl := un_ref hu
    obtain ⟨o, ho, items, n, rfl, hi⟩ := S.get _ hm
    obtain ⟨as, q⟩ := RdsL.reads S r hi
    rw [kqdP]
    exact ⟨_, .tuple ho rfl rfl q⟩
theorem RdsL.reads {base : Heap} {L : Addr} {m : Loc} {l : Led} {h : Heap} (S : St base L m l h) : ∀ {v : List Value} {d : List Dat}, RdsL l v d → ∀ {u : List Value}, u.map un = v → ∃ as, ReadsAll h u (kqdPs d) as
  | _, _, .nil, u, hu => by
    obtain rfl : u = [] := by simpa using hu
    exact ⟨_, .nil⟩
  | _, _, .cons hd r, u, hu => by
    cases u with
    | nil => cases hu
    | cons x u =>
      simp only [List.map_cons, List.cons.injEq] at hu
      obtain ⟨as, q⟩ := RdL.reads S hd hu.1
      obtain ⟨bs, p⟩ := RdsL.reads S r hu.2
      rw [kqdPs]
      exact ⟨_, .cons q p⟩
end
theorem rds_ints {l : Led} : ∀ ns : List Int, RdsL l (iL ns) (ns.map Dat.int)
  | [] => .nil
  | n :: ns => .cons (.int n) (rds_ints ns)
theorem rd_ints {l : Led} {a : Addr} {ns : List Int} (h : (a, listS (iL ns)) ∈ l) : RdL l (.ref a) (.list (ns.map Dat.int)) := .list h (rds_ints ns)
theorem ok_ints (ns : List Int) : kqdOk 40 (.list (ns.map Dat.int)) = true := by
  simp only [kqdOk, List.all_map, List.all_eq_true]
  intro x _
  rfl
theorem dat_ints {ns ms : List Int} : ns.map Dat.int = ms.map Dat.int ↔ ns = ms := by
  constructor
  · intro h
    induction ns generalizing ms with
    | nil => cases ms with
      | nil => rfl
      | cons _ _ => cases h
    | cons n ns ih => cases ms with
      | nil => cases h
      | cons m ms =>
        simp only [List.map_cons, List.cons.injEq, Dat.int.injEq] at h
        rw [h.1, ih h.2]
  · rintro rfl; rfl
section
variable {K : Frag} {C : Cx} {m : Loc} {l l' l₀ : Led} {E : Pv} {env : Env} {a b it d : Addr} {vs : List Value} {v : Value} {i : Nat} {ns ms : List Int} {Q : Pv}
theorem c_eqD {va vb : Value} {da db : Dat} (ra : RdL l va da) (rb : RdL l vb db) (oa : kqdOk 40 da = true) (ob : kqdOk 40 db = true) (hu : C.A.units + 64 < cLine) (h1 : da = db → Q (.bool true) m l) (h2 : da ≠ db → Q (.bool false) m l) : TC C m l .Eq va vb Q E := fun x y hx hy s S => by
  obtain ⟨as, qa⟩ := RdL.reads S ra hx
  obtain ⟨bs, qb⟩ := RdL.reads S rb hy
  have la := kqd_lay 40 da oa
  have lb := kqd_lay 40 db ob
  refine eq_dataH qa qb (by unfold SeqAt.shaped; rw [la.1, Bool.true_and]; exact decide_eq_true (Nat.le_trans la.2 (by decide))) (by unfold SeqAt.shaped; rw [lb.1, Bool.true_and]; exact decide_eq_true (Nat.le_trans lb.2 (by decide))) hu (Out.here (Rel.refl s) S ?_)
  have e := kqd_eqv 40 da db 40 oa ob
  cases he : PyData.eqv (kqdP da) (kqdP db) with
  | true => exact h1 (e.mp he)
  | false => exact h2 fun hh => by rw [e.mpr hh] at he; cases he
theorem c_neD {va vb : Value} {da db : Dat} (ra : RdL l va da) (rb : RdL l vb db) (oa : kqdOk 40 da = true) (ob : kqdOk 40 db = true) (hu : C.A.units + 64 < cLine) (h1 : da ≠ db → Q (.bool true) m l) (h2 : da = db → Q (.bool false) m l) : TC C m l .NotEq va vb Q E := fun x y hx hy s S => by
  obtain ⟨as, qa⟩ := RdL.reads S ra hx
  obtain ⟨bs, qb⟩ := RdL.reads S rb hy
  have la := kqd_lay 40 da oa
  have lb := kqd_lay 40 db ob
  refine ne_dataH qa qb (by unfold SeqAt.shaped; rw [la.1, Bool.true_and]; exact decide_eq_true (Nat.le_trans la.2 (by decide))) (by unfold SeqAt.shaped; rw [lb.1, Bool.true_and]; exact decide_eq_true (Nat.le_trans lb.2 (by decide))) hu (Out.here (Rel.refl s) S ?_)
  have e := kqd_eqv 40 da db 40 oa ob
  cases he : PyData.eqv (kqdP da) (kqdP db) with
  | true => exact h2 (e.mp he)
  | false => exact h1 fun hh => by rw [e.mpr hh] at he; cases he
theorem any_dat : ∀ (ds : List Dat) (d : Dat), (∀ e ∈ ds, kqdOk 40 e = true) → kqdOk 40 d = true → ((kqdPs ds).any (fun y => PyData.eqv y (kqdP d)) = true ↔ d ∈ ds)
  | [], d, _, _ => by simp [kqdPs]
  | e :: ds, d, h, hd => by
    have q := any_dat ds d (fun x hx => h x (.tail _ hx)) hd
    have q1 := kqd_eqv 40 e d 40 (h e (.head _)) hd
    simp only [kqdPs, List.any_cons, Bool.or_eq_true, q, q1, List.mem_cons]
    constructor
    · rintro (x | x)
      · exact .inl x.symm
      · exact .inr x
    · rintro (x | x)
      · exact .inl x.symm
      · exact .inr x
theorem lay_dats {ds : List Dat} (h : ∀ d ∈ ds, kqdOk 40 d = true) : PyData.canLayAll0 (kqdPs ds) = true ∧ PyData.depthAll (kqdPs ds) ≤ 41 := by
  have l := kqd_lay 41 (.list ds) (by simpa [kqdOk] using h)
  rw [kqdP] at l
  simp only [PyData.canLay0, PyData.depth] at l
  have l2 := l.2
  exact ⟨l.1, by lia⟩
theorem c_ninDat {va vb : Value} {d : Dat} {ds : List Dat} (ra : RdL l va d) (rb : RdL l vb (.list ds)) (oa : kqdOk 40 d = true) (ob : ∀ d ∈ ds, kqdOk 40 d = true) (hu : C.A.units + 64 < cLine) (h1 : d ∉ ds → Q (.bool true) m l) (h2 : d ∈ ds → Q (.bool false) m l) : TC C m l .NotIn va vb Q E := fun x y hx hy s S => by
  obtain ⟨as, qa⟩ := RdL.reads S ra hx
  obtain ⟨bs, qb⟩ := RdL.reads S rb hy
  rw [kqdP] at qb
  have l1 := lay_dats ob
  have ld := kqd_lay 40 d oa
  have := Nat.min_le_right (PyData.depthAll (kqdPs ds)) (kqdP d).depth
  have ld2 := ld.2
  refine SeqAt.notIn_list_reads qb qa l1.1 ld.1 (by lia) (Out.here (Rel.refl s) S ?_)
  have e := any_dat ds d ob oa
  cases he : (kqdPs ds).any (fun y => PyData.eqv y (kqdP d)) with
  | true => exact h2 (e.mp he)
  | false => exact h1 fun hh => by rw [e.mpr hh] at he; cases he
theorem c_eqI (ha : (a, listS (iL ns)) ∈ l) (hb : (b, listS (iL ms)) ∈ l) (hu : C.A.units + 64 < cLine) (h : Q (.bool (decide (ns = ms))) m l) : TC C m l .Eq (.ref a) (.ref b) Q E :=
  c_eqD (rd_ints ha) (rd_ints hb) (ok_ints ns) (ok_ints ms) hu (fun e => by have : ns = ms := dat_ints.mp (by simpa using e); rw [decide_eq_true this] at h; exact h) (fun e => by have : ns ≠ ms := fun h => e (by rw [h]); rw [decide_eq_false this] at h; exact h)
theorem c_neI (ha : (a, listS (iL ns)) ∈ l) (hb : (b, listS (iL ms)) ∈ l) (hu : C.A.units + 64 < cLine) (h : Q (.bool (!decide (ns = ms))) m l) : TC C m l .NotEq (.ref a) (.ref b) Q E :=
  c_neD (rd_ints ha) (rd_ints hb) (ok_ints ns) (ok_ints ms) hu (fun e => by have : ns ≠ ms := fun h => e (by rw [h]); rw [decide_eq_false this] at h; exact h) (fun e => by have : ns = ms := dat_ints.mp (by simpa using e); rw [decide_eq_true this] at h; exact h)
theorem mem_dat {n : Int} : Dat.int n ∈ ns.map Dat.int ↔ n ∈ ns := by simp
theorem c_ninI {n : Int} (hb : (b, listS (iL ns)) ∈ l) (hu : C.A.units + 64 < cLine) (h : Q (.bool (!decide (n ∈ ns))) m l) : TC C m l .NotIn (.int n 0) (.ref b) Q E :=
  c_ninDat (.int n) (rd_ints hb) rfl (by intro d hd; obtain ⟨x, _, rfl⟩ := List.mem_map.mp hd; rfl) hu (fun e => by rw [decide_eq_false fun h => e (mem_dat.mpr h)] at h; exact h) (fun e => by rw [decide_eq_true (mem_dat.mp e)] at h; exact h)
/-! ### an int among bytes -/
end
end
section
set_option Elab.async false
set_option linter.all false
set_option maxRecDepth 100000
set_option maxHeartbeats 1000000
section
variable {K : Frag} {C : Cx} {m : Loc} {l l' l₀ : Led} {E : Pv} {env : Env} {a b it d r : Addr} {vs : List Value} {v : Value} {i : Nat} {ns ms : List Int} {Q : Pv}
theorem preSum_sum : ∀ (xs : Array (Int × Tok)), preSum (numAt xs) xs.size = (xs.toList.map (·.1)).sum := by
  intro xs
  rw [preSum_eq, List.take_of_length_le (by simp)]
theorem ints_items {items : Array Value} {ns : List Int} (h : items.toList.map un = iL ns) : ∃ xs : Array (Int × Tok), items = intItems xs ∧ xs.toList.map (·.1) = ns := by
  have key : ∀ (vs : List Value) (ns : List Int), vs.map un = iL ns → ∃ xs : List (Int × Tok), vs = xs.map (fun p => Value.int p.1 p.2) ∧ xs.map (·.1) = ns := by
    intro vs
    induction vs with
    | nil => intro ns h; cases ns with
      | nil => exact ⟨[], rfl, rfl⟩
      | cons _ _ => simp [iL] at h
    | cons v vs ih => intro ns h; cases ns with
      | nil => simp [iL] at h
      | cons n ns =>
        simp only [iL, List.map_cons, List.cons.injEq] at h
        obtain ⟨t, rfl⟩ := un_int h.1
        obtain ⟨xs, h1, h2⟩ := ih ns h.2
        exact ⟨(n, t) :: xs, by simp [h1], by simp [h2]⟩
  obtain ⟨xs, h1, h2⟩ := key _ _ h
  refine ⟨xs.toArray, ?_, by simpa using h2⟩
  apply Array.ext'
  rw [h1]
  simp [intItems]
theorem f_sum (hm : (a, listS (iL ns)) ∈ l) (hh : C.A.handled = none) (h : Q (.int ns.sum 0) m l) : TCall C m l (.builtin "sum") [.ref a] [] Q E :=
  call1 Own.builtin fun x hx s S => by
    obtain rfl := un_ref hx
    obtain ⟨items, n, hl, hi⟩ := S.isL hm
    obtain ⟨xs, rfl, hxs⟩ := ints_items hi
    refine sum_intListG hh hl.isList fun h' tk t' hk => ?_
    rw [preSum_sum, hxs]
    exact Out.here (Rel.of s _ _) (S.grow hk) h
/-! list(bytes) -/
theorem extend_bytes {prog : Program} {w : World} {A : Around} {s : Shared} {R : Result → Shared → Prop} (hh : A.handled = none) (x : Array UInt8) (t : Tok) (S : Addr) (res : Value) (c₀ : Nat) (hS : s.heap.get? S = some { cls := .type "list", data := .seq #[] c₀ })
    (hR : ∀ h' tk acc' c', (∀ b o, b ≠ S → s.heap.get? b = some o → h'.get? b = some o) → h'.get? S = some { cls := .type "list", dict := none, data := .seq acc' c', slots := #[] } →
      ItemsOf (fun i v => ∃ c u, x[i]? = some c ∧ v = .int (c.toNat : Int) u) acc' x.size → R (.ok (.ret res)) { s with heap := h', toks := tk }) (hn : x.size ≤ 16000000) :
    wpAny (model prog w) A.in1 (Builtin.List.listExtendWith (.ref S) (.bytes x t) res)
      (fun fin s' => match fin with | .done f => R (.ok f) s' | .again c' => c'.quiet = true ∧ codeAny (model prog w) A c' R s') (fun e s' => R (.error e) s') s := by
  have hSI : S ≠ s.heap.objs.size := Nat.ne_of_lt (Heap.lt_size hS)
  have hSf : S ∉ [s.heap.objs.size] := fun hm => hSI (List.mem_singleton.mp hm)
  have hT : ∀ s' : Shared, s'.TypeIs (.bytes x t) "bytes" := fun s' => typeIs_bytes s' _ t
  unfold Builtin.List.listExtendWith
  refine wpAny_bind (wpAny_typeOf (hT _) ?_)
  have h1 : Builtin.List.listSameRef (.ref S) (.bytes x t) = false := rfl
  have h2 : (Value.type "bytes" == Value.type "list") = false := by decide
  have h3 : (Value.type "bytes" == Value.type "tuple") = false := by decide
  simp only [h1, h2, h3, Bool.or_false, Bool.false_eq_true, if_false]
  refine wpAny_bind (KBw.pyIter_bytes ?_)
  refine wpAny_bind (wpAny_holding ?_)
  unfold Builtin.List.listLengthHint
  refine wpAny_bind (wpAny_specialOf (hT _) FB.slot_bytes_len.lookup ?_)
  generalize hid : ("bytes.__len__" : String) = id0
  wp_delta
  rw [show splitId id0 = some ("bytes", "__len__") from by subst hid; decide +kernel]
  subst hid
  refine wpAny_bind (wpAny_isInstance (T := "bytes") (b := true) (hT _) (by rw [isSubtype_type]; kernel_rfl) ?_)
  show wpAny _ _ (typeOf (Value.bytes x t) >>= _) _ _ _
  refine wpAny_bind (wpAny_typeOf (hT _) ?_)
  refine wpAny_pure ?_
  rw [if_neg (by decide)]
  refine wpAny_pure ⟨plainId_quiet F.plain_extend_loop _, codeAny_extend_loopS (KBw.walks (A := A.in1) hh s.heap.objs.size x t).toS (by rw [sizeLine_eq]; lia) _ hSf _ x.size 0 _ _ _ rfl (Nat.zero_le _) ⟨_, Heap.get?_push_size _ rfl, rfl, rfl⟩ (Heap.get?_push_of_some _ hS) (ItemsOf.nil _) fun s' acc' c' hm hS' hacc => ?_⟩
  rw [Moved.eq_with hm]
  refine hR s'.heap s'.toks acc' c' (fun b ob hb e => hm.heap b ob (fun hmem => ?_) (Heap.get?_push_of_some _ e)) hS' hacc
  rcases List.mem_cons.mp hmem with e' | hmem
  · exact hb e'
  · exact absurd (Heap.lt_size e) (by rw [List.mem_singleton.mp hmem]; exact Nat.lt_irrefl _)
theorem list_init_bytes {prog : Program} {w : World} {A : Around} {s : Shared} {R : Result → Shared → Prop} (hh : A.handled = none) (x : Array UInt8) (t : Tok) (S : Addr) (hS : s.heap.get? S = some { cls := .type "list", data := .seq #[] })
    (hR : ∀ h' tk acc' c', (∀ b o, b ≠ S → s.heap.get? b = some o → h'.get? b = some o) → h'.get? S = some { cls := .type "list", dict := none, data := .seq acc' c', slots := #[] } →
      ItemsOf (fun i v => ∃ c u, x[i]? = some c ∧ v = .int (c.toNat : Int) u) acc' x.size → R (.ok (.ret .none)) { s with heap := h', toks := tk }) (hn : x.size ≤ 16000000) :
    wpAny (model prog w) A.in1 (Builtin.«list.__init__» ⟨[.ref S, .bytes x t], []⟩)
      (fun fin s' => match fin with | .done f => R (.ok f) s' | .again c' => c'.quiet = true ∧ codeAny (model prog w) A c' R s') (fun e s' => R (.error e) s') s := by
  show wpAny _ _ (do let old ← Builtin.List.listItems (.ref S); Builtin.List.listUpdate (.ref S) (fun _ => #[]); letGo old.toList.reverse; Builtin.List.listExtendWith (.ref S) (.bytes x t) .none) _ _ s
  refine wpAny_bind ?_
  unfold Builtin.List.listItems
  refine wpAny_bind (wpAny_seqItems hS rfl (wpAny_pure ?_))
  show wpAny _ _ (updateSeq S (fun _ => #[]) >>= fun _ => letGo (#[] : Array Value).toList.reverse >>= fun _ => Builtin.List.listExtendWith (.ref S) (.bytes x t) .none) _ _ s
  refine wpAny_bind (wpAny_updateSeq hS rfl ?_)
  have hS₂ := Heap.get?_update_self (Obj.mapSeq (fun _ => (#[] : Array Value))) hS rfl
  refine wpAny_bind (wpAny_letGo ?_)
  refine extend_bytes hh x t S .none _ hS₂ (fun h' tk acc' c' hk hS' hacc => ?_) hn
  exact hR h' tk acc' c' (fun b o hb e => hk b o hb ((Heap.get?_update_other _ _ (Ne.symm hb)).trans e)) hS' hacc
theorem f_list_bytes (hr : InB ns) (hz : ns.length ≤ 16000000) (hh : C.A.handled = none) (h : ∀ r, Q (.ref r) m ((r, listS (iL ns)) :: l)) : TCall C m l (.type "list") [byv ns] [] Q E :=
  call1 Own.type fun v hv s S => by
    obtain ⟨t, rfl⟩ := un_bytes hv
    refine callType_codes (Q₁ := fun obj s₁ => obj = .ref s.heap.objs.size ∧ s₁ = { s with heap := s.heap.push { cls := .type "list", data := .seq #[] } }) F.called_list (F.typeCall_list_1 _) F.entry_list_init
      (code_list_new _ ⟨rfl, rfl⟩) fun obj s₁ h₁ => ?_
    obtain ⟨rfl, rfl⟩ := h₁
    have hS : (s.heap.push { cls := .type "list", data := .seq #[] }).get? s.heap.objs.size = some { cls := .type "list", data := .seq #[] } := Heap.get?_push_size _ rfl
    refine ⟨⟨_, hS, rfl⟩, F.args_list_init_2 _ _, list_init_bytes (A := C.A.in1) hh (byteArr ns) t _ hS (fun h' tk acc' c' hk hS' hacc => ?_) (by rw [byteArr_size]; exact hz)⟩
    refine ⟨rfl, Out.here (Rel.of s _ _) (S.new (P := listS (iL ns)) (Heap.get?_none_of_le (Nat.le_refl _)) (fun b o e => hk b o (Nat.ne_of_lt (Heap.lt_size e)) (Heap.get?_push_of_some _ e)) hS' ⟨_, _, rfl, ?_⟩) (h _)⟩
    obtain ⟨h1, h2⟩ := hacc
    have e2 := bInts_byv hr
    unfold bInts KBw.bInts at e2
    rw [← e2]
    apply List.ext_getElem?
    intro i
    simp only [List.getElem?_map, Array.getElem?_toList]
    rcases Nat.lt_or_ge i acc'.size with hi | hi
    · obtain ⟨c, u, hc, hv⟩ := h2 i acc'[i] (by simp [hi])
      simp only [hi, Array.getElem?_eq_getElem, Option.map_some, hv, hc]
      rfl
    · rw [Array.getElem?_eq_none hi, Array.getElem?_eq_none (by lia)]; rfl
/-! index -/
/-! ### taking a tuple apart -/
noncomputable def TUp (C : Cx) (m : Loc) (l : Led) (ts : List Expr) (env : Env) (vs : List Value) (Q : Ps) (E : Pv) : Prop := ∀ us : List Value, us.map un = vs → T C id m l (assignInOrder ((assignEach ts env).map (·.2)) us) (fun _ => Q) E
theorem up_nil {Q : Ps} (h : Q m l) : TUp C m l [] env [] Q E := fun us hu s S => by
  obtain rfl : us = [] := by simpa using hu
  exact assignInOrder_nil (Out.here (Rel.refl s) S h)
noncomputable abbrev KUp (C : Cx) (ts : List Expr) (env : Env) (vs : List Value) (Q : Ps) (E : Pv) : Ps := fun m l => TUp C m l ts env vs Q E
theorem up_cons {t : Expr} {ts : List Expr} {v : Value} {vs : List Value} {Q : Ps} (h : TA C m l t env v (KUp C ts env vs Q E) E)
    (he : assignEach (t :: ts) env = (false, assign t env) :: assignEach ts env := by with_unfolding_all rfl) : TUp C m l (t :: ts) env (v :: vs) Q E := fun us hu s S => by
  cases us with
  | nil => cases hu
  | cons u us =>
    simp only [List.map_cons, List.cons.injEq] at hu
    rw [he]
    exact assignInOrder_cons (T.next (h u hu.1) S (Rel.refl s) fun _ s₁ m₁ l₁ S₁ r₁ q₁ => T.fin (q₁ us hu.2) S₁ r₁)
theorem x_assignT {elts : List Expr} {k : Nat} {tpos pos : Pos} {e : Expr} {Q : Flow → Loc → Led → Prop} (hh : C.A.handled = none)
    (h : TV C m l (eval e env) (fun v m l => ∃ t vs, v = .ref t ∧ (t, tupS vs) ∈ l ∧ (assignEach elts env).length = vs.length ∧ TUp C m l elts env vs (Q .next) E) E)
    (hstar : (assignEach elts env).findIdx? (·.1) = none := by with_unfolding_all rfl)
    (hs : swapsWithSole [.Tuple elts k tpos] e pos.line env = pure false := by with_unfolding_all rfl)
    (hw : swappedStores [.Tuple elts k tpos] e env = pure none := by with_unfolding_all rfl) : TF C m l (exec (.Assign [.Tuple elts k tpos] e pos) env) Q E := fun s S => by
  refine Assign_Tuple (T.next h S (Rel.refl s) fun v s₁ m₁ l₁ S₁ r₁ q₁ => ?_) hs hw
  obtain ⟨t, vs, hv, hm, hn, hU⟩ := q₁
  obtain rfl := un_ref hv
  obtain ⟨items, n, ht, hi⟩ := S₁.isTup hm
  refine wpAny_assign_Tuple hh (items := items) ⟨_, ht, rfl, n, rfl⟩ (by rw [hn, len_of hi]) hstar fun h' he => ?_
  have S₂ : St C.base C.L m₁ l₁ h' := S₁.grow fun b o hb => he b o (Nat.ne_of_lt (Heap.lt_size hb)) hb
  exact T.next (s₁ := { s₁ with heap := h' }) (hU items.toList hi) S₂ (r₁.trans (Rel.heap _ _)) fun _ s₃ m₃ l₃ S₃ r₃ q₃ => Out.here r₃ S₃ q₃
/-! ### starred arguments -/
noncomputable def SeqAtL (v : Value) (vs : List Value) (l : Led) : Prop := ∃ a, v = .ref a ∧ ((a, listS vs) ∈ l ∨ (a, tupS vs) ∈ l)
theorem star_T {K' : List Value → Shared → Prop} {X : Value → Shared → Prop} {s : Shared} {u : Value} (S : St C.base C.L m l s.heap) (hv : SeqAtL (un u) vs l) (hz : vs.length ≤ 16000000) (h : ∀ us h', us.map un = vs → St C.base C.L m l h' → K' us { s with heap := h' }) :
    StarOf (model C.prog C.w) C.A X u K' s := by
  obtain ⟨a, hu, hm⟩ := hv
  obtain rfl := un_ref hu
  unfold StarOf notIterableAtAll
  rcases hm with hm | hm
  · obtain ⟨items, n, hl, hi⟩ := S.isL hm
    have hT : s.TypeIs (.ref a) "list" := ⟨_, hl, rfl⟩
    refine wpAny_bind (wpAny_specialOf hT PySem.F.slot_list_iter.lookup (wpAny_pure ⟨rfl, ?_⟩))
    exact wpAny_collect_seq a (.inl rfl) hl rfl rfl (fun h' hk => h items.toList h' hi (S.grow hk)) (by rw [len_of hi, sizeLine_eq]; lia)
  · obtain ⟨items, n, ht, hi⟩ := S.isTup hm
    have hT : s.TypeIs (.ref a) "tuple" := ⟨_, ht, rfl⟩
    refine wpAny_bind (wpAny_specialOf hT PySem.F.slot_tuple_iter.lookup (wpAny_pure ⟨rfl, ?_⟩))
    exact wpAny_collect_seq a (.inr rfl) ht rfl rfl (fun h' hk => h items.toList h' hi (S.grow hk)) (by rw [len_of hi, sizeLine_eq]; lia)
theorem args_star {e : Expr} {p pos : Pos} {rest : List Expr} {Q : List Value → Loc → Led → Prop} (h : TV C m l (eval e env) (fun v m l => ∃ vs, SeqAtL v vs l ∧ vs.length ≤ 16000000 ∧ TL C m l (spliced (backTo pos (starEach rest env))) (fun ws => Q (vs ++ ws)) E) E)
    (he : starEach (.Starred e p :: rest) env = (true, eval e env) :: starEach rest env := by with_unfolding_all rfl) : TL C m l (spliced (backTo pos (starEach (.Starred e p :: rest) env))) Q E := fun s S => by
  refine items_star (T.next h S (Rel.refl s) fun v s₁ m₁ l₁ S₁ r₁ q₁ => ?_) he
  obtain ⟨vs, hs, hz, hr⟩ := q₁
  refine star_T S₁ hs hz fun us h' hu S₂ => ?_
  exact T.next (s₁ := { s₁ with heap := h' }) hr S₂ (r₁.trans (Rel.heap _ _)) fun ws s₃ m₃ l₃ S₃ r₃ q₃ => Out.here r₃ S₃ (by rw [List.map_append, hu]; exact q₃)
end
end
section
set_option Elab.async false
set_option linter.all false
set_option maxRecDepth 100000
set_option maxHeartbeats 1000000
/-! ## [y for x in a for y in x] -/
noncomputable abbrev flatE (x y : Str) (p1 p2 p3 p4 : Pos) (i1 : Expr) (scope : Scope) (pos : Pos) : Expr := .ListComp (.Name y p1) [⟨.Name x p2, i1, [], 0⟩, ⟨.Name y p3, .Name x p4, [], 0⟩] scope pos
section
variable {x y : Str} {p1 p2 p3 p4 : Pos} {i1 : Expr} {scope : Scope} {pos : Pos}
theorem turn_flat0 (it acc : Value) (env : Env) : compTurn (flatE x y p1 p2 p3 p4 i1 scope pos) 0 it acc env = (do
      standAt i1.pos
      match ← pyNext it with
      | none => pure (.done .next)
      | some v =>
        letOwnedTupleGo (.Name x p2) it v
        assign (.Name x p2) env v
        let z ← eval (.Name x p4) env
        standAt p4
        let z ← foldedSetIterable (.Name x p4) env z
        let _ ← runOwn (.compStart (flatE x y p1 p2 p3 p4 i1 scope pos) 1 (← holding [z] (pyIter z)) acc env) env
        again (.compLoop (flatE x y p1 p2 p3 p4 i1 scope pos) 0 it acc env)) := by rfl
theorem turn_flat1 (it acc : Value) (env : Env) : compTurn (flatE x y p1 p2 p3 p4 i1 scope pos) 1 it acc env = (do
      standAt p4
      match ← pyNext it with
      | none => pure (.done .next)
      | some v =>
        letOwnedTupleGo (.Name y p3) it v
        assign (.Name y p3) env v
        (do let _ ← call (.builtin "list.append") [acc, ← eval (.Name y p1) env])
        again (.compLoop (flatE x y p1 p2 p3 p4 i1 scope pos) 1 it acc env)) := by rfl
theorem start_flat {prog : Program} {w : World} {A : Around} {R : Result → Shared → Prop} {s : Shared} {k : Nat} {it acc : Value} {env : Env} (hk : k = 0 ∨ k = 1)
    (h0 : codeAny (model prog w) A (.compLoop (flatE x y p1 p2 p3 p4 i1 scope pos) k it acc env) R s)
    (h : wpAny (model prog w) A (pyIter it) (fun it' s' => codeAny (model prog w) A (.compLoop (flatE x y p1 p2 p3 p4 i1 scope pos) k it' acc env) R s') (notedBy (model prog w) A env fun x s' => R (.error x) s') s) :
    codeAny (model prog w) A (.compStart (flatE x y p1 p2 p3 p4 i1 scope pos) k it acc env) R s := by
  refine codeAny_of_tree ?_
  show wpAny _ _ ((compStart (flatE x y p1 p2 p3 p4 i1 scope pos) k it acc env).onRaise (fun x => do noteFrame x env; standAt theWindowsPlace)) _ _ s
  refine wpAny_notedAt ?_
  unfold compStart
  rcases hk with rfl | rfl
  all_goals
    show wpAny _ _ (ask >>= _) _ _ s
    refine wpAny_bind (wpAny_askSetting (wpAny_ite ?_))
    split
    · first
        | exact wpAny_bind (wpAny_pure (wpAny_pure (And.intro rfl h0)))
        | exact wpAny_pure (And.intro rfl h0)
    · refine wpAny_bind (wpAny_rule ?_)
      show wpAny _ _ (standAt _ >>= _) _ _ s
      exact wpAny_bind (wpAny_standAt (wpAny_bind (wpAny_mono h (fun it' s' h' => wpAny_pure (And.intro rfl h')) fun _ _ x => x)))
end
section
variable {C : Cx} {m : Loc} {l l' l₀ : Led} {E : Pv} {env : Env} {a : Addr} {x y : Str} {p1 p2 p3 p4 : Pos} {i1 : Expr} {scope : Scope} {pos : Pos}
theorem flat_inner {L' it2 acc r : Addr} {cenv : Env} {ns : List Int} {ys : List Value} {R : Result → Shared → Prop} {s₀ s : Shared} (hh : C.A.handled = none)
    (hxy : x ≠ y) (hky : cenv.kindOf y = some .local) (hL : cenv.locals = L') (hkind : cenv.scope.kind = .function) (hd : (y == ("__debug__" : Str)) = false) (hy : ys.length + ns.length ≤ 16000000)
    (hm : (r, listS (iL ns)) ∈ l) (S : St C.base L' [] ((it2, litS r 0) :: (acc, listS ys) :: l) s.heap) (hr : Rel s₀ s)
    (fin : ∀ s', St C.base L' [] ((acc, listS (ys ++ iL ns)) :: l) s'.heap → Rel s₀ s' → R (.ok .next) s') :
    codeAny (model C.prog C.w) C.A (.compLoop (flatE x y p1 p2 p3 p4 i1 scope pos) 1 (.ref it2) (.ref acc) cenv) R s := by
  refine codeAny_loop rfl (fun k s' => ∃ i, k = ns.length - i ∧ i ≤ ns.length ∧ St C.base L' [] ((it2, litS r i) :: (acc, listS (ys ++ iL (ns.take i))) :: l) s'.heap ∧ Rel s₀ s') (fun k s' hI => ?_) ns.length ⟨0, by simp, by simp, by simpa [iL] using S, hr⟩
  obtain ⟨i, rfl, hi, S, hr⟩ := hI
  show wpAny _ C.A ((compTurn (flatE x y p1 p2 p3 p4 i1 scope pos) 1 (.ref it2) (.ref acc) cenv).onRaise (fun x => do noteFrame x cenv; theTreesLotGoes x)) _ _ s'
  refine wpAny_noted ?_
  rw [turn_flat1]
  refine wpAny_bind (wpAny_standAt (wpAny_bind ?_))
  have W := iter_list (C := cx C L') (it := it2) (a := r) (vs := iL ns) hh
  rcases Nat.lt_or_ge i ns.length with hlt | hge
  · have hv : (iL ns)[i]? = some (.int ns[i] 0) := by simp [iL, hlt]
    refine T.sure (C := cx C L') (W.item i (.int ns[i] 0) [] ((acc, listS (ys ++ iL (ns.take i))) :: l) (fun o mm ll => o = some (.int ns[i] 0) ∧ mm = [] ∧ ll = (it2, litS r (i + 1)) :: (acc, listS (ys ++ iL (ns.take i))) :: l) no hv (.tail _ hm) ⟨rfl, rfl, rfl⟩) S hr fun rr s₂ m₂ l₂ S₂ r₂ q₂ => ?_
    obtain ⟨hrr, rfl, rfl⟩ := q₂
    match rr, hrr with
    | some u, hrr =>
      have hu : un u = .int ns[i] 0 := by simpa using hrr
      refine wpAny_bind (wpAny_of_eq (a := ()) (by rfl) ?_)
      have st : TA (cx C L') [] ((it2, litS r (i + 1)) :: (acc, listS (ys ++ iL (ns.take i))) :: l) (.Name y p3) cenv (.int ns[i] 0) (fun mm ll => mm = [(y, .int ns[i] 0)] ∧ ll = (it2, litS r (i + 1)) :: (acc, listS (ys ++ iL (ns.take i))) :: l) no :=
        a_name (store .nil ⟨rfl, rfl⟩ hky hL (by rw [hkind]; rfl))
      refine wpAny_bind (T.sure (C := cx C L') (st u hu) S₂ r₂ fun _ s₃ m₃ l₃ S₃ r₃ q₃ => ?_)
      obtain ⟨rfl, rfl⟩ := q₃
      have ev : TV (cx C L') [(y, .int ns[i] 0)] ((it2, litS r (i + 1)) :: (acc, listS (ys ++ iL (ns.take i))) :: l) (eval (.Name y p1) cenv) (fun v mm ll => v = .int ns[i] 0 ∧ mm = [(y, .int ns[i] 0)] ∧ ll = (it2, litS r (i + 1)) :: (acc, listS (ys ++ iL (ns.take i))) :: l) no :=
        e_name .here ⟨rfl, rfl, rfl⟩ hkind hky hL hd
      refine wpAny_bind (wpAny_bind (T.sure (C := cx C L') ev S₃ r₃ fun v s₄ m₄ l₄ S₄ r₄ q₄ => ?_))
      obtain ⟨hv4, rfl, rfl⟩ := q₄
      have app : TCall (cx C L') [(y, .int ns[i] 0)] ((it2, litS r (i + 1)) :: (acc, listS (ys ++ iL (ns.take i))) :: l) (.builtin "list.append") [.ref acc, .int ns[i] 0] [] (fun _ mm ll => mm = [(y, .int ns[i] 0)] ∧ ll = (it2, litS r (i + 1)) :: (acc, listS ((ys ++ iL (ns.take i)) ++ [.int ns[i] 0])) :: l) no :=
        m_append (.there .here) (by simp [iL]; lia) ⟨rfl, rfl⟩
      refine wpAny_bind (T.sure (C := cx C L') (app (.builtin "list.append") [.ref acc, v] [] rfl (by show [un (Value.ref acc), un v] = [Value.ref acc, Value.int ns[i] 0]; rw [hv4]; rfl) rfl) S₄ r₄ fun _ s₅ m₅ l₅ S₅ r₅ q₅ => wpAny_pure (wpAny_pure ⟨rfl, ns.length - (i + 1), by lia, i + 1, rfl, by lia, ?_, r₅⟩))
      obtain ⟨rfl, rfl⟩ := q₅
      have e : ys ++ iL (ns.take (i + 1)) = (ys ++ iL (ns.take i)) ++ [.int ns[i] 0] := by
        rw [List.take_succ, List.getElem?_eq_getElem hlt, iL_append, List.append_assoc]; rfl
      rw [e]
      exact S₅.forget Fg.nil
  · have he : i = ns.length := by lia
    subst he
    have hS' : St C.base L' [] ((it2, litS r (iL ns).length) :: (acc, listS (ys ++ iL (ns.take ns.length))) :: l) s'.heap := by rw [iL_len]; exact S
    refine T.sure (C := cx C L') (W.done [] ((acc, listS (ys ++ iL (ns.take ns.length))) :: l) (fun o mm ll => o = none ∧ mm = [] ∧ ll = (acc, listS (ys ++ iL (ns.take ns.length))) :: l) no (.tail _ hm) ⟨rfl, rfl, rfl⟩) hS' hr fun rr s₂ m₂ l₂ S₂ r₂ q₂ => ?_
    obtain ⟨hrr, rfl, rfl⟩ := q₂
    match rr, hrr with
    | none, _ =>
      rw [List.take_length] at S₂
      exact wpAny_pure (fin s₂ S₂ r₂)
theorem x_flat {z : Str} {py spos : Pos} {Q : Flow → Loc → Led → Prop} {cl : List (Str × Addr)} {rs : List (Addr × List Int)} (hh : C.A.handled = none) (hsw : swapsWith (flatE x y p1 p2 p3 p4 i1 scope pos) (some (.Name z py)) spos.line env = pure true) (hclos : closureFor scope env = pure cl) (hkind : scope.kind = .function)
    (hnames : ∀ x ∈ scope.names, x.2 = .local → scope.names.lookup x.1 = some .local) (hcell0 : (scope.names.all fun x => x.2 != .cell) = true) (hxl : scope.names.lookup x = some .local) (hyl : scope.names.lookup y = some .local) (hxy : x ≠ y) (hdx : (x == ("__debug__" : Str)) = false) (hdy : (y == ("__debug__" : Str)) = false)
    (h : TV C m l (eval i1 env) (fun v m l => v = .ref a ∧ (a, listS (rs.map fun p => .ref p.1)) ∈ l ∧ (∀ p ∈ rs, (p.1, listS (iL p.2)) ∈ l) ∧ rs.length ≤ 1000 ∧ (∀ p ∈ rs, p.2.length ≤ 1000) ∧ ∀ r m', Put z (.ref r) m m' → Q .next m' ((r, listS (iL (rs.flatMap (·.2)))) :: l)) E)
    (hP : ∀ (m : Loc) (v : Value), ∃ m', Put z v m m')
    (hs : ∀ x, foldedSetIterable i1 env x = pure x := by intro _; with_unfolding_all rfl) (hl : env.kindOf z = some .local := by with_unfolding_all rfl) (he : env.locals = C.L := by with_unfolding_all rfl)
    (hp : (env.scope.kind == .class || (env.scope.kind == .module && env.locals != env.globals)) = false := by with_unfolding_all rfl) :
    TF C m l (exec (.Assign [.Name z py] (flatE x y p1 p2 p3 p4 i1 scope pos) spos) env) Q E := fun s S => by
  have hcell : ∀ x ∈ scope.names, x.2 ≠ .cell := fun x hx => by simpa using List.all_eq_true.mp hcell0 x hx
  rw [exec_Assign_Name_used _ _ _ _ hsw]
  refine wpAny_bind (wpAny_standAt (wpAny_bind ?_))
  show wpAny _ C.A (do let _ ← comprehension (flatE x y p1 p2 p3 p4 i1 scope pos) scope env _ (newList []) false (eval i1 env) (some (assign (.Name z py) env))) _ _ s
  refine wpAny_bind (wpAny_mono (wpAny_comprehension_free (use := some (assign (.Name z py) env)) (Q := fun _ s' => Out C.base C.L s (Q .next) s') rfl hs hclos hkind hnames
    (T.next h S (Rel.refl s) fun xv s₁ m₁ l₁ S₁ r₁ q₁ => ?_)) (fun _ s' o => wpAny_pure (wpAny_pure o)) fun _ _ o => o)
  obtain ⟨hxv, hma, hms, hz1, hz2, hq⟩ := q₁
  obtain rfl := un_ref hxv
  have htot : ∀ k, ((rs.take k).flatMap (·.2)).length ≤ 1000 * k := fun k => by
    have key : ∀ (ps : List (Addr × List Int)), (∀ p ∈ ps, p.2.length ≤ 1000) → (ps.flatMap (·.2)).length ≤ 1000 * ps.length := by
      intro ps
      induction ps with
      | nil => intro _; simp
      | cons p ps ih =>
        intro h
        have h1 := ih fun q hq => h q (.tail _ hq)
        have h2 := h p (.head _)
        simp only [List.flatMap_cons, List.length_append, List.length_cons]
        lia
    have := key (rs.take k) fun p hp => hz2 p (List.mem_of_mem_take hp)
    rw [List.length_take] at this
    have : min k rs.length ≤ k := Nat.min_le_left _ _
    lia
  obtain ⟨items, na, hla, hia⟩ := S₁.isL hma
  refine wpAny_pyIter_list hla.isList ?_
  have S₂ := S₁.push (P := litS a 0) { cls := .type "list_iterator", data := .fields #[.ref a, .int 0 0] } rfl ⟨rfl, rfl⟩
  generalize hI : s₁.heap.objs.size = I at S₂ ⊢
  generalize s₁.heap.push { cls := .type "list_iterator", data := .fields #[.ref a, .int 0 0] } = H₀ at S₂ ⊢
  refine wpAny_newObj_type ?_ (by show (([] : List Value).toArray).size ≤ sizeLine; rw [sizeLine_eq]; simp)
  have S₃ := S₂.push (P := listS []) { cls := .type "list", dict := none, data := .seq ([] : List Value).toArray } rfl ⟨_, _, rfl, rfl⟩
  generalize hD : H₀.objs.size = D at S₃ ⊢
  refine wpAny_newFunctionEnv hcell (by intro y hy; simp at hy) (fun h₁ hns hsb => ?_) hkind
  generalize hH : H₀.push { cls := .type "list", dict := none, data := .seq ([] : List Value).toArray } = H at S₃ hns hsb ⊢
  have hkeep : ∀ b o, H.get? b = some o → h₁.get? b = some o := fun b o e => hsb.extBut b o (Nat.ne_of_lt (Heap.lt_size e)) (Heap.get?_push_of_some _ e)
  have S₄ : St C.base H.objs.size [] ((C.L, Frm m₁) :: (D, listS []) :: (I, litS a 0) :: l₁) h₁ := S₃.enter (Nat.le_refl _) hkeep hns (fun x v e => nomatch e)
  have S₅ : St C.base H.objs.size [] ((I, litS a 0) :: (D, listS []) :: (C.L, Frm m₁) :: l₁) h₁ := S₄.perm ((List.Perm.swap _ _ _).trans (((List.Perm.swap _ _ _).cons _).trans (List.Perm.swap _ _ _)))
  have W := iter_list (C := cx C H.objs.size) (it := I) (a := a) (vs := rs.map fun p => Value.ref p.1) hh
  have hml : (rs.map fun p : Addr × List Int => Value.ref p.1).length = rs.length := by simp
  have loop : codeAny (model C.prog C.w) C.A (.compLoop (flatE x y p1 p2 p3 p4 i1 scope pos) 0 (.ref I) (.ref D) (compEnvC scope cl H.objs.size env))
      (compPost (model C.prog C.w) C.A (fun e s' => Out C.base C.L s (E e) s') (some (assign (.Name z py) env)) (fun _ s' => Out C.base C.L s (Q .next) s') (.ref D) H.objs.size) { s₁ with heap := h₁, toks := s₁.toks + ([] : List (Str × Value)).length } := by
    refine codeAny_loop rfl (fun k s' => ∃ i, k = rs.length - i ∧ i ≤ rs.length ∧ St C.base H.objs.size [] ((I, litS a i) :: (D, listS (iL ((rs.take i).flatMap (·.2)))) :: (C.L, Frm m₁) :: l₁) s'.heap ∧ Rel s s') (fun k s' hInv => ?_) rs.length ⟨0, by simp, by simp, by simpa [iL] using S₅, r₁.trans (Rel.of s₁ _ _)⟩
    obtain ⟨i, rfl, hi, S, hr⟩ := hInv
    show wpAny _ C.A ((compTurn (flatE x y p1 p2 p3 p4 i1 scope pos) 0 (.ref I) (.ref D) (compEnvC scope cl H.objs.size env)).onRaise (fun x => do noteFrame x (compEnvC scope cl H.objs.size env); theTreesLotGoes x)) _ _ s'
    refine wpAny_noted ?_
    rw [turn_flat0]
    refine wpAny_bind (wpAny_standAt (wpAny_bind ?_))
    rcases Nat.lt_or_ge i rs.length with hlt | hge
    · have hv : (rs.map fun p : Addr × List Int => Value.ref p.1)[i]? = some (.ref rs[i].1) := by simp [hlt]
      refine T.sure (C := cx C H.objs.size) (W.item i (.ref rs[i].1) [] ((D, listS (iL ((rs.take i).flatMap (·.2)))) :: (C.L, Frm m₁) :: l₁) (fun o mm ll => o = some (.ref rs[i].1) ∧ mm = [] ∧ ll = (I, litS a (i + 1)) :: (D, listS (iL ((rs.take i).flatMap (·.2)))) :: (C.L, Frm m₁) :: l₁) no hv (.tail _ (.tail _ hma)) ⟨rfl, rfl, rfl⟩) S hr fun rr s₂ m₂ l₂ S₂ r₂ q₂ => ?_
      obtain ⟨hrr, rfl, rfl⟩ := q₂
      match rr, hrr with
      | some u, hrr =>
        have hu : un u = .ref rs[i].1 := by simpa using hrr
        obtain rfl := un_ref hu
        refine wpAny_bind (wpAny_of_eq (a := ()) (by rfl) ?_)
        have st : TA (cx C H.objs.size) [] ((I, litS a (i + 1)) :: (D, listS (iL ((rs.take i).flatMap (·.2)))) :: (C.L, Frm m₁) :: l₁) (.Name x p2) (compEnvC scope cl H.objs.size env) (.ref rs[i].1) (fun mm ll => mm = [(x, .ref rs[i].1)] ∧ ll = (I, litS a (i + 1)) :: (D, listS (iL ((rs.take i).flatMap (·.2)))) :: (C.L, Frm m₁) :: l₁) no :=
          a_name (store .nil ⟨rfl, rfl⟩ (lookup_relabel_local hxl) rfl (by show (scope.kind == .class || (scope.kind == .module && _)) = false; rw [hkind]; rfl))
        refine wpAny_bind (T.sure (C := cx C H.objs.size) (st (.ref rs[i].1) rfl) S₂ r₂ fun _ s₃ m₃ l₃ S₃ r₃ q₃ => ?_)
        obtain ⟨rfl, rfl⟩ := q₃
        have ev : TV (cx C H.objs.size) [(x, .ref rs[i].1)] ((I, litS a (i + 1)) :: (D, listS (iL ((rs.take i).flatMap (·.2)))) :: (C.L, Frm m₁) :: l₁) (eval (.Name x p4) (compEnvC scope cl H.objs.size env)) (fun v mm ll => v = .ref rs[i].1 ∧ mm = [(x, .ref rs[i].1)] ∧ ll = (I, litS a (i + 1)) :: (D, listS (iL ((rs.take i).flatMap (·.2)))) :: (C.L, Frm m₁) :: l₁) no :=
          e_name .here ⟨rfl, rfl, rfl⟩ hkind (lookup_relabel_local hxl) rfl hdx
        refine wpAny_bind (T.sure (C := cx C H.objs.size) ev S₃ r₃ fun v s₄ m₄ l₄ S₄ r₄ q₄ => ?_)
        obtain ⟨hv4, rfl, rfl⟩ := q₄
        obtain rfl := un_ref hv4
        refine wpAny_bind (wpAny_standAt (wpAny_bind (wpAny_of_eq (a := Value.ref rs[i].1) (by rfl) (wpAny_bind (wpAny_holding ?_)))))
        have hmr := hms rs[i] (List.getElem_mem hlt)
        have S₄' := S₄.forget (m' := []) Fg.nil
        obtain ⟨items', nb, hlb, hib⟩ := S₄'.isL (.tail _ (.tail _ (.tail _ hmr)))
        refine wpAny_pyIter_list hlb.isList ?_
        have S₅ := S₄'.push (P := litS rs[i].1 0) { cls := .type "list_iterator", data := .fields #[.ref rs[i].1, .int 0 0] } rfl ⟨rfl, rfl⟩
        generalize hI2 : s₄.heap.objs.size = I2 at S₅ ⊢
        generalize s₄.heap.push { cls := .type "list_iterator", data := .fields #[.ref rs[i].1, .int 0 0] } = H₂ at S₅ ⊢
        have S₆ : St C.base H.objs.size [] ((I2, litS rs[i].1 0) :: (D, listS (iL ((rs.take i).flatMap (·.2)))) :: (I, litS a (i + 1)) :: (C.L, Frm m₁) :: l₁) H₂ := S₅.perm ((List.Perm.swap _ _ _).cons _)
        have inner : codeAny (model C.prog C.w) C.A (.compLoop (flatE x y p1 p2 p3 p4 i1 scope pos) 1 (.ref I2) (.ref D) (compEnvC scope cl H.objs.size env)) (fun r s' => match r with | .ok f => wpAny (model C.prog C.w) C.A (again (.compLoop (flatE x y p1 p2 p3 p4 i1 scope pos) 0 (.ref I) (.ref D) (compEnvC scope cl H.objs.size env))) (fun fin s'_1 => match fin with
              | .done f => compPost (model C.prog C.w) C.A (fun e s' => Out C.base C.L s (E e) s') (some (assign (.Name z py) env)) (fun _ s' => Out C.base C.L s (Q .next) s') (.ref D) H.objs.size (.ok f) s'_1
              | .again c' => c' = .compLoop (flatE x y p1 p2 p3 p4 i1 scope pos) 0 (.ref I) (.ref D) (compEnvC scope cl H.objs.size env) ∧ ∃ j, j < rs.length - i ∧ ∃ i, j = rs.length - i ∧ i ≤ rs.length ∧ St C.base H.objs.size [] ((I, litS a i) :: (D, listS (iL ((rs.take i).flatMap (·.2)))) :: (C.L, Frm m₁) :: l₁) s'_1.heap ∧ Rel s s'_1) (fun _ _ => False) s' | .error e => False) { s₄ with heap := H₂ } := by
          refine flat_inner (l := (I, litS a (i + 1)) :: (C.L, Frm m₁) :: l₁) (cenv := compEnvC scope cl H.objs.size env) (s := { s₄ with heap := H₂ }) hh hxy (lookup_relabel_local hyl) rfl hkind hdy ?_ (.tail _ (.tail _ hmr)) S₆ (r₄.trans (Rel.heap _ _)) fun s₇ S₇ r₇ => ?_
          · have h1 := htot i
            have h2 := hz2 rs[i] (List.getElem_mem hlt)
            rw [iL_len]
            lia
          · refine wpAny_pure ⟨rfl, rs.length - (i + 1), by lia, i + 1, rfl, by lia, ?_, r₇⟩
            have e : iL ((rs.take (i + 1)).flatMap (·.2)) = iL ((rs.take i).flatMap (·.2)) ++ iL rs[i].2 := by
              rw [List.take_succ, List.getElem?_eq_getElem hlt, List.flatMap_append, iL_append]
              simp
            rw [e]
            exact S₇.perm (List.Perm.swap _ _ _)
        refine wpAny_bind (wpAny_runOwn (h := none) ?_)
        refine codeAny_mono (start_flat (A := C.A) (.inr rfl) inner ((self_list (C := cx C H.objs.size)).self I2 [] _ { s₄ with heap := H₂ } _ _ S₆ inner)) fun r s' hr => ?_
        cases r with
        | ok f => exact wpAny_mono hr (fun _ _ x => x) fun _ _ x => x.elim
        | error e => exact hr.elim
    · have he : i = rs.length := by lia
      subst he
      have hS' : St C.base H.objs.size [] ((I, litS a (rs.map fun p : Addr × List Int => Value.ref p.1).length) :: (D, listS (iL ((rs.take rs.length).flatMap (·.2)))) :: (C.L, Frm m₁) :: l₁) s'.heap := by rw [hml]; exact S
      refine T.sure (C := cx C H.objs.size) (W.done [] ((D, listS (iL ((rs.take rs.length).flatMap (·.2)))) :: (C.L, Frm m₁) :: l₁) (fun o mm ll => o = none ∧ mm = [] ∧ ll = (D, listS (iL ((rs.take rs.length).flatMap (·.2)))) :: (C.L, Frm m₁) :: l₁) no (.tail _ (.tail _ hma)) ⟨rfl, rfl, rfl⟩) hS' hr fun rr s₂ m₂ l₂ S₂ r₂ q₂ => ?_
      obtain ⟨hrr, rfl, rfl⟩ := q₂
      match rr, hrr with
      | none, _ =>
        rw [List.take_length] at S₂
        have S₈ : St C.base C.L m₁ ((H.objs.size, Frm []) :: (D, listS (iL (rs.flatMap (·.2)))) :: l₁) s₂.heap := St.swapF S₁.above (S₂.perm (List.Perm.swap _ _ _))
        refine wpAny_pure ?_
        obtain ⟨m', hPut⟩ := hP m₁ (.ref D)
        have st : TA C m₁ ((H.objs.size, Frm []) :: (D, listS (iL (rs.flatMap (·.2)))) :: l₁) (.Name z py) env (.ref D) (fun mm ll => mm = m' ∧ ll = (H.objs.size, Frm []) :: (D, listS (iL (rs.flatMap (·.2)))) :: l₁) no := a_name (store hPut ⟨rfl, rfl⟩ hl he hp)
        refine T.sure (st (.ref D) rfl) S₈ r₂ fun _ s₃ m₃ l₃ S₃ r₃ q₃ => ?_
        obtain ⟨rfl, rfl⟩ := q₃
        obtain ⟨o, ho, mv, hn, hx⟩ := S₃.get _ (.head _)
        exact ⟨mv, ns_iff.mpr ⟨o, ho, hn⟩, fun h' hs' => Out.here (r₃.trans (Rel.heap _ _)) (S₃.dropBut fun b o hb hg => (hs'.2 b hb).trans hg) (hq D _ hPut)⟩
  exact start_flat (.inl rfl) loop ((self_list (C := cx C H.objs.size)).self I [] _ { s₁ with heap := h₁, toks := s₁.toks + ([] : List (Str × Value)).length } _ _ S₅ loop)
theorem put_ex (z : Str) (v : Value) : ∀ m : Loc, ∃ m', Put z v m m'
  | [] => ⟨_, .nil⟩
  | (y, u) :: r => by
    by_cases h : y = z
    · subst h; exact ⟨_, .here⟩
    · obtain ⟨r', hr⟩ := put_ex z v r
      exact ⟨_, .there h hr⟩
theorem Put.uniq {z : Str} {v : Value} {m m' m'' : Loc} (a : Put z v m m') (b : Put z v m m'') : m' = m'' := by
  induction a generalizing m'' with
  | nil => cases b; rfl
  | here =>
    cases b with
    | here => rfl
    | there h _ => exact absurd rfl h
  | there h _ ih =>
    cases b with
    | here => exact absurd rfl h
    | there _ hb => rw [ih hb]
end
end
section
set_option Elab.async false
set_option linter.all false
set_option maxRecDepth 100000
set_option maxHeartbeats 1000000
/-! ## bound methods -/
noncomputable def bmS (f x : Addr) : Shape := fun o => o = methodObj (.ref f) (.ref x)
section
variable {K : Frag} {C : Cx} {m : Loc} {l l' l₀ : Led} {E : Pv} {env : Env} {a b it d r x dx Cl f q : Addr} {vs : List Value} {v : Value} {i : Nat} {ns ms : List Int} {Q : Pv} {name : Str} {as : Loc} {sl : List (Option Value)}
theorem at_bound (O : Ok K C) (Kc : ClsK K Cl) (hp : plainGet K Cl name = true) (hh : hasDictIn K Cl = true) (ha : findIn K (.ref Cl) name = some (some (.ref f))) (hf : isFn K (.ref f) = true)
    (hgf : specialIn K (.ref f) "__get__" = some (some (.builtin "function.__get__"))) (ht : takesIn K (.ref f) = some false) (hc : copiedNames.contains name = false) (h1 : (x, instS Cl dx sl) ∈ l) (h2 : (dx, attrS as) ∈ l) (hl : as.lookup name = none)
    (h : ∀ q, Q (.ref q) m ((q, bmS f x) :: l)) : TAt C m l (.ref x) name Q E := fun vo hv s S => by
  obtain rfl := un_ref hv
  obtain ⟨slots, es, n, I, hs, he⟩ := S.inst h1 h2
  have X := O.X.keeps S.keep
  exact get_bind X I (plainGet_of hp).1 (findObj_fn hh ha hgf ht hc (by show lookIn name (dictOf es n) = _; rw [lookIn_dict, getL_none he hl])) (plainGet_of hp).2
    (wpAny_call (fn_get (s := { s with toks := s.toks + 1 }) X (beq_iff_eq.mp hf) (handed_on rfl (Out.here (Rel.of s _ _) (S.push (P := bmS f x) _ rfl rfl) (h _)))))
theorem call_bm {m : Loc} {s : Shared} {us : List Value} (hq : (q, bmS f x) ∈ l) (h : TCd C m l (.ref f) (.ref x :: vs) [] Q E) (hu : us.map un = vs) (S : St C.base C.L m l s.heap) :
    wpAny (model C.prog C.w) C.A (call (.ref q) us []) (fun v s' => Out C.base C.L s (Q (un v)) s') (fun e s' => Out C.base C.L s (E e) s') s := by
  obtain ⟨o, ho, rfl⟩ := S.get _ hq
  exact wpAny_call (method_call ho (h (.ref f) (.ref x :: us) [] rfl (by rw [List.map_cons, hu]; rfl) rfl s S))
theorem e_methS1 {o e : Expr} {apos pos p : Pos} (O : Ok K C)
    (h : TV C m l (eval o env) (fun ov m l => TAt C m l ov name (fun fv m l => ∃ q f x, fv = .ref q ∧ fnIn K f = true ∧ TV C m l (eval e env) (fun v m l => ∃ vs, SeqAtL v vs l ∧ vs.length ≤ 16000000 ∧ (q, bmS f x) ∈ l ∧ TCd C m l (.ref f) (.ref x :: vs) [] Q E) E) E) E)
    (he : eval (.Call (.Attribute o name apos) [.Starred e p] [] pos) env = (do
      let ov ← eval o env
      standAt apos.atName
      let (f, first) ← holding [ov] (do pure ((← getAttr ov name true), ([] : List Value)))
      callWith pos f first (backTo pos (starEach [.Starred e p] env)) []) := by with_unfolding_all rfl)
    (hs : starEach [.Starred e p] env = [(true, eval e env)] := by with_unfolding_all rfl) : TV C m l (eval (.Call (.Attribute o name apos) [.Starred e p] [] pos) env) Q E := fun s S => by
  rw [he, hs]
  refine wpAny_bind (T.next h S (Rel.refl s) fun ov s₁ m₁ l₁ S₁ r₁ q₁ => wpAny_bind (wpAny_standAt (wpAny_bind (wpAny_holding (wpAny_bind (T.next (q₁ ov rfl) S₁ r₁ fun fv s₂ m₂ l₂ S₂ r₂ q₂ => wpAny_pure ?_))))))
  obtain ⟨q, f, x, hfv, hfn, q₂⟩ := q₂
  obtain rfl := un_ref hfv
  refine ks_call (P := MethP K q f (.ref x)) rfl (keeps_M hfn) (ks_lone (T.next q₂ S₂ r₂ fun v s₃ m₃ l₃ S₃ r₃ q₃ => ?_))
  obtain ⟨vs, hq, hz, hm, hc⟩ := q₃
  refine star_T S₃ hq hz fun us h' hu S₄ => ?_
  obtain ⟨ob, hob, hP⟩ := S₄.get _ hm
  refine ⟨⟨by rw [← (show ob = _ from hP)]; exact hob, O.X.keeps S₄.keep⟩, ?_⟩
  exact wpAny_mono (call_bm hm hc hu (s := { s₃ with heap := h' }) S₄) (fun _ _ o => o.lift (r₃.trans (Rel.heap _ _))) (fun _ _ o => o.lift (r₃.trans (Rel.heap _ _)))
theorem e_methS2 {o e₀ : Expr} {apos pos : Pos} {rest : List Expr} (O : Ok K C)
    (h : TV C m l (eval o env) (fun ov m l => TAt C m l ov name (fun fv m l => ∃ q f x, fv = .ref q ∧ fnIn K f = true ∧ TL C m l (spliced (backTo pos (starEach (e₀ :: rest) env))) (fun vs m l => (q, bmS f x) ∈ l ∧ TCd C m l (.ref f) (.ref x :: vs) [] Q E) E) E) E)
    (he : eval (.Call (.Attribute o name apos) (e₀ :: rest) [] pos) env = (do
      let ov ← eval o env
      standAt apos.atName
      let (f, first) ← holding [ov] (do pure ((← getAttr ov name true), ([] : List Value)))
      callWith pos f first (backTo pos (starEach (e₀ :: rest) env)) []) := by with_unfolding_all rfl)
    (hs : starEach (e₀ :: rest) env = (false, eval e₀ env) :: starEach rest env := by with_unfolding_all rfl) (hst : (backTo pos (starEach rest env)).any (·.1) = true := by with_unfolding_all rfl) :
    TV C m l (eval (.Call (.Attribute o name apos) (e₀ :: rest) [] pos) env) Q E := fun s S => by
  rw [he]
  refine wpAny_bind (T.next h S (Rel.refl s) fun ov s₁ m₁ l₁ S₁ r₁ q₁ => wpAny_bind (wpAny_standAt (wpAny_bind (wpAny_holding (wpAny_bind (T.next (q₁ ov rfl) S₁ r₁ fun fv s₂ m₂ l₂ S₂ r₂ q₂ => wpAny_pure ?_))))))
  obtain ⟨q, f, x, hfv, hfn, h2⟩ := q₂
  obtain rfl := un_ref hfv
  rw [hs] at h2 ⊢
  refine ks_call (P := MethP K q f (.ref x)) (by show (false || (backTo pos (starEach rest env)).any (·.1)) = true; rw [hst]; rfl) (keeps_M hfn) (evalArgs_plain ?_)
  refine T.next h2 S₂ r₂ fun us s₃ m₃ l₃ S₃ r₃ q₃ => ?_
  obtain ⟨hm, hc⟩ := q₃
  obtain ⟨ob, hob, hP⟩ := S₃.get _ hm
  refine ⟨⟨by rw [← (show ob = _ from hP)]; exact hob, O.X.keeps S₃.keep⟩, ?_⟩
  exact wpAny_mono (call_bm hm hc rfl S₃) (fun _ _ o => o.lift r₃) (fun _ _ o => o.lift r₃)
end
end
section
set_option Elab.async false
set_option linter.all false
set_option maxRecDepth 100000
set_option maxHeartbeats 1000000
/-! ## the first call, and a list that stood before it -/
noncomputable def BaseL (C : Cx) (a : Addr) (vs : List Value) : Prop := ∃ items, C.base.IsList a items ∧ items.toList.map un = vs
theorem BaseL.at {C : Cx} {a : Addr} {vs : List Value} {m : Loc} {l : Led} {h : Heap} (B : BaseL C a vs) (S : St C.base C.L m l h) : ∃ items, h.IsList a items ∧ items.toList.map un = vs := by
  obtain ⟨items, ⟨o, h1, h2⟩, h3⟩ := B
  exact ⟨items, ⟨o, S.keep _ _ h1, h2⟩, h3⟩
section
variable {K : Frag} {C : Cx} {m : Loc} {l l' l₀ : Led} {E : Pv} {env : Env} {a b it d r sl : Addr} {vs : List Value} {v : Value} {i : Nat} {ns ms : List Int} {Q : Pv}
theorem f_sumB (hm : BaseL C a (iL ns)) (hh : C.A.handled = none) (h : Q (.int ns.sum 0) m l) : TCall C m l (.builtin "sum") [.ref a] [] Q E :=
  call1 Own.builtin fun x hx s S => by
    obtain rfl := un_ref hx
    obtain ⟨items, hl, hi⟩ := hm.at S
    obtain ⟨xs, rfl, hxs⟩ := ints_items hi
    refine sum_intListG hh hl fun h' tk t' hk => ?_
    rw [preSum_sum, hxs]
    exact Out.here (Rel.of s _ _) (S.grow hk) h
theorem s_sliceB {x y : Expr} {lo hi st : Option Int} {vl vu vk : Value} {Q : Pv} (hm : BaseL C a vs) (hsl : (sl, sliS vl vu vk) ∈ l) (el : vl = pv lo) (eu : vu = pv hi) (ek : vk = pv st) (h0 : st ≠ some 0) (hz : vs.length ≤ 16000000)
    (h : ∀ r, Q (.ref r) m ((r, listS (pickL vs lo hi st)) :: l))
    (hs : ∀ va vi, ∃ ops, subscripted y false va vi = operate ops (getItem va vi) := by intro va vi; exact ⟨_, by with_unfolding_all rfl⟩) : TSub C m l x y (.ref a) (.ref sl) Q E := fun vo vi ho hi s S => by
  obtain rfl := un_ref ho
  obtain rfl := un_ref hi
  subst el eu ek
  obtain ⟨items, hl, hit⟩ := hm.at S
  obtain ⟨o, ho, vl, vu, vk, rfl, h1, h2, h3⟩ := S.get _ hsl
  obtain ⟨ops, hs⟩ := hs (.ref a) (.ref sl)
  refine tail_any hl.typeIs F.slot_list_getitem.lookup ?_ hs
  refine wpAny_getItem_list_slice hl ⟨_, ho, rfl, rfl⟩ (part_of h1) (part_of h2) (part_of h3) h0 ?_ (by rw [len_of hit, sizeLine_eq]; lia)
  exact Out.here (Rel.heap s _) (S.push (P := listS (pickL vs lo _ st)) _ rfl ⟨_, _, rfl, pick_map hit ..⟩) (h _)
theorem topCC {C : Cx} {f : Addr} {fd : FuncData} {body : List Stmt} {o : Obj} {us : List Value} {b : List (Str × Value)} {bs : List (Str × Value)} {m' : Loc} {s : Shared} {R : Result → Shared → Prop} (hbase : C.base = s.heap)
    (ho : C.base.get? f = some o) (hd : o.data = .func fd) (hbody : fd.body = .stmts body) (hclo : fd.closure = []) (hcd : C.base.CodeRec fd.code fd.qualname) (hlim : C.base.NoLimit) (hroom : C.A.depth < recursionLimit)
    (hbind : bindArgs fd ⟨us, []⟩ = pure b) (hb' : unB b = bs)
    (q₁ : ∀ L', TF (sub C (callEnvC fd L' f)) m' (cellLed fd.scope.names bs (L' + 1)) (execs body (callEnvC fd L' f)) (fun fl _ _ => retv fl = .bool true) no)
    (hR : ∀ s', Rel s s' → (∀ b o, s.heap.get? b = some o → s'.heap.get? b = some o) → R (.ok (.ret (.bool true))) s')
    (hm : m' = (bs.filter fun p => decide (fd.scope.names.lookup p.1 = some .local)).reverse) (hnd : ((cellsFrom 0 fd.scope.names []).map (·.1)).Nodup)
    (hloc0 : (bs.all fun x => decide (fd.scope.names.lookup x.1 = some .local) || (decide (fd.scope.names.lookup x.1 = some .cell) && (((cellsFrom 0 fd.scope.names []).map (·.1)).contains x.1))) = true)
    (hco : fd.scope.isCoroutine = false) (hgen : fd.scope.isGenerator = false) (hk : fd.scope.kind = .function) : codeAny (model C.prog C.w) C.A (.call (.ref f) ⟨us, []⟩) R s := by
  have hnames : ∀ n, (cellsFrom n fd.scope.names []).map (·.1) = (cellsFrom 0 fd.scope.names []).map (·.1) := fun n => cells_names _ _ _ _ _ rfl
  rw [hbase] at ho hcd hlim
  refine codeAny_call_function hroom ho hd hco hgen hbody hcd ?_
  rw [hbind]
  refine wpAny_pure ?_
  rw [hclo]
  have hloc' : ∀ x ∈ b, fd.scope.names.lookup x.1 = some .local ∨ (fd.scope.names.lookup x.1 = some .cell ∧ ((cellsFrom (s.heap.objs.size + 1) fd.scope.names []).lookup x.1).isSome = true) := fun x hx => by
    have hx' : (x.1, un x.2) ∈ bs := hb' ▸ List.mem_map_of_mem (f := fun p : Str × Value => (p.1, un p.2)) hx
    have := List.all_eq_true.mp hloc0 _ hx'
    simp only [Bool.or_eq_true, Bool.and_eq_true, decide_eq_true_eq] at this
    rcases this with h | ⟨h, h2⟩
    · exact .inl h
    · refine .inr ⟨h, ?_⟩
      rw [← hnames (s.heap.objs.size + 1)] at h2
      have h2 : x.1 ∈ (cellsFrom (s.heap.objs.size + 1) fd.scope.names []).map (·.1) := by simpa using h2
      obtain ⟨q, hq, e⟩ := List.mem_map.mp h2
      have hnd' : ((cellsFrom (s.heap.objs.size + 1) fd.scope.names []).map (·.1)).Nodup := by rw [hnames]; exact hnd
      rw [← e, lookup_of_mem hnd' (n := q.1) (c := q.2) hq]; rfl
  refine wpAny_newFunctionEnv_cells hk hloc' fun env he s' x => ?_
  subst he
  refine ⟨hlim.keeps x.toInCall.keep, codeAny_func ?_⟩
  obtain ⟨h', tk, hs'⟩ := x.toInCall.same
  have hkeep : ∀ b o, s.heap.get? b = some o → h'.get? b = some o := fun b o e => by have := x.toInCall.keep b o e; rw [hs'] at this; exact this
  have hns := x.toInCall.ns
  rw [hs'] at hns
  have S₂ : St C.base s.heap.objs.size m' [] h' := by
    refine ⟨by rw [hbase]; exact hkeep, by rw [hbase]; exact Nat.le_refl _, ⟨_, hns, fun y v e => ?_⟩, (fun p hp => by cases hp), (fun p hp => by cases hp), by simp⟩
    rw [bindL_eq, Option.or_none, lookup_rev_un]
    rw [hm, ← hb'] at e
    show (unB (b.filter fun x => decide (fd.scope.names.lookup x.1 = some .local))).reverse.lookup y = some v
    rw [filter_unB (fun y => decide (fd.scope.names.lookup y = some .local)) b]
    exact e
  have S₃ : St C.base s.heap.objs.size m' (cellLed fd.scope.names bs (s.heap.objs.size + 1) ++ []) h' := by
    refine St.cells (fun p => cellS ((bs.filter fun q => !decide (fd.scope.names.lookup q.1 = some .local)).reverse.lookup p.1)) S₂ _ (fun p hp => ?_) x.apart
    have hnd' : ((cellsFrom (s.heap.objs.size + 1) fd.scope.names []).map (·.1)).Nodup := by rw [hnames]; exact hnd
    obtain ⟨oc, hoc, hdc⟩ := x.cell p.1 p.2 (lookup_of_mem hnd' hp)
    have hab : s.heap.objs.size < p.2 := x.above p.1 p.2 hp
    rw [hs'] at hoc
    have hnone : s.heap.get? p.2 = none := Heap.get?_none_of_le (Nat.le_of_lt hab)
    refine ⟨⟨oc, hoc, _, hdc, ?_⟩, by rw [hbase]; exact hnone, Nat.ne_of_gt hab, fun hm => by simp at hm⟩
    rw [bindC_eq, Option.or_none, lookup_rev_un, ← hb']
    rw [← filter_unB (fun y => !decide (fd.scope.names.lookup y = some .local)) b]
    try rfl
  rw [List.append_nil] at S₃
  have key := T.next (q₁ s.heap.objs.size) (s := s) (s₁ := s') (by rw [hs']; exact S₃) (by rw [hs']; exact Rel.of s h' tk)
    (K := fun fl s' => R (.ok (.ret (match fl with | .ret v => v | _ => .none))) s') (fun fl s₂ m₂ l₂ S₃ r₃ q₃ => by
      have hk := hR s₂ r₃ (by rw [← hbase]; exact S₃.keep)
      have e := retv_un fl
      rw [q₃] at e
      cases fl with
      | ret v => have := un_bool e; subst this; exact hk
      | next => cases e
      | brk => cases e
      | cont => cases e)
  exact wpAny_mono key (fun fl s' x => by cases fl <;> exact x) fun _ _ x => by obtain ⟨_, _, _, _, hf⟩ := x; exact hf.elim
end
end
section
set_option Elab.async false
set_option linter.all false
set_option maxRecDepth 100000
/-! ## the sorter's things -/
structure Nd where
  key : Int
  np : Int
  succ : List Int
  na : Addr
  nd : Addr
  sa : Addr
noncomputable def Nd.inst (x : Nd) : Shape := instS 121 x.nd [some (.int x.key 0), some (.int x.np 0), some (.ref x.sa)]
noncomputable def nodeL (x : Nd) : Led := [(x.na, x.inst), (x.nd, attrS []), (x.sa, listS (iL x.succ))]
noncomputable def nodesL (ns : List Nd) : Led := ns.flatMap nodeL
noncomputable def n2L (ns : List Nd) : List (Int × Value) := ns.map fun x => (x.key, .ref x.na)
noncomputable abbrev tsA (n2 : Addr) (rd : Value) (po fi : Int) : Loc := [(Str.ofString "_node2info", .ref n2), (Str.ofString "_ready_nodes", rd), (Str.ofString "_npassedout", .int po 0), (Str.ofString "_nfinished", .int fi 0)]
noncomputable abbrev sortL (sx sd n2 : Addr) (ep : Nat) (ns : List Nd) (rd : Value) (po fi : Int) (r : Led) : Led :=
  (sx, instS 218 sd []) :: (sd, attrS (tsA n2 rd po fi)) :: (n2, dictE ep (n2L ns)) :: (nodesL ns ++ r)
theorem nodesL_app (p q : List Nd) : nodesL (p ++ q) = nodesL p ++ nodesL q := by simp [nodesL]
theorem nodesL_cons (x : Nd) (q : List Nd) : nodesL (x :: q) = nodeL x ++ nodesL q := by simp [nodesL]
theorem nodesL_mid (p q : List Nd) (x : Nd) : nodesL (p ++ x :: q) = nodesL p ++ (nodeL x ++ nodesL q) := by rw [nodesL_app, nodesL_cons]
theorem n2L_app (p q : List Nd) : n2L (p ++ q) = n2L p ++ n2L q := by simp [n2L]
theorem mem_node {ns : List Nd} {x : Nd} (h : x ∈ ns) {e : Addr × Shape} (he : e ∈ nodeL x) : e ∈ nodesL ns := List.mem_flatMap.mpr ⟨x, h, he⟩
theorem Upd.app {a : Addr} {P P' : Shape} {l l' : Led} (U : Upd a P P' l l') : ∀ s : Led, Upd a P P' (s ++ l) (s ++ l')
  | [] => U
  | _ :: s => .there (U.app s)
theorem Upd.appR {a : Addr} {P P' : Shape} {l l' : Led} (U : Upd a P P' l l') (r : Led) : Upd a P P' (l ++ r) (l' ++ r) := by
  induction U with
  | here => exact .here
  | there _ ih => exact .there ih
noncomputable def keysOf (ns : List Nd) : List Int := ns.map (·.key)
theorem val_mid {p q : List Nd} {x : Nd} (h : (keysOf (p ++ x :: q)).Nodup) : valueAt (n2L (p ++ x :: q)) x.key = some (.ref x.na) := by
  unfold valueAt n2L
  have : (List.map (fun x : Nd => (x.key, Value.ref x.na)) (p ++ x :: q)).find? (fun kv => decide (kv.1 = x.key)) = some (x.key, .ref x.na) := by
    rw [List.map_append, List.find?_append]
    have h1 : (List.map (fun x : Nd => (x.key, Value.ref x.na)) p).find? (fun kv => decide (kv.1 = x.key)) = none := by
      rw [List.find?_eq_none]
      intro kv hkv
      obtain ⟨y, hy, rfl⟩ := List.mem_map.mp hkv
      simp only [decide_eq_true_eq]
      intro e
      unfold keysOf at h
      rw [List.map_append, List.nodup_append] at h
      exact h.2.2 y.key (List.mem_map_of_mem hy) x.key (by simp) e
    rw [h1]
    simp
  rw [this]; rfl
theorem val_none {ns : List Nd} {k : Int} (h : k ∉ keysOf ns) : valueAt (n2L ns) k = none := by
  unfold valueAt n2L
  have : (List.map (fun x : Nd => (x.key, Value.ref x.na)) ns).find? (fun kv => decide (kv.1 = k)) = none := by
    rw [List.find?_eq_none]
    intro kv hkv
    obtain ⟨y, hy, rfl⟩ := List.mem_map.mp hkv
    simp only [decide_eq_true_eq]
    intro e
    exact h (e ▸ List.mem_map_of_mem hy)
  rw [this]; rfl
theorem stored_new {ns : List Nd} {k : Int} {v : Value} (h : k ∉ keysOf ns) : stored (n2L ns) k v = n2L ns ++ [(k, v)] := by
  unfold stored
  rw [if_neg]
  rw [List.any_eq_true]
  rintro ⟨kv, hkv, e⟩
  unfold n2L at hkv
  obtain ⟨y, hy, rfl⟩ := List.mem_map.mp hkv
  simp only [decide_eq_true_eq] at e
  exact h (e ▸ List.mem_map_of_mem hy)
theorem split_key {ns : List Nd} {k : Int} (h : k ∈ keysOf ns) : ∃ p x q, ns = p ++ x :: q ∧ x.key = k := by
  obtain ⟨x, hx, rfl⟩ := List.mem_map.mp h
  obtain ⟨p, q, e⟩ := List.append_of_mem hx
  exact ⟨p, x, q, e, rfl⟩
/-! ## the graph, plainly: key, count, successors -/
noncomputable abbrev Gr := List (Int × Int × List Int)
noncomputable def absG (ns : List Nd) : Gr := ns.map fun x => (x.key, x.np, x.succ)
noncomputable def gkeys (g : Gr) : List Int := g.map (·.1)
theorem absG_app (p q : List Nd) : absG (p ++ q) = absG p ++ absG q := by simp [absG]
theorem absG_keys (ns : List Nd) : gkeys (absG ns) = keysOf ns := by simp [gkeys, absG, keysOf]
noncomputable def gmod (g : Gr) (k : Int) (f : Int × List Int → Int × List Int) : Gr := g.map fun p => if p.1 = k then (p.1, f p.2) else p
noncomputable def gnew (g : Gr) (k : Int) : Gr := if k ∈ gkeys g then g else g ++ [(k, 0, [])]
noncomputable def addG (g : Gr) (k : Int) (ps : List Int) : Gr := ps.foldl (fun g p => gmod (gnew g p) p fun x => (x.1, x.2 ++ [k])) (gmod (gnew g k) k fun x => (x.1 + ps.length, x.2))
theorem gmod_mid {p q : List Nd} {x y : Nd} {f : Int × List Int → Int × List Int} (h : (keysOf (p ++ x :: q)).Nodup) (hk : y.key = x.key) (hy : (y.np, y.succ) = f (x.np, x.succ)) : absG (p ++ y :: q) = gmod (absG (p ++ x :: q)) x.key f := by
  unfold keysOf at h
  rw [List.map_append, List.map_cons, List.nodup_append, List.nodup_cons] at h
  obtain ⟨_, ⟨h2, _⟩, h4⟩ := h
  unfold gmod absG
  rw [List.map_map, List.map_append, List.map_append, List.map_cons, List.map_cons]
  congr 1
  · refine List.map_congr_left fun z hz => ?_
    have : z.key ≠ x.key := h4 z.key (List.mem_map_of_mem hz) x.key (by simp)
    simp [this]
  · congr 1
    · have e : f (x.np, x.succ) = (y.np, y.succ) := hy.symm
      simp [e, hk]
    · refine List.map_congr_left fun z hz => ?_
      have : z.key ≠ x.key := fun e => h2 (e ▸ List.mem_map_of_mem hz)
      simp [this]
theorem gkeys_gmod (g : Gr) (k : Int) (f) : gkeys (gmod g k f) = gkeys g := by
  unfold gkeys gmod
  rw [List.map_map]
  refine List.map_congr_left fun p _ => ?_
  simp only [Function.comp]
  split <;> rfl
theorem mem_nodes {ns : List Nd} {x : Nd} (h : x ∈ ns) {e : Addr × Shape} (he : e ∈ nodeL x) (r : Led) : e ∈ nodesL ns ++ r := List.mem_append_left _ (mem_node h he)
theorem node_inst (x : Nd) : (x.na, x.inst) ∈ nodeL x := .head _
theorem node_dict (x : Nd) : (x.nd, attrS []) ∈ nodeL x := .tail _ (.head _)
theorem node_succ (x : Nd) : (x.sa, listS (iL x.succ)) ∈ nodeL x := .tail _ (.tail _ (.head _))
theorem upd_np (p q : List Nd) (x : Nd) (v : Int) (r : Led) : Upd x.na x.inst ({ x with np := v } : Nd).inst (nodesL (p ++ x :: q) ++ r) (nodesL (p ++ ({ x with np := v } : Nd) :: q) ++ r) := by
  rw [nodesL_mid, nodesL_mid]
  exact ((Upd.appR .here _).app _).appR _
theorem upd_succ (p q : List Nd) (x : Nd) (s : List Int) (r : Led) : Upd x.sa (listS (iL x.succ)) (listS (iL s)) (nodesL (p ++ x :: q) ++ r) (nodesL (p ++ ({ x with succ := s } : Nd) :: q) ++ r) := by
  rw [nodesL_mid, nodesL_mid]
  exact ((Upd.appR (.there (.there .here)) _).app _).appR _
theorem sort_node {sx sd n2 : Addr} {ep : Nat} {ns : List Nd} {rd : Value} {po fi : Int} {l : Led} {x : Nd} (hx : x ∈ ns) {e : Addr × Shape} (he : e ∈ nodeL x) : e ∈ sortL sx sd n2 ep ns rd po fi l := .tail _ (.tail _ (.tail _ (mem_nodes hx he _)))
noncomputable def gle (g : Gr) (B : Nat) : Prop := ∀ p ∈ g, p.2.2.length ≤ B
theorem gle_new {g : Gr} {B : Nat} (h : gle g B) (k : Int) : gle (gnew g k) B := by
  unfold gnew
  split
  · exact h
  · intro p hp
    rcases List.mem_append.mp hp with hp | hp
    · exact h p hp
    · simp at hp; subst hp; simp
theorem gle_mod {g : Gr} {B : Nat} (h : gle g B) (k j : Int) : gle (gmod g k fun x => (x.1, x.2 ++ [j])) (B + 1) := by
  intro p hp
  obtain ⟨q, hq, rfl⟩ := List.mem_map.mp hp
  have := h q hq
  split
  · simp; lia
  · lia
theorem gle_np {g : Gr} {B : Nat} (h : gle g B) (k : Int) (f : Int → Int) : gle (gmod g k fun x => (f x.1, x.2)) B := by
  intro p hp
  obtain ⟨q, hq, rfl⟩ := List.mem_map.mp hp
  have := h q hq
  split <;> exact this
theorem gle_of {ns : List Nd} {B : Nat} (h : gle (absG ns) B) {x : Nd} (hx : x ∈ ns) : x.succ.length ≤ B := h _ (List.mem_map_of_mem (f := fun x : Nd => (x.key, x.np, x.succ)) hx)
theorem keys_mid (p q : List Nd) (x y : Nd) (h : y.key = x.key) : keysOf (p ++ y :: q) = keysOf (p ++ x :: q) := by simp [keysOf, h]
end
section
set_option Elab.async false
set_option linter.all false
set_option maxRecDepth 100000
noncomputable def gat (g : Gr) (k : Int) : Int × List Int := ((g.find? fun p => decide (p.1 = k)).map (·.2)).getD (0, [])
noncomputable def dcr (st : Gr × List Int) (s : Int) : Gr × List Int := (gmod st.1 s fun z => (z.1 - 1, z.2), if (gat st.1 s).1 - 1 = 0 then st.2 ++ [s] else st.2)
noncomputable def doneK (st : Gr × List Int) (k : Int) : Gr × List Int := (gat st.1 k).2.foldl dcr (gmod st.1 k fun z => (-2, z.2), st.2)
noncomputable def doneAll (st : Gr × List Int) (ks : List Int) : Gr × List Int := ks.foldl doneK st
theorem gat_mid {p q : List Nd} {x : Nd} (h : (keysOf (p ++ x :: q)).Nodup) : gat (absG (p ++ x :: q)) x.key = (x.np, x.succ) := by
  unfold gat absG
  have : (List.map (fun x : Nd => (x.key, x.np, x.succ)) (p ++ x :: q)).find? (fun kv => decide (kv.1 = x.key)) = some (x.key, x.np, x.succ) := by
    rw [List.map_append, List.find?_append]
    have h1 : (List.map (fun x : Nd => (x.key, x.np, x.succ)) p).find? (fun kv => decide (kv.1 = x.key)) = none := by
      rw [List.find?_eq_none]
      intro kv hkv
      obtain ⟨y, hy, rfl⟩ := List.mem_map.mp hkv
      simp only [decide_eq_true_eq]
      intro e
      unfold keysOf at h
      rw [List.map_append, List.nodup_append] at h
      exact h.2.2 y.key (List.mem_map_of_mem hy) x.key (by simp) e
    rw [h1]
    simp
  rw [this]; rfl
theorem gkeys_dcr (st : Gr × List Int) (s : Int) : gkeys (dcr st s).1 = gkeys st.1 := gkeys_gmod st.1 s fun z => (z.1 - 1, z.2)
theorem gkeys_dcrs (ss : List Int) : ∀ st, gkeys (ss.foldl dcr st).1 = gkeys st.1 := by
  induction ss with
  | nil => intro st; rfl
  | cons s ss ih => intro st; rw [List.foldl_cons, ih, gkeys_dcr]
theorem gkeys_doneK (st : Gr × List Int) (k : Int) : gkeys (doneK st k).1 = gkeys st.1 := by
  unfold doneK; rw [gkeys_dcrs]; exact gkeys_gmod st.1 k fun z => (-2, z.2)
theorem gkeys_doneAll (ks : List Int) : ∀ st, gkeys (doneAll st ks).1 = gkeys st.1 := by
  induction ks with
  | nil => intro st; rfl
  | cons k ks ih => intro st; unfold doneAll; rw [List.foldl_cons]; exact (ih _).trans (gkeys_doneK _ _)
noncomputable def gcl (g : Gr) : Prop := ∀ p ∈ g, ∀ s ∈ p.2.2, s ∈ gkeys g
theorem gcl_mod {g : Gr} (h : gcl g) (k : Int) (f : Int → Int) : gcl (gmod g k fun z => (f z.1, z.2)) := by
  intro p hp s hs
  rw [gkeys_gmod]
  obtain ⟨q, hq, rfl⟩ := List.mem_map.mp hp
  refine h q hq s ?_
  split at hs <;> exact hs
theorem gcl_dcrs (ss : List Int) : ∀ st : Gr × List Int, gcl st.1 → gcl (ss.foldl dcr st).1 := by
  induction ss with
  | nil => intro st h; exact h
  | cons s ss ih => intro st h; exact ih _ (gcl_mod h _ (· - 1))
theorem gcl_doneK {st : Gr × List Int} (h : gcl st.1) (k : Int) : gcl (doneK st k).1 := gcl_dcrs _ _ (gcl_mod h k fun _ => -2)
theorem gcl_doneAll (ks : List Int) : ∀ st : Gr × List Int, gcl st.1 → gcl (doneAll st ks).1 := by
  induction ks with
  | nil => intro st h; exact h
  | cons s ss ih => intro st h; exact ih _ (gcl_doneK h _)
theorem gle_dcrs {B : Nat} (ss : List Int) : ∀ st : Gr × List Int, gle st.1 B → gle (ss.foldl dcr st).1 B := by
  induction ss with
  | nil => intro st h; exact h
  | cons s ss ih => intro st h; exact ih _ (gle_np h s (· - 1))
theorem gle_doneK {B : Nat} {st : Gr × List Int} (h : gle st.1 B) (k : Int) : gle (doneK st k).1 B := gle_dcrs _ _ (gle_np h k fun _ => -2)
theorem gle_doneAll {B : Nat} (ks : List Int) : ∀ st : Gr × List Int, gle st.1 B → gle (doneAll st ks).1 B := by
  induction ks with
  | nil => intro st h; exact h
  | cons s ss ih => intro st h; exact ih _ (gle_doneK h _)
theorem keepsucc {p q : List Nd} {x : Nd} {v : Int} {sa : Addr} {su : List Int} (h : ∃ y ∈ p ++ x :: q, y.sa = sa ∧ y.succ = su) : ∃ y ∈ p ++ ({ x with np := v } : Nd) :: q, y.sa = sa ∧ y.succ = su := by
  obtain ⟨y, hy, h1, h2⟩ := h
  rcases List.mem_append.mp hy with hy | hy
  · exact ⟨y, List.mem_append_left _ hy, h1, h2⟩
  · rcases List.mem_cons.mp hy with rfl | hy
    · exact ⟨{ y with np := v }, by simp, h1, h2⟩
    · exact ⟨y, List.mem_append_right _ (List.mem_cons_of_mem _ hy), h1, h2⟩
theorem n2L_np (p q : List Nd) (x : Nd) (v : Int) : n2L (p ++ ({ x with np := v } : Nd) :: q) = n2L (p ++ x :: q) := by simp [n2L]
end
section
set_option Elab.async false
set_option linter.all false
set_option maxRecDepth 100000
/-! ## the search for a ring, plainly -/
noncomputable def Path (R : Int → Int → Prop) : List Int → Prop
  | [] => True
  | [_] => True
  | x :: y :: r => R x y ∧ Path R (y :: r)
theorem Path.snoc {R : Int → Int → Prop} {x y : Int} : ∀ {l : List Int}, Path R (l ++ [x]) → R x y → Path R (l ++ [x] ++ [y])
  | [], _, h => ⟨h, trivial⟩
  | [z], ⟨h1, _⟩, h => ⟨h1, h, trivial⟩
  | z :: w :: l, ⟨h1, h2⟩, h => ⟨h1, Path.snoc (l := w :: l) h2 h⟩
theorem Path.tail {R : Int → Int → Prop} : ∀ {a b : List Int}, Path R (a ++ b) → Path R b
  | [], _, h => h
  | [x], [], _ => trivial
  | [x], y :: b, h => h.2
  | x :: y :: a, b, h => Path.tail (a := y :: a) h.2
noncomputable def Topo (sc : Int → List Int) (fin : List Int) : Prop := ∀ p k q, fin = p ++ k :: q → ∀ s ∈ sc k, s ∈ p
theorem Topo.nil {sc : Int → List Int} : Topo sc [] := fun p k q h => by simp at h
theorem Topo.snoc {sc : Int → List Int} {fin : List Int} {k : Int} (h : Topo sc fin) (hk : ∀ s ∈ sc k, s ∈ fin) : Topo sc (fin ++ [k]) := by
  intro p k' q e s hs
  rcases List.eq_nil_or_concat q with rfl | ⟨q', z, rfl⟩
  · have := List.append_inj' e rfl
    obtain ⟨rfl, h2⟩ := this
    obtain rfl : k = k' := by simpa using h2
    exact hk s hs
  · have e2 : fin ++ [k] = (p ++ k' :: q') ++ [z] := by rw [e]; simp
    have := List.append_inj' e2 rfl
    exact h p k' q' this.1 s hs
inductive FP (sc : Int → List Int) (root : Int) : Int → Prop
  | refl : FP sc root root
  | step {k s : Int} : FP sc root k → (sc k).head? = some s → FP sc root s
noncomputable def Dead (sc : Int → List Int) (root : Int) : Prop := ∃ k, FP sc root k ∧ sc k = []
noncomputable def DI (sc : Int → List Int) (fin : List Int) : Option Int → List (Int × Nat) → Prop
  | _, [] => True
  | some c, (k, i) :: r => 0 < i ∧ (sc k)[i - 1]? = some c ∧ (∀ s ∈ (sc k).take (i - 1), s ∈ fin) ∧ DI sc fin (some k) r
  | none, (k, i) :: r => (∀ s ∈ (sc k).take i, s ∈ fin) ∧ DI sc fin (some k) r
noncomputable def kys (rs : List (Int × Nat)) : List Int := rs.map (·.1)
theorem DI.mono {sc : Int → List Int} {fin fin' : List Int} (h : ∀ s ∈ fin, s ∈ fin') : ∀ {nx : Option Int} {rs : List (Int × Nat)}, DI sc fin nx rs → DI sc fin' nx rs
  | _, [], _ => by unfold DI; trivial
  | some c, (k, i) :: r, ⟨h1, h2, h3, h4⟩ => ⟨h1, h2, fun s hs => h s (h3 s hs), DI.mono h h4⟩
  | none, (k, i) :: r, ⟨h3, h4⟩ => ⟨fun s hs => h s (h3 s hs), DI.mono h h4⟩
theorem DI.met {sc : Int → List Int} {fin : List Int} {c : Int} (hc : c ∈ fin) : ∀ {rs : List (Int × Nat)}, DI sc fin (some c) rs → DI sc fin none rs
  | [], _ => by unfold DI; trivial
  | (k, i) :: r, ⟨h1, h2, h3, h4⟩ => by
    refine ⟨fun s hs => ?_, h4⟩
    obtain ⟨j, hj⟩ : ∃ j, i = j + 1 := ⟨i - 1, by lia⟩
    subst hj
    rw [List.take_succ, Nat.add_sub_cancel] at *
    rcases List.mem_append.mp hs with hs | hs
    · exact h3 s hs
    · rw [h2] at hs
      simp at hs
      exact hs ▸ hc
theorem DI.path {sc : Int → List Int} {fin : List Int} : ∀ {rs : List (Int × Nat)} {c : Int}, DI sc fin (some c) rs → Path (fun x y => y ∈ sc x) ((kys rs).reverse ++ [c])
  | [], c, _ => trivial
  | (k, i) :: r, c, ⟨h1, h2, h3, h4⟩ => by
    have := (DI.path h4).snoc (y := c) (List.mem_of_getElem? h2)
    simpa [kys] using this
theorem DI.path1 {sc : Int → List Int} : ∀ {rs : List (Int × Nat)} {c : Int}, DI sc [] (some c) rs → Path (fun x y => (sc x).head? = some y) ((kys rs).reverse ++ [c])
  | [], c, _ => trivial
  | (k, i) :: r, c, ⟨h1, h2, h3, h4⟩ => by
    have hi : i = 1 := by
      have hl := (List.getElem?_eq_some_iff.mp h2).1
      have : ((sc k).take (i - 1)).length = 0 := by
        rw [List.length_eq_zero_iff]
        exact List.eq_nil_iff_forall_not_mem.mpr fun s hs => by simpa using h3 s hs
      rw [List.length_take] at this
      lia
    subst hi
    have hh : (sc k).head? = some c := by rw [List.head?_eq_getElem?]; exact h2
    have := (DI.path1 h4).snoc (y := c) hh
    simpa [kys] using this
theorem DI.fp {sc : Int → List Int} {first : Int} : ∀ {rs : List (Int × Nat)} {c : Int}, DI sc [] (some c) rs → (kys rs).getLast? = some first → FP sc first c
  | [], c, _, h => by simp [kys] at h
  | (k, i) :: r, c, ⟨h1, h2, h3, h4⟩, h => by
    have hi : i = 1 := by
      have hl := (List.getElem?_eq_some_iff.mp h2).1
      have : ((sc k).take (i - 1)).length = 0 := by
        rw [List.length_eq_zero_iff]
        exact List.eq_nil_iff_forall_not_mem.mpr fun s hs => by simpa using h3 s hs
      rw [List.length_take] at this
      lia
    subst hi
    have hh : (sc k).head? = some c := by rw [List.head?_eq_getElem?]; exact h2
    refine FP.step ?_ hh
    match r, h4, h with
    | [], _, h => 
      have : k = first := by simpa [kys] using h
      subst this
      exact .refl
    | x :: r, h4, h => exact DI.fp h4 (by simpa [kys, List.getLast?_cons_cons] using h)
theorem sum_sub (f : Int → Nat) : ∀ (a b : List Int), a.Nodup → (∀ x ∈ a, x ∈ b) → (a.map f).sum ≤ (b.map f).sum
  | [], b, _, _ => by simp
  | x :: a, b, hn, hs => by
    have hx := List.perm_cons_erase (hs x (.head _))
    have := sum_sub f a (b.erase x) (List.nodup_cons.mp hn).2 fun y hy => by
      have hne : y ≠ x := fun e => (List.nodup_cons.mp hn).1 (e ▸ hy)
      exact (List.mem_erase_of_ne hne).mpr (hs y (.tail _ hy))
    have e := (hx.map f).sum_nat
    simp only [List.map_cons, List.sum_cons] at e ⊢
    lia
theorem len_sub {a b : List Int} (hn : a.Nodup) (hs : ∀ x ∈ a, x ∈ b) : a.length ≤ b.length := by
  have := sum_sub (fun _ => 1) a b hn hs
  have e : ∀ l : List Int, (l.map fun _ => 1).sum = l.length := by
    intro l
    induction l with
    | nil => rfl
    | cons x l ih => simp only [List.map_cons, List.sum_cons, List.length_cons, ih]; lia
  rw [e, e] at this
  exact this
structure DS (sc : Int → List Int) (ks : List Int) (first : Int) (fin : List Int) (rs : List (Int × Nat)) (sn : List Int) (nx : Option Int) : Prop where
  inv : DI sc fin nx rs
  topo : Topo sc fin
  seen : ∀ k, k ∈ sn ↔ k ∈ fin ∨ k ∈ kys rs
  snd : sn.Nodup
  nd : (fin ++ kys rs).Nodup
  keys : ∀ k ∈ fin ++ kys rs, k ∈ ks
  dead : fin ≠ [] → Dead sc first
  root : fin = [] → ∀ x, (kys rs).getLast? = some x → x = first
  le : ∀ x ∈ rs, x.2 ≤ (sc x.1).length
noncomputable def used (sc : Int → List Int) (fin : List Int) (rs : List (Int × Nat)) : Nat := (fin.map fun k => (sc k).length).sum + (rs.map (·.2)).sum
noncomputable def whole (sc : Int → List Int) (ks : List Int) : Nat := (ks.map fun k => (sc k).length).sum
section
variable {sc : Int → List Int} {ks : List Int} {first : Int} {fin : List Int} {rs : List (Int × Nat)} {sn : List Int} {nx : Option Int} {k c : Int} {i : Nat}
theorem DS.used_le (D : DS sc ks first fin rs sn nx) : used sc fin rs ≤ whole sc ks := by
  have h1 := sum_sub (fun k => (sc k).length) _ ks D.nd D.keys
  have h2 : ∀ l : List (Int × Nat), (∀ x ∈ l, x.2 ≤ (sc x.1).length) → (l.map (·.2)).sum ≤ ((kys l).map fun k => (sc k).length).sum := by
    intro l
    induction l with
    | nil => intro _; simp
    | cons x l ih =>
      intro h
      have := ih fun y hy => h y (.tail _ hy)
      have hx := h x (.head _)
      simp only [kys, List.map_cons, List.sum_cons] at this ⊢
      lia
  have := h2 rs D.le
  unfold used whole
  rw [List.map_append, List.sum_append] at h1
  lia
theorem DS.sn_len (D : DS sc ks first fin rs sn nx) : sn.length ≤ ks.length := len_sub D.snd fun k hk => D.keys k (List.mem_append.mpr ((D.seen k).mp hk))
theorem DS.rs_len (D : DS sc ks first fin rs sn nx) : rs.length ≤ ks.length := by
  have : (kys rs).length ≤ ks.length := len_sub (List.nodup_append.mp D.nd).2.1 fun k hk => D.keys k (List.mem_append.mpr (.inr hk))
  simpa [kys] using this
theorem DS.push (D : DS sc ks first fin rs sn (some c)) (hc : c ∉ sn) (hk : c ∈ ks) (hr : rs = [] → fin = [] → c = first) : DS sc ks first fin ((c, 0) :: rs) (sn ++ [c]) none where
  inv := ⟨by simp, D.inv⟩
  topo := D.topo
  seen := fun k => by
    rw [List.mem_append, D.seen k]
    simp [kys]
    constructor
    · rintro ((h | h) | h)
      · exact .inl h
      · exact .inr (.inr h)
      · exact .inr (.inl h)
    · rintro (h | h | h)
      · exact .inl (.inl h)
      · exact .inr h
      · exact .inl (.inr h)
  snd := by
    rw [List.nodup_append]
    exact ⟨D.snd, by simp, fun a ha b hb => by simp at hb; subst hb; exact fun e => hc (e ▸ ha)⟩
  nd := by
    have h1 : c ∉ fin := fun h => hc ((D.seen c).mpr (.inl h))
    have h2 : c ∉ kys rs := fun h => hc ((D.seen c).mpr (.inr h))
    have := D.nd
    rw [List.nodup_append] at this ⊢
    refine ⟨this.1, List.nodup_cons.mpr ⟨h2, this.2.1⟩, fun a ha b hb => ?_⟩
    rcases List.mem_cons.mp hb with rfl | hb
    · exact fun e => h1 (e ▸ ha)
    · exact this.2.2 a ha b hb
  keys := fun k hk' => by
    rcases List.mem_append.mp hk' with h | h
    · exact D.keys k (List.mem_append.mpr (.inl h))
    · rcases List.mem_cons.mp h with rfl | h
      · exact hk
      · exact D.keys k (List.mem_append.mpr (.inr h))
  dead := D.dead
  root := fun hf x hx => by
    match rs, D, hr, hx with
    | [], D, hr, hx =>
      have : c = x := by simpa [kys] using hx
      exact this ▸ hr rfl hf
    | y :: r, D, hr, hx => exact D.root hf x (by simpa [kys, List.getLast?_cons_cons] using hx)
  le := fun x hx => by
    rcases List.mem_cons.mp hx with rfl | hx
    · simp
    · exact D.le x hx
theorem DS.next (D : DS sc ks first fin ((k, i) :: rs) sn none) (h : (sc k)[i]? = some c) : DS sc ks first fin ((k, i + 1) :: rs) sn (some c) where
  inv := ⟨by lia, by simpa using h, by simpa using D.inv.1, D.inv.2⟩
  topo := D.topo
  seen := D.seen
  snd := D.snd
  nd := D.nd
  keys := D.keys
  dead := D.dead
  root := D.root
  le := fun x hx => by
    rcases List.mem_cons.mp hx with rfl | hx
    · have := (List.getElem?_eq_some_iff.mp h).1
      show i + 1 ≤ (sc k).length
      lia
    · exact D.le x (.tail _ hx)
theorem DS.used_next (D : DS sc ks first fin ((k, i) :: rs) sn none) (h : (sc k)[i]? = some c) : whole sc ks - used sc fin ((k, i + 1) :: rs) < whole sc ks - used sc fin ((k, i) :: rs) := by
  have h1 := (D.next h).used_le
  have h2 : used sc fin ((k, i + 1) :: rs) = used sc fin ((k, i) :: rs) + 1 := by unfold used; simp only [List.map_cons, List.sum_cons]; lia
  lia
theorem DS.met (D : DS sc ks first fin rs sn (some c)) (hc : c ∈ fin) : DS sc ks first fin rs sn none := ⟨DI.met hc D.inv, D.topo, D.seen, D.snd, D.nd, D.keys, D.dead, D.root, D.le⟩
theorem DS.pop (D : DS sc ks first fin ((k, i) :: rs) sn none) (h : (sc k)[i]? = none) : DS sc ks first (fin ++ [k]) rs sn none ∧ used sc (fin ++ [k]) rs = used sc fin ((k, i) :: rs) := by
  have hi : i = (sc k).length := by
    have h1 : i ≤ (sc k).length := D.le (k, i) (.head _)
    have h2 := List.getElem?_eq_none_iff.mp h
    lia
  have hall : ∀ s ∈ sc k, s ∈ fin := fun s hs => D.inv.1 s (by rw [hi, List.take_length]; exact hs)
  have hnd := D.nd
  refine ⟨⟨DI.met (c := k) (by simp) (DI.mono (fun s hs => List.mem_append_left _ hs) D.inv.2), D.topo.snoc hall, fun x => ?_, D.snd, ?_, fun x hx => ?_, fun _ => ?_, fun e => by simp at e, fun x hx => D.le x (.tail _ hx)⟩, ?_⟩
  · rw [D.seen x]
    simp [kys, or_assoc]
  · simpa [kys, List.append_assoc] using hnd
  · refine D.keys x ?_
    simpa [kys, List.append_assoc] using hx
  · by_cases hf : fin = []
    · subst hf
      have hnil : sc k = [] := List.eq_nil_iff_forall_not_mem.mpr fun s hs => by simpa using hall s hs
      match rs, D with
      | [], D =>
        have : k = first := D.root rfl k (by simp [kys])
        subst this
        exact ⟨k, .refl, hnil⟩
      | y :: r, D =>
        have hl : ∃ x, (kys (y :: r)).getLast? = some x := by
          cases hh : (kys (y :: r)).getLast? with
          | none => simp [kys] at hh
          | some x => exact ⟨x, rfl⟩
        obtain ⟨x, hx⟩ := hl
        have hf : x = first := D.root rfl x (by simpa [kys, List.getLast?_cons_cons] using hx)
        subst hf
        exact ⟨k, DI.fp D.inv.2 hx, hnil⟩
    · exact D.dead hf
  · unfold used
    simp [hi]
    lia
noncomputable def Ring (sc : Int → List Int) (ks : List Int) (first : Int) (ring : List Int) : Prop := ∃ p x q, ring = x :: q ++ [x] ∧ (p ++ x :: q).Nodup ∧ Path (fun x y => y ∈ sc x) (p ++ x :: q ++ [x]) ∧ (∀ z ∈ p ++ x :: q, z ∈ ks) ∧
  (((p ++ x :: q).head? = some first ∧ Path (fun x y => (sc x).head? = some y) (p ++ x :: q ++ [x])) ∨ Dead sc first)
theorem DS.ring (D : DS sc ks first fin rs sn (some c)) {a b : List (Int × Nat)} (e : rs = a ++ (c, i) :: b) : Ring sc ks first (c :: (kys a).reverse ++ [c]) := by
  have hk : (kys rs).reverse = (kys b).reverse ++ c :: (kys a).reverse := by rw [e]; simp [kys]
  have hnd : (kys rs).Nodup := (List.nodup_append.mp D.nd).2.1
  refine ⟨(kys b).reverse, c, (kys a).reverse, rfl, ?_, ?_, fun z hz => ?_, ?_⟩
  · rw [← hk]; exact (List.reverse_perm _).nodup_iff.mpr hnd
  · rw [← hk]; exact D.inv.path
  · rw [← hk] at hz
    exact D.keys z (List.mem_append.mpr (.inr (List.mem_reverse.mp hz)))
  · by_cases hf : fin = []
    · refine .inl ⟨?_, ?_⟩
      · rw [← hk, List.head?_reverse]
        have hl : ∃ x, (kys rs).getLast? = some x := by
          cases hh : (kys rs).getLast? with
          | none => rw [List.getLast?_eq_none_iff] at hh; rw [e] at hh; simp [kys] at hh
          | some x => exact ⟨x, rfl⟩
        obtain ⟨x, hx⟩ := hl
        rw [hx, D.root hf x hx]
      · rw [← hk]
        subst hf
        exact D.inv.path1
    · exact .inr (D.dead hf)
end
end
section
set_option Elab.async false
set_option linter.all false
set_option maxRecDepth 100000
/-! ## the graph by its edges, and the rounds -/
theorem gat_gmod {g : Gr} {k : Int} {f : Int × List Int → Int × List Int} (hk : k ∈ gkeys g) (j : Int) : gat (gmod g k f) j = if j = k then f (gat g j) else gat g j := by
  unfold gat gmod
  induction g with
  | nil => simp [gkeys] at hk
  | cons p g ih =>
    simp only [List.map_cons, List.find?_cons]
    by_cases hp : p.1 = k
    · by_cases hj : j = k
      · subst hj; simp [hp]
      · have h1 : ¬ k = j := fun e => hj e.symm
        simp only [hp, if_true, h1, decide_false, if_neg hj]
        by_cases hk' : k ∈ gkeys g
        · have := ih hk'
          rw [if_neg hj] at this
          exact this
        · have e : (List.map (fun p : Int × Int × List Int => if p.1 = k then (p.1, f p.2) else p) g) = g := by
            refine (List.map_congr_left fun q hq => ?_).trans (List.map_id g)
            have : q.1 ≠ k := fun e => hk' (e ▸ List.mem_map_of_mem (f := (·.1)) hq)
            simp [this]
          rw [e]
    · have hk' : k ∈ gkeys g := by
        rcases List.mem_cons.mp hk with e | h
        · exact absurd e.symm hp
        · exact h
      simp only [hp, if_false]
      by_cases hj : p.1 = j
      · have : j ≠ k := fun e => hp (hj.trans e)
        simp [hj, this]
      · simp only [hj, decide_false]
        exact ih hk'
theorem gkeys_gnew (g : Gr) (k : Int) : gkeys (gnew g k) = if k ∈ gkeys g then gkeys g else gkeys g ++ [k] := by
  unfold gnew
  split <;> simp [gkeys]
theorem mem_gnew (g : Gr) (k j : Int) : j ∈ gkeys (gnew g k) ↔ j ∈ gkeys g ∨ j = k := by
  rw [gkeys_gnew]
  split
  · rename_i h
    constructor
    · exact .inl
    · rintro (h' | rfl)
      · exact h'
      · exact h
  · simp
theorem nd_gnew {g : Gr} (h : (gkeys g).Nodup) (k : Int) : (gkeys (gnew g k)).Nodup := by
  rw [gkeys_gnew]
  split
  · exact h
  · rename_i hk
    rw [List.nodup_append]
    exact ⟨h, by simp, fun a ha b hb => by simp at hb; subst hb; exact fun e => hk (e ▸ ha)⟩
theorem gat_gnew (g : Gr) (k j : Int) : gat (gnew g k) j = gat g j := by
  unfold gnew
  split
  · rfl
  · rename_i h
    unfold gat
    rw [List.find?_append]
    cases hf : g.find? fun p => decide (p.1 = j) with
    | some p => rfl
    | none =>
      by_cases hj : k = j
      · subst hj; simp
      · simp [hj]
noncomputable abbrev Edges := List (Int × Int)
noncomputable def inE (E : Edges) (j : Int) : Nat := E.countP fun e => decide (e.2 = j)
noncomputable def scE (E : Edges) (j : Int) : List Int := (E.filter fun e => decide (e.1 = j)).map (·.2)
structure GOf (E : Edges) (g : Gr) : Prop where
  nd : (gkeys g).Nodup
  ent : ∀ j, gat g j = ((inE E j : Int), scE E j)
  cl : ∀ e ∈ E, e.1 ∈ gkeys g ∧ e.2 ∈ gkeys g
theorem GOf.nil : GOf [] [] := ⟨by simp [gkeys], fun j => rfl, fun e h => nomatch h⟩
theorem GOf.pred {E : Edges} {g : Gr} {k : Int} (hk : k ∈ gkeys g) (hn : (gkeys g).Nodup) (ps : List Int) : ∀ (E : Edges) (g : Gr) (c : Int), k ∈ gkeys g → (gkeys g).Nodup →
    (∀ j, gat g j = ((inE E j : Int) + (if j = k then (c : Int) else 0), scE E j)) → (∀ e ∈ E, e.1 ∈ gkeys g ∧ e.2 ∈ gkeys g) →
    let g' := ps.foldl (fun g p => gmod (gnew g p) p fun x => (x.1, x.2 ++ [k])) g
    (gkeys g').Nodup ∧ (∀ j, j ∈ gkeys g' ↔ j ∈ gkeys g ∨ j ∈ ps) ∧ (∀ j, gat g' j = ((inE (E ++ ps.map fun p => (p, k)) j : Int) + (if j = k then (c - ps.length : Int) else 0), scE (E ++ ps.map fun p => (p, k)) j)) ∧ (gkeys g').head? = (gkeys g).head? := by
  induction ps with
  | nil =>
    intro E g c hk hn hat hcl
    refine ⟨hn, by simp, fun j => ?_, rfl⟩
    simp [hat j]
  | cons p ps ih =>
    intro E g c hk hn hat hcl
    have hp : p ∈ gkeys (gnew g p) := (mem_gnew g p p).mpr (.inr rfl)
    have hk1 : k ∈ gkeys (gmod (gnew g p) p fun x => (x.1, x.2 ++ [k])) := by rw [gkeys_gmod]; exact (mem_gnew g p k).mpr (.inl hk)
    have hn1 : (gkeys (gmod (gnew g p) p fun x => (x.1, x.2 ++ [k]))).Nodup := by rw [gkeys_gmod]; exact nd_gnew hn p
    have hat1 : ∀ j, gat (gmod (gnew g p) p fun x => (x.1, x.2 ++ [k])) j = ((inE (E ++ [(p, k)]) j : Int) + (if j = k then (c - 1 : Int) else 0), scE (E ++ [(p, k)]) j) := by
      intro j
      rw [gat_gmod hp, gat_gnew, hat j]
      unfold inE scE
      rw [List.countP_append, List.filter_append, List.map_append]
      by_cases h1 : j = p
      · subst h1
        by_cases h2 : j = k
        · subst h2; simp; lia
        · have h3 : ¬ k = j := fun e => h2 e.symm
          simp [h2, h3]
      · have h1' : ¬ p = j := fun e => h1 e.symm
        by_cases h2 : j = k
        · subst h2; simp [h1, h1']; lia
        · have h3 : ¬ k = j := fun e => h2 e.symm
          simp [h1, h1', h2, h3]
    obtain ⟨a1, a2, a3, a4⟩ := ih (E ++ [(p, k)]) _ (c - 1) hk1 hn1 hat1 (fun e he => by
      rw [gkeys_gmod]
      rcases List.mem_append.mp he with he | he
      · exact ⟨(mem_gnew g p _).mpr (.inl (hcl e he).1), (mem_gnew g p _).mpr (.inl (hcl e he).2)⟩
      · simp at he; subst he
        exact ⟨hp, (mem_gnew g p _).mpr (.inl hk)⟩)
    refine ⟨a1, fun j => ?_, fun j => ?_, ?_⟩
    · rw [List.foldl_cons, a2 j, gkeys_gmod, mem_gnew]
      simp only [List.mem_cons]
      constructor
      · rintro ((h | h) | h)
        · exact .inl h
        · exact .inr (.inl h)
        · exact .inr (.inr h)
      · rintro (h | h | h)
        · exact .inl (.inl h)
        · exact .inl (.inr h)
        · exact .inr h
    · rw [List.foldl_cons, a3 j]
      simp only [List.map_cons, List.length_cons, List.append_assoc, List.singleton_append]
      congr 2
      split
      · push_cast; lia
      · rfl
    · rw [List.foldl_cons, a4, gkeys_gmod, gkeys_gnew]
      split
      · rfl
      · cases hg : gkeys g with
        | nil => rw [hg] at hk; cases hk
        | cons _ _ => rfl
theorem GOf.add {E : Edges} {g : Gr} (G : GOf E g) (k : Int) (ps : List Int) : GOf (E ++ ps.map fun p => (p, k)) (addG g k ps) ∧ (∀ j, j ∈ gkeys (addG g k ps) ↔ j ∈ gkeys g ∨ j = k ∨ j ∈ ps) ∧ (gkeys (addG g k ps)).head? = some ((gkeys g).head?.getD k) := by
  have hk : k ∈ gkeys (gnew g k) := (mem_gnew g k k).mpr (.inr rfl)
  have hk1 : k ∈ gkeys (gmod (gnew g k) k fun x => (x.1 + ps.length, x.2)) := by rw [gkeys_gmod]; exact hk
  have hn1 : (gkeys (gmod (gnew g k) k fun x => (x.1 + ps.length, x.2))).Nodup := by rw [gkeys_gmod]; exact nd_gnew G.nd k
  obtain ⟨a1, a2, a3, a4⟩ := GOf.pred (E := E) hk1 hn1 ps E (gmod (gnew g k) k fun x => (x.1 + ps.length, x.2)) ps.length hk1 hn1 (fun j => by
    rw [gat_gmod hk, gat_gnew, G.ent j]
    by_cases h : j = k
    · simp [h]
    · simp [h]) (fun e he => by
      rw [gkeys_gmod]
      exact ⟨(mem_gnew g k _).mpr (.inl (G.cl e he).1), (mem_gnew g k _).mpr (.inl (G.cl e he).2)⟩)
  have hm : ∀ j, j ∈ gkeys (addG g k ps) ↔ j ∈ gkeys g ∨ j = k ∨ j ∈ ps := fun j => by
    unfold addG
    rw [a2 j, gkeys_gmod, mem_gnew, or_assoc]
  refine ⟨⟨a1, fun j => ?_, fun e he => ?_⟩, hm, ?_⟩
  · unfold addG
    rw [a3 j]
    simp
  · rw [hm, hm]
    rcases List.mem_append.mp he with he | he
    · exact ⟨.inl (G.cl e he).1, .inl (G.cl e he).2⟩
    · obtain ⟨p, hp, rfl⟩ := List.mem_map.mp he
      exact ⟨.inr (.inr hp), .inr (.inl rfl)⟩
  · unfold addG
    rw [a4, gkeys_gmod, gkeys_gnew]
    split
    · rename_i h
      cases hg : gkeys g with
      | nil => rw [hg] at h; cases h
      | cons x r => rfl
    · cases hg : gkeys g with
      | nil => rfl
      | cons x r => rfl
theorem dcr_fold : ∀ (ss : List Int) (g : Gr) (r : List Int), (∀ j ∈ ss, ((ss.count j : Nat) : Int) ≤ (gat g j).1 ∧ j ∈ gkeys g) →
    (∀ j, gat (ss.foldl dcr (g, r)).1 j = ((gat g j).1 - ((ss.count j : Nat) : Int), (gat g j).2)) ∧ ∃ A, (ss.foldl dcr (g, r)).2 = r ++ A ∧ A.Nodup ∧ ∀ j, j ∈ A ↔ j ∈ ss ∧ (gat g j).1 = ((ss.count j : Nat) : Int)
  | [], g, r, _ => ⟨fun j => by simp, [], by simp, by simp, by simp⟩
  | s :: ss, g, r, h => by
    have hs := h s (.head _)
    have hg1 : ∀ j, gat (gmod g s fun z => (z.1 - 1, z.2)) j = if j = s then ((gat g j).1 - 1, (gat g j).2) else gat g j := fun j => gat_gmod hs.2 j
    have hc : ∀ j, (s :: ss).count j = ss.count j + if j = s then 1 else 0 := fun j => by
      rw [List.count_cons]
      by_cases hj : s = j
      · subst hj; simp
      · have : ¬ j = s := fun e => hj e.symm
        simp [hj, this]
    have hpre : ∀ j ∈ ss, ((ss.count j : Nat) : Int) ≤ (gat (gmod g s fun z => (z.1 - 1, z.2)) j).1 ∧ j ∈ gkeys (gmod g s fun z => (z.1 - 1, z.2)) := fun j hj => by
      have := h j (.tail _ hj)
      rw [hg1 j, gkeys_gmod]
      refine ⟨?_, this.2⟩
      have h1 := this.1
      rw [hc j] at h1
      split
      · rename_i e; rw [if_pos e] at h1; push_cast at h1; simp only; lia
      · rename_i e; rw [if_neg e] at h1; push_cast at h1; lia
    have e0 : dcr (g, r) s = (gmod g s fun z => (z.1 - 1, z.2), if (gat g s).1 - 1 = 0 then r ++ [s] else r) := rfl
    obtain ⟨a1, A, a2, a3, a4⟩ := dcr_fold ss (gmod g s fun z => (z.1 - 1, z.2)) (if (gat g s).1 - 1 = 0 then r ++ [s] else r) hpre
    refine ⟨fun j => ?_, ?_⟩
    · rw [List.foldl_cons, e0, a1 j, hg1 j, hc j]
      by_cases hj : j = s
      · subst hj; simp; lia
      · simp [hj]
    · rw [List.foldl_cons, e0]
      by_cases hz : (gat g s).1 - 1 = 0
      · rw [if_pos hz] at a2
        have hns : s ∉ ss := fun hm => by
          have h1 := hs.1
          rw [hc s, if_pos rfl] at h1
          have : 0 < ss.count s := List.count_pos_iff.mpr hm
          push_cast at h1
          lia
        refine ⟨s :: A, by rw [if_pos hz, a2]; simp, List.nodup_cons.mpr ⟨fun hm => hns ((a4 s).mp hm).1, a3⟩, fun j => ?_⟩
        rw [List.mem_cons, a4 j, hg1 j, List.mem_cons, hc j]
        by_cases hj : j = s
        · subst hj
          have : ss.count j = 0 := List.count_eq_zero.mpr hns
          simp [this]; lia
        · simp [hj]
      · rw [if_neg hz] at a2
        refine ⟨A, by rw [if_neg hz, a2], a3, fun j => ?_⟩
        rw [a4 j, hg1 j, List.mem_cons, hc j]
        by_cases hj : j = s
        · subst hj
          simp only [if_true, true_or, true_and]
          constructor
          · rintro ⟨h1, h2⟩; push_cast; lia
          · intro h1
            push_cast at h1
            have hpos : 0 < ss.count j := by lia
            exact ⟨List.count_pos_iff.mp hpos, by lia⟩
        · simp [hj]
end
section
set_option Elab.async false
set_option linter.all false
set_option maxRecDepth 100000
noncomputable def outG (g : Gr) (rs : List Int) : Gr := rs.foldl (fun g k => gmod g k fun z => (-1, z.2)) g
theorem gkeys_out (rs : List Int) : ∀ g : Gr, gkeys (outG g rs) = gkeys g := by
  induction rs with
  | nil => intro g; rfl
  | cons k rs ih => intro g; unfold outG; rw [List.foldl_cons]; exact (ih _).trans (gkeys_gmod _ _ _)
noncomputable def cntE (E : Edges) (D : List Int) (k : Int) : Nat := E.countP fun e => decide (e.2 = k) && !decide (e.1 ∈ D)
theorem cnt_zero {E : Edges} {D : List Int} {k : Int} : cntE E D k = 0 ↔ ∀ e ∈ E, e.2 = k → e.1 ∈ D := by
  unfold cntE
  rw [List.countP_eq_zero]
  constructor
  · intro h e he hk
    have := h e he
    simp [hk] at this
    exact this
  · intro h e he
    have := h e he
    simp only [Bool.and_eq_true, decide_eq_true_eq, Bool.not_eq_eq_eq_not, Bool.not_true, decide_eq_false_iff_not, not_and, Classical.not_not]
    exact this
theorem count_sc (E : Edges) (K j : Int) : (scE E K).count j = E.countP fun e => decide (e.1 = K) && decide (e.2 = j) := by
  unfold scE
  induction E with
  | nil => rfl
  | cons e E ih =>
    by_cases h1 : e.1 = K
    · by_cases h2 : e.2 = j
      · simp [h1, h2, ih]
      · simp [h1, h2, ih]
    · simp [h1, ih]
theorem cnt_split (E : Edges) {D : List Int} {K : Int} (hK : K ∉ D) (j : Int) : cntE E D j = cntE E (D ++ [K]) j + (scE E K).count j := by
  rw [count_sc]
  unfold cntE
  induction E with
  | nil => rfl
  | cons e E ih =>
    rw [List.countP_cons, List.countP_cons, List.countP_cons, ih]
    by_cases h1 : e.1 = K
    · by_cases h2 : e.2 = j
      · simp [h1, h2, hK]; lia
      · simp [h1, h2]
    · by_cases h2 : e.2 = j
      · by_cases h3 : e.1 ∈ D
        · simp [h1, h2, h3]
        · simp [h1, h2, h3]; lia
      · simp [h1, h2]
structure RS (E : Edges) (ks D : List Int) (g : Gr) (rs : List Int) : Prop where
  keys : gkeys g = ks
  nd : ks.Nodup
  ecl : ∀ e ∈ E, e.1 ∈ ks ∧ e.2 ∈ ks
  dks : ∀ k ∈ D, k ∈ ks
  dn : D.Nodup
  dcl : ∀ e ∈ E, e.2 ∈ D → e.1 ∈ D
  sc : ∀ k, (gat g k).2 = scE E k
  np : ∀ k ∈ ks, (gat g k).1 = if k ∈ D then -2 else ((cntE E D k : Nat) : Int)
  rnd : rs.Nodup
  rmem : ∀ k, k ∈ rs ↔ k ∈ ks ∧ k ∉ D ∧ ∀ e ∈ E, e.2 = k → e.1 ∈ D
noncomputable def zeros (g : Gr) : List Int := (g.filter fun p => p.2.1 == 0).map (·.1)
theorem gat_mem {g : Gr} (hn : (gkeys g).Nodup) {p : Int × Int × List Int} (hp : p ∈ g) : gat g p.1 = p.2 := by
  unfold gat
  have : g.find? (fun q => decide (q.1 = p.1)) = some p := by
    induction g with
    | nil => cases hp
    | cons q g ih =>
      rw [List.find?_cons]
      simp only [gkeys, List.map_cons, List.nodup_cons] at hn
      rcases List.mem_cons.mp hp with rfl | hp
      · simp
      · have : q.1 ≠ p.1 := fun e => hn.1 (e ▸ List.mem_map_of_mem (f := (·.1)) hp)
        simp only [this, decide_false]
        exact ih hn.2 hp
  rw [this]; rfl
theorem RS.init {E : Edges} {g : Gr} (G : GOf E g) : RS E (gkeys g) [] g (zeros g) where
  keys := rfl
  nd := G.nd
  ecl := G.cl
  dks := by simp
  dn := by simp
  dcl := by simp
  sc := fun k => by rw [G.ent k]
  np := fun k _ => by
    rw [G.ent k]
    simp only [List.not_mem_nil, if_false]
    unfold inE cntE
    simp
  rnd := by
    unfold zeros
    exact (List.Sublist.map _ List.filter_sublist).nodup G.nd
  rmem := fun k => by
    have hz : inE E k = 0 ↔ ∀ e ∈ E, e.2 = k → e.1 ∈ ([] : List Int) := by
      rw [← cnt_zero]
      unfold inE cntE
      simp
    unfold zeros
    rw [List.mem_map]
    constructor
    · rintro ⟨p, hp, rfl⟩
      obtain ⟨h1, h2⟩ := List.mem_filter.mp hp
      refine ⟨List.mem_map_of_mem (f := (·.1)) h1, by simp, ?_⟩
      rw [← hz]
      have h3 := gat_mem G.nd h1
      rw [G.ent] at h3
      have h4 : ((inE E p.1 : Nat) : Int) = p.2.1 := congrArg Prod.fst h3
      have h5 : p.2.1 = 0 := by simpa using h2
      lia
    · rintro ⟨h1, _, h2⟩
      obtain ⟨p, hp, rfl⟩ := List.mem_map.mp h1
      refine ⟨p, List.mem_filter.mpr ⟨hp, ?_⟩, rfl⟩
      have h3 := gat_mem G.nd hp
      rw [G.ent] at h3
      have h4 : ((inE E p.1 : Nat) : Int) = p.2.1 := congrArg Prod.fst h3
      have h5 := hz.mpr h2
      rw [← h4, h5]; rfl
theorem gat_out (rs : List Int) : ∀ (g : Gr), (∀ k ∈ rs, k ∈ gkeys g) → ∀ j, gat (outG g rs) j = if j ∈ rs then (-1, (gat g j).2) else gat g j := by
  induction rs with
  | nil => intro g _ j; simp [outG]
  | cons k rs ih =>
    intro g h j
    have h1 : outG g (k :: rs) = outG (gmod g k fun z => (-1, z.2)) rs := rfl
    rw [h1, ih _ (fun x hx => by rw [gkeys_gmod]; exact h x (.tail _ hx)) j, gat_gmod (h k (.head _)) j]
    by_cases h2 : j = k
    · subst h2; by_cases h3 : j ∈ rs <;> simp [h3]
    · by_cases h3 : j ∈ rs <;> simp [h2, h3]
structure MS (E : Edges) (ks D rs : List Int) (i : Nat) (st : Gr × List Int) : Prop where
  keys : gkeys st.1 = ks
  sc : ∀ k, (gat st.1 k).2 = scE E k
  np : ∀ k ∈ ks, (gat st.1 k).1 = if k ∈ D ++ rs.take i then -2 else if k ∈ rs then -1 else ((cntE E (D ++ rs.take i) k : Nat) : Int)
  nnd : st.2.Nodup
  nmem : ∀ k, k ∈ st.2 ↔ k ∈ ks ∧ k ∉ D ∧ k ∉ rs ∧ ∀ e ∈ E, e.2 = k → e.1 ∈ D ++ rs.take i
section
variable {E : Edges} {ks D rs : List Int} {g : Gr}
theorem RS.start (R : RS E ks D g rs) : MS E ks D rs 0 (outG g rs, []) where
  keys := by rw [gkeys_out]; exact R.keys
  sc := fun k => by
    rw [gat_out rs g (fun k hk => by rw [R.keys]; exact ((R.rmem k).mp hk).1)]
    split
    · exact R.sc k
    · exact R.sc k
  np := fun k hk => by
    rw [gat_out rs g (fun k hk => by rw [R.keys]; exact ((R.rmem k).mp hk).1)]
    simp only [List.take_zero, List.append_nil]
    by_cases h : k ∈ rs
    · have := ((R.rmem k).mp h).2.1
      simp [h, this]
    · simp only [h, if_false]
      exact R.np k hk
  nnd := by simp
  nmem := fun k => by
    simp only [List.not_mem_nil, List.take_zero, List.append_nil, false_iff]
    rintro ⟨h1, h2, h3, h4⟩
    exact h3 ((R.rmem k).mpr ⟨h1, h2, h4⟩)
theorem RS.step (R : RS E ks D g rs) {i : Nat} {st : Gr × List Int} (M : MS E ks D rs i st) {K : Int} (hK : rs[i]? = some K) : (gat st.1 K).1 = -1 ∧ MS E ks D rs (i + 1) (doneK st K) := by
  obtain ⟨gi, ni⟩ := st
  have hi := (List.getElem?_eq_some_iff.mp hK).1
  have hKr : K ∈ rs := List.mem_of_getElem? hK
  obtain ⟨hKk, hKD, hKp⟩ := (R.rmem K).mp hKr
  have hKt : K ∉ rs.take i := fun h => by
    obtain ⟨j, hj, e⟩ := List.getElem_of_mem h
    have hj1 : j < i := by rw [List.length_take] at hj; lia
    rw [List.getElem_take] at e
    have h1 : rs[j]? = some K := by rw [List.getElem?_eq_getElem (by lia), e]
    have := (List.getElem?_inj (by lia) R.rnd).mp (h1.trans hK.symm)
    lia
  have hKDi : K ∉ D ++ rs.take i := fun h => (List.mem_append.mp h).elim hKD hKt
  have htake : D ++ rs.take (i + 1) = (D ++ rs.take i) ++ [K] := by rw [List.take_succ, hK, List.append_assoc]; rfl
  have hnpK := M.np K hKk
  rw [if_neg hKDi, if_pos hKr] at hnpK
  refine ⟨hnpK, ?_⟩
  have hkk : K ∈ gkeys gi := by have := M.keys; simp only at this; rw [this]; exact hKk
  have hg1 : ∀ j, gat (gmod gi K fun z => (-2, z.2)) j = if j = K then (-2, (gat gi j).2) else gat gi j := fun j => gat_gmod hkk j
  have hss : (gat gi K).2 = scE E K := M.sc K
  have hmem : ∀ j ∈ scE E K, ∃ e ∈ E, e.1 = K ∧ e.2 = j := fun j hj => by
    unfold scE at hj
    obtain ⟨e, he, rfl⟩ := List.mem_map.mp hj
    obtain ⟨h1, h2⟩ := List.mem_filter.mp he
    exact ⟨e, h1, by simpa using h2, rfl⟩
  have hfree : ∀ j ∈ scE E K, j ∈ ks ∧ j ∉ D ∧ j ∉ rs := fun j hj => by
    obtain ⟨e, he, h1, h2⟩ := hmem j hj
    refine ⟨h2 ▸ (R.ecl e he).2, fun h => hKD (h1 ▸ R.dcl e he (h2 ▸ h)), fun h => hKD (h1 ▸ ((R.rmem j).mp h).2.2 e he h2)⟩
  have hnj : ∀ j ∈ ks, j ∉ D → j ∉ rs → (gat (gmod gi K fun z => (-2, z.2)) j).1 = ((cntE E (D ++ rs.take i) j : Nat) : Int) := fun j h1 h2 h3 => by
    have hjK : j ≠ K := fun e => h3 (e ▸ hKr)
    rw [hg1 j, if_neg hjK]
    have := M.np j h1
    rw [if_neg (fun h => (List.mem_append.mp h).elim h2 fun h => h3 (List.mem_of_mem_take h)), if_neg h3] at this
    exact this
  have hsp := fun j => cnt_split E hKDi j
  obtain ⟨a1, A, a2, a3, a4⟩ := dcr_fold (scE E K) (gmod gi K fun z => (-2, z.2)) ni (fun j hj => by
    obtain ⟨h1, h2, h3⟩ := hfree j hj
    rw [hnj j h1 h2 h3]
    refine ⟨by have := hsp j; lia, ?_⟩
    have := M.keys
    simp only at this
    rw [gkeys_gmod, this]; exact h1)
  have hst : doneK (gi, ni) K = (scE E K).foldl dcr (gmod gi K (fun z => (-2, z.2)), ni) := by unfold doneK; rw [hss]
  have hcz : ∀ j, j ∉ scE E K → (scE E K).count j = 0 := fun j h => List.count_eq_zero.mpr h
  rw [hst]
  refine ⟨?_, fun k => ?_, fun k hk => ?_, ?_, fun k => ?_⟩
  · rw [gkeys_dcrs, gkeys_gmod]; exact M.keys
  · rw [a1 k, hg1 k]
    split
    · exact M.sc k
    · exact M.sc k
  · rw [a1 k, htake]
    by_cases hkK : k = K
    · subst hkK
      have hns : k ∉ scE E k := fun h => (hfree k h).2.2 hKr
      simp only [hg1 k, if_true, hcz k hns]
      simp
    · by_cases hD : k ∈ D ++ rs.take i
      · have hns : k ∉ scE E K := fun h => by
          obtain ⟨_, h2, h3⟩ := hfree k h
          exact (List.mem_append.mp hD).elim h2 fun h => h3 (List.mem_of_mem_take h)
        have h5 := M.np k hk
        rw [if_pos hD] at h5
        rw [if_pos (List.mem_append_left _ hD)]
        simp only [hg1 k, if_neg hkK, hcz k hns, h5]
        simp
      · have hD2 : k ∉ (D ++ rs.take i) ++ [K] := fun h => (List.mem_append.mp h).elim hD fun h => hkK (by simpa using h)
        rw [if_neg hD2]
        by_cases hr : k ∈ rs
        · have hns : k ∉ scE E K := fun h => (hfree k h).2.2 hr
          have h5 := M.np k hk
          rw [if_neg hD, if_pos hr] at h5
          rw [if_pos hr]
          simp only [hg1 k, if_neg hkK, hcz k hns, h5]
          simp
        · rw [if_neg hr]
          have h5 := hnj k hk (fun h => hD (List.mem_append_left _ h)) hr
          simp only [h5]
          have := hsp k
          lia
  · rw [a2]
    have hnd := M.nnd
    simp only at hnd
    rw [List.nodup_append]
    refine ⟨hnd, a3, fun x hx y hy e => ?_⟩
    subst e
    have h1 := ((M.nmem x).mp hx).2.2.2
    obtain ⟨h2, h3⟩ := (a4 x).mp hy
    obtain ⟨e, he, h4, h5⟩ := hmem x h2
    exact hKDi (h4 ▸ h1 e he h5)
  · rw [a2, List.mem_append, M.nmem k, a4 k, htake]
    constructor
    · rintro (⟨h1, h2, h3, h4⟩ | ⟨h1, h2⟩)
      · exact ⟨h1, h2, h3, fun e he hk => List.mem_append_left _ (h4 e he hk)⟩
      · obtain ⟨f1, f2, f3⟩ := hfree k h1
        refine ⟨f1, f2, f3, ?_⟩
        rw [hnj k f1 f2 f3] at h2
        rw [← cnt_zero]
        have := hsp k
        lia
    · rintro ⟨h1, h2, h3, h4⟩
      rw [← cnt_zero] at h4
      have h5 := hsp k
      by_cases hs : k ∈ scE E K
      · refine .inr ⟨hs, ?_⟩
        rw [hnj k h1 h2 h3]
        lia
      · refine .inl ⟨h1, h2, h3, ?_⟩
        rw [← cnt_zero]
        have := hcz k hs
        lia
theorem RS.upto (R : RS E ks D g rs) : ∀ i, i ≤ rs.length → MS E ks D rs i (doneAll (outG g rs, []) (rs.take i))
  | 0, _ => by simpa [doneAll] using R.start
  | i + 1, h => by
    have hK : rs[i]? = some rs[i] := by rw [List.getElem?_eq_getElem (by lia)]
    have M := R.upto i (by lia)
    have := (R.step M hK).2
    have e : doneAll (outG g rs, []) (rs.take (i + 1)) = doneK (doneAll (outG g rs, []) (rs.take i)) rs[i] := by
      unfold doneAll
      rw [List.take_succ, hK, List.foldl_append]; rfl
    rw [e]; exact this
theorem RS.out (R : RS E ks D g rs) {i : Nat} {K : Int} (hK : rs[i]? = some K) : (gat (doneAll (outG g rs, []) (rs.take i)).1 K).1 = -1 :=
  (R.step (R.upto i (by have := (List.getElem?_eq_some_iff.mp hK).1; lia)) hK).1
theorem RS.round (R : RS E ks D g rs) : RS E ks (D ++ rs) (doneAll (outG g rs, []) rs).1 (doneAll (outG g rs, []) rs).2 := by
  have M := R.upto rs.length (Nat.le_refl _)
  rw [List.take_length] at M
  have hr := fun k => (R.rmem k).mp
  have hts : rs.take rs.length = rs := List.take_length
  refine ⟨M.keys, R.nd, R.ecl, fun k hk => ?_, ?_, fun e he h => ?_, M.sc, fun k hk => ?_, M.nnd, fun k => ?_⟩
  · exact (List.mem_append.mp hk).elim (R.dks k) fun h => (hr k h).1
  · rw [List.nodup_append]
    exact ⟨R.dn, R.rnd, fun a ha b hb e => (hr b hb).2.1 (e ▸ ha)⟩
  · refine List.mem_append_left _ ?_
    rcases List.mem_append.mp h with h | h
    · exact R.dcl e he h
    · exact (hr _ h).2.2 e he rfl
  · have := M.np k hk
    rw [hts] at this
    rw [this]
    by_cases hD : k ∈ D ++ rs
    · simp [hD]
    · have : k ∉ rs := fun h => hD (List.mem_append_right _ h)
      simp [hD, this]
  · have := M.nmem k
    rw [hts] at this
    rw [this]
    simp only [List.mem_append, not_or, and_assoc]
theorem RS.dlen (R : RS E ks D g rs) : D.length ≤ ks.length := len_sub R.dn R.dks
theorem RS.rlen (R : RS E ks D g rs) : rs.length ≤ ks.length := len_sub R.rnd fun k hk => ((R.rmem k).mp hk).1
theorem RS.less (R : RS E ks D g rs) (h : rs ≠ []) : D.length < ks.length := by
  have := R.round.dlen
  have : 0 < rs.length := List.length_pos_iff.mpr h
  rw [List.length_append] at *
  lia
end
end
section
set_option Elab.async false
set_option linter.all false
set_option maxRecDepth 100000
/-! ## the word, plainly -/
noncomputable abbrev nats (n : Nat) : List Int := (List.range n).map fun i : Nat => (i : Int)
end
section
set_option Elab.async false
set_option linter.all false
set_option maxRecDepth 100000
theorem topo_lt {sc : Int → List Int} {fin : List Int} (T : Topo sc fin) {x y : Int} (hx : x ∈ fin) (hy : y ∈ sc x) : fin.idxOf y < fin.idxOf x := by
  have hi := List.idxOf_lt_length_iff.mpr hx
  have he : fin[fin.idxOf x] = x := List.getElem_idxOf hi
  have hsplit : fin = fin.take (fin.idxOf x) ++ x :: fin.drop (fin.idxOf x + 1) := by
    have := List.drop_eq_getElem_cons hi
    rw [he] at this
    rw [← this, List.take_append_drop]
  have hm := T _ _ _ hsplit y hy
  have h1 : (fin.take (fin.idxOf x)).idxOf y < (fin.take (fin.idxOf x)).length := List.idxOf_lt_length_iff.mpr hm
  have h2 : fin.idxOf y = (fin.take (fin.idxOf x)).idxOf y := by
    conv => lhs; rw [hsplit]
    rw [List.idxOf_append, if_pos hm]
  rw [h2]
  rw [List.length_take] at h1
  lia
theorem mem_sc {E : Edges} {x y : Int} : y ∈ scE E x ↔ (x, y) ∈ E := by
  unfold scE
  rw [List.mem_map]
  constructor
  · rintro ⟨e, he, rfl⟩
    obtain ⟨h1, h2⟩ := List.mem_filter.mp he
    have : e.1 = x := by simpa using h2
    rw [← this]; exact h1
  · intro h
    exact ⟨(x, y), List.mem_filter.mpr ⟨h, by simp⟩, rfl⟩
theorem gat_len {E : Edges} {g : Gr} (G : GOf E g) {B : Nat} (h : E.length ≤ B) : gle g B := fun p hp => by
  have := gat_mem G.nd hp
  rw [G.ent] at this
  have h2 : scE E p.1 = p.2.2 := congrArg Prod.snd this
  rw [← h2]
  unfold scE
  rw [List.length_map]
  exact Nat.le_trans (List.length_filter_le _ _) h
theorem gof_cl {E : Edges} {g : Gr} (G : GOf E g) : gcl g := fun p hp s hs => by
  have := gat_mem G.nd hp
  rw [G.ent] at this
  have h2 : scE E p.1 = p.2.2 := congrArg Prod.snd this
  rw [← h2] at hs
  exact (G.cl _ (mem_sc.mp hs)).2
theorem RS.gcl {E : Edges} {ks D : List Int} {g : Gr} {rs : List Int} (R : RS E ks D g rs) : gcl g := fun p hp s hs => by
  have hn : (gkeys g).Nodup := by rw [R.keys]; exact R.nd
  have := gat_mem hn hp
  have h3 := R.sc p.1
  rw [this] at h3
  rw [h3] at hs
  rw [R.keys]
  exact (R.ecl _ (mem_sc.mp hs)).2
theorem RS.gle {E : Edges} {ks D : List Int} {g : Gr} {rs : List Int} (R : RS E ks D g rs) {B : Nat} (h : E.length ≤ B) : gle g B := fun p hp => by
  have hn : (gkeys g).Nodup := by rw [R.keys]; exact R.nd
  have := gat_mem hn hp
  have h3 := R.sc p.1
  rw [this] at h3
  rw [h3]
  unfold scE
  rw [List.length_map]
  exact Nat.le_trans (List.length_filter_le _ _) h
theorem zeros_ns (ns : List Nd) : (ns.filter fun x => x.np == 0).map (·.key) = zeros (absG ns) := by
  unfold zeros absG
  rw [List.filter_map, List.map_map]
  rfl
theorem scG_gof {E : Edges} {g : Gr} (G : GOf E g) : (fun k => (gat g k).2) = scE E := by
  funext k; rw [G.ent]
end
section
set_option Elab.async false
set_option linter.all false
set_option maxRecDepth 100000
/-! ## law 1, plainly -/
/-! ### base64 -/
noncomputable def InF (F : List Int) : Prop := ∀ v ∈ F, 0 ≤ v ∧ v < 64
theorem dec4 (a b c d : Int) (t : List Int) : decS 0 0 (a :: b :: c :: d :: t) = (a * 4 + b / 16) :: (b % 16 * 16 + c / 4) :: (c % 4 * 64 + d) :: decS 0 0 t := by
  simp [decS]
end
section
set_option Elab.async false
set_option linter.all false
set_option maxRecDepth 100000
set_option maxHeartbeats 1000000
open PySem.SeqAt PySem.MeetsSeq PySem.MeetsSeq2 PySem.MeetsSeq3
open AutoSeq1 (wpAny_loadPart')
/-! ## lists by order -/
noncomputable def LtAt (A : Around) (s : Shared) (x y : Value) (b : Bool) : Prop := ∀ (prog : Program) (w : World) (E : Value → Shared → Prop) (Q : Value → Shared → Prop), Q (.bool b) s → wpAny (model prog w) A (richCompare .Lt x y) Q E s
noncomputable def Tells (A : Around) (s : Shared) (xs ys : Array Value) (e : Nat → Bool) (r : Bool) (i : Nat) : Prop :=
  (∃ j, ∃ (h1 : j < xs.size) (h2 : j < ys.size), i ≤ j ∧ (∀ k, i ≤ k → k < j → e k = true) ∧ e j = false ∧ LtAt A.in1 s xs[j] ys[j] r) ∨
    ((∀ k, i ≤ k → k < xs.size → k < ys.size → e k = true) ∧ r = decide (xs.size < ys.size))
theorem lt_loopAt (l b : Addr) (xs ys : Array Value) (n n2 : Nat) (dd dd2 : Option Addr) (sl sl2 : Array (Option Value)) (e : Nat → Bool) (r : Bool) (k : Nat) :
    ∀ i : Nat, xs.size - i = k → Meets (Builtin.«list.__eq__.loop» ⟨[.ref l, .ref b, rawInt i, rawInt 0], []⟩)
      (fun A R s => s.heap.get? l = some { cls := .type "list", dict := dd, data := .seq xs n, slots := sl } ∧ s.heap.get? b = some { cls := .type "list", dict := dd2, data := .seq ys n2, slots := sl2 } ∧
        (∀ j (h1 : j < xs.size) (h2 : j < ys.size), EqAt A.in1 s xs[j] ys[j] (e j)) ∧ Tells A s xs ys e r i ∧ R (.ok (.ret (.bool r))) s) := by
  induction k with
  | zero =>
    intro i hk prog w A R s h
    obtain ⟨hp, g, d, tk, os⟩ := s; obtain ⟨hl, hb, he, ht, h⟩ := h
    wp_walk using wpAny_loadPart' hl, wpAny_loadPart' hb
    have hi1 : xs[((i : Nat) : Int).toNat]? = none := by simp; lia
    rw [hi1]
    wp_walk using wpAny_loadPart' hl, wpAny_loadPart' hb
    rcases ht with ⟨j, h1, h2, hij, _⟩ | ⟨_, hr⟩
    · lia
    · show R (.ok (.ret (.bool (decide (xs.size < ys.size))))) _
      rw [← hr]; exact h
  | succ k ih =>
    intro i hk prog w A R s h
    obtain ⟨hp, g, d, tk, os⟩ := s; obtain ⟨hl, hb, he, ht, h⟩ := h
    wp_walk using wpAny_loadPart' hl, wpAny_loadPart' hb
    have hlt : i < xs.size := by lia
    have hi1 : xs[((i : Nat) : Int).toNat]? = some xs[i] := by simp [hlt]
    rcases Nat.lt_or_ge i ys.size with hlt2 | hge
    · have hi2 : ys[((i : Nat) : Int).toNat]? = some ys[i] := by simp [hlt2]
      have hc : ((i : Int) + 1) = ((i + 1 : Nat) : Int) := by push_cast; rfl
      rw [hi1, hi2]
      refine wpAny_bind (he i hlt hlt2 prog w _ _ ?_)
      cases hb' : e i with
      | true =>
        wp_walk
        rw [hc]
        refine ⟨plainId_quiet plain_eq_loop _, codeAny_builtin entry_eq_loop (by
          rw [Around.under_plainId plain_eq_loop _]
          refine ih (i + 1) (by lia) prog w A R _ ⟨hl, hb, he, ?_, h⟩
          rcases ht with ⟨j, h1, h2, hij, hall, hj, hlt3⟩ | ⟨hall, hr⟩
          · refine .inl ⟨j, h1, h2, ?_, fun k h3 h4 => hall k (by lia) h4, hj, hlt3⟩
            rcases Nat.lt_or_ge i j with h5 | h5
            · exact h5
            · have : i = j := by lia
              subst this; rw [hb'] at hj; cases hj
          · exact .inr ⟨fun k h3 h4 h5 => hall k (by lia) h4 h5, hr⟩)⟩
      | false =>
        wp_walk using wpAny_loadPart' hl, wpAny_loadPart' hb
        rw [hi1, hi2]
        rcases ht with ⟨j, h1, h2, hij, hall, hj, hlt3⟩ | ⟨hall, hr⟩
        · have : i = j := by
            rcases Nat.lt_or_ge i j with h5 | h5
            · have := hall i (Nat.le_refl _) h5; rw [hb'] at this; cases this
            · lia
          subst this
          refine wpAny_bind (wpAny_mono (hlt3 prog w (fun _ _ => False) (fun v s' => v = .bool r ∧ s' = ⟨hp, g, d, tk, os⟩) ⟨rfl, rfl⟩) ?_ (fun _ _ z => z.elim))
          rintro v s' ⟨rfl, rfl⟩
          wp_walk
          exact h
        · have := hall i (Nat.le_refl _) hlt hlt2
          rw [hb'] at this; cases this
    · have hi2 : ys[((i : Nat) : Int).toNat]? = none := by simp; lia
      rw [hi1, hi2]
      wp_walk using wpAny_loadPart' hl, wpAny_loadPart' hb
      rcases ht with ⟨j, h1, h2, hij, _⟩ | ⟨_, hr⟩
      · lia
      · show R (.ok (.ret (.bool (decide (xs.size < ys.size))))) _
        rw [← hr]; exact h
end
section
set_option Elab.async false
set_option linter.all false
set_option maxRecDepth 100000
set_option maxHeartbeats 1000000
open PySem.SeqAt PySem.MeetsSeq PySem.MeetsSeq2 PySem.MeetsSeq3
open AutoSeq1 (wpAny_loadPart')
theorem list_ltAt (l b : Addr) (xs ys : Array Value) (n n2 : Nat) (dd dd2 : Option Addr) (sl sl2 : Array (Option Value)) (e : Nat → Bool) (r : Bool) :
    Meets (Builtin.«list.__lt__» ⟨[.ref l, .ref b], []⟩)
      (fun A R s => s.heap.get? l = some { cls := .type "list", dict := dd, data := .seq xs n, slots := sl } ∧ s.heap.get? b = some { cls := .type "list", dict := dd2, data := .seq ys n2, slots := sl2 } ∧
        (∀ j (h1 : j < xs.size) (h2 : j < ys.size), EqAt A.in1 s xs[j] ys[j] (e j)) ∧ Tells A s xs ys e r 0 ∧ R (.ok (.ret (.bool r))) s) := by
  intro prog w A R s h
  obtain ⟨hp, g, d, tk, os⟩ := s; obtain ⟨hl, hb, he, ht, h⟩ := h
  have f3 := AutoSeq1.sub_list_list
  wp_walk using wpAny_loadPart' hl, wpAny_loadPart' hb
  exact ⟨plainId_quiet plain_eq_loop _, codeAny_builtin entry_eq_loop (by
    rw [Around.under_plainId plain_eq_loop _]
    exact lt_loopAt l b xs ys n n2 dd dd2 sl sl2 e r _ 0 rfl prog w A R _ ⟨hl, hb, he, ht, h⟩)⟩
theorem LtAt.lists {A : Around} {s : Shared} {l b : Addr} {xs ys : Array Value} {e : Nat → Bool} {r : Bool} (hl : s.heap.IsList l xs) (hb : s.heap.IsList b ys) (hu : A.units < cLine)
    (he : ∀ j (h1 : j < xs.size) (h2 : j < ys.size), EqAt A.in1 s xs[j] ys[j] (e j)) (ht : Tells A s xs ys e r 0) : LtAt A s (.ref l) (.ref b) r := fun prog w E Q h => by
  obtain ⟨⟨cls, dd, data, sl⟩, ho, hc, n, hd⟩ := id hl
  obtain ⟨⟨cls2, dd2, data2, sl2⟩, ho2, hc2, n2, hd2⟩ := id hb
  simp only at hc hd hc2 hd2
  subst hc hd hc2 hd2
  exact richCompare_meets_room (op := .Lt) ⟨_, ho, rfl⟩ ⟨_, ho2, rfl⟩ F.slot_list_lt F.entry_list_lt (F.args_list_lt_2 _ _) (list_ltAt l b xs ys n n2 dd dd2 sl sl2 e r)
    ⟨ho, ho2, he, ht, show Value.bool r ≠ Value.notImplemented ∧ Q (.bool r) s from ⟨(fun x => nomatch x), h⟩⟩ hu
theorem call_lt_lists {prog : Program} {w : World} {A : Around} {s : Shared} {E : Value → Shared → Prop} {Q : Value → Shared → Prop} {l b : Addr} {xs ys : Array Value} {e : Nat → Bool} {r : Bool} (hl : s.heap.IsList l xs) (hb : s.heap.IsList b ys)
    (he : ∀ j (h1 : j < xs.size) (h2 : j < ys.size), EqAt A.in1 s xs[j] ys[j] (e j)) (ht : Tells A s xs ys e r 0) (h : Q (.bool r) s) : wpAny (model prog w) A (call (.builtin "list.__lt__") [.ref l, .ref b]) Q E s := by
  obtain ⟨⟨cls, dd, data, sl⟩, ho, hc, n, hd⟩ := id hl
  obtain ⟨⟨cls2, dd2, data2, sl2⟩, ho2, hc2, n2, hd2⟩ := id hb
  simp only at hc hd hc2 hd2
  subst hc hd hc2 hd2
  exact call_meets F.slot_list_lt ⟨_, ho, rfl⟩ F.entry_list_lt (F.args_list_lt_2 _ _) (list_ltAt l b xs ys n n2 dd dd2 sl sl2 e r) ⟨ho, ho2, he, ht, h⟩
theorem LtAt.ints {A : Around} {s : Shared} {i j : Int} {t u : Tok} : LtAt A s (.int i t) (.int j u) (decide (i < j)) := fun prog w E Q h => wpAny_lt_int h
end
section
set_option Elab.async false
set_option linter.all false
set_option maxRecDepth 100000
set_option maxHeartbeats 1000000
/-! ## sorted -/
noncomputable def seqCls (b : Bool) : String := if b = true then "list" else "tuple"
section
variable {prog : Program} {w : World} {A : Around} {E : Value → Shared → Prop} {s : Shared}
theorem collect_seq {l : Addr} {o : Obj} {vs : List Value} {n : Nat} {T : Bool} {Q : List Value → Shared → Prop} (ho : s.heap.get? l = some o) (hc : o.cls = .type (seqCls T)) (hd : o.data = .seq vs.toArray n)
    (h : Q vs { s with heap := (s.heap.push (seqObj "list" #[] 0)).update s.heap.objs.size (Obj.mapSeq (· ++ vs.toArray)) }) (hsz : vs.length ≤ 1000000) :
    wpAny (model prog w) A (collect (.ref l)) Q E s := by
  unfold collect
  refine wpAny_bind (wpAny_runValue (codeAny_builtin entry_proto_collect' ?_))
  show wpAny _ _ (do again (.builtin "list.__iadd__" ⟨[← newList [], .ref l], []⟩)) _ _ s
  refine wpAny_bind (wpAny_newList (wpAny_pure ⟨Code.quiet_builtin _ (by decide +kernel), codeAny_builtin entry_list_iadd' ?_⟩))
  show wpAny _ _ (Builtin.List.listExtendWith (.ref s.heap.objs.size) (.ref l) (.ref s.heap.objs.size)) _ _ { s with heap := s.heap.push (seqObj "list" #[] 0) }
  unfold Builtin.List.listExtendWith
  have ho' : (s.heap.push (seqObj "list" #[] 0)).get? l = some o := Heap.get?_push_of_some _ ho
  refine wpAny_bind (wpAny_typeOf (T := seqCls T) ⟨o, ho', hc⟩ ?_)
  rw [if_pos (by
    have h1 : (Value.type "list" == Value.type "list") = true := by rfl
    have h2 : (Value.type "tuple" == Value.type "tuple") = true := by rfl
    cases T
    · show (_ || (Value.type "tuple" == Value.type "list") || (Value.type "tuple" == Value.type "tuple")) = true
      rw [h2]; simp
    · show (_ || (Value.type "list" == Value.type "list") || _) = true
      rw [h1]; simp)]
  refine wpAny_bind (listItems_at ho' hd ?_)
  refine wpAny_bind (listItems_at (xs := #[]) (n := 0) (Heap.get?_push_size _ rfl) rfl ?_)
  rw [if_neg (by simp)]
  refine wpAny_bind (listUpdate_at (xs := #[]) (n := 0) (Heap.get?_push_size _ rfl) rfl ?_ (Nat.zero_le _) (by show (#[] ++ vs.toArray).size ≤ sizeLine + 1; rw [sizeLine_eq]; simp only [Array.size_append, List.size_toArray, List.length_nil]; lia))
  refine wpAny_pure ?_
  show wpAny (model prog w) A (do
      let o ← load s.heap.objs.size
      match o.data with
      | .seq xs _ => pure xs.toList
      | _ => unsupported "internal:collect") Q E { s with heap := (s.heap.push (seqObj "list" #[] 0)).update s.heap.objs.size (Obj.mapSeq (· ++ vs.toArray)) }
  refine wpAny_bind (wpAny_load (get?_update_seq (Heap.get?_push_size _ rfl) _) ?_)
  show wpAny _ _ (pure ((#[] : Array Value) ++ vs.toArray).toList) Q E _
  rw [show ((#[] : Array Value) ++ vs.toArray).toList = vs by simp]
  exact wpAny_pure h
theorem sorted_to {l : Addr} {o : Obj} {vs : List Value} {n : Nat} {T : Bool} {Q : Value → Shared → Prop} (ho : s.heap.get? l = some o) (hc : o.cls = .type (seqCls T)) (hd : o.data = .seq vs.toArray n) (hsz : vs.length ≤ 1000000)
    (h : ∀ h₁ : Heap, (∀ b o, s.heap.get? b = some o → h₁.get? b = some o) → h₁.get? (s.heap.objs.size + 1) = some (seqObj "list" vs.toArray 0) →
      wpAny (model prog w) A.in1.in1 (Builtin.«list.sort» ⟨[.ref (s.heap.objs.size + 1)], []⟩) (fun r s' => r = .done (.ret .none) ∧ Q (.ref (s.heap.objs.size + 1)) s') (fun _ _ => False) { s with heap := h₁ }) :
    wpAny (model prog w) A (call (.builtin "sorted") [.ref l]) Q E s := by
  refine Calls.call_function_entry kind_sorted plain_sorted entry_sorted (args_sorted1 _) ?_
  unfold Builtin.«sorted»
  refine wpAny_bind (m := checkCount "sorted" 1 1 _) (wpAny_pure ?_)
  refine wpAny_bind (collect_seq ho hc hd ?_ hsz)
  refine wpAny_bind (wpAny_newList ?_ (by rw [sizeLine_eq]; lia))
  have hsz : ((s.heap.push (seqObj "list" #[] 0)).update s.heap.objs.size (Obj.mapSeq (· ++ vs.toArray))).objs.size = s.heap.objs.size + 1 := by
    rw [Heap.size_update, size_push']
  have hoL : (((s.heap.push (seqObj "list" #[] 0)).update s.heap.objs.size (Obj.mapSeq (· ++ vs.toArray))).push (seqObj "list" vs.toArray 0)).get? (s.heap.objs.size + 1) = some (seqObj "list" vs.toArray 0) := by
    rw [← hsz]; exact Heap.get?_push_size _ rfl
  have keep : ∀ b o, s.heap.get? b = some o → (((s.heap.push (seqObj "list" #[] 0)).update s.heap.objs.size (Obj.mapSeq (· ++ vs.toArray))).push (seqObj "list" vs.toArray 0)).get? b = some o := fun b o q => by
    have hlt : b < s.heap.objs.size := Heap.lt_size q
    rw [Heap.get?_push_ne _ _ _ (by rw [hsz]; exact Nat.ne_of_lt (Nat.lt_succ_of_lt hlt)), Heap.get?_update_ne _ _ _ _ (Nat.ne_of_lt hlt), Heap.get?_push_ne _ _ _ (Nat.ne_of_lt hlt)]
    exact q
  show wpAny _ _ _ _ _ { s with heap := ((s.heap.push (seqObj "list" #[] 0)).update s.heap.objs.size (Obj.mapSeq (· ++ vs.toArray))).push (seqObj "list" vs.toArray 0) }
  rw [hsz]
  refine wpAny_bind (wpAny_holding (wpAny_call_entry slot_list_sort ⟨_, hoL, rfl⟩ entry_list_sort (wpAny_mono (h _ keep hoL) ?_ fun _ _ z => z.elim) (args_list_sort _)))
  rintro r s' ⟨rfl, hq⟩
  exact ⟨_, rfl, wpAny_pure ⟨_, rfl, hq⟩⟩
theorem list_sort_01 {a : Addr} {vs : List Value} {n : Nat} {P : PySem.Fin → Shared → Prop} (ho : s.heap.get? a = some (seqObj "list" vs.toArray n)) (h2 : vs.length < 2)
    (h : P (.done (.ret .none)) { s with heap := sortedHeap s.heap a vs vs.toArray }) : wpAny (model prog w) A (Builtin.«list.sort» ⟨[.ref a], []⟩) P E s := by
  rw [list_sort_plain]
  have ha : a < s.heap.objs.size := Heap.lt_size ho
  refine wpAny_bind (listItems_at ho rfl ?_)
  refine wpAny_bind (listUpdate_at ho rfl ?_)
  obtain ⟨e1, ho1⟩ : ∃ e1, (s.heap.update a (Obj.mapSeq fun _ => #[])).get? a = some (seqObj "list" #[] e1) := ⟨_, get?_update_seq ho (fun _ => #[])⟩
  refine wpAny_bind (seqEpoch_at ho1 rfl ?_)
  refine wpAny_bind (wpAny_newTuple ?_)
  refine wpAny_bind (wpAny_newList ?_)
  refine wpAny_holding ?_
  have ho6 : (((s.heap.update a (Obj.mapSeq fun _ => #[])).push (seqObj "tuple" vs.toArray 0)).push (seqObj "list" #[] 0)).get? a = some (seqObj "list" #[] e1) := by
    rw [Heap.get?_push_ne _ _ _ (by rw [size_push', Heap.size_update]; exact Nat.ne_of_lt (Nat.lt_succ_of_lt ha)), Heap.get?_push_ne _ _ _ (by rw [Heap.size_update]; exact Nat.ne_of_lt ha)]
    exact ho1
  show wpAny (model prog w) A _ P E { s with heap := ((s.heap.update a (Obj.mapSeq fun _ => #[])).push (seqObj "tuple" vs.toArray 0)).push (seqObj "list" #[] 0) }
  dsimp only
  have h2' : vs.toArray.size < 2 := by simpa using h2
  rw [if_pos h2', if_pos h2']
  refine wpAny_bind (wpAny_pure ?_)
  rw [StateT.run_pure]
  refine wpAny_bind (wpAny_pure ?_)
  dsimp only
  refine wpAny_bind (seqEpoch_at ho6 rfl ?_)
  have e : (arrOf (SortSt.mk' general' (vs.toArray.zip vs.toArray) #[] 7 none)).map (·.2) = vs.toArray := by
    show (vs.toArray.zip vs.toArray).map (·.2) = vs.toArray
    refine Array.ext (by simp) fun i h1 h2 => ?_
    simp
  rw [e]
  refine wpAny_bind (listUpdate_at ho6 rfl ?_ (hsz2 := by rw [sizeLine_eq]; lia))
  simp only [bne_self_eq_false, Bool.false_eq_true, if_false]
  exact wpAny_pure h
end
end
section
set_option Elab.async false
set_option linter.all false
set_option maxRecDepth 100000
set_option maxHeartbeats 1000000
theorem sortedHeap_get {h : Heap} {a : Addr} {vs : List Value} {out : Array Value} {n : Nat} (h1 : h.get? a = some (seqObj "list" vs.toArray n)) :
    (∃ k, (sortedHeap h a vs out).get? a = some (seqObj "list" out k)) ∧ ∀ b o, b ≠ a → h.get? b = some o → (sortedHeap h a vs out).get? b = some o := by
  have ha : a < h.objs.size := Heap.lt_size h1
  obtain ⟨e1, ho1⟩ : ∃ e1, (h.update a (Obj.mapSeq fun _ => #[])).get? a = some (seqObj "list" #[] e1) := ⟨_, get?_update_seq h1 (fun _ => #[])⟩
  have k : ∀ b, b < h.objs.size → (((h.update a (Obj.mapSeq fun _ => #[])).push (seqObj "tuple" vs.toArray 0)).push (seqObj "list" #[] 0)).get? b = (h.update a (Obj.mapSeq fun _ => #[])).get? b := fun b hb => by
    rw [Heap.get?_push_ne _ _ _ (by rw [size_push', Heap.size_update]; exact Nat.ne_of_lt (Nat.lt_succ_of_lt hb)), Heap.get?_push_ne _ _ _ (by rw [Heap.size_update]; exact Nat.ne_of_lt hb)]
  refine ⟨⟨_, get?_update_seq ((k a ha).trans ho1) (fun _ => out)⟩, fun b o hne hb => ?_⟩
  unfold sortedHeap
  rw [Heap.get?_update_ne _ _ _ _ hne, k b (Heap.lt_size hb), Heap.get?_update_ne _ _ _ _ hne]
  exact hb
theorem St.sorted {base : Heap} {L : Addr} {m : Loc} {l : Led} {h h₁ : Heap} (S : St base L m l h) (keep : ∀ b o, h.get? b = some o → h₁.get? b = some o) {vs : List Value} {out : Array Value} {n : Nat}
    (h1 : h₁.get? (h.objs.size + 1) = some (seqObj "list" vs.toArray n)) : St base L m ((h.objs.size + 1, listS (out.toList.map un)) :: l) (sortedHeap h₁ (h.objs.size + 1) vs out) := by
  obtain ⟨⟨k, e⟩, hk⟩ := sortedHeap_get (out := out) h1
  have hlt : ∀ b o, h.get? b = some o → b ≠ h.objs.size + 1 := fun b o hb => Nat.ne_of_lt (Nat.lt_succ_of_lt (Heap.lt_size hb))
  exact St.new S (Heap.get?_none_of_le (Nat.le_succ _)) (fun b o hb => hk b o (hlt b o hb) (keep b o hb)) e ⟨out, k, rfl, rfl⟩
theorem un_ints : ∀ {vs : List Value} {ns : List Int}, IntsAre vs ns → vs.map un = iL ns
  | _, _, .nil => rfl
  | _, _, .cons _ _ r => by
    have := un_ints r
    simp only [List.map_cons, iL, un] at this ⊢
    rw [this]
section
variable {C : Cx} {m : Loc} {l : Led} {Q E : Pv} {a : Addr} {vs : List Value}
theorem f_sorted01 (hm : (a, listS vs) ∈ l) (hz : vs.length < 2) (h : ∀ r, Q (.ref r) m ((r, listS vs) :: l)) : TCall C m l (.builtin "sorted") [.ref a] [] Q E :=
  call1 Own.builtin fun x hx s S => by
    obtain rfl := un_ref hx
    obtain ⟨o, ho, items, n, rfl, hi⟩ := S.get _ hm
    have hl : items.toList.length = vs.length := by rw [← hi, List.length_map]
    refine sorted_to (T := true) (vs := items.toList) (n := n) ho rfl (by simp) (by lia) fun h₁ keep h1 => ?_
    refine list_sort_01 h1 (by lia) ⟨rfl, Out.here (Rel.heap s _) ?_ (h _)⟩
    have := S.sorted keep (out := items.toList.toArray) h1
    rw [← hi]
    simpa using this
theorem f_sortedI {ns : List Int} (hm : (a, tupS (iL ns)) ∈ l) (hz : ns.length < 64) (h : ∀ ns', ns'.Perm ns → ns'.Pairwise (· ≤ ·) → ∀ r, Q (.ref r) m ((r, listS (iL ns')) :: l)) : TCall C m l (.builtin "sorted") [.ref a] [] Q E :=
  call1 Own.builtin fun x hx s S => by
    obtain rfl := un_ref hx
    obtain ⟨o, ho, items, n, rfl, hi⟩ := S.get _ hm
    have hI := intsAre_of hi
    have hl : items.toList.length = ns.length := by have := congrArg List.length hi; simpa [iL] using this
    refine sorted_to (T := false) (vs := items.toList) (n := n) ho rfl (by simp) (by lia) fun h₁ keep h1 => ?_
    refine list_sort_tree h1 hI (by lia) fun out ns' a1 a2 a3 => ⟨rfl, Out.here (Rel.heap s _) ?_ (h ns' a2 a3 _)⟩
    have := S.sorted keep (out := out) h1
    have e := un_ints a1
    rw [e] at this
    exact this
end
end
section
set_option Elab.async false
set_option linter.all false
set_option maxRecDepth 100000
set_option maxHeartbeats 1000000
theorem St.news {base : Heap} {L : Addr} {m : Loc} {l : Led} {h : Heap} (S : St base L m l h) :
    ∃ mv n, Fr base L h mv ∧ News base L h n ∧ (∀ q ∈ n, q.1 ∈ l.map (·.1)) ∧ ∀ h', Fr base L h' mv → News base L h' n → St base L m l h' := by
  obtain ⟨mv, hns, hx⟩ := S.ns
  obtain ⟨n, hc, hg⟩ := cov_of S.get
  have hin : ∀ q ∈ n, q.1 ∈ l.map (·.1) := fun q hq => by rw [← hc.fst]; exact List.mem_map_of_mem hq
  have hN : News base L h n := fun q hq => by
    obtain ⟨p, hp1, hp2⟩ := List.mem_map.mp (hin q hq)
    refine ⟨hg q hq, fun e => ?_, ?_⟩
    · exact (List.nodup_cons.mp S.nd).1 (e ▸ hin q hq)
    · have := S.fresh p hp1
      rw [hp2] at this
      exact this
  refine ⟨mv, n, ⟨hns, S.keep, S.above⟩, hN, hin, fun h' F N => ⟨F.keep, S.above, ⟨mv, F.ns, hx⟩, fun p hp => ?_, S.fresh, S.nd⟩⟩
  obtain ⟨o, h1, h2⟩ := hc.get p hp
  exact ⟨o, (N _ h1).1, h2⟩
theorem sort2_tree : kas_sort 2 = .ask 1 0 fun c => .ret (if c = true then #[1, 0] else #[0, 1]) := by
  have h0 : List.toArray (List.range 2) = #[0, 1] := by decide
  unfold kas_sort kas_count
  rw [h0]
  show KasT.ask 1 0 _ = _
  congr 1
  funext c
  cases c <;> rfl
section
variable {C : Cx} {m : Loc} {l : Led} {Q E : Pv} {a : Addr}
theorem f_sorted2 {x y T : Value} {b : Bool} (hm : (a, listS [x, y]) ∈ l) (hT1 : (T != Value.type "tuple" && T == T) = true)
    (hT : ∀ h', St C.base C.L m l h' → ∀ v, un v = x ∨ un v = y → Looks C.M h' (typeOf v) T)
    (hlt : ∀ s' : Shared, St C.base C.L m l s'.heap → ∀ vx vy, un vx = x → un vy = y → ∀ Q' : Bool → Shared → Prop, Q' b s' → wpAny (model C.prog C.w) C.A.in1.in1 (keyLt' oneType' vy vx) Q' (fun _ _ => False) s')
    (h : ∀ r, Q (.ref r) m ((r, listS (if b = true then [y, x] else [x, y])) :: l)) : TCall C m l (.builtin "sorted") [.ref a] [] Q E :=
  call1 Own.builtin fun z hz s S => by
    obtain rfl := un_ref hz
    obtain ⟨o, ho, items, n, rfl, hi⟩ := S.get _ hm
    obtain ⟨vx, vy, hxy, hvx, hvy⟩ := map2 hi
    have hlt' : ∀ b o, s.heap.get? b = some o → b ≠ s.heap.objs.size + 1 := fun b o hb => Nat.ne_of_lt (Nat.lt_succ_of_lt (Heap.lt_size hb))
    simp only [Bool.and_eq_true] at hT1
    refine sorted_to (T := true) (vs := [vx, vy]) (n := n) ho rfl (by rw [← hxy]) (by simp) fun h₁ keep h1 => ?_
    obtain ⟨mv, nw, F, N, hin, back⟩ := (S.grow keep).news
    have hD : ∀ p ∈ nw, p.1 ≠ s.heap.objs.size + 1 := fun p hp => by
      obtain ⟨q, hq, e⟩ := List.mem_map.mp (hin p hp)
      obtain ⟨o, ho, _⟩ := S.get q hq
      rw [← e]; exact hlt' _ _ ho
    have hb0 : C.base.get? (s.heap.objs.size + 1) = none := by
      cases hb : C.base.get? (s.heap.objs.size + 1) with
      | none => rfl
      | some o => exact absurd rfl (hlt' _ _ (S.keep _ _ hb))
    have hL : s.heap.objs.size + 1 ≠ C.L := by
      obtain ⟨mv, hns, _⟩ := S.ns
      exact fun e => Nat.lt_irrefl _ (Nat.lt_of_lt_of_le (Nat.lt_succ_of_lt hns.lt) (Nat.le_of_eq e))
    refine kas_list_sort (s := { s with heap := h₁ }) (T := T) F N h1 hL hb0 hD (Nat.le_refl 2) (by simp) (fun e1 h' F' N' v hv => ?_) hT1.1 hT1.2 fun e1 h' F' N' => ?_
    · refine hT h' (back h' F' fun p hp => N' p (.tail _ hp)) v ?_
      simp only [List.mem_cons, List.not_mem_nil, or_false] at hv
      rcases hv with rfl | rfl
      · exact .inl hvx
      · exact .inr hvy
    · show (kas_sort 2).kasWp _ _ _
      rw [sort2_tree]
      refine hlt { s with heap := h' } (back h' F' fun p hp => N' p (.tail _ hp)) vx vy hvx hvy _ ?_
      refine (show KasFin C.base C.L mv (s.heap.objs.size + 1) e1 (List.map (fun i => [vx, vy].getD i Value.none) (if b = true then #[1, 0] else #[0, 1] : Array Nat).toList) (fun s'' => PySem.Fin.done (Flow.ret Value.none) = PySem.Fin.done (Flow.ret Value.none) ∧ Out C.base C.L s (Q (un (Value.ref (s.heap.objs.size + 1)))) s'') { s with heap := h' } from ?_)
      refine KasFin.intro (s := { s with heap := h' }) F' N' (.head hD) fun h'' c F'' N'' => ⟨rfl, Out.here (Rel.heap s _) ?_ (h _)⟩
      have S2 := back h'' F'' fun p hp => N'' p (.tail _ hp)
      refine St.more S2 (N'' _ (.head _)).1 ⟨_, c, rfl, ?_⟩ hb0 hL fun hin2 => ?_
      · cases b with
        | true => simp [hvx, hvy]
        | false => simp [hvx, hvy]
      · obtain ⟨q, hq, e⟩ := List.mem_map.mp hin2
        obtain ⟨o, ho, _⟩ := S.get q hq
        exact hlt' _ _ ho e
end
end
section
set_option Elab.async false
set_option linter.all false
set_option maxRecDepth 100000
set_option maxHeartbeats 1000000
open PySem.SeqAt PySem.MeetsSeq
/-! ## the order of data -/
open Classical in
noncomputable def lexG {α : Type} (lt : α → α → Bool) : List α → List α → Bool
  | [], [] => false
  | [], _ :: _ => true
  | _ :: _, [] => false
  | x :: xs, y :: ys => if x = y then lexG lt xs ys else lt x y
theorem lexG_tells {α : Type} (lt : α → α → Bool) : ∀ xs ys : List α, (∃ j, ∃ (h1 : j < xs.length) (h2 : j < ys.length), (∀ k (h3 : k < xs.length) (h4 : k < ys.length), k < j → xs[k] = ys[k]) ∧ xs[j] ≠ ys[j] ∧ lexG lt xs ys = lt xs[j] ys[j]) ∨
    ((∀ k (h3 : k < xs.length) (h4 : k < ys.length), xs[k] = ys[k]) ∧ lexG lt xs ys = decide (xs.length < ys.length))
  | [], [] => .inr ⟨fun k h => absurd h (Nat.not_lt_zero _), by simp [lexG]⟩
  | [], y :: ys => .inr ⟨fun k h => absurd h (Nat.not_lt_zero _), by simp [lexG]⟩
  | x :: xs, [] => .inr ⟨fun k _ h => absurd h (Nat.not_lt_zero _), by simp [lexG]⟩
  | x :: xs, y :: ys => by
    by_cases h : x = y
    · have e : lexG lt (x :: xs) (y :: ys) = lexG lt xs ys := by rw [lexG, if_pos h]
      rcases lexG_tells lt xs ys with ⟨j, h1, h2, hk, hj, hr⟩ | ⟨hk, hr⟩
      · refine .inl ⟨j + 1, Nat.succ_lt_succ h1, Nat.succ_lt_succ h2, fun k h3 h4 h5 => ?_, hj, e.trans hr⟩
        cases k with
        | zero => exact h
        | succ k => exact hk k (Nat.lt_of_succ_lt_succ h3) (Nat.lt_of_succ_lt_succ h4) (Nat.lt_of_succ_lt_succ h5)
      · refine .inr ⟨fun k h3 h4 => ?_, ?_⟩
        · cases k with
          | zero => exact h
          | succ k => exact hk k (Nat.lt_of_succ_lt_succ h3) (Nat.lt_of_succ_lt_succ h4)
        · rw [e, hr]; simp
    · exact .inl ⟨0, Nat.zero_lt_succ _, Nat.zero_lt_succ _, fun k _ _ h5 => absurd h5 (Nat.not_lt_zero _), h, by rw [lexG, if_neg h]; rfl⟩
theorem lexG_anti {α : Type} {lt : α → α → Bool} : ∀ {xs ys : List α}, (∀ j (h1 : j < xs.length) (h2 : j < ys.length), xs[j] ≠ ys[j] → lt xs[j] ys[j] = !lt ys[j] xs[j]) → xs ≠ ys → lexG lt xs ys = !lexG lt ys xs
  | [], [], _, h => absurd rfl h
  | [], _ :: _, _, _ => rfl
  | _ :: _, [], _, _ => rfl
  | x :: xs, y :: ys, ha, h => by
    by_cases e : x = y
    · subst e
      rw [lexG, lexG, if_pos rfl, if_pos rfl]
      exact lexG_anti (fun j h1 h2 => ha (j + 1) (Nat.succ_lt_succ h1) (Nat.succ_lt_succ h2)) fun e => h (by rw [e])
    · rw [lexG, lexG, if_neg e, if_neg (Ne.symm e)]
      exact ha 0 (Nat.zero_lt_succ _) (Nat.zero_lt_succ _) e
theorem RdsL.nth {l : Led} {vs : List Value} : ∀ {ds : List Dat}, RdsL l vs ds → vs.length = ds.length ∧ ∀ j (h1 : j < vs.length) (h2 : j < ds.length), RdL l vs[j] ds[j] := by
  induction vs with
  | nil =>
    intro ds h
    cases h
    exact ⟨rfl, fun j h1 _ => absurd h1 (Nat.not_lt_zero _)⟩
  | cons v vs ih =>
    intro ds h
    cases h with
    | cons a r =>
      obtain ⟨e, hn⟩ := ih r
      refine ⟨by rw [List.length_cons, List.length_cons, e], fun j h1 h2 => ?_⟩
      cases j with
      | zero => exact a
      | succ j => exact hn j (Nat.lt_of_succ_lt_succ h1) (Nat.lt_of_succ_lt_succ h2)
section
variable {base : Heap} {L : Addr} {m : Loc} {l : Led} {s : Shared} {A : Around}
open Classical in
theorem EqAt.dat (S : St base L m l s.heap) {u v : Value} {da db : Dat} (ra : RdL l (un u) da) (rb : RdL l (un v) db) (oa : kqdOk 40 da = true) (ob : kqdOk 40 db = true) (hu : A.units + 64 < cLine) : EqAt A s u v (decide (da = db)) := by
  obtain ⟨as, qa⟩ := RdL.reads S ra rfl
  obtain ⟨bs, qb⟩ := RdL.reads S rb rfl
  have la := kqd_lay 40 da oa
  have lb := kqd_lay 40 db ob
  have e := kqd_eqv 40 da db 40 oa ob
  have h := eqAt_reads (kqdP da) (kqdP db) A s u v as bs qa qb la.1 lb.1 (Nat.lt_of_le_of_lt (Nat.add_le_add_left (Nat.le_trans (Nat.min_le_left _ _) (Nat.le_trans la.2 (by decide))) _) hu)
  have e2 : PyData.eqv (kqdP da) (kqdP db) = decide (da = db) := by
    rw [Bool.eq_iff_iff, e, decide_eq_true_iff]
  rw [e2] at h
  exact h
open Classical in
theorem Tells.dats (S : St base L m l s.heap) {xs ys : Array Value} {ds es : List Dat} {lt : Dat → Dat → Bool} (ra : RdsL l (xs.toList.map un) ds) (rb : RdsL l (ys.toList.map un) es) (oa : ∀ d ∈ ds, kqdOk 40 d = true) (ob : ∀ d ∈ es, kqdOk 40 d = true)
    (hu : A.units + 65 < cLine) (hlt : ∀ j (h1 : j < xs.size) (h2 : j < ys.size) (h3 : j < ds.length) (h4 : j < es.length), ds[j] ≠ es[j] → LtAt A.in1 s xs[j] ys[j] (lt ds[j] es[j])) :
    (∀ j (h1 : j < xs.size) (h2 : j < ys.size), EqAt A.in1 s xs[j] ys[j] (decide (ds[j]? = es[j]?))) ∧ Tells A s xs ys (fun j => decide (ds[j]? = es[j]?)) (lexG lt ds es) 0 := by
  obtain ⟨ea, na⟩ := ra.nth
  obtain ⟨eb, nb⟩ := rb.nth
  have ea : xs.size = ds.length := by simpa using ea
  have eb : ys.size = es.length := by simpa using eb
  have hq : ∀ j (h3 : j < ds.length) (h4 : j < es.length), decide (ds[j]? = es[j]?) = decide (ds[j] = es[j]) := fun j h3 h4 => by
    simp [List.getElem?_eq_getElem h3, List.getElem?_eq_getElem h4]
  refine ⟨fun j h1 h2 => ?_, ?_⟩
  · have h3 : j < ds.length := ea ▸ h1
    have h4 : j < es.length := eb ▸ h2
    rw [hq j h3 h4]
    refine EqAt.dat S ?_ ?_ (oa _ (List.getElem_mem h3)) (ob _ (List.getElem_mem h4)) (by show A.units + 1 + 64 < cLine; omega)
    · have := na j (by simpa using h1) h3
      simpa using this
    · have := nb j (by simpa using h2) h4
      simpa using this
  · rcases lexG_tells lt ds es with ⟨j, h3, h4, hk, hj, hr⟩ | ⟨hk, hr⟩
    · have h1 : j < xs.size := ea ▸ h3
      have h2 : j < ys.size := eb ▸ h4
      refine .inl ⟨j, h1, h2, Nat.zero_le _, fun k _ h5 => ?_, ?_, ?_⟩
      · show decide _ = true
        rw [hq k (Nat.lt_trans h5 h3) (Nat.lt_trans h5 h4)]
        exact decide_eq_true (hk k _ _ h5)
      · show decide _ = false
        rw [hq j h3 h4]
        exact decide_eq_false hj
      · rw [hr]; exact hlt j h1 h2 h3 h4 hj
    · refine .inr ⟨fun k _ h1 h2 => ?_, ?_⟩
      · show decide _ = true
        rw [hq k (ea ▸ h1) (eb ▸ h2)]
        exact decide_eq_true (hk k _ _)
      · rw [hr, ea, eb]
end
end
section
set_option Elab.async false
set_option linter.all false
set_option maxRecDepth 100000
set_option maxHeartbeats 1000000
open PySem.SeqAt PySem.MeetsSeq
noncomputable def kidsD : Dat → List Dat
  | .list ds => ds
  | _ => []
noncomputable def ltD : Nat → Dat → Dat → Bool
  | 0, _, _ => false
  | n + 1, d, e => match d, e with
    | .int i, .int j => decide (i < j)
    | d, e => lexG (ltD n) (kidsD d) (kidsD e)
noncomputable def Cm : Nat → Dat → Dat → Prop
  | 0, _, _ => False
  | n + 1, d, e => (∃ i j, d = .int i ∧ e = .int j) ∨ ∃ ds es, d = .list ds ∧ e = .list es ∧ ∀ j (h1 : j < ds.length) (h2 : j < es.length), Cm n ds[j] es[j]
theorem ltD_int (n : Nat) (i j : Int) : ltD (n + 1) (.int i) (.int j) = decide (i < j) := rfl
theorem ltD_list (n : Nat) (ds es : List Dat) : ltD (n + 1) (.list ds) (.list es) = lexG (ltD n) ds es := rfl
theorem ltD_anti : ∀ (n : Nat) {d e : Dat}, Cm n d e → d ≠ e → ltD n d e = !ltD n e d
  | 0, _, _, h, _ => h.elim
  | n + 1, _, _, .inl ⟨i, j, rfl, rfl⟩, h => by
    rw [ltD_int, ltD_int]
    have : i ≠ j := fun e => h (by rw [e])
    by_cases h1 : i < j
    · have h2 : ¬ j < i := by lia
      simp [h1, h2]
    · have h2 : j < i := by lia
      simp [h1, h2]
  | n + 1, _, _, .inr ⟨ds, es, rfl, rfl, hc⟩, h => by
    rw [ltD_list, ltD_list]
    exact lexG_anti (fun j h1 h2 => ltD_anti n (hc j h1 h2)) fun e => h (by rw [e])
section
variable {base : Heap} {L : Addr} {m : Loc} {l : Led} {s : Shared}
theorem okL {n : Nat} {ds : List Dat} (h : kqdOk (n + 1) (.list ds) = true) : ∀ d ∈ ds, kqdOk n d = true := by
  simp only [kqdOk, List.all_eq_true] at h
  exact h
theorem kqdOk_up : ∀ (n : Nat) {d : Dat}, kqdOk n d = true → kqdOk (n + 1) d = true
  | 0, d, h => by cases d <;> simp_all [kqdOk]
  | n + 1, d, h => by
    cases d with
    | list ds => simp only [kqdOk, List.all_eq_true] at h ⊢; exact fun x hx => kqdOk_up n (h x hx)
    | tuple ds => simp only [kqdOk, List.all_eq_true] at h ⊢; exact fun x hx => kqdOk_up n (h x hx)
    | _ => simp_all [kqdOk]
theorem LtAt.dat (S : St base L m l s.heap) : ∀ (n : Nat) {A : Around} {u v : Value} {da db : Dat}, Cm n da db → RdL l (un u) da → RdL l (un v) db → kqdOk 40 da = true → kqdOk 40 db = true → A.units + 66 + n < cLine → LtAt A s u v (ltD n da db)
  | 0, _, _, _, _, _, h, _, _, _, _, _ => h.elim
  | n + 1, A, u, v, _, _, .inl ⟨i, j, rfl, rfl⟩, ra, rb, _, _, _ => by
    generalize hu : un u = u' at ra
    generalize hv : un v = v' at rb
    cases ra
    cases rb
    obtain ⟨t, rfl⟩ := un_int hu
    obtain ⟨t', rfl⟩ := un_int hv
    exact LtAt.ints
  | n + 1, A, u, v, _, _, .inr ⟨ds, es, rfl, rfl, hc⟩, ra, rb, oa, ob, hu => by
    generalize hu' : un u = u' at ra
    generalize hv' : un v = v' at rb
    cases ra with
    | list ma qa =>
      cases rb with
      | list mb qb =>
        obtain rfl := un_ref hu'
        obtain rfl := un_ref hv'
        obtain ⟨o, ho, xs, k, rfl, hi⟩ := S.get _ ma
        obtain ⟨o2, ho2, ys, k2, rfl, hi2⟩ := S.get _ mb
        rw [← hi] at qa
        rw [← hi2] at qb
        have oa' := okL oa
        have ob' := okL ob
        have na := qa.nth
        have nb := qb.nth
        have T := Tells.dats (A := A) S (lt := ltD n) qa qb (fun d hd => kqdOk_up 39 (oa' d hd)) (fun d hd => kqdOk_up 39 (ob' d hd)) (by lia) fun j h1 h2 h3 h4 hne => ?_
        · rw [ltD_list]
          exact LtAt.lists ⟨_, ho, rfl, k, rfl⟩ ⟨_, ho2, rfl, k2, rfl⟩ (by lia) T.1 T.2
        · refine LtAt.dat S n (hc j h3 h4) ?_ ?_ (kqdOk_up 39 (oa' _ (List.getElem_mem h3))) (kqdOk_up 39 (ob' _ (List.getElem_mem h4))) (by show A.units + 1 + 66 + n < cLine; lia)
          · have := na.2 j (by simpa using h1) h3
            simpa using this
          · have := nb.2 j (by simpa using h2) h4
            simpa using this
theorem key_lists {prog : Program} {w : World} {A : Around} {E : Value → Shared → Prop} {Q : Bool → Shared → Prop} {a b : Addr} {xs ys : Array Value} {e : Nat → Bool} {r : Bool} (hl : s.heap.IsList a xs) (hb : s.heap.IsList b ys) (hu : A.units < cLine)
    (he : ∀ j (h1 : j < xs.size) (h2 : j < ys.size), EqAt A.in1 s xs[j] ys[j] (e j)) (ht : Tells A s xs ys e r 0) (h : Q r s) : wpAny (model prog w) A (keyLt' oneType' (.ref a) (.ref b)) Q E s := by
  rw [keyLt'_oneType, oneLt'_eq]
  simp only [if_true]
  refine wpAny_bind (wpAny_cRoomFor hu ?_)
  obtain ⟨o, ho, hc, _⟩ := id hl
  refine wpAny_bind (wpAny_callSpecialIfBound?_slot (T := "list") ⟨o, ho, hc⟩ F.slot_list_lt (call_lt_lists hl hb he ht ?_))
  exact wpAny_truthy_bool h
end
section
variable {C : Cx} {m : Loc} {l : Led} {Q E : Pv} {a : Addr}
theorem looks_list {C : Cx} {m : Loc} {l : Led} {h : Heap} {p : Addr} {us : List Value} (S : St C.base C.L m l h) (hp : (p, listS us) ∈ l) : Looks C.M h (typeOf (.ref p)) (.type "list") := by
  obtain ⟨o, ho, xs, k, rfl, _⟩ := S.get _ hp
  exact fun A Q E s hk q => wpAny_typeOf ⟨_, hk _ _ ho, rfl⟩ q
theorem f_sorted_dats {p q : Addr} {us ws : List Value} {ds es : List Dat} {n : Nat} (hm : (a, listS [.ref p, .ref q]) ∈ l) (hp : (p, listS us) ∈ l) (hq : (q, listS ws) ∈ l) (ra : RdsL l us ds) (rb : RdsL l ws es)
    (oa : kqdOk 40 (.list ds) = true) (ob : kqdOk 40 (.list es) = true) (hc : Cm (n + 1) (.list es) (.list ds)) (hu : C.A.units + 70 + n < cLine)
    (h : ∀ r, Q (.ref r) m ((r, listS (if ltD (n + 1) (.list es) (.list ds) = true then [.ref q, .ref p] else [.ref p, .ref q])) :: l)) : TCall C m l (.builtin "sorted") [.ref a] [] Q E := by
  refine f_sorted2 (T := .type "list") (b := ltD (n + 1) (.list es) (.list ds)) hm (by decide) (fun h' S' v hv => ?_) (fun s' S' vx vy hx hy Q' hq' => ?_) h
  · rcases hv with hv | hv
    · obtain rfl := un_ref hv; exact looks_list S' hp
    · obtain rfl := un_ref hv; exact looks_list S' hq
  · obtain rfl := un_ref hx
    obtain rfl := un_ref hy
    obtain ⟨o, ho, xs, k, rfl, hi⟩ := S'.get _ hp
    obtain ⟨o2, ho2, ys, k2, rfl, hi2⟩ := S'.get _ hq
    rw [← hi] at ra
    rw [← hi2] at rb
    have oa' := okL oa
    have ob' := okL ob
    have na := ra.nth
    have nb := rb.nth
    rcases hc with ⟨i, j, h1, _⟩ | ⟨es', ds', h1, h2, hc⟩
    · cases h1
    · cases h1
      cases h2
      have T := Tells.dats (A := C.A.in1.in1) S' (lt := ltD n) rb ra (fun d hd => kqdOk_up 39 (ob' d hd)) (fun d hd => kqdOk_up 39 (oa' d hd)) (by show C.A.units + 1 + 1 + 65 < cLine; lia) fun j h1 h2 h3 h4 hne => ?_
      · exact key_lists ⟨_, ho2, rfl, k2, rfl⟩ ⟨_, ho, rfl, k, rfl⟩ (by show C.A.units + 1 + 1 < cLine; lia) T.1 T.2 hq'
      · refine LtAt.dat S' n (hc j h3 h4) ?_ ?_ (kqdOk_up 39 (ob' _ (List.getElem_mem h3))) (kqdOk_up 39 (oa' _ (List.getElem_mem h4))) (by show C.A.units + 1 + 1 + 1 + 66 + n < cLine; lia)
        · have := nb.2 j (by simpa using h1) h3
          simpa using this
        · have := na.2 j (by simpa using h2) h4
          simpa using this
end
end
section
set_option Elab.async false
set_option linter.all false
set_option maxRecDepth 100000
set_option maxHeartbeats 1000000
/-! ## bytes by order -/
theorem slot_bytes_lt : Slot "bytes" (cmpInfo .Lt).2.1 "bytes.__lt__" :=
  .of (owner := "bytes") (n := "__lt__") (by rw [typeLookup_type, builtinLookup_eq_fast]; kernel_rfl) (by decide +kernel) (by decide +kernel) (by decide +kernel)
    (by first | exact .inl (by decide +kernel) | exact .inr (by decide +kernel)) (by rw [isSubtype_type]; kernel_rfl)
theorem entry_bytes_lt : entryFor table "bytes.__lt__" = some Builtin.«bytes.__lt__» := entryFor_of_tree (by kernel_rfl)
theorem args_bytes_lt (a b : Value) : argsOk "bytes.__lt__" ⟨[a, b], []⟩ := by unfold argsOk; kernel_rfl
theorem gives_bytes_lt (b c : Array UInt8) (t u : Tok) : Gives (Builtin.«bytes.__lt__» ⟨[.bytes b t, .bytes c u], []⟩) (.val (.bool (Builtin.Bytes.order b.toList c.toList == .lt))) := by
  refine .of_wp fun M A E s Q hq => ?_
  show wpAny M A (isInstance (.bytes c u) (.type "bytes") >>= fun r => _) _ E s
  refine wpAny_bind (wpAny_isInstance (typeIs_bytes s c u) F.sub_bytes_bytes ?_)
  exact wpAny_pure ⟨_, rfl, hq⟩
theorem key_bytes {prog : Program} {w : World} {A : Around} {E : Value → Shared → Prop} {s : Shared} {Q : Bool → Shared → Prop} {b c : Array UInt8} {t u : Tok} (h : Q (Builtin.Bytes.order b.toList c.toList == .lt) s) :
    wpAny (model prog w) A (keyLt' oneType' (.bytes b t) (.bytes c u)) Q E s := by
  rw [keyLt'_oneType, oneLt'_eq]
  simp only [if_true]
  refine wpAny_bind (wpAny_cRoomFor_byValue rfl ?_)
  refine wpAny_bind (wpAny_callSpecialIfBound?_slot (typeIs_bytes s b t) slot_bytes_lt (call_gives slot_bytes_lt (typeIs_bytes s b t) entry_bytes_lt (args_bytes_lt _ _) (gives_bytes_lt b c t u) ?_))
  exact wpAny_truthy_bool h
noncomputable def ltI (i j : Int) : Bool := decide (i < j)
theorem u8_lt {x y : Int} (hx : 0 ≤ x ∧ x < 256) (hy : 0 ≤ y ∧ y < 256) : (u8 x < u8 y) ↔ x < y := by
  have h1 := byte_back hx.1 hx.2
  have h2 := byte_back hy.1 hy.2
  rw [UInt8.lt_iff_toNat_lt]
  unfold u8
  omega
theorem order_lex : ∀ {ns ms : List Int}, InB ns → InB ms → (Builtin.Bytes.order (byteArr ns).toList (byteArr ms).toList == .lt) = lexG ltI ns ms
  | [], [], _, _ => rfl
  | [], _ :: _, _, _ => rfl
  | _ :: _, [], _, _ => rfl
  | x :: ns, y :: ms, h1, h2 => by
    have hx := h1 x (.head _)
    have hy := h2 y (.head _)
    have ih := order_lex (ns := ns) (ms := ms) (fun n hn => h1 n (.tail _ hn)) fun n hn => h2 n (.tail _ hn)
    show (Builtin.Bytes.order (u8 x :: (byteArr ns).toList) (u8 y :: (byteArr ms).toList) == .lt) = _
    rw [Builtin.Bytes.order]
    by_cases e : x = y
    · subst e
      have : ¬ u8 x < u8 x := by rw [u8_lt hx hx]; lia
      rw [if_neg this, if_neg this, ih, lexG, if_pos rfl]
    · rw [lexG, if_neg e]
      by_cases hl : x < y
      · rw [if_pos ((u8_lt hx hy).mpr hl)]; simp [ltI, hl]
      · have h3 : ¬ u8 x < u8 y := fun h => hl ((u8_lt hx hy).mp h)
        have h4 : u8 x > u8 y := (u8_lt hy hx).mpr (by lia)
        rw [if_neg h3, if_pos h4]; simp [ltI, hl]
section
variable {C : Cx} {m : Loc} {l : Led} {Q E : Pv} {a : Addr}
theorem f_sorted_bytes {ns ms : List Int} (hm : (a, listS [byv ns, byv ms]) ∈ l) (h1 : InB ns) (h2 : InB ms) (h : ∀ r, Q (.ref r) m ((r, listS (if lexG ltI ms ns = true then [byv ms, byv ns] else [byv ns, byv ms])) :: l)) : TCall C m l (.builtin "sorted") [.ref a] [] Q E := by
  refine f_sorted2 (T := .type "bytes") (b := lexG ltI ms ns) hm (by decide) (fun h' S' v hv => ?_) (fun s' S' vx vy hx hy Q' hq' => ?_) h
  · have : ∃ bs t, v = .bytes bs t := by rcases hv with hv | hv <;> (obtain ⟨t, e⟩ := un_byv hv; exact ⟨_, t, e⟩)
    obtain ⟨bs, t, rfl⟩ := this
    exact fun A Q E s _ q => wpAny_typeOf (typeIs_bytes s bs t) q
  · obtain ⟨t, rfl⟩ := un_byv hx
    obtain ⟨u, rfl⟩ := un_byv hy
    exact key_bytes (by rw [order_lex h2 h1]; exact hq')
end
end
section
set_option Elab.async false
set_option linter.all false
set_option maxRecDepth 100000
set_option maxHeartbeats 1000000
/-! ## bytes.join -/
theorem take_eq {id : String} {b : Array UInt8} {t : Tok} : Builtin.Bytes.takeBufferQuiet? id (.bytes b t) 0 = pure (some (b, none)) := by
  unfold Builtin.Bytes.takeBufferQuiet? Builtin.Bytes.takeBuffer?
  rw [KBy.special_eq KBy.look_buffer, KBy.own_buffer]
  simp only [pure_bind]
  kernel_rfl
theorem slot_join : Slot "bytes" "join" "bytes.join" :=
  .of (owner := "bytes") (n := "join") (by rw [typeLookup_type, builtinLookup_eq_fast]; kernel_rfl) (by decide +kernel) (by decide +kernel) (by decide +kernel)
    (by first | exact .inl (by decide +kernel) | exact .inr (by decide +kernel)) (by rw [isSubtype_type]; kernel_rfl)
theorem type_join : typeOf (.builtin "bytes.join") = pure (.type "method_descriptor") := by show builtinType _ = _; rw [builtinType_eq_fast]; kernel_rfl
theorem entry_join : entryFor table "bytes.join" = some Builtin.«bytes.join» := entryFor_of_tree (by kernel_rfl)
theorem args_join (a b : Value) : argsOk "bytes.join" ⟨[a, b], []⟩ := by unfold argsOk; kernel_rfl
theorem join_two {sp b c : Array UInt8} {t t1 t2 : Tok} {a : Addr} {n : Nat} (hz : b.size + c.size + sp.size ≤ 1000000) :
    Meets (Builtin.«bytes.join» ⟨[.bytes sp t, .ref a], []⟩) (fun _ R s => s.heap.get? a = some ⟨.type "list", none, .seq #[.bytes b t1, .bytes c t2] n, #[]⟩ ∧ ∀ t' k, R (.ok (.ret (.bytes (b ++ sp ++ c) t'))) { s with toks := k }) := by
  refine .of_wp fun prog w A R s ⟨ho, h⟩ => ?_
  show wpAny _ _ (Builtin.Bytes.joinM .bytes _) _ _ _
  unfold Builtin.Bytes.joinM
  refine wpAny_bind (wpAny_of_eq (a := (.bytes sp t, .ref a)) rfl ?_)
  have hT : s.TypeIs (.ref a) "list" := ⟨_, ho, rfl⟩
  dsimp only
  rw [if_pos (by decide : (Builtin.Bytes.Kind.bytes == Builtin.Bytes.Kind.bytes) = true)]
  refine wpAny_bind ?_
  unfold Builtin.Bytes.joinItems
  refine wpAny_bind (wpAny_typeOf hT ?_)
  rw [if_pos (by decide)]
  refine wpAny_pure ?_
  have hs : ∀ {A : Around} {Q : Option (Array Value) → Shared → Prop} {E}, Q (some #[.bytes b t1, .bytes c t2]) s → wpAny (model prog w) A (seqItems? (.ref a)) Q E s := fun h => by
    unfold seqItems?
    exact wpAny_bind (wpAny_load ho (wpAny_pure h))
  refine wpAny_bind (hs ?_)
  dsimp only
  rw [if_pos (by decide : (Builtin.Bytes.Kind.bytes == Builtin.Bytes.Kind.bytes) = true)]
  rw [Std.Legacy.Range.forIn_eq_forIn_range']
  have e2 : List.range' ({ start := 0, stop := (#[Value.bytes b t1, Value.bytes c t2]).size, step := 1, step_pos := Nat.one_pos } : Std.Legacy.Range).start ({ start := 0, stop := (#[Value.bytes b t1, Value.bytes c t2]).size, step := 1, step_pos := Nat.one_pos } : Std.Legacy.Range).size 1 = [0, 1] := by
    simp [Std.Legacy.Range.size]; decide
  refine wpAny_bind ?_
  rw [show List.range' _ _ _ = [0, 1] from e2]
  rw [List.forIn_cons]
  refine wpAny_bind ?_
  refine wpAny_bind (hs ?_)
  dsimp only
  rw [if_neg (by simp [Value.onHeap])]
  refine wpAny_bind (wpAny_holding ?_)
  show wpAny _ _ (Builtin.Bytes.takeBufferQuiet? _ (.bytes b t1) 0) _ _ _
  rw [take_eq]
  refine wpAny_pure ?_
  dsimp only
  refine wpAny_bind (hs ?_)
  dsimp only
  rw [if_neg (by simp)]
  refine wpAny_pure ?_
  dsimp only
  rw [List.forIn_cons]
  refine wpAny_bind ?_
  refine wpAny_bind (hs ?_)
  dsimp only
  rw [if_neg (by simp [Value.onHeap])]
  refine wpAny_bind (wpAny_holding ?_)
  show wpAny _ _ (Builtin.Bytes.takeBufferQuiet? _ (.bytes c t2) 0) _ _ _
  rw [take_eq]
  refine wpAny_pure ?_
  dsimp only
  refine wpAny_bind (hs ?_)
  dsimp only
  rw [if_neg (by simp)]
  refine wpAny_pure ?_
  dsimp only
  rw [List.forIn_nil]
  refine wpAny_pure ?_
  dsimp only
  refine wpAny_bind (wpAny_of_eq (a := sp) rfl ?_)
  have ht : Builtin.Bytes.tooLong (Array.foldl (fun x1 x2 => x1 + x2.size) (sp.size * (((#[].push b).push c).size - 1)) ((#[].push b).push c)) = false := by
    unfold Builtin.Bytes.tooLong
    rw [sizeLine_eq]
    simp
    lia
  rw [if_neg (by rw [ht]; simp)]
  have hj : Builtin.Bytes.joined sp ((#[].push b).push c).toList = b ++ sp ++ c := by
    simp [Builtin.Bytes.joined, List.zipIdx]
  rw [hj]
  refine wpAny_bind (wpAny_mkBytes ?_ (by rw [sizeLine_eq]; simp; lia))
  refine wpAny_bind (wpAny_holding (wpAny_point ?_))
  refine wpAny_bind ?_
  refine wpAny_mono (Q := fun _ s' => s' = { s with toks := s.toks + 1 }) (E := fun _ _ => False) ?_ ?_ (fun _ _ z => z.elim)
  · show wpAny _ _ (Builtin.Bytes.joinLetGo [(_, none), (_, none)] _) _ _ _
    exact wpAny_bind (wpAny_letGo (wpAny_bind (wpAny_letGo (wpAny_pure rfl))))
  · rintro _ s' rfl
    exact wpAny_pure ⟨_, rfl, h _ _⟩
theorem join_none {sp : Array UInt8} {t : Tok} {a : Addr} {n : Nat} :
    Meets (Builtin.«bytes.join» ⟨[.bytes sp t, .ref a], []⟩) (fun _ R s => s.heap.get? a = some ⟨.type "list", none, .seq #[] n, #[]⟩ ∧ ∀ t' k, R (.ok (.ret (.bytes #[] t'))) { s with toks := k }) := by
  refine .of_wp fun prog w A R s ⟨ho, h⟩ => ?_
  show wpAny _ _ (Builtin.Bytes.joinM .bytes _) _ _ _
  unfold Builtin.Bytes.joinM
  refine wpAny_bind (wpAny_of_eq (a := (.bytes sp t, .ref a)) rfl ?_)
  have hT : s.TypeIs (.ref a) "list" := ⟨_, ho, rfl⟩
  dsimp only
  rw [if_pos (by decide : (Builtin.Bytes.Kind.bytes == Builtin.Bytes.Kind.bytes) = true)]
  refine wpAny_bind ?_
  unfold Builtin.Bytes.joinItems
  refine wpAny_bind (wpAny_typeOf hT ?_)
  rw [if_pos (by decide)]
  refine wpAny_pure ?_
  have hs : ∀ {A : Around} {Q : Option (Array Value) → Shared → Prop} {E}, Q (some #[]) s → wpAny (model prog w) A (seqItems? (.ref a)) Q E s := fun h => by
    unfold seqItems?
    exact wpAny_bind (wpAny_load ho (wpAny_pure h))
  refine wpAny_bind (hs ?_)
  dsimp only
  rw [if_pos (by decide : (Builtin.Bytes.Kind.bytes == Builtin.Bytes.Kind.bytes) = true)]
  rw [Std.Legacy.Range.forIn_eq_forIn_range']
  have e2 : List.range' ({ start := 0, stop := (#[] : Array Value).size, step := 1, step_pos := Nat.one_pos } : Std.Legacy.Range).start ({ start := 0, stop := (#[] : Array Value).size, step := 1, step_pos := Nat.one_pos } : Std.Legacy.Range).size 1 = [] := by
    simp [Std.Legacy.Range.size]
  refine wpAny_bind ?_
  rw [show List.range' _ _ _ = [] from e2]
  rw [List.forIn_nil]
  refine wpAny_pure ?_
  dsimp only
  refine wpAny_bind (wpAny_of_eq (a := sp) rfl ?_)
  have ht : Builtin.Bytes.tooLong (Array.foldl (fun x1 (x2 : Array UInt8) => x1 + x2.size) (sp.size * ((#[] : Array (Array UInt8)).size - 1)) #[]) = false := by
    unfold Builtin.Bytes.tooLong
    rw [sizeLine_eq]
    simp
  rw [if_neg (by rw [ht]; simp)]
  have hj : Builtin.Bytes.joined sp [] = #[] := by
    simp [Builtin.Bytes.joined, List.zipIdx]
  rw [hj]
  refine wpAny_bind (wpAny_mkBytes ?_ (by rw [sizeLine_eq]; simp))
  refine wpAny_bind (wpAny_holding (wpAny_point ?_))
  refine wpAny_bind ?_
  refine wpAny_mono (Q := fun _ s' => s' = { s with toks := s.toks + 1 }) (E := fun _ _ => False) ?_ ?_ (fun _ _ z => z.elim)
  · show wpAny _ _ (Builtin.Bytes.joinLetGo [] _) _ _ _
    exact wpAny_pure rfl
  · rintro _ s' rfl
    exact wpAny_pure ⟨_, rfl, h _ _⟩
theorem join_one {sp b : Array UInt8} {t t1 : Tok} {a : Addr} {n : Nat} :
    Meets (Builtin.«bytes.join» ⟨[.bytes sp t, .ref a], []⟩) (fun _ R s => s.heap.get? a = some ⟨.type "list", none, .seq #[.bytes b t1] n, #[]⟩ ∧ ∀ t' k, R (.ok (.ret (.bytes b t'))) { s with toks := k }) := by
  refine .of_wp fun prog w A R s ⟨ho, h⟩ => ?_
  show wpAny _ _ (Builtin.Bytes.joinM .bytes _) _ _ _
  unfold Builtin.Bytes.joinM
  refine wpAny_bind (wpAny_of_eq (a := (.bytes sp t, .ref a)) rfl ?_)
  have hT : s.TypeIs (.ref a) "list" := ⟨_, ho, rfl⟩
  dsimp only
  rw [if_pos (by decide : (Builtin.Bytes.Kind.bytes == Builtin.Bytes.Kind.bytes) = true)]
  refine wpAny_bind ?_
  unfold Builtin.Bytes.joinItems
  refine wpAny_bind (wpAny_typeOf hT ?_)
  rw [if_pos (by decide)]
  refine wpAny_pure ?_
  have hs : ∀ {A : Around} {Q : Option (Array Value) → Shared → Prop} {E}, Q (some #[.bytes b t1]) s → wpAny (model prog w) A (seqItems? (.ref a)) Q E s := fun h => by
    unfold seqItems?
    exact wpAny_bind (wpAny_load ho (wpAny_pure h))
  refine wpAny_bind (hs ?_)
  dsimp only
  rw [if_pos (by decide : (Builtin.Bytes.Kind.bytes == Builtin.Bytes.Kind.bytes) = true)]
  refine wpAny_bind (wpAny_typeOf (typeIs_bytes s b t1) ?_)
  rw [if_pos (by decide)]
  exact wpAny_bind (wpAny_rule (wpAny_pure ⟨_, rfl, h t1 s.toks⟩))
noncomputable def joinB (sp : List Int) : List (List Int) → List Int
  | [] => []
  | [x] => x
  | x :: y :: r => x ++ sp ++ joinB sp (y :: r)
section
variable {C : Cx} {m : Loc} {l : Led} {Q E : Pv} {a : Addr}
theorem tm_join {ns : List Int} {Q : Value → List Value → Loc → Led → Prop} (h : Q (.builtin "bytes.join") [byv ns] m l) : TM C m l (byv ns) (Str.ofString "join") Q E :=
  tm_bytes slot_join type_join h FB.plainAttrs_bytes
theorem m_join {sp : List Int} {xs : List (List Int)} (hm : (a, listS (xs.map byv)) ∈ l) (h2 : xs.length ≤ 2) (hz : ∀ x ∈ xs, x.length ≤ 100000) (hs : sp.length ≤ 100000) (h : Q (byv (joinB sp xs)) m l) :
    TCall C m l (.builtin "bytes.join") [byv sp, .ref a] [] Q E :=
  call2 Own.builtin fun x y hx hy s S => by
    obtain ⟨t, rfl⟩ := un_byv hx
    obtain rfl := un_ref hy
    obtain ⟨o, ho, items, n, rfl, hi⟩ := S.get _ hm
    have fin : ∀ {B : Array UInt8}, B = byteArr (joinB sp xs) → ∀ t' k, Out C.base C.L s (Q (un (.bytes B t'))) { s with toks := k } := fun e t' k => by
      subst e
      exact Out.here (Rel.tok s _) S h
    match xs, h2 with
    | [], _ =>
      obtain rfl : items = #[] := by simpa using hi
      exact call_meets slot_join (typeIs_bytes s _ t) entry_join (args_join _ _) (join_none (n := n)) ⟨ho, fun t' k => fin rfl t' k⟩
    | [x], _ =>
      obtain ⟨v, hv, e⟩ := map1 hi
      obtain ⟨t1, rfl⟩ := un_byv e
      obtain rfl : items = #[.bytes (byteArr x) t1] := Array.ext' hv
      exact call_meets slot_join (typeIs_bytes s _ t) entry_join (args_join _ _) (join_one (n := n)) ⟨ho, fun t' k => fin rfl t' k⟩
    | [x, y], _ =>
      obtain ⟨v, u, hv, e, e2⟩ := map2 hi
      obtain ⟨t1, rfl⟩ := un_byv e
      obtain ⟨t2, rfl⟩ := un_byv e2
      obtain rfl : items = #[.bytes (byteArr x) t1, .bytes (byteArr y) t2] := Array.ext' hv
      have h1 := hz x (.head _)
      have h3 := hz y (.tail _ (.head _))
      refine call_meets slot_join (typeIs_bytes s _ t) entry_join (args_join _ _) (join_two (n := n) (by rw [byteArr_size, byteArr_size, byteArr_size]; lia)) ⟨ho, fun t' k => fin ?_ t' k⟩
      rw [← byteArr_append, ← byteArr_append]; rfl
end
end
section
set_option Elab.async false
set_option linter.all false
set_option maxRecDepth 100000
set_option maxHeartbeats 1000000
/-! ## bytes.split -/
theorem slot_split : Slot "bytes" "split" "bytes.split" :=
  .of (owner := "bytes") (n := "split") (by rw [typeLookup_type, builtinLookup_eq_fast]; kernel_rfl) (by decide +kernel) (by decide +kernel) (by decide +kernel)
    (by first | exact .inl (by decide +kernel) | exact .inr (by decide +kernel)) (by rw [isSubtype_type]; kernel_rfl)
theorem type_split : typeOf (.builtin "bytes.split") = pure (.type "method_descriptor") := by show builtinType _ = _; rw [builtinType_eq_fast]; kernel_rfl
theorem entry_split : entryFor table "bytes.split" = some Builtin.«bytes.split» := entryFor_of_tree (by kernel_rfl)
theorem args_split (a b : Value) : argsOk "bytes.split" ⟨[a, b], []⟩ := by unfold argsOk; kernel_rfl
theorem occ_fold (p : Nat → Bool) : ∀ n : Nat, ((List.range n).foldl (fun (acc : List Nat × Nat) i => if (decide (i ≥ acc.2) && p i) = true then (i :: acc.1, i + 1) else acc) ([], 0)).1 = ((List.range n).filter p).reverse ∧
    ((List.range n).foldl (fun (acc : List Nat × Nat) i => if (decide (i ≥ acc.2) && p i) = true then (i :: acc.1, i + 1) else acc) ([], 0)).2 ≤ n
  | 0 => ⟨rfl, Nat.le_refl _⟩
  | n + 1 => by
    obtain ⟨h1, h2⟩ := occ_fold p n
    rw [List.range_succ, List.foldl_append, List.filter_append, List.reverse_append]
    generalize List.foldl _ _ (List.range n) = st at h1 h2 ⊢
    simp only [List.foldl_cons, List.foldl_nil]
    cases hp : p n with
    | true =>
      rw [if_pos (by simp [h2])]
      exact ⟨by simp [h1, hp], Nat.le_refl _⟩
    | false =>
      rw [if_neg (by simp)]
      exact ⟨by simp [h1, hp], Nat.le_succ_of_le h2⟩
theorem occ_one (b : Array UInt8) (c : UInt8) : Builtin.Bytes.occurrences b #[c] 0 b.size = (List.range b.size).filter fun i => b.extract i (i + 1) == #[c] := by
  unfold Builtin.Bytes.occurrences
  have e : (List.range (b.size + 1 - (0 + (#[c] : Array UInt8).size))).map (· + 0) = List.range b.size := by simp
  rw [e]
  have := (occ_fold (fun i => b.extract i (i + 1) == #[c]) b.size).1
  dsimp only
  have e2 : ∀ x : List Nat, ∀ h : (List.foldl (fun (acc : List Nat × Nat) i => if (decide (i ≥ acc.2) && b.extract i (i + 1) == #[c]) = true then (i :: acc.1, i + 1) else acc) ([], 0) (List.range b.size)).1 = x, x.reverse = (List.range b.size).filter fun i => b.extract i (i + 1) == #[c] := fun x h => by
    rw [← h, this, List.reverse_reverse]
  exact e2 _ rfl
theorem ext_at {b : Array UInt8} {c : UInt8} {i : Nat} (h : i < b.size) : (b.extract i (i + 1) == #[c]) = decide (b[i] = c) := by
  have e : b.extract i (i + 1) = #[b[i]] := by
    refine Array.ext (by simp; lia) fun j h1 h2 => ?_
    have : j = 0 := by simp at h2; lia
    subst this
    simp
  rw [e]
  by_cases h3 : b[i] = c
  · simp [h3]
  · have : ¬ (#[b[i]] : Array UInt8) = #[c] := fun e => h3 (by simpa using e)
    simp [h3]
theorem occ_none {b : Array UInt8} {c : UInt8} (h : ∀ i (hi : i < b.size), b[i] ≠ c) : Builtin.Bytes.occurrences b #[c] 0 b.size = [] := by
  rw [occ_one, List.filter_eq_nil_iff]
  intro i hi
  have hi := List.mem_range.mp hi
  rw [ext_at hi]
  simp [h i hi]
theorem occ_mid {x y : Array UInt8} {c : UInt8} (h1 : ∀ i (hi : i < x.size), x[i] ≠ c) (h2 : ∀ i (hi : i < y.size), y[i] ≠ c) : Builtin.Bytes.occurrences (x ++ #[c] ++ y) #[c] 0 (x ++ #[c] ++ y).size = [x.size] := by
  rw [occ_one]
  have hsz : (x ++ #[c] ++ y).size = x.size + 1 + y.size := by simp
  have e : (List.range (x ++ #[c] ++ y).size).filter (fun i => (x ++ #[c] ++ y).extract i (i + 1) == #[c]) = (List.range (x.size + 1 + y.size)).filter fun i => decide (i = x.size) := by
    rw [← hsz]
    refine List.filter_congr fun i hi => ?_
    have hi := List.mem_range.mp hi
    rw [ext_at hi]
    congr 1
    rcases Nat.lt_trichotomy i x.size with h | h | h
    · rw [Array.getElem_append_left (by simp; lia), Array.getElem_append_left h]
      exact propext ⟨fun e => absurd e (h1 i h), fun e => by lia⟩
    · subst h
      rw [Array.getElem_append_left (by simp), Array.getElem_append_right (Nat.le_refl _)]
      simp
    · rw [Array.getElem_append_right (by simp; lia)]
      exact propext ⟨fun e => absurd e (h2 _ _), fun e => by lia⟩
  rw [e]
  have e2 : ∀ n k, (List.range (k + 1 + n)).filter (fun i => decide (i = k)) = [k] := fun n k => by
    induction n with
    | zero =>
      rw [List.range_succ, List.filter_append]
      have : (List.range (k + 0)).filter (fun i => decide (i = k)) = [] := by
        rw [List.filter_eq_nil_iff]; intro i hi; have := List.mem_range.mp hi; simp; lia
      simp only [Nat.add_zero] at this ⊢
      rw [this]; simp
    | succ n ih =>
      rw [show k + 1 + (n + 1) = (k + 1 + n) + 1 by lia, List.range_succ, List.filter_append, ih]
      have : ¬ k + 1 + n = k := by lia
      simp [this]
  exact e2 _ _
theorem split_one {b : Array UInt8} {c : UInt8} {t u : Tok} (hno : ∀ i (hi : i < b.size), b[i] ≠ c) :
    Meets (Builtin.«bytes.split» ⟨[.bytes b t, .bytes #[c] u], []⟩) (fun _ R s => ∀ k, R (.ok (.ret (.ref s.heap.objs.size))) { s with heap := s.heap.push (seqObj "list" #[.bytes b t] 0), toks := k }) := by
  refine .of_wp fun prog w A R s h => ?_
  show wpAny _ _ (Builtin.Bytes.splitM .bytes "split" false _) _ _ _
  unfold Builtin.Bytes.splitM
  dsimp only
  refine wpAny_bind (wpAny_of_eq (a := [some (.bytes #[c] u), none]) rfl ?_)
  dsimp only
  refine wpAny_bind (wpAny_pure ?_)
  refine wpAny_bind (wpAny_of_eq (a := b) rfl ?_)
  refine wpAny_bind (wpAny_of_eq bytesLike_eq ?_)
  rw [if_neg (by simp)]
  have e : (if false = true then Builtin.Bytes.occurrencesFromRight b #[c] (if (-1 : Int) < 0 then b.size + 1 else (-1 : Int).toNat) else List.take (if (-1 : Int) < 0 then b.size + 1 else (-1 : Int).toNat) (Builtin.Bytes.occurrences b #[c] 0 b.size)) = [] := by
    rw [occ_none hno]; simp
  rw [e, if_pos (by rfl)]
  refine wpAny_bind (wpAny_rule (wpAny_bind ?_))
  unfold Builtin.Bytes.Kind.same
  rw [if_pos (by decide)]
  refine wpAny_bind (wpAny_typeOf (typeIs_bytes s b t) ?_)
  rw [if_pos (by decide)]
  refine wpAny_pure ?_
  exact wpAny_bind (wpAny_newList (wpAny_pure ⟨_, rfl, h s.toks⟩) (by rw [sizeLine_eq]; simp))
theorem split_two {x y : Array UInt8} {c : UInt8} {t u : Tok} (h1 : ∀ i (hi : i < x.size), x[i] ≠ c) (h2 : ∀ i (hi : i < y.size), y[i] ≠ c) (hz : x.size + y.size ≤ 1000000) :
    Meets (Builtin.«bytes.split» ⟨[.bytes (x ++ #[c] ++ y) t, .bytes #[c] u], []⟩) (fun _ R s => ∀ t1 t2 k, R (.ok (.ret (.ref s.heap.objs.size))) { s with heap := s.heap.push (seqObj "list" #[.bytes x t1, .bytes y t2] 0), toks := k }) := by
  refine .of_wp fun prog w A R s h => ?_
  show wpAny _ _ (Builtin.Bytes.splitM .bytes "split" false _) _ _ _
  unfold Builtin.Bytes.splitM
  dsimp only
  refine wpAny_bind (wpAny_of_eq (a := [some (.bytes #[c] u), none]) rfl ?_)
  dsimp only
  refine wpAny_bind (wpAny_pure ?_)
  refine wpAny_bind (wpAny_of_eq (a := x ++ #[c] ++ y) rfl ?_)
  refine wpAny_bind (wpAny_of_eq bytesLike_eq ?_)
  rw [if_neg (by simp)]
  have e : (if false = true then Builtin.Bytes.occurrencesFromRight (x ++ #[c] ++ y) #[c] (if (-1 : Int) < 0 then (x ++ #[c] ++ y).size + 1 else (-1 : Int).toNat) else List.take (if (-1 : Int) < 0 then (x ++ #[c] ++ y).size + 1 else (-1 : Int).toNat) (Builtin.Bytes.occurrences (x ++ #[c] ++ y) #[c] 0 (x ++ #[c] ++ y).size)) = [x.size] := by
    rw [occ_mid h1 h2]; simp
  rw [e, if_neg (by simp)]
  have e2 : Builtin.Bytes.between (x ++ #[c] ++ y) (#[c] : Array UInt8).size [x.size] = [x, y] := by
    show ([_, _] : List (Array UInt8)) = _
    have a1 : (x ++ #[c] ++ y).extract 0 x.size = x := by simp [Array.append_assoc]
    have a2 : (x ++ #[c] ++ y).extract (x.size + 1) (x ++ #[c] ++ y).size = y := by
      refine Array.ext (by simp) fun i g1 g2 => ?_
      rw [Array.getElem_extract, Array.getElem_append_right (by simp)]
      congr 1
      simp
    rw [← a1, ← a2]
    simp
  rw [e2]
  refine wpAny_bind ?_
  rw [List.mapM_cons, List.mapM_cons, List.mapM_nil]
  refine wpAny_bind (wpAny_mkBytes ?_ (by rw [sizeLine_eq]; lia))
  refine wpAny_bind (wpAny_bind (wpAny_mkBytes ?_ (by rw [sizeLine_eq]; lia)))
  refine wpAny_bind (wpAny_pure (wpAny_pure (wpAny_pure ?_)))
  exact wpAny_bind (wpAny_newList (wpAny_pure ⟨_, rfl, h _ _ _⟩) (by rw [sizeLine_eq]; simp))
end
section
set_option Elab.async false
set_option linter.all false
set_option maxRecDepth 100000
set_option maxHeartbeats 1000000
section
variable {C : Cx} {m : Loc} {l : Led} {Q E : Pv} {a : Addr} {ns xs ys : List Int}
theorem tm_split {Q : Value → List Value → Loc → Led → Prop} (h : Q (.builtin "bytes.split") [byv ns] m l) : TM C m l (byv ns) (Str.ofString "split") Q E :=
  tm_bytes slot_split type_split h FB.plainAttrs_bytes
theorem no_byte {c : Int} (hr : InB xs) (hc : 0 ≤ c ∧ c < 256) (h : c ∉ xs) : ∀ i (hi : i < (byteArr xs).size), (byteArr xs)[i] ≠ u8 c := fun i hi e => by
  have hi' : i < xs.length := by rw [byteArr_size] at hi; exact hi
  have e2 : (byteArr xs)[i] = u8 xs[i] := by simp [byteArr, u8]
  rw [e2] at e
  exact h (u8_inj (hr _ (List.getElem_mem hi')) hc e ▸ List.getElem_mem hi')
theorem m_split1 {c : Int} (hr : InB xs) (hc : 0 ≤ c ∧ c < 256) (hn : c ∉ xs) (h : ∀ r, Q (.ref r) m ((r, listS [byv xs]) :: l)) : TCall C m l (.builtin "bytes.split") [byv xs, byv [c]] [] Q E :=
  call2 Own.builtin fun x y hx hy s S => by
    obtain ⟨t, rfl⟩ := un_byv hx
    obtain ⟨u, rfl⟩ := un_byv hy
    refine call_meets slot_split (typeIs_bytes s _ t) entry_split (args_split _ _) (split_one (c := u8 c) (no_byte hr hc hn)) fun k => ?_
    exact Out.here (Rel.of s _ _) (S.push (P := listS [byv xs]) _ rfl ⟨_, _, rfl, rfl⟩) (h _)
theorem m_split2 {c : Int} (hr : InB xs) (hr2 : InB ys) (hc : 0 ≤ c ∧ c < 256) (hn : c ∉ xs) (hn2 : c ∉ ys) (hz : xs.length + ys.length ≤ 1000000) (h : ∀ r, Q (.ref r) m ((r, listS [byv xs, byv ys]) :: l)) :
    TCall C m l (.builtin "bytes.split") [byv (xs ++ [c] ++ ys), byv [c]] [] Q E :=
  call2 Own.builtin fun x y hx hy s S => by
    obtain ⟨t, rfl⟩ := un_byv hx
    obtain ⟨u, rfl⟩ := un_byv hy
    have e : byteArr (xs ++ [c] ++ ys) = byteArr xs ++ #[u8 c] ++ byteArr ys := by rw [byteArr_append, byteArr_append]; rfl
    rw [e]
    refine call_meets slot_split (typeIs_bytes s _ t) entry_split (args_split _ _) (split_two (c := u8 c) (no_byte hr hc hn) (no_byte hr2 hc hn2) (by rw [byteArr_size, byteArr_size]; exact hz)) fun t1 t2 k => ?_
    exact Out.here (Rel.of s _ _) (S.push (P := listS [byv xs, byv ys]) _ rfl ⟨_, _, rfl, rfl⟩) (h _)
theorem s_slice_by1 {x y : Expr} {sl : Addr} (hr : InB ns) (hsl : (sl, sliS (.int 1 0) .none .none) ∈ l) (hz : ns.length ≤ 1000000) (h : Q (byv (ns.drop 1)) m l)
    (hs : ∀ va vi, ∃ ops, subscripted y false va vi = operate ops (getItem va vi) := by intro va vi; exact ⟨_, by with_unfolding_all rfl⟩) : TSub C m l x y (byv ns) (.ref sl) Q E := fun vo vi ho hi s S => by
  obtain ⟨t, rfl⟩ := un_byv ho
  obtain rfl := un_ref hi
  obtain ⟨o, hob, vl, vu, vk, rfl, h1, h2, h3⟩ := S.get _ hsl
  obtain ⟨t1, rfl⟩ := un_int h1
  obtain rfl := un_none h2
  obtain rfl := un_none h3
  obtain ⟨ops, hs⟩ := hs (.bytes (byteArr ns) t) (.ref sl)
  refine tail_any (typeIs_bytes _ _ _) FB.slot_bytes_getitem.lookup ?_ hs
  refine getItem_meets (typeIs_bytes _ _ _) (by decide) FB.slot_bytes_getitem FB.entry_bytes_getitem (FB.args_bytes_getitem_2 _ _) (KBc.meets_slice2 (byteArr ns) t _ (lo := some 1) (hi := none) (.int _ _) .none) ⟨⟨_, hob, rfl, rfl⟩, ?_, fun t' k => ?_⟩
  · exact Nat.le_trans (KBc.size_picked_le _ _ _) (by rw [byteArr_size, sizeLine_eq]; lia)
  · have e := KBc.ints_picked (bInts_byteArr hr) (some 1) none
    have e2 : KBy.picked (byteArr ns) (some 1) none = byteArr (ns.drop 1) := by
      rw [← byteArr_bInts (KBy.picked _ _ _), e]
      congr 1
      show (ns.drop (clipAt ns.length 1)).take (ns.length - clipAt ns.length 1) = _
      rw [KBc.clip_lit]
      cases ns with
      | nil => rfl
      | cons x r =>
        have : min 1 (x :: r).length = 1 := by simp
        rw [this, List.take_of_length_le (by simp)]
    rw [e2]
    exact Out.here (Rel.tok s _) S h
end
end
section
set_option Elab.async false
set_option linter.all false
set_option maxRecDepth 100000
set_option maxHeartbeats 1000000
section
variable {K : Frag} {C : Cx} {m : Loc} {l : Led} {Q E : Pv} {a : Addr}
theorem o_mul_list {vs : List Value} {x : Int} (hm : (a, listS vs) ∈ l) (hlo : -1000000 ≤ x) (hhi : x ≤ 1000000) (hsz : vs.length ≤ 10) (h : ∀ r, Q (.ref r) m ((r, listS (List.replicate x.toNat vs).flatten) :: l)) : TB C m l .Mult (.ref a) (.int x 0) Q E := fun va vb ha hb s S => by
  obtain rfl := un_ref ha
  obtain ⟨u, rfl⟩ := un_int hb
  obtain ⟨o, ho, items, k, rfl, hi⟩ := S.get _ hm
  have hl : items.size ≤ 10 := by have := congrArg List.length hi; simp at this; lia
  have hsz' : items.size * x.toNat ≤ 2 ^ 24 := Nat.le_trans (Nat.mul_le_mul hl (by lia : x.toNat ≤ 1000000)) (by decide)
  refine wpAny_binaryOp_repeat_ref (T := "list") (U := "int") (by decide) ⟨_, ho, rfl⟩ (fun s' => typeIs_int s' x u) noFill_list_mul F.fills_int_mul F.slot_int_rmul repeat_list F.slot_int_index.lookup
    (call_meets F.slot_int_rmul (typeIs_int s x u) F.entry_int_rmul (F.args_int_rmul_2 _ _) (lm_int_rmul_list_any x u a items k none #[])
      ⟨ho, rfl, ⟨_, ho, rfl⟩, call_meets F.slot_list_mul ⟨_, ho, rfl⟩ F.entry_list_mul (F.args_list_mul_2 _ _)
        (lm_list_mul_any a items k none #[] x u (by simp [Builtin.List.listFitsIndex]; lia) (by lia) (by simp [Builtin.List.listTooLong, sizeLine]; lia))
        ⟨ho, ?_⟩⟩)
  have e : List.foldl (fun x1 x2 => x1 ++ x2) #[] (List.replicate (if items.isEmpty = true then 0 else x.toNat) items) = (List.replicate x.toNat items.toList).flatten.toArray := listMul_foldl_if items x.toNat
  refine Out.here (Rel.heap s _) (S.push (P := listS (List.replicate x.toNat vs).flatten) _ rfl ⟨_, _, rfl, ?_⟩) (h _)
  rw [e, ← hi]
  simp
end
end
section
set_option Elab.async false
set_option linter.all false
set_option maxRecDepth 100000
set_option maxHeartbeats 1000000
/-! ## sorted of at most two -/
noncomputable def sort2 {α : Type} (lt : α → α → Bool) : List α → List α
  | [a, b] => if lt b a = true then [b, a] else [a, b]
  | l => l
noncomputable abbrev ltT : Dat → Dat → Bool := ltD 20
theorem sort2_two {α : Type} (lt : α → α → Bool) (a b : α) : sort2 lt [a, b] = if lt b a = true then [b, a] else [a, b] := rfl
theorem sort2_len {α : Type} (lt : α → α → Bool) {l : List α} : (sort2 lt l).length = l.length := by
  match l with
  | [] => rfl
  | [_] => rfl
  | [a, b] => rw [sort2_two]; split <;> rfl
  | _ :: _ :: _ :: _ => rfl
theorem sort2_perm {α : Type} (lt : α → α → Bool) {l : List α} : (sort2 lt l).Perm l := by
  match l with
  | [] => exact .refl _
  | [_] => exact .refl _
  | [a, b] =>
    rw [sort2_two]
    split
    · exact .swap _ _ _
    · exact .refl _
  | _ :: _ :: _ :: _ => exact .refl _
theorem ltD_int2 {n : Nat} {ns ms : List Int} : ltD (n + 2) (.list (ns.map Dat.int)) (.list (ms.map Dat.int)) = lexG ltI ns ms := by
  rw [ltD_list]
  induction ns generalizing ms with
  | nil => cases ms <;> rfl
  | cons x ns ih =>
    cases ms with
    | nil => rfl
    | cons y ms =>
      rw [List.map_cons, List.map_cons, lexG, lexG, ih]
      by_cases e : x = y
      · subst e; rw [if_pos rfl, if_pos rfl]
      · rw [if_neg e, if_neg (fun h => e (Dat.int.inj h))]; rfl
section
variable {C : Cx} {m : Loc} {l : Led} {Q E : Pv} {a : Addr}
theorem f_sorted_rd {lX : Led} {ys : List Value} {ds : List Dat} (hm : (a, listS ys) ∈ l) (hX : ∀ p ∈ lX, p ∈ l) (hr : RdsL lX ys ds) (h2 : ds.length ≤ 2) (hds : ∀ d ∈ ds, kqdOk 40 d = true ∧ ∃ es, d = .list es) (hc : ∀ d ∈ ds, ∀ e ∈ ds, Cm 20 d e) (hu : C.A.units + 90 < cLine)
    (h : ∀ r ys', RdsL lX ys' (sort2 ltT ds) → Q (.ref r) m ((r, listS ys') :: l)) : TCall C m l (.builtin "sorted") [.ref a] [] Q E := by
  match ds, h2, hr with
  | [], _, hr =>
    cases hr
    exact f_sorted01 hm (by decide) fun r => h r [] .nil
  | [d], _, hr =>
    cases hr with
    | cons r1 r2 =>
      cases r2
      exact f_sorted01 hm (by simp) fun r => h r _ (.cons r1 .nil)
  | [d, e], _, hr =>
    cases hr with
    | cons r1 r2 =>
      cases r2 with
      | cons r2 r3 =>
        cases r3
        obtain ⟨o1, es1, rfl⟩ := hds d (.head _)
        obtain ⟨o2, es2, rfl⟩ := hds e (.tail _ (.head _))
        cases r1 with
        | list m1 q1 =>
          cases r2 with
          | list m2 q2 =>
            refine f_sorted_dats (n := 19) hm (hX _ m1) (hX _ m2) (q1.mono hX) (q2.mono hX) o1 o2 (hc _ (.tail _ (.head _)) _ (.head _)) (by lia) fun r => h r _ ?_
            rw [sort2_two]
            by_cases hb : ltT (.list es2) (.list es1) = true
            · rw [if_pos hb, if_pos hb]
              exact .cons (.list m2 q2) (.cons (.list m1 q1) .nil)
            · rw [if_neg hb, if_neg hb]
              exact .cons (.list m1 q1) (.cons (.list m2 q2) .nil)
theorem f_sortedB {xs : List (List Int)} (hm : (a, listS (xs.map byv)) ∈ l) (h2 : xs.length ≤ 2) (hb : ∀ x ∈ xs, InB x) (h : ∀ r, Q (.ref r) m ((r, listS ((sort2 (lexG ltI) xs).map byv)) :: l)) : TCall C m l (.builtin "sorted") [.ref a] [] Q E := by
  match xs, h2 with
  | [], _ => exact f_sorted01 hm (by decide) h
  | [x], _ => exact f_sorted01 hm (by simp) h
  | [x, y], _ =>
    refine f_sorted_bytes hm (hb x (.head _)) (hb y (.tail _ (.head _))) fun r => ?_
    have := h r
    rw [sort2_two] at this
    by_cases hl : lexG ltI y x = true
    · rw [if_pos hl] at this ⊢; exact this
    · rw [if_neg hl] at this ⊢; exact this
end
end
section
set_option Elab.async false
set_option linter.all false
set_option maxRecDepth 100000
set_option maxHeartbeats 1000000
noncomputable abbrev refsV (ps : List (Addr × List Int)) : List Value := ps.map fun p => .ref p.1
noncomputable abbrev segL (ps : List (Addr × List Int)) : Led := ps.map fun p => (p.1, listS (iL p.2))
section
variable {C : Cx} {m : Loc} {l : Led} {Q E : Pv} {a : Addr}
theorem cm_ints {ns ms : List Int} : Cm 20 (.list (ns.map Dat.int)) (.list (ms.map Dat.int)) := by
  refine .inr ⟨_, _, rfl, rfl, fun j h1 h2 => ?_⟩
  rw [List.getElem_map, List.getElem_map]
  exact .inl ⟨_, _, rfl, rfl⟩
theorem f_sortedL {ps : List (Addr × List Int)} (hm : (a, listS (refsV ps)) ∈ l) (hp : ∀ p ∈ ps, (p.1, listS (iL p.2)) ∈ l) (h2 : ps.length ≤ 2) (hu : C.A.units + 90 < cLine)
    (h : ∀ r qs, (∀ q ∈ qs, q ∈ ps) → qs.map (·.2) = sort2 (lexG ltI) (ps.map (·.2)) → Q (.ref r) m ((r, listS (refsV qs)) :: l)) : TCall C m l (.builtin "sorted") [.ref a] [] Q E := by
  match ps, h2 with
  | [], _ => exact f_sorted01 hm (by decide) fun r => h r [] (fun q hq => hq) rfl
  | [p], _ => exact f_sorted01 hm (by simp) fun r => h r [p] (fun q hq => hq) rfl
  | [p, q], _ =>
    refine f_sorted_dats (n := 19) hm (hp p (.head _)) (hp q (.tail _ (.head _))) (rds_ints p.2) (rds_ints q.2) (ok_ints _) (ok_ints _) cm_ints (by lia) fun r => ?_
    have e : ltD (19 + 1) (.list (q.2.map Dat.int)) (.list (p.2.map Dat.int)) = lexG ltI q.2 p.2 := ltD_int2 (n := 18)
    rw [e]
    by_cases hb : lexG ltI q.2 p.2 = true
    · rw [if_pos hb]
      exact h r [q, p] (fun x hx => by
        rcases List.mem_cons.mp hx with rfl | hx
        · exact .tail _ (.head _)
        · rcases List.mem_cons.mp hx with rfl | hx
          · exact .head _
          · cases hx) (by rw [List.map_cons, List.map_cons, List.map_nil, List.map_cons, List.map_cons, List.map_nil, sort2_two, if_pos hb])
    · rw [if_neg hb]
      exact h r [p, q] (fun x hx => hx) (by rw [List.map_cons, List.map_cons, List.map_nil, sort2_two, if_neg hb])
end
end
section
set_option Elab.async false
set_option linter.all false
set_option maxRecDepth 100000
noncomputable abbrev KK (P : Params) : Frag := KF P
noncomputable def P0 : Params := { strHash := fun _ => 0, shareClass := fun _ => 0, mergeTok := id, idOf := fun a => a, idOfShared := fun _ _ => 0, followText := fun _ => false, idOfImm := fun _ => 0 }
noncomputable def fdOf (a : Addr) : FuncData := match (KF P0).lookup a with | some ⟨_, _, .func f, _⟩ => f | _ => default
noncomputable def bodyOf (a : Addr) : List Stmt := match (fdOf a).body with | .stmts b => b | _ => []
noncomputable def en (a L : Addr) : Env := callEnv (fdOf a) L a
noncomputable def enC (a L : Addr) : Env := callEnvC (fdOf a) L a
noncomputable def FnK (a : Addr) : Prop := ∀ P, ∃ oc od osl, (KK P).lookup a = some ⟨oc, od, .func (fdOf a), osl⟩ ∧ codeIn (KK P) (fdOf a).code (fdOf a).qualname = true
theorem enterKC {P : Params} {C : Cx} {a : Addr} {m m' : Loc} {l : Led} {vs : List Value} {kw bs : List (Str × Value)} {Q E : Pv} (O : Ok (KK P) C) (F : FnK a) (hroom : C.A.depth < recursionLimit)
    (hb : ∀ vvs vkw, vvs.map un = vs → unK vkw = kw → T { C with A := C.A.in1 } unB m l (bindArgs (fdOf a) ⟨vvs, vkw⟩) (fun b m₁ l₁ => b = bs ∧ m₁ = m ∧
      ∀ L', TF (sub C (en a L')) m' ((C.L, Frm m) :: l₁) (execs (bodyOf a) (en a L')) (RetQ C m Q) no) E)
    (hm : m' = bs.reverse := by rfl) (hcell0 : ((fdOf a).scope.names.all fun x => x.2 != .cell) = true := by kernel_rfl) (hloc0 : (bs.all fun x => decide ((fdOf a).scope.names.lookup x.1 = some .local)) = true := by rfl)
    (hbody : (fdOf a).body = .stmts (bodyOf a) := by kernel_rfl) (hclo : (fdOf a).closure = [] := by kernel_rfl)
    (hco : (fdOf a).scope.isCoroutine = false := by kernel_rfl) (hgen : (fdOf a).scope.isGenerator = false := by kernel_rfl) (hk : (fdOf a).scope.kind = .function := by kernel_rfl) : TCd C m l (.ref a) vs kw Q E := by
  obtain ⟨oc, od, osl, h1, h2⟩ := F P
  exact enterC (O.X _ _ h1) rfl hbody hclo (codeRec_of O.X h2) O.lim hroom hb hm hcell0 hloc0 hco hgen hk
theorem enterK {P : Params} {C : Cx} {a : Addr} {m m' : Loc} {l : Led} {vs : List Value} {kw bs : List (Str × Value)} {Q E : Pv} (O : Ok (KK P) C) (F : FnK a) (hroom : C.A.depth < recursionLimit)
    (hb : ∀ vvs vkw, vvs.map un = vs → unK vkw = kw → T { C with A := C.A.in1 } unB m l (bindArgs (fdOf a) ⟨vvs, vkw⟩) (fun b m₁ l₁ => b = bs ∧ m₁ = m ∧
      ∀ L', TF (sub C (en a L')) m' ((C.L, Frm m) :: l₁) (execs (bodyOf a) (en a L')) (RetQ C m Q) no) E)
    (hm : m' = bs.reverse := by rfl) (hcell0 : ((fdOf a).scope.names.all fun x => x.2 != .cell) = true := by kernel_rfl) (hloc0 : (bs.all fun x => decide ((fdOf a).scope.names.lookup x.1 = some .local)) = true := by rfl)
    (hbody : (fdOf a).body = .stmts (bodyOf a) := by kernel_rfl) (hclo : (fdOf a).closure = [] := by kernel_rfl)
    (hco : (fdOf a).scope.isCoroutine = false := by kernel_rfl) (hgen : (fdOf a).scope.isGenerator = false := by kernel_rfl) (hk : (fdOf a).scope.kind = .function := by kernel_rfl) : TCall C m l (.ref a) vs kw Q E :=
  (enterKC O F hroom hb hm hcell0 hloc0 hbody hclo hco hgen hk).call
theorem kpF {P : Params} {C : Cx} {a : Addr} (O : Ok (KK P) C) (F : FnK a) : Kp C (.ref a) := by
  obtain ⟨oc, od, osl, h1, h2⟩ := F P
  exact Kp.K O.X (by unfold keepIn; simp only [h1]) Own.ref
theorem gl_XB64 {P : Params} : ∃ t, Gl (KK P) (Str.ofString "_B64") (.bytes #[65, 66, 67, 68, 69, 70, 71, 72, 73, 74, 75, 76, 77, 78, 79, 80, 81, 82, 83, 84, 85, 86, 87, 88, 89, 90, 97, 98, 99, 100, 101, 102, 103, 104, 105, 106, 107, 108, 109, 110, 111, 112, 113, 114, 115, 116, 117, 118, 119, 120, 121, 122, 48, 49, 50, 51, 52, 53, 54, 55, 56, 57, 43, 47] t) := ⟨_, rfl⟩
theorem gl_XNODEXOUT {P : Params} : ∃ t, Gl (KK P) (Str.ofString "_NODE_OUT") (.int (-1) t) := ⟨_, rfl⟩
theorem gl_XNODEXDONE {P : Params} : ∃ t, Gl (KK P) (Str.ofString "_NODE_DONE") (.int (-2) t) := ⟨_, rfl⟩
inductive FF : Addr → Prop
  | c29 : FF 29
  | c49 : FF 49
  | c56 : FF 56
  | c63 : FF 63
  | c70 : FF 70
  | c78 : FF 78
  | c86 : FF 86
  | c94 : FF 94
  | c102 : FF 102
  | c117 : FF 117
  | c154 : FF 154
  | c161 : FF 161
  | c168 : FF 168
  | c173 : FF 173
  | c180 : FF 180
  | c187 : FF 187
  | c201 : FF 201
  | c208 : FF 208
  | c227 : FF 227
  | c232 : FF 232
  | c237 : FF 237
  | c242 : FF 242
  | c247 : FF 247
  | c252 : FF 252
  | c257 : FF 257
  | c262 : FF 262
  | c269 : FF 269
theorem FF.fk {a : Addr} (h : FF a) : FnK a := by induction h <;> exact fun P => ⟨_, _, _, rfl, by kernel_rfl⟩
inductive GF : Str → Addr → Prop
  | c21 : GF (Str.ofString "_wall") 21
  | c22 : GF (Str.ofString "bytes_types") 22
  | c29 : GF (Str.ofString "_bytes_from_decode_data") 29
  | c39 : GF (Str.ofString "Error") 39
  | c49 : GF (Str.ofString "_ascii_buffer") 49
  | c56 : GF (Str.ofString "_buffer") 56
  | c63 : GF (Str.ofString "_truth") 63
  | c70 : GF (Str.ofString "_b64_value") 70
  | c78 : GF (Str.ofString "a2b_base64") 78
  | c86 : GF (Str.ofString "b2a_base64") 86
  | c94 : GF (Str.ofString "b64encode") 94
  | c102 : GF (Str.ofString "b64decode") 102
  | c121 : GF (Str.ofString "_NodeInfo") 121
  | c136 : GF (Str.ofString "CycleError") 136
  | c218 : GF (Str.ofString "TopologicalSorter") 218
  | c227 : GF (Str.ofString "_law_needs") 227
  | c232 : GF (Str.ofString "_law_names") 232
  | c237 : GF (Str.ofString "_law_rounds") 237
  | c242 : GF (Str.ofString "_law_write") 242
  | c247 : GF (Str.ofString "_law_own") 247
  | c252 : GF (Str.ofString "_law_tree") 252
  | c257 : GF (Str.ofString "_law_read") 257
  | c262 : GF (Str.ofString "_law_holds") 262
  | c269 : GF (Str.ofString "law") 269
theorem GF.gl {P : Params} {x : Str} {a : Addr} (h : GF x a) : Gl (KK P) x (.ref a) := by induction h <;> (unfold Gl; kernel_rfl)
inductive BF : Str → Value → Prop
  | cisinstance : BF (Str.ofString "isinstance") (.builtin "isinstance")
  | clen : BF (Str.ofString "len") (.builtin "len")
  | csum : BF (Str.ofString "sum") (.builtin "sum")
  | csorted : BF (Str.ofString "sorted") (.builtin "sorted")
  | citer : BF (Str.ofString "iter") (.builtin "iter")
  | cStopIteration : BF (Str.ofString "StopIteration") (.type "StopIteration")
  | cstr : BF (Str.ofString "str") (.type "str")
  | ctype : BF (Str.ofString "type") (.type "type")
  | cbytes : BF (Str.ofString "bytes") (.type "bytes")
  | cbytearray : BF (Str.ofString "bytearray") (.type "bytearray")
  | cbool : BF (Str.ofString "bool") (.type "bool")
  | cint : BF (Str.ofString "int") (.type "int")
  | cfloat : BF (Str.ofString "float") (.type "float")
  | ccomplex : BF (Str.ofString "complex") (.type "complex")
  | clist : BF (Str.ofString "list") (.type "list")
  | ctuple : BF (Str.ofString "tuple") (.type "tuple")
  | cdict : BF (Str.ofString "dict") (.type "dict")
  | cset : BF (Str.ofString "set") (.type "set")
  | cfrozenset : BF (Str.ofString "frozenset") (.type "frozenset")
  | crange : BF (Str.ofString "range") (.type "range")
theorem BF.bl {P : Params} {x : Str} {v : Value} (h : BF x v) : Bl (KK P) x v := by induction h <;> exact ⟨by kernel_rfl, by kernel_rfl⟩
end
set_option maxHeartbeats 1000000
local macro_rules | `(tactic| wtm_at "look") => `(tactic| first | with_reducible exact Look.here | (with_reducible refine' Look.there (by decide) ?r; (case r => wtm_at "look")))
local macro_rules | `(tactic| wtm_at "put") => `(tactic| with_reducible (first | exact Put.here | exact Put.nil | (refine' Put.there (by decide) ?r; (case r => wtm_at "put"))))
local macro_rules | `(tactic| wtm_at "ext") => `(tactic| with_reducible (first | exact Ext.one | (refine' Ext.skip ?r; (case r => wtm_at "ext")) | (refine' Ext.skipA ?r; (case r => wtm_at "ext"))))
local macro_rules | `(tactic| wtm_at "sb") => `(tactic| with_reducible (first | exact Sb.refl | exact Sb.done | (refine' Sb.take ?ext ?r; (case ext => wtm_at "ext"); (case r => wtm_at "sb")) | (refine' Sb.drop ?r; (case r => wtm_at "sb"))))
local macro_rules | `(tactic| wtm_at "fg") => `(tactic| first | with_reducible exact Fg.nil | (with_reducible refine' Fg.cons ?lk ?r; (case lk => wtm_at "look"); (case r => wtm_at "fg")))
local macro_rules | `(tactic| wtm_at "view") => `(tactic| (refine' T.view ?fg ?sb ?_; (case fg => wtm_at "fg"); (case sb => wtm_at "sb")))
set_option hygiene false
local macro_rules | `(tactic| wtm_at "fs") => `(tactic| ((case fg => wtm_at "fg"); (case sb => wtm_at "sb")))
local macro_rules | `(tactic| wtm_at "body") => `(tactic| conv in bodyOf _ => whnf)
set_option hygiene true
local macro_rules | `(tactic| wtm_at "keep") => `(tactic| (with_reducible refine' Sb.take ?ext Sb.refl; (case ext => wtm_at "ext")))
local macro_rules | `(tactic| wtm_at "mem") => `(tactic| with_reducible (first | exact List.mem_cons_self | (refine' List.mem_cons_of_mem _ ?r; (case r => wtm_at "mem")) | (refine' List.mem_append_right _ ?r; (case r => wtm_at "mem"))))
local macro_rules | `(tactic| wtm_at "upd") => `(tactic| with_reducible (first | exact Upd.here | (refine' Upd.there ?r; (case r => wtm_at "upd")) | (refine' Upd.app ?r _; (case r => wtm_at "upd"))))
local macro_rules | `(tactic| wtm_at "enm") => `(tactic| (refine' e_name ?lk ?_; (case lk => wtm_at "look")))
set_option hygiene false
local macro_rules | `(tactic| wtm_at "mm") => `(tactic| (case mm => wtm_at "mem"))
set_option hygiene true
local macro_rules | `(tactic| wtm_at "sto") => `(tactic| (with_reducible refine' store ?hp ?_; (case hp => wtm_at "put")))
set_option hygiene false
local macro_rules | `(tactic| wtm_at "m12") => `(tactic| ((case m1 => wtm_at "mem"); (case m2 => wtm_at "mem")))
local macro_rules | `(tactic| wtm_at "ok") => `(tactic| first | with_reducible assumption | assumption | exact Ok.sub (by assumption) _)
local macro_rules | `(tactic| wtm_at "gl") => `(tactic| with_reducible exact GF.gl (by constructor))
local macro_rules | `(tactic| wtm_at "fk") => `(tactic| with_reducible exact FF.fk (by constructor))
local macro_rules | `(tactic| wtm_at "bl") => `(tactic| with_reducible exact BF.bl (by constructor))
local macro_rules | `(tactic| wtm_at "tv") => `(tactic| with_reducible (((show TV _ _ _ (eval _ _) _ _); first
  | wtm_at "enm"
  | refine e_int ?_
  | refine e_binop ?_
  | refine e_call ?_
  | refine e_callkw ?_
  | refine e_meth ?_
  | refine e_sub ?_
  | refine e_attr ?_
  | refine e_globR (by wtm_at "ok") (by wtm_at "gl") ?_
  | refine e_biT (by wtm_at "ok") (by wtm_at "bl") ?_
  | refine e_biB (by wtm_at "ok") (by wtm_at "bl") ?_
  | refine e_list ?_
  | refine e_tuple ?_
  | refine e_none ?_
  | refine e_bool ?_
  | refine e_bytes ?_
  | refine e_str ?_
  | refine e_unop ?_
  | refine e_ifexp ?_
  | refine e_compare ?_
  | refine e_walrus ?_
  | refine e_or ?_)))
local macro_rules | `(tactic| wtm_at "tf") => `(tactic| with_reducible (((show TF _ _ _ _ _ _); first
  | refine execs_cons ?_
  | refine execs_nil ?_
  | refine x_if ?_
  | refine x_return ?_
  | refine x_assign ?_
  | refine x_assert ?_
  | refine x_break ?_
  | refine x_continue ?_
  | refine x_for ?_
  | refine x_assignA ?_
  | refine x_assignS ?_
  | refine x_assign2 ?_
  | refine x_augA ?_
  | refine x_delS ?_
  | refine x_expr ?_)))
local macro_rules | `(tactic| wtm_at "tb") => `(tactic| with_reducible (((show Tb _ _ _ _ _ _); first
  | refine b_compare ?_
  | refine b_chain ?_
  | refine b_bool ?_
  | refine b_and ?_
  | refine b_or ?_
  | refine b_and_nil ?_
  | refine b_or_nil ?_
  | refine b_value ?_)))
local macro_rules | `(tactic| wtm_at "op") => `(tactic| with_reducible (((show TB _ _ _ _ _ _ _ _); first
  | refine i_add ?_
  | refine i_sub ?_
  | refine i_and ?_
  | refine i_or ?_
  | refine i_shl (by with_unfolding_all decide) (by with_unfolding_all decide) (by with_unfolding_all omega) ?_
  | refine i_shr (by with_unfolding_all omega) ?_
  | refine i_mod (by decide) ?_
  | refine i_div (by decide) (by decide) ?_)))
local macro_rules | `(tactic| wtm_at "cmp") => `(tactic| with_reducible (((show TC _ _ _ _ _ _ _ _); first
  | refine i_eq ?_
  | refine i_ne ?_
  | refine i_lt ?_
  | refine i_le ?_
  | refine i_gt ?_
  | refine i_ge ?_
  | refine c_isNoneT ?_
  | refine c_isNoneF (by with_unfolding_all (intro h; cases h)) ?_
  | refine c_isNotNoneF ?_
  | refine c_isNotNoneT (by with_unfolding_all (intro h; cases h)) ?_
  | refine c_isTypeT ?_
  | refine c_isTypeF (by decide) ?_)))
local macro_rules | `(tactic| wtm_at "room") => `(tactic| first | assumption | exact Room.mono (by assumption) (by decide))
local macro_rules | `(tactic| wtm_at "kp") => `(tactic| with_reducible (first | refine And.intro Kp.builtin ?_ | refine And.intro Kp.type ?_ | refine And.intro (kpF (by wtm_at "ok") (by wtm_at "fk")) ?_))
local macro_rules | `(tactic| wtm_at "fn") => `(tactic| with_reducible (((show TCall _ _ _ _ _ _ _ _); first
  | refine call_app1 ?_
  | refine call_app0 ?_
  | refine f_type_bytes ?_
  | refine f_type_bool ?_)))
local macro_rules | `(tactic| wtm_at "user") => `(tactic| fail "none")
set_option hygiene true
local macro_rules | `(tactic| wtm_at "tm") => `(tactic| with_reducible (((show TM _ _ _ _ _ _ _); first
  | (refine' tm_append ?mm ?_; wtm_at "mm")
  | (refine' tm_pop ?mm ?_; wtm_at "mm")
  | (refine' tm_extend ?mm ?_; wtm_at "mm")
  | (refine' tm_clear ?mm ?_; wtm_at "mm"))))
set_option hygiene false
local macro_rules | `(tactic| wtm_at "len") => `(tactic| (first | ((with_reducible rw [iL_len]); with_reducible assumption) | omega | ((simp only [iL_len, List.length_append, List.length_cons, List.length_nil]) <;> omega)))
set_option hygiene true
local macro_rules | `(tactic| wtm_at "app") => `(tactic| (with_reducible refine' m_append ?u ?hz ?_; (case u => wtm_at "upd"); (case hz => wtm_at "len")))
set_option hygiene false
local macro_rules | `(tactic| wtm_at "drop") => `(tactic| (with_reducible refine And.intro (by with_unfolding_all (intro _ h; cases h)) ?_))
local macro_rules | `(tactic| wtm_at "st") => `(tactic| first
  | wtm_at "tv"
  | wtm_at "tf"
  | with_reducible refine then_next ?_
  | wtm_at "sto"
  | with_reducible refine args_cons ?_
  | with_reducible refine args_nil ?_
  | wtm_at "tb"
  | with_reducible refine t_bool ?_
  | wtm_at "cmp"
  | wtm_at "op"
  | wtm_at "kp"
  | wtm_at "tm"
  | wtm_at "drop"
  | wtm_at "fn"
  | wtm_at "user"
  | with_reducible refine Br.tt ?_
  | with_reducible refine Br.ff ?_
  | with_reducible refine then_ret ?_
  | with_reducible refine then_brk ?_
  | with_reducible refine then_cont ?_
  | with_reducible refine t_none ?_
  | with_reducible refine a_name ?_
  | with_reducible refine a_attr ?_
  | with_reducible refine a_sub ?_
  | with_reducible refine i_neg ?_
  | with_reducible refine i_iadd ?_
  | with_reducible refine i_isub ?_
  | with_reducible refine t_int ?_)
local macro_rules | `(tactic| wtm_at "go") => `(tactic| repeat wtm_at "st")
set_option hygiene true
local macro_rules | `(tactic| wtm_at "br") => `(tactic| with_reducible (first | refine Br.dec (fun hb => ?_) (fun hb => ?_) | refine Br.eqi (fun hb => ?_) (fun hb => ?_) | refine Br.nei (fun hb => ?_) (fun hb => ?_)))
set_option hygiene false
local macro_rules | `(tactic| wtm_at "all") => `(tactic| repeat' (first | wtm_at "st" | (wtm_at "br" <;> try (exfalso; omega))))
set_option hygiene true
section
set_option Elab.async false
set_option linter.all false
set_option maxRecDepth 100000
set_option maxHeartbeats 1000000
section
variable {P : Params} {C : Cx} {m : Loc} {l : Led} {Q E : Pv}
theorem c_b64_value (O : Ok (KK P) C) (R : Room C.A 1) {c : Int} (h : Q (.int (b64val c) 0) m l) : TCall C m l (.ref 70) [.int c 0] [] Q E := by
  refine enterK (bs := [(Str.ofString "c", .int c 0)]) (m' := [(Str.ofString "c", .int c 0)]) O FF.c70.fk R.now ?_
  intro vvs vkw hv hk
  obtain ⟨v, rfl, hv'⟩ := map1 hv
  obtain rfl := kw0 hk
  refine T.pure (a := [(Str.ofString "c", v)]) ⟨by simp [unB, hv'], rfl, fun L' => ?_⟩
  wtm_at "body"
  wtm_at "all"
  all_goals refine ret_end (Sb.refl) (int_at h ?_)
  all_goals (unfold b64val; (repeat' split) <;> lia)
theorem c_truth (O : Ok (KK P) C) (R : Room C.A 1) {b : Bool} (h : Q (.bool b) m l) : TCall C m l (.ref 63) [.bool b] [] Q E := by
  refine enterK (bs := [(Str.ofString "x", .bool b)]) (m' := [(Str.ofString "x", .bool b)]) O FF.c63.fk R.now ?_
  intro vvs vkw hv hk
  obtain ⟨v, rfl, hv'⟩ := map1 hv
  obtain rfl := kw0 hk
  refine T.pure (a := [(Str.ofString "x", v)]) ⟨by simp [unB, hv'], rfl, fun L' => ?_⟩
  have O' := O.sub (en 63 L')
  wtm_at "body"
  wtm_at "go"
  cases b
  · wtm_at "go"; exact ret_end (by wtm_at "sb") h
  · wtm_at "go"; exact ret_end (by wtm_at "sb") h
theorem c_buffer (O : Ok (KK P) C) (R : Room C.A 1) {b : Array UInt8} (h : Q (.bytes b 0) m l) : TCall C m l (.ref 56) [.bytes b 0] [] Q E := by
  refine enterK (bs := [(Str.ofString "data", .bytes b 0)]) (m' := [(Str.ofString "data", .bytes b 0)]) O FF.c56.fk R.now ?_
  intro vvs vkw hv hk
  obtain ⟨v, rfl, hv'⟩ := map1 hv
  obtain rfl := kw0 hk
  refine T.pure (a := [(Str.ofString "data", v)]) ⟨by simp [unB, hv'], rfl, fun L' => ?_⟩
  have O' := O.sub (en 56 L')
  wtm_at "body"
  wtm_at "go"
  exact ret_end (by wtm_at "sb") h
theorem c_ascii_buffer (O : Ok (KK P) C) (R : Room C.A 1) {b : Array UInt8} (h : Q (.bytes b 0) m l) : TCall C m l (.ref 49) [.bytes b 0] [] Q E := by
  refine enterK (bs := [(Str.ofString "data", .bytes b 0)]) (m' := [(Str.ofString "data", .bytes b 0)]) O FF.c49.fk R.now ?_
  intro vvs vkw hv hk
  obtain ⟨v, rfl, hv'⟩ := map1 hv
  obtain rfl := kw0 hk
  refine T.pure (a := [(Str.ofString "data", v)]) ⟨by simp [unB, hv'], rfl, fun L' => ?_⟩
  have O' := O.sub (en 49 L')
  wtm_at "body"
  wtm_at "go"
  exact ret_end (by wtm_at "sb") h
theorem c_from_decode (O : Ok (KK P) C) (R : Room C.A 1) {b : Array UInt8} (h : Q (.bytes b 0) m l) : TCall C m l (.ref 29) [.bytes b 0] [] Q E := by
  refine enterK (bs := [(Str.ofString "s", .bytes b 0)]) (m' := [(Str.ofString "s", .bytes b 0)]) O FF.c29.fk R.now ?_
  intro vvs vkw hv hk
  obtain ⟨v, rfl, hv'⟩ := map1 hv
  obtain rfl := kw0 hk
  refine T.pure (a := [(Str.ofString "s", v)]) ⟨by simp [unB, hv'], rfl, fun L' => ?_⟩
  have O' := O.sub (en 29 L')
  wtm_at "body"
  wtm_at "go"
  refine f_isinstance_bytes O' Own.type (r := false) (by kernel_rfl) ?_
  wtm_at "go"
  refine f_isinstance_bytes_tup O' (by rfl) (r := true) (by kernel_rfl) ?_
  wtm_at "go"
  exact ret_end (by wtm_at "sb") h
end
end
section
set_option Elab.async false
set_option linter.all false
set_option maxRecDepth 100000
set_option maxHeartbeats 1000000
section
variable {P : Params} {C : Cx} {m : Loc} {l : Led} {Q E : Pv}
theorem e_B64 {env : Env} {pos : Pos} (O : Ok (KK P) C) (h : Q (byv b64L) m l) (hk : env.scope.kind = .function := by with_unfolding_all rfl) (hx : env.kindOf (Str.ofString "_B64") = some .globalImplicit := by with_unfolding_all rfl)
    (hg : env.globals = mainGlobals := by with_unfolding_all rfl) : TV C m l (eval (.Name (Str.ofString "_B64") pos) env) Q E := by
  obtain ⟨t, e⟩ := gl_XB64 (P := P)
  exact e_glob O e h hk hx hg (by decide)
set_option hygiene false
local macro_rules | `(tactic| wtm_at "user") => `(tactic| with_reducible refine e_B64 (by wtm_at "ok") ?_)
set_option hygiene true
noncomputable abbrev b2I (cL out : Addr) (ns : List Int) (m : Loc) (l : Led) (i : Nat) (m₁ : Loc) (l₁ : Led) : Prop :=
  ∃ (vs : List Value) (lb lc : Int) (o : List Int) (p : Nat), m₁ = [(Str.ofString "newline", .bool false), (Str.ofString "out", .ref out), (Str.ofString "leftbits", .int lb 0), (Str.ofString "leftchar", .int lc 0)] ∧
    l₁ = (out, listS vs) :: (cL, Frm m) :: l ∧ vs = iL o ∧ lb = 2 * (p : Int) ∧ p ≤ 2 ∧ 0 ≤ lc ∧ lc < 65536 ∧ o.length ≤ 2 * i ∧ InB o ∧ o ++ encS p (lc % 2 ^ (2 * p)) (ns.drop i) = encS 0 0 ns
noncomputable abbrev b2W (cL out : Addr) (ns : List Int) (m : Loc) (l : Led) (it : Addr) (P : Shape) (i p' : Nat) (lc' : Int) (k : Nat) (m₁ : Loc) (l₁ : Led) : Prop :=
  ∃ (vs : List Value) (lb : Int) (o' : List Int), m₁ = [(Str.ofString "newline", .bool false), (Str.ofString "out", .ref out), (Str.ofString "leftbits", .int lb 0), (Str.ofString "leftchar", .int lc' 0)] ∧
      l₁ = (it, P) :: (out, listS vs) :: (cL, Frm m) :: l ∧ vs = iL o' ∧ lb = 2 * (p' : Int) + 6 * (k : Int) ∧ k ≤ 2 ∧ o'.length + k ≤ 2 * i + 2 ∧ InB o' ∧ o' ++ (emit (2 * p') lc' k ++ encS p' (lc' % 2 ^ (2 * p')) (ns.drop (i + 1))) = encS 0 0 ns
noncomputable abbrev b2J (cL out : Addr) (ns : List Int) (m : Loc) (l : Led) (m₁ : Loc) (l₁ : Led) : Prop :=
  ∃ (vs : List Value) (o' : List Int), m₁ = [(Str.ofString "newline", .bool false), (Str.ofString "out", .ref out)] ∧ l₁ = (out, listS vs) :: (cL, Frm m) :: l ∧ vs = iL o' ∧ o'.length ≤ 16000000 ∧ InB o' ∧ o' = encS 0 0 ns
theorem c_b2a (O : Ok (KK P) C) (R : Room C.A 2) {ns : List Int} (hr : InB ns) (hz : ns.length ≤ 1000000) (h : Q (byv (encS 0 0 ns)) m l) : TCall C m l (.ref 86) [byv ns] [(Str.ofString "newline", .bool false)] Q E := by
  refine enterK (bs := [(Str.ofString "data", byv ns), (Str.ofString "newline", .bool false)]) (m' := [(Str.ofString "newline", .bool false), (Str.ofString "data", byv ns)]) O FF.c86.fk R.now ?_
  intro vvs vkw hv hk
  obtain ⟨v, rfl, hv'⟩ := map1 hv
  obtain ⟨u, rfl, hk'⟩ := kw1 hk
  refine T.pure (a := [(Str.ofString "data", v), (Str.ofString "newline", u)]) ⟨by simp [unB, hv', hk'], rfl, fun L' => ?_⟩
  have O' := O.sub (en 86 L')
  have R' : Room (sub C (en 86 L')).A 1 := R.sub
  wtm_at "body"
  wtm_at "go"
  refine c_buffer O' R' ?_
  wtm_at "go"
  refine c_truth O' R' ?_
  wtm_at "go"
  refine ⟨by simp, fun out => ?_⟩
  wtm_at "go"
  refine' for_bytes (ns := ns) hr R.handled (b2I C.L out ns m l) ?fg ?sb ?h0 ?turn ?fin
  case h0 => exact ⟨[], 0, 0, [], 0, rfl, rfl, rfl, rfl, by decide, by decide, by decide, by simp, (fun _ h => by cases h), by simp⟩
  wtm_at "fs"
  case turn =>
    rintro it P i c m₁ l₁ hc ⟨vs, lb, lc, o, p, rfl, rfl, rfl, rfl, hp, h0, h1, hlen, hin, heq⟩
    have hc' := hr c (List.mem_of_getElem? hc)
    have hi : i < ns.length := (List.getElem?_eq_some_iff.mp hc).1
    rw [drop_some hc, enc_step hp h0 hc'] at heq
    wtm_at "go"
    have e1 : Builtin.bitAnd (Builtin.bitOr (lc * 2 ^ Int.toNat 8) c) 65535 = (lc * 256 + c) % 65536 := by
      rw [or_add h0 hc'.1 hc'.2, bitAnd_m16]; rfl
    rw [e1]
    generalize hlc : (lc * 256 + c) % 65536 = lc' at heq ⊢
    have e2 : 2 * (p : Int) + 8 = 2 * (((p + 1) % 3 : Nat) : Int) + 6 * ((if p = 2 then 2 else 1 : Nat) : Int) := by split <;> lia
    have hp3 : (p + 1) % 3 ≤ 2 := by lia
    have hk2 : (if p = 2 then 2 else 1 : Nat) ≤ 2 := by split <;> lia
    rw [e2]
    generalize (p + 1) % 3 = p' at heq hp3 ⊢
    generalize (if p = 2 then 2 else 1 : Nat) = k at heq hk2 ⊢
    refine' x_whileV (b2W C.L out ns m l it P i p' lc') (k := k) ?fg ?sb ?h0 ?turn
    case h0 => exact ⟨_, _, o, rfl, rfl, rfl, rfl, hk2, by lia, hin, heq⟩
    wtm_at "fs"
    case turn =>
      rintro k m₁ l₁ ⟨vs, lb, o', rfl, rfl, rfl, rfl, hk, hlen', hin', heq'⟩
      wtm_at "go"
      refine Br.dec (fun hb => ?_) (fun hb => ?_)
      · match k, hk, hlen', heq', hb with
        | 0, _, _, _, hb => exfalso; lia
        | k + 1, hk, hlen', heq', hb =>
        wtm_at "go"
        have e3 : (2 * (p' : Int) + 6 * ((k + 1 : Nat) : Int) - 6).toNat = 2 * p' + 6 * k := by lia
        have hv := Int.emod_nonneg (lc' / 2 ^ (2 * p' + 6 * k)) (by decide : (64 : Int) ≠ 0)
        have hv' := Int.emod_lt_of_pos (lc' / 2 ^ (2 * p' + 6 * k)) (by decide : (0 : Int) < 64)
        have e4 : Builtin.bitAnd (lc'.fdiv (2 ^ (2 * (p' : Int) + 6 * ((k + 1 : Nat) : Int) - 6).toNat)) 63 = lc' / 2 ^ (2 * p' + 6 * k) % 64 := by
          rw [bitAnd_m6, e3, fdiv_pos (kbt_pos _)]
        rw [e4]
        refine s_bytes b64L_inB hv hv' (by decide) ?_
        wtm_at "go"
        wtm_at "app"
        wtm_at "go"
        refine' while_next ?fg ?sb (j := k) (Nat.lt_succ_self _) ⟨_, _, o' ++ [sym (lc' / 2 ^ (2 * p' + 6 * k) % 64)], rfl, rfl, ?_⟩
        wtm_at "fs"
        exact ⟨by simp [iL, sym], by lia, by lia, by simp; lia, InB.append hin' (fun n hn => by simp at hn; subst hn; exact sym_in hv hv'), by simpa [emit] using heq'⟩
      · have hk0 : k = 0 := by lia
        subst hk0
        wtm_at "go"
        refine' loop_next ?fg ?sb ⟨_, _, _, o', p', rfl, rfl, ?_⟩
        wtm_at "fs"
        exact ⟨rfl, by lia, hp3, by lia, by lia, by lia, hin', by simpa [emit] using heq'⟩
  case fin =>
    rintro m₁ l₁ ⟨vs, lb, lc, o, p, rfl, rfl, rfl, rfl, hp, h0, h1, hlen, hin, heq⟩
    rw [List.drop_length] at heq
    have hm3 : 0 ≤ lc % 4 ∧ lc % 4 < 4 := by lia
    have hm15 : 0 ≤ lc % 16 ∧ lc % 16 < 16 := by lia
    refine execs_nil (then_next (execs_cons ?_))
    refine x_join (J := b2J C.L out ns m l) ?_ ?_
    · wtm_at "go"
      refine Br.eqi (fun hb => ?_) (fun hb => ?_)
      · obtain rfl : p = 1 := by lia
        wtm_at "go"
        rw [bitAnd_m2]
        wtm_at "go"
        rw [show lc % 4 * 2 ^ Int.toNat 4 = lc % 4 * 16 from rfl]
        refine s_bytes b64L_inB (by lia) (by show lc % 4 * 16 < 64; lia) (by decide) ?_
        wtm_at "go"
        wtm_at "app"
        wtm_at "go"
        wtm_at "app"
        wtm_at "go"
        wtm_at "app"
        wtm_at "go"
        refine' join_end ?fg ?sb ⟨_, o ++ [sym (lc % 4 * 16), 61, 61], rfl, rfl, ?_⟩
        wtm_at "fs"
        exact ⟨by simp [iL, sym], by simp; lia, InB.append hin (fun n hn => by
          simp at hn; rcases hn with rfl | rfl
          · exact sym_in (by lia) (by lia)
          · decide), heq⟩
      · wtm_at "go"
        refine Br.eqi (fun hb2 => ?_) (fun hb2 => ?_)
        · obtain rfl : p = 2 := by lia
          wtm_at "go"
          rw [bitAnd_m4]
          wtm_at "go"
          rw [show lc % 16 * 2 ^ Int.toNat 2 = lc % 16 * 4 from rfl]
          refine s_bytes b64L_inB (by lia) (by show lc % 16 * 4 < 64; lia) (by decide) ?_
          wtm_at "go"
          wtm_at "app"
          wtm_at "go"
          wtm_at "app"
          wtm_at "go"
          refine' join_end ?fg ?sb ⟨_, o ++ [sym (lc % 16 * 4), 61], rfl, rfl, ?_⟩
          wtm_at "fs"
          exact ⟨by simp [iL, sym], by simp; lia, InB.append hin (fun n hn => by
            simp at hn; rcases hn with rfl | rfl
            · exact sym_in (by lia) (by lia)
            · decide), heq⟩
        · obtain rfl : p = 0 := by lia
          wtm_at "go"
          refine' join_end ?fg ?sb ⟨_, o, rfl, rfl, ?_⟩
          wtm_at "fs"
          exact ⟨rfl, by lia, hin, by simpa [encS] using heq⟩
    · rintro m₁ l₁ ⟨vs, o', rfl, rfl, rfl, hl, hi, he⟩
      wtm_at "go"
      refine' f_bytes ?mm hi hl R.handled ?_
      case mm => wtm_at "mem"
      rw [he]
      wtm_at "go"
      exact ret_end (by wtm_at "sb") h
end
end
section
set_option Elab.async false
set_option linter.all false
set_option maxRecDepth 100000
set_option maxHeartbeats 1000000
section
variable {P : Params} {C : Cx} {m : Loc} {l : Led} {Q E : Pv}
theorem m4c {i : Nat} {q : Int} (h : q = ((i % 4 : Nat) : Int)) : q = 0 ∨ q = 1 ∨ q = 2 ∨ q = 3 := by
  subst h
  match i % 4, Nat.mod_lt i (by decide : 0 < 4) with
  | 0, _ => exact .inl rfl
  | 1, _ => exact .inr (.inl rfl)
  | 2, _ => exact .inr (.inr (.inl rfl))
  | 3, _ => exact .inr (.inr (.inr rfl))
  | n + 4, h => exact absurd h (Nat.not_lt.mpr (Nat.le_add_left 4 n))
theorem m4s {i : Nat} (k : Nat) (h : (k : Int) = ((i % 4 : Nat) : Int)) : (((k + 1) % 4 : Nat) : Int) = (((i + 1) % 4 : Nat) : Int) := by
  rw [Int.ofNat_inj.mp h, Nat.mod_add_mod]
theorem a2b_f0 {n p : Nat} (hp : p = (4 - n % 4) % 4) (hn1 : n % 4 ≠ 1) : (n % 4 = 0 ∧ p = 0) ∨ (n % 4 = 2 ∧ p = 2) ∨ (n % 4 = 3 ∧ p = 1) := by
  generalize hr : n % 4 = r at hp hn1 ⊢
  have h4 : r < 4 := hr ▸ Nat.mod_lt n (by decide)
  clear hr
  subst hp
  match r, h4 with
  | 0, _ => exact .inl ⟨rfl, rfl⟩
  | 1, _ => exact absurd rfl hn1
  | 2, _ => exact .inr (.inl ⟨rfl, rfl⟩)
  | 3, _ => exact .inr (.inr ⟨rfl, rfl⟩)
  | n + 4, h => exact absurd h (Nat.not_lt.mpr (Nat.le_add_left 4 n))
theorem a2b_f1 {n p i : Nat} {q : Int} (hq : q = ((n % 4 : Nat) : Int)) (hp : p = (4 - n % 4) % 4) (hn1 : n % 4 ≠ 1) (hi : i < n + p) (hge : n ≤ i) : (q = 2 ∨ q = 3) ∧ q + p = 4 ∧ i + 1 - n ≤ p := by
  rcases a2b_f0 hp hn1 with ⟨e1, rfl⟩ | ⟨e1, rfl⟩ | ⟨e1, rfl⟩
  · exact absurd hi (Nat.not_lt.mpr hge)
  · rw [hq, e1]; exact ⟨.inl rfl, rfl, Nat.sub_le_iff_le_add'.mpr hi⟩
  · rw [hq, e1]; exact ⟨.inr rfl, rfl, Nat.sub_le_iff_le_add'.mpr hi⟩
theorem a2b_f2 {n p : Nat} {q pads : Int} (hq : q = ((n % 4 : Nat) : Int)) (hd : pads = (p : Int)) (hp : p = (4 - n % 4) % 4) (hn1 : n % 4 ≠ 1) : q ≠ 1 ∧ (q ≠ 0 → q + pads = 4) := by
  rcases a2b_f0 hp hn1 with ⟨e1, rfl⟩ | ⟨e1, rfl⟩ | ⟨e1, rfl⟩
  · rw [hq, e1]; exact ⟨by decide, fun h => absurd rfl h⟩
  · rw [hq, e1, hd]; exact ⟨by decide, fun _ => rfl⟩
  · rw [hq, e1, hd]; exact ⟨by decide, fun _ => rfl⟩
theorem a2b_f3 {n p k : Nat} (hp : p = (4 - n % 4) % 4) (hz : n ≤ 1000000) (h : k ≤ n + p) : k ≤ 16000000 := by lia
noncomputable abbrev invA2b (sb : Bool) (out : Addr) (syms : List Int) (cL : Addr) (m : Loc) (l : Led) (i : Nat) (m₁ : Loc) (l₁ : Led) : Prop :=
  ∃ (vs : List Value) (q lc pads ii : Int) (o : List Int), m₁ = [(Str.ofString "strict_mode", .bool sb), (Str.ofString "out", .ref out), (Str.ofString "quad_pos", .int q 0), (Str.ofString "leftchar", .int lc 0), (Str.ofString "pads", .int pads 0), (Str.ofString "i", .int ii 0)] ∧
    l₁ = (out, listS vs) :: (cL, Frm m) :: l ∧ vs = iL o ∧ q = ((min i syms.length % 4 : Nat) : Int) ∧ pads = ((i - syms.length : Nat) : Int) ∧ o.length ≤ i ∧ InB o ∧ 0 ≤ lc ∧ (q = 1 → lc < 64) ∧ (q = 2 → lc < 16) ∧ (q = 3 → lc < 4) ∧
    o ++ decS q.toNat lc ((syms.drop i).map b64val) = decS 0 0 (syms.map b64val)
theorem c_a2b (O : Ok (KK P) C) (R : Room C.A 2) {syms : List Int} {p : Nat} {sb : Bool} (hr : InB syms) (hv : ∀ c ∈ syms, b64val c < 64) (hz : syms.length ≤ 1000000) (hp : p = (4 - syms.length % 4) % 4) (hn1 : syms.length % 4 ≠ 1)
    (h : Q (byv (decS 0 0 (syms.map b64val))) m l) : TCall C m l (.ref 78) [byv (syms ++ List.replicate p 61)] [(Str.ofString "strict_mode", .bool sb)] Q E := by
  refine enterK (bs := [(Str.ofString "data", byv (syms ++ List.replicate p 61)), (Str.ofString "strict_mode", .bool sb)]) (m' := [(Str.ofString "strict_mode", .bool sb), (Str.ofString "data", byv (syms ++ List.replicate p 61))]) O FF.c78.fk R.now ?_
  intro vvs vkw hv' hk
  obtain ⟨v, rfl, hv''⟩ := map1 hv'
  obtain ⟨u, rfl, hk'⟩ := kw1 hk
  refine T.pure (a := [(Str.ofString "data", v), (Str.ofString "strict_mode", u)]) ⟨by simp [unB, hv'', hk'], rfl, fun L' => ?_⟩
  have O' := O.sub (en 78 L')
  have R' : Room (sub C (en 78 L')).A 1 := R.sub
  have hp4 : p ≤ 3 := by lia
  have hrr : InB (syms ++ List.replicate p 61) := InB.append hr (fun n hn => by rw [List.eq_of_mem_replicate hn]; decide)
  have hlen : (syms ++ List.replicate p (61 : Int)).length = syms.length + p := by simp
  wtm_at "body"
  wtm_at "go"
  refine c_ascii_buffer O' R' ?_
  wtm_at "go"
  refine c_truth O' R' ?_
  wtm_at "go"
  refine ⟨by simp, fun out => ?_⟩
  wtm_at "go"
  refine' for_bytes (ns := syms ++ List.replicate p 61) hrr R.handled (invA2b sb out syms C.L m l) ?fg ?sb ?h0 ?turn ?fin
  case h0 => exact ⟨[], 0, 0, 0, 0, [], rfl, rfl, rfl, by simp, by simp, by simp, (fun _ h => by cases h), by decide, by decide, by decide, by decide, by simp⟩
  wtm_at "fs"
  case turn =>
    rintro it P i c m₁ l₁ hc ⟨vs, q, lc, pads, ii, o, rfl, rfl, rfl, hq, hpd, hol, hin, h0, h1, h2, h3, heq⟩
    have hi : i < syms.length + p := by have := (List.getElem?_eq_some_iff.mp hc).1; rwa [hlen] at this
    clear hlen hrr
    rcases Nat.lt_or_ge i syms.length with hin' | hge
    · clear hp hn1 hp4 hi
      rw [Nat.min_eq_left (Nat.le_of_lt hin')] at hq
      rw [Nat.sub_eq_zero_of_le (Nat.le_of_lt hin')] at hpd
      have hmin : min (i + 1) syms.length = i + 1 := Nat.min_eq_left hin'
      have hsub : i + 1 - syms.length = 0 := Nat.sub_eq_zero_of_le hin'
      rw [List.getElem?_append_left hin'] at hc
      have hcm := List.mem_of_getElem? hc
      have hcv := hv c hcm
      have hcv0 := (b64val_in c).1
      have hne : c ≠ 61 := by rintro rfl; exact absurd hcv (by decide)
      rw [drop_some hc, List.map_cons] at heq
      obtain rfl : pads = 0 := hpd
      wtm_at "go"
      refine Br.eqi (fun hb => absurd hb hne) (fun _ => ?_)
      wtm_at "go"
      refine c_b64_value O' R' ?_
      generalize b64val c = v at hcv hcv0 heq ⊢
      wtm_at "go"
      refine Br.dec (fun hb => by lia) (fun _ => ?_)
      wtm_at "go"
      refine Br.nei (fun hb => absurd rfl hb) (fun _ => ?_)
      wtm_at "go"
      have hq4 := m4c hq
      have hol' : o.length ≤ 16000000 := Nat.le_trans (Nat.le_trans hol (Nat.le_of_lt hin')) (Nat.le_trans hz (by decide))
      refine Br.eqi (fun hb => ?_) (fun hb => ?_)
      · subst hb
        wtm_at "go"
        refine' loop_next ?fg ?sb ⟨_, _, _, _, _, o, rfl, rfl, ?_⟩
        wtm_at "fs"
        rw [hmin, hsub]
        exact ⟨rfl, m4s 0 hq, rfl, Nat.le_succ_of_le hol, hin, by lia, by lia, by lia, by lia, by simpa [decS] using heq⟩
      wtm_at "go"
      refine Br.eqi (fun hb1 => ?_) (fun hb1 => ?_)
      · subst hb1
        have := h1 rfl
        wtm_at "go"
        rw [show Builtin.bitOr (lc * 2 ^ Int.toNat 2) (v.fdiv (2 ^ Int.toNat 4)) = lc * 4 + v / 16 from by
          rw [fdiv_pos (by decide)]; exact or_add (k := 2) h0 (Int.ediv_nonneg hcv0 (by decide)) (Int.ediv_lt_of_lt_mul (by decide) hcv)]
        wtm_at "app"
        wtm_at "go"
        rw [bitAnd_m4]
        refine' loop_next ?fg ?sb ⟨_, _, _, _, _, o ++ [lc * 4 + v / 16], rfl, rfl, ?_⟩
        wtm_at "fs"
        rw [hmin, hsub]
        exact ⟨by simp [iL], m4s 1 hq, rfl, by simpa using hol, InB.append hin (fun n hn => by simp at hn; subst hn; lia), by lia, by lia, by lia, by lia, by simpa [decS] using heq⟩
      wtm_at "go"
      refine Br.eqi (fun hb2 => ?_) (fun hb2 => ?_)
      · subst hb2
        have := h2 rfl
        wtm_at "go"
        rw [show Builtin.bitOr (lc * 2 ^ Int.toNat 4) (v.fdiv (2 ^ Int.toNat 2)) = lc * 16 + v / 4 from by
          rw [fdiv_pos (by decide)]; exact or_add (k := 4) h0 (Int.ediv_nonneg hcv0 (by decide)) (Int.ediv_lt_of_lt_mul (by decide) hcv)]
        wtm_at "app"
        wtm_at "go"
        rw [bitAnd_m2]
        refine' loop_next ?fg ?sb ⟨_, _, _, _, _, o ++ [lc * 16 + v / 4], rfl, rfl, ?_⟩
        wtm_at "fs"
        rw [hmin, hsub]
        exact ⟨by simp [iL], m4s 2 hq, rfl, by simpa using hol, InB.append hin (fun n hn => by simp at hn; subst hn; lia), by lia, by lia, by lia, by lia, by simpa [decS] using heq⟩
      · obtain rfl : q = 3 := by lia
        have := h3 rfl
        wtm_at "go"
        rw [show Builtin.bitOr (lc * 2 ^ Int.toNat 6) v = lc * 64 + v from or_add (k := 6) h0 hcv0 hcv]
        wtm_at "app"
        wtm_at "go"
        refine' loop_next ?fg ?sb ⟨_, _, _, _, _, o ++ [lc * 64 + v], rfl, rfl, ?_⟩
        wtm_at "fs"
        rw [hmin, hsub]
        exact ⟨by simp [iL], m4s 3 hq, rfl, by simpa using hol, InB.append hin (fun n hn => by simp at hn; subst hn; lia), by lia, by lia, by lia, by lia, by simpa [decS] using heq⟩
    · rw [Nat.min_eq_right hge] at hq
      have hmin : min (i + 1) syms.length = syms.length := Nat.min_eq_right (Nat.le_succ_of_le hge)
      obtain ⟨hqp, hqs, hps⟩ := a2b_f1 hq hp hn1 hi hge
      clear hp hn1 hp4
      rw [List.getElem?_append_right hge] at hc
      obtain rfl : c = 61 := List.eq_of_mem_replicate (List.mem_of_getElem? hc)
      have hd : syms.drop i = [] := List.drop_eq_nil_of_le hge
      have hd' : syms.drop (i + 1) = [] := List.drop_eq_nil_of_le (Nat.le_succ_of_le hge)
      wtm_at "go"
      refine Br.eqi (fun _ => ?_) (fun hb => absurd rfl hb)
      wtm_at "go"
      refine Br.dec (fun _ => ?_) (fun hb => by lia)
      wtm_at "go"
      refine Br.dec (fun _ => ?_) (fun hb => by lia)
      wtm_at "go"
      refine' loop_cont ?fg ?sb ⟨_, _, _, _, _, o, rfl, rfl, ?_⟩
      wtm_at "fs"
      rw [hmin]
      exact ⟨rfl, hq, by lia, by lia, hin, by lia, h1, h2, h3, by rw [hd'] ; rw [hd] at heq; exact heq⟩
  case fin =>
    rintro m₁ l₁ ⟨vs, q, lc, pads, ii, o, rfl, rfl, rfl, hq, hpd, hol, hin, h0, h1, h2, h3, heq⟩
    rw [hlen] at hq hpd hol heq
    rw [Nat.min_eq_right (Nat.le_add_right _ _)] at hq
    rw [Nat.add_sub_cancel_left] at hpd
    have hoz : o.length ≤ 16000000 := a2b_f3 hp hz hol
    obtain ⟨hq1, hqp⟩ := a2b_f2 hq hpd hp hn1
    clear hp hn1 hp4 hol hq hpd
    have hd : syms.drop (syms.length + p) = [] := List.drop_eq_nil_of_le (Nat.le_add_right _ _)
    rw [hd, List.map_nil, show ∀ a b, decS a b [] = [] from fun a b => by cases a <;> rfl, List.append_nil] at heq
    wtm_at "go"
    refine Br.eqi (fun hb => absurd hb hq1) (fun _ => ?_)
    wtm_at "go"
    refine Br.nei (fun hb => ?_) (fun hb => ?_)
    · wtm_at "go"
      refine Br.dec (fun hb2 => by lia) (fun _ => ?_)
      wtm_at "go"
      refine' f_bytes ?mm hin hoz R.handled ?_
      case mm => wtm_at "mem"
      rw [heq]
      wtm_at "go"
      exact ret_end (by wtm_at "sb") h
    · wtm_at "go"
      refine' f_bytes ?mm hin hoz R.handled ?_
      case mm => wtm_at "mem"
      rw [heq]
      wtm_at "go"
      exact ret_end (by wtm_at "sb") h
end
end
section
set_option Elab.async false
set_option linter.all false
set_option maxRecDepth 100000
set_option maxHeartbeats 1000000
section
variable {P : Params} {C : Cx} {m : Loc} {l : Led} {Q E : Pv}
/-! ## b64encode, b64decode -/
theorem tm_maketransK {Q : Value → List Value → Loc → Led → Prop} (O : Ok (KK P) C) (h : Q (.builtin "bytes.maketrans") [] m l) : TM C m l (.type "bytes") (Str.ofString "maketrans") Q E := tm_maketrans O h (by kernel_rfl)
theorem c_b64encode0 (O : Ok (KK P) C) (R : Room C.A 3) {ns : List Int} (hr : InB ns) (hz : ns.length ≤ 1000000) (h : Q (byv (encS 0 0 ns)) m l) : TCall C m l (.ref 94) [byv ns, .none] [] Q E := by
  refine enterK (bs := [(Str.ofString "s", byv ns), (Str.ofString "altchars", .none)]) (m' := [(Str.ofString "altchars", .none), (Str.ofString "s", byv ns)]) O FF.c94.fk R.now ?_
  intro vvs vkw hv hk
  obtain ⟨v, w, rfl, hv1, hv2⟩ := map2 hv
  obtain rfl := kw0 hk
  refine bindK (binds := [(Str.ofString "s", v), (Str.ofString "altchars", w)]) O (fun S => by kernel_rfl) ⟨by simp [unB, hv1, hv2], rfl, fun L' => ?_⟩
  have O' := O.sub (en 94 L')
  have R' : Room (sub C (en 94 L')).A 2 := R.sub
  wtm_at "body"
  wtm_at "go"
  refine c_b2a O' R' hr hz ?_
  wtm_at "go"
  exact ret_end (by wtm_at "sb") h
theorem c_b64encode (O : Ok (KK P) C) (R : Room C.A 3) {ns : List Int} {c d : Int} (hr : InB ns) (hcd : InB [c, d]) (hz : ns.length ≤ 1000000) (he : InB (encS 0 0 ns)) (hez : (encS 0 0 ns).length ≤ 16000000) (h : Q (byv ((encS 0 0 ns).map (trI 43 47 c d))) m l) : TCall C m l (.ref 94) [byv ns, byv [c, d]] [] Q E := by
  refine enterK (bs := [(Str.ofString "s", byv ns), (Str.ofString "altchars", byv [c, d])]) (m' := [(Str.ofString "altchars", byv [c, d]), (Str.ofString "s", byv ns)]) O FF.c94.fk R.now ?_
  intro vvs vkw hv hk
  obtain ⟨v, w, rfl, hv1, hv2⟩ := map2 hv
  obtain rfl := kw0 hk
  refine bindK (binds := [(Str.ofString "s", v), (Str.ofString "altchars", w)]) O (fun S => by kernel_rfl) ⟨by simp [unB, hv1, hv2], rfl, fun L' => ?_⟩
  have O' := O.sub (en 94 L')
  have R' : Room (sub C (en 94 L')).A 2 := R.sub
  wtm_at "body"
  wtm_at "go"
  refine c_b2a O' R' hr hz ?_
  wtm_at "go"
  refine f_len_bytes hcd (by simp) ?_
  wtm_at "go"
  refine ⟨rfl, ?_⟩
  wtm_at "go"
  refine tm_translate ?_
  wtm_at "go"
  refine tm_maketransK O' ?_
  wtm_at "go"
  refine f_maketransI (a := 43) (b := 47) ?_
  wtm_at "go"
  refine m_translate (by decide) (by decide) he hez ?_
  wtm_at "go"
  exact ret_end (by wtm_at "sb") h
theorem c_b64decode (O : Ok (KK P) C) (R : Room C.A 3) {ns syms : List Int} {c d : Int} {p : Nat} {sb : Bool} (hr : InB ns) (hcd : InB [c, d]) (hz : ns.length ≤ 1000000) (he : ns.map (trI c d 43 47) = syms ++ List.replicate p 61)
    (hs : InB syms) (hv : ∀ c ∈ syms, b64val c < 64) (hp : p = (4 - syms.length % 4) % 4) (hn1 : syms.length % 4 ≠ 1) (h : Q (byv (decS 0 0 (syms.map b64val))) m l) : TCall C m l (.ref 102) [byv ns, byv [c, d], .bool sb] [] Q E := by
  refine enterK (bs := [(Str.ofString "s", byv ns), (Str.ofString "altchars", byv [c, d]), (Str.ofString "validate", .bool sb)]) (m' := [(Str.ofString "validate", .bool sb), (Str.ofString "altchars", byv [c, d]), (Str.ofString "s", byv ns)]) O FF.c102.fk R.now ?_
  intro vvs vkw hv1 hk
  obtain ⟨v, w, x, rfl, hv1, hv2, hv3⟩ := map3 hv1
  obtain rfl := kw0 hk
  refine bindK (binds := [(Str.ofString "s", v), (Str.ofString "altchars", w), (Str.ofString "validate", x)]) O (fun S => by kernel_rfl) ⟨by simp [unB, hv1, hv2, hv3], rfl, fun L' => ?_⟩
  have O' := O.sub (en 102 L')
  have R' : Room (sub C (en 102 L')).A 2 := R.sub
  have hlen : ns.length = syms.length + p := by have := congrArg List.length he; simpa using this
  wtm_at "body"
  wtm_at "go"
  refine c_from_decode O' (R'.mono (by decide)) ?_
  wtm_at "go"
  refine c_from_decode O' (R'.mono (by decide)) ?_
  wtm_at "go"
  refine f_len_bytes hcd (by simp) ?_
  wtm_at "go"
  refine ⟨rfl, ?_⟩
  wtm_at "go"
  refine tm_translate ?_
  wtm_at "go"
  refine tm_maketransK O' ?_
  wtm_at "go"
  refine f_maketransI (c := 43) (d := 47) ?_
  wtm_at "go"
  refine m_translate (hcd c (by simp)) (hcd d (by simp)) hr (by lia) ?_
  rw [he]
  wtm_at "go"
  refine c_a2b O' R' hs hv (by lia) hp hn1 ?_
  wtm_at "go"
  exact ret_end (by wtm_at "sb") h
end
end
section
set_option Elab.async false
set_option linter.all false
set_option maxRecDepth 100000
set_option maxHeartbeats 1000000
section
variable {P : Params} {C : Cx} {m : Loc} {l l' : Led} {Q E : Pv}
theorem cls121 : ClsK (KK P) 121 := ⟨by kernel_rfl, by kernel_rfl, by kernel_rfl, by kernel_rfl⟩
theorem cls218 : ClsK (KK P) 218 := ⟨by kernel_rfl, by kernel_rfl, by kernel_rfl, by kernel_rfl⟩
theorem hd218 : hasDictIn (KK P) 218 = true := by kernel_rfl
theorem mk121 : makesIn (KK P) 121 = true := by kernel_rfl
theorem mk218 : makesIn (KK P) 218 = true := by kernel_rfl
theorem in121 : findIn (KK P) (.ref 121) "__init__" = some (some (.ref 117)) := by kernel_rfl
theorem in218 : findIn (KK P) (.ref 218) "__init__" = some (some (.ref 154)) := by kernel_rfl
theorem ty117 : typeIn (KK P) (.ref 117) = some (.type "function") := by kernel_rfl
theorem ty154 : typeIn (KK P) (.ref 154) = some (.type "function") := by kernel_rfl
theorem kpC {a : Addr} (O : Ok (KK P) C) (h : keepIn (KK P) (.ref a) = true) : Kp C (.ref a) := Kp.K O.X h Own.ref
theorem kp121 (O : Ok (KK P) C) : Kp C (.ref 121) := kpC O (by kernel_rfl)
theorem kp218 (O : Ok (KK P) C) : Kp C (.ref 218) := kpC O (by kernel_rfl)
theorem a0 : findIn (KK P) (.ref 121) (Str.ofString "node") = some (some (.ref 122)) ∧ specialIn (KK P) (.ref 122) "__get__" = some (some (.builtin "member_descriptor.__get__")) ∧ takesIn (KK P) (.ref 122) = some true ∧ slotIn (KK P) 122 121 = some 0 ∧ takerIn (KK P) 121 (Str.ofString "node") = some (some (.ref 122)) ∧ typeIn (KK P) (.ref 122) = some (.type "member_descriptor") := ⟨by kernel_rfl, by kernel_rfl, by kernel_rfl, by kernel_rfl, by kernel_rfl, by kernel_rfl⟩
theorem a1 : findIn (KK P) (.ref 121) (Str.ofString "npredecessors") = some (some (.ref 123)) ∧ specialIn (KK P) (.ref 123) "__get__" = some (some (.builtin "member_descriptor.__get__")) ∧ takesIn (KK P) (.ref 123) = some true ∧ slotIn (KK P) 123 121 = some 1 ∧ takerIn (KK P) 121 (Str.ofString "npredecessors") = some (some (.ref 123)) ∧ typeIn (KK P) (.ref 123) = some (.type "member_descriptor") := ⟨by kernel_rfl, by kernel_rfl, by kernel_rfl, by kernel_rfl, by kernel_rfl, by kernel_rfl⟩
theorem a2 : findIn (KK P) (.ref 121) (Str.ofString "successors") = some (some (.ref 124)) ∧ specialIn (KK P) (.ref 124) "__get__" = some (some (.builtin "member_descriptor.__get__")) ∧ takesIn (KK P) (.ref 124) = some true ∧ slotIn (KK P) 124 121 = some 2 ∧ takerIn (KK P) 121 (Str.ofString "successors") = some (some (.ref 124)) ∧ typeIn (KK P) (.ref 124) = some (.type "member_descriptor") := ⟨by kernel_rfl, by kernel_rfl, by kernel_rfl, by kernel_rfl, by kernel_rfl, by kernel_rfl⟩
theorem at_node (O : Ok (KK P) C) {x : Nd} (h1 : (x.na, x.inst) ∈ l) (h2 : (x.nd, attrS []) ∈ l) (h : Q (.int x.key 0) m l) : TAt C m l (.ref x.na) (Str.ofString "node") Q E :=
  at_slot (i := 0) O cls121 a0.1 a0.2.1 a0.2.2.1 a0.2.2.2.1 h1 h2 rfl rfl h
theorem at_np (O : Ok (KK P) C) {x : Nd} (h1 : (x.na, x.inst) ∈ l) (h2 : (x.nd, attrS []) ∈ l) (h : Q (.int x.np 0) m l) : TAt C m l (.ref x.na) (Str.ofString "npredecessors") Q E :=
  at_slot (i := 1) O cls121 a1.1 a1.2.1 a1.2.2.1 a1.2.2.2.1 h1 h2 rfl rfl h
theorem at_succ (O : Ok (KK P) C) {x : Nd} (h1 : (x.na, x.inst) ∈ l) (h2 : (x.nd, attrS []) ∈ l) (h : Q (.ref x.sa) m l) : TAt C m l (.ref x.na) (Str.ofString "successors") Q E :=
  at_slot (i := 2) O cls121 a2.1 a2.2.1 a2.2.2.1 a2.2.2.2.1 h1 h2 rfl rfl h
theorem ts_np (O : Ok (KK P) C) {x : Nd} {v : Int} {Q : Ps} (h2 : (x.nd, attrS []) ∈ l) (U : Upd x.na x.inst ({ x with np := v } : Nd).inst l l') (h : Q m l') : TSa C m l (.ref x.na) (Str.ofString "npredecessors") (.int v 0) Q E :=
  ts_slot (i := 1) O cls121 a1.2.2.2.2.1 a1.2.2.2.2.2 a1.2.2.2.1 (by decide) h2 U rfl h
theorem at_ts (O : Ok (KK P) C) {sx sd : Addr} {as : Loc} {v : Value} {name : Str} (hf : findIn (KK P) (.ref 218) name = some none) (h1 : (sx, instS 218 sd []) ∈ l) (h2 : (sd, attrS as) ∈ l) (lk : Look name v as) (hh : handedIn v = true) (h : Q v m l) : TAt C m l (.ref sx) name Q E :=
  at_own O cls218 hd218 hf h1 h2 lk hh h
theorem ts_ts (O : Ok (KK P) C) {sx sd : Addr} {as as' : Loc} {v : Value} {name : Str} {Q : Ps} (ht : takerIn (KK P) 218 name = some none) (h1 : (sx, instS 218 sd []) ∈ l) (U : Upd sd (attrS as) (attrS as') l l') (hP : Put name v as as') (hz : as.length ≤ 900) (h : Q m l') : TSa C m l (.ref sx) name v Q E :=
  ts_own O cls218 hd218 ht h1 U hP hz h
/-! ## _NodeInfo.__init__ -/
theorem c_ninit (O : Ok (KK P) C) (R : Room C.A 1) {x dx : Addr} {k : Int}
    (h : ∀ sa, Q .none m ((x, instS 121 dx [some (.int k 0), some (.int 0 0), some (.ref sa)]) :: (dx, attrS []) :: (sa, listS []) :: l)) : TCd C m ((x, instS 121 dx []) :: (dx, attrS []) :: l) (.ref 117) [.ref x, .int k 0] [] Q E := by
  refine enterKC (bs := [(Str.ofString "self", .ref x), (Str.ofString "node", .int k 0)]) (m' := [(Str.ofString "node", .int k 0), (Str.ofString "self", .ref x)]) O FF.c117.fk R.now ?_
  intro vvs vkw hv hk
  obtain ⟨v, w, rfl, hv1, hv2⟩ := map2 hv
  obtain rfl := kw0 hk
  refine T.pure (a := [(Str.ofString "self", v), (Str.ofString "node", w)]) ⟨by simp [unB, hv1, hv2], rfl, fun L' => ?_⟩
  have O' := O.sub (en 117 L')
  wtm_at "body"
  wtm_at "go"
  refine' ts_slot (i := 0) (sl' := [some (.int k 0)]) O' cls121 a0.2.2.2.2.1 a0.2.2.2.2.2 a0.2.2.2.1 (by decide) ?mm ?u ?hsl ?_
  case u => wtm_at "upd"
  case mm => wtm_at "mem"
  case hsl => rfl
  wtm_at "go"
  refine' ts_slot (i := 1) (sl' := [some (.int k 0), some (.int 0 0)]) O' cls121 a1.2.2.2.2.1 a1.2.2.2.2.2 a1.2.2.2.1 (by decide) ?mm ?u ?hsl ?_
  case u => wtm_at "upd"
  case mm => wtm_at "mem"
  case hsl => rfl
  wtm_at "go"
  refine ⟨by simp, fun sa => ?_⟩
  wtm_at "go"
  refine' ts_slot (i := 2) (sl' := [some (.int k 0), some (.int 0 0), some (.ref sa)]) O' cls121 a2.2.2.2.2.1 a2.2.2.2.2.2 a2.2.2.2.1 (by decide) ?mm ?u ?hsl ?_
  case u => wtm_at "upd"
  case mm => wtm_at "mem"
  case hsl => rfl
  wtm_at "go"
  exact next_end (by wtm_at "sb") (h sa)
end
end
section
set_option Elab.async false
set_option linter.all false
set_option maxRecDepth 100000
set_option maxHeartbeats 1000000
local macro_rules | `(tactic| wtm_at "ats") => `(tactic| (refine' at_ts (by wtm_at "ok") (by with_unfolding_all kernel_rfl) ?m1 ?m2 ?lk ?hh ?_; wtm_at "m12"; (case lk => wtm_at "look"); (case hh => first | rfl | assumption)))
section
variable {P : Params} {C : Cx} {m : Loc} {l l' : Led} {Q E : Pv} {sx sd n2 : Addr} {ep : Nat} {ns : List Nd} {rd : Value} {po fi : Int}
theorem c_gni_old (O : Ok (KK P) C) (R : Room C.A 1) {p q : List Nd} {x : Nd} (hn : ns = p ++ x :: q) (hd : (keysOf ns).Nodup) (h : Q (.ref x.na) m (sortL sx sd n2 ep ns rd po fi l)) :
    TCall C m (sortL sx sd n2 ep ns rd po fi l) (.ref 161) [.ref sx, .int x.key 0] [] Q E := by
  refine enterK (bs := [(Str.ofString "self", .ref sx), (Str.ofString "node", .int x.key 0)]) (m' := [(Str.ofString "node", .int x.key 0), (Str.ofString "self", .ref sx)]) O FF.c161.fk R.now ?_
  intro vvs vkw hv hk
  obtain ⟨v, w, rfl, hv1, hv2⟩ := map2 hv
  obtain rfl := kw0 hk
  refine T.pure (a := [(Str.ofString "self", v), (Str.ofString "node", w)]) ⟨by simp [unB, hv1, hv2], rfl, fun L' => ?_⟩
  have O' := O.sub (en 161 L')
  wtm_at "body"
  wtm_at "go"
  wtm_at "ats"
  refine' tm_get ?mm ?_
  case mm => wtm_at "mem"
  wtm_at "go"
  refine' m_get O' ?mm ?_
  case mm => wtm_at "mem"
  rw [hn, val_mid (hn ▸ hd), ← hn]
  wtm_at "go"
  exact ret_end Sb.refl h
theorem c_gni_new (O : Ok (KK P) C) (R : Room C.A 3) {k : Int} (hn : k ∉ keysOf ns) (hz : ns.length ≤ 1000000) (h : ∀ ep' x, x.key = k → x.np = 0 → x.succ = [] → Q (.ref x.na) m (sortL sx sd n2 ep' (ns ++ [x]) rd po fi l)) :
    TCall C m (sortL sx sd n2 ep ns rd po fi l) (.ref 161) [.ref sx, .int k 0] [] Q E := by
  refine enterK (bs := [(Str.ofString "self", .ref sx), (Str.ofString "node", .int k 0)]) (m' := [(Str.ofString "node", .int k 0), (Str.ofString "self", .ref sx)]) O FF.c161.fk R.now ?_
  intro vvs vkw hv hk
  obtain ⟨v, w, rfl, hv1, hv2⟩ := map2 hv
  obtain rfl := kw0 hk
  refine T.pure (a := [(Str.ofString "self", v), (Str.ofString "node", w)]) ⟨by simp [unB, hv1, hv2], rfl, fun L' => ?_⟩
  have O' := O.sub (en 161 L')
  have R' : Room (sub C (en 161 L')).A 2 := R.sub
  wtm_at "body"
  wtm_at "go"
  wtm_at "ats"
  refine' tm_get ?mm ?_
  case mm => wtm_at "mem"
  wtm_at "go"
  refine' m_get O' ?mm ?_
  case mm => wtm_at "mem"
  rw [val_none hn, show (none : Option Value).getD .none = .none from rfl]
  wtm_at "go"
  refine And.intro (kp121 O') ?_
  wtm_at "go"
  refine f_make O' mk121 in121 ty117 fun x dx vvs => c_ninit O'.under R'.under fun sa => ⟨rfl, ?_⟩
  wtm_at "go"
  wtm_at "ats"
  wtm_at "go"
  refine' si_dict (fun ep' => ?u) ?hz (fun ep' => ?_)
  case u => wtm_at "upd"
  case hz => simpa [n2L] using (by lia : ns.length ≤ 16000000)
  rw [stored_new hn]
  wtm_at "go"
  refine ret_end ?_ (h ep' ⟨k, 0, [], x, dx, sa⟩ rfl rfl rfl)
  have hp := List.perm_append_comm_assoc ((C.L, Frm m) :: (sx, instS 218 sd []) :: (sd, attrS (tsA n2 rd po fi)) :: (n2, dictE ep' (n2L ns ++ [(k, Value.ref x)])) :: nodesL ns) (nodeL ⟨k, 0, [], x, dx, sa⟩) l
  refine Sb.of_perm ?_
  dsimp only [sortL]
  rw [n2L_app, nodesL_app, List.append_assoc, show nodesL [(⟨k, 0, [], x, dx, sa⟩ : Nd)] = nodeL ⟨k, 0, [], x, dx, sa⟩ from by simp [nodesL]]
  exact hp
theorem c_gni (O : Ok (KK P) C) (R : Room C.A 3) {k : Int} (hd : (keysOf ns).Nodup) (hz : ns.length ≤ 1000000)
    (h : ∀ ep' ns' p x q, ns' = p ++ x :: q → x.key = k → (keysOf ns').Nodup → absG ns' = gnew (absG ns) k → Q (.ref x.na) m (sortL sx sd n2 ep' ns' rd po fi l)) :
    TCall C m (sortL sx sd n2 ep ns rd po fi l) (.ref 161) [.ref sx, .int k 0] [] Q E := by
  by_cases hk : k ∈ keysOf ns
  · obtain ⟨p, x, q, e, rfl⟩ := split_key hk
    refine c_gni_old O (R.mono (by decide)) e hd (h ep ns p x q e rfl hd ?_)
    unfold gnew
    rw [absG_keys, if_pos hk]
  · refine c_gni_new O R hk hz fun ep' x hx h0 h1 => h ep' (ns ++ [x]) ns x [] rfl hx ?_ ?_
    · unfold keysOf
      rw [List.map_append, List.nodup_append]
      refine ⟨hd, by simp, fun a ha b hb => ?_⟩
      simp only [List.map_cons, List.map_nil, List.mem_singleton] at hb
      subst hb
      exact fun e => hk (hx ▸ e ▸ ha)
    · unfold gnew
      rw [absG_keys, if_neg hk, absG_app]
      simp [absG, hx, h0, h1]
/-! ## TopologicalSorter() -/
theorem c_tsinit (O : Ok (KK P) C) (R : Room C.A 1) {x dx : Addr}
    (h : ∀ n2, Q .none m (sortL x dx n2 0 [] .none 0 0 l)) : TCd C m ((x, instS 218 dx []) :: (dx, attrS []) :: l) (.ref 154) [.ref x] [] Q E := by
  refine enterKC (bs := [(Str.ofString "self", .ref x), (Str.ofString "graph", .none)]) (m' := [(Str.ofString "graph", .none), (Str.ofString "self", .ref x)]) O FF.c154.fk R.now ?_
  intro vvs vkw hv hk
  obtain ⟨v, rfl, hv1⟩ := map1 hv
  obtain rfl := kw0 hk
  refine bindK (binds := [(Str.ofString "self", v), (Str.ofString "graph", .none)]) O (fun S => by kernel_rfl) ⟨by simp [unB, hv1, show un Value.none = .none from rfl], rfl, fun L' => ?_⟩
  have O' := O.sub (en 154 L')
  wtm_at "body"
  wtm_at "go"
  refine e_dict0 fun n2 => ?_
  wtm_at "go"
  refine' ts_ts O' (by with_unfolding_all kernel_rfl) ?m1 ?u ?pp ?hz ?_
  case u => wtm_at "upd"
  case m1 => wtm_at "mem"
  case pp => wtm_at "put"
  case hz => simp
  wtm_at "go"
  refine' ts_ts O' (by with_unfolding_all kernel_rfl) ?m1 ?u ?pp ?hz ?_
  case u => wtm_at "upd"
  case m1 => wtm_at "mem"
  case pp => wtm_at "put"
  case hz => simp
  wtm_at "go"
  refine' ts_ts O' (by with_unfolding_all kernel_rfl) ?m1 ?u ?pp ?hz ?_
  case u => wtm_at "upd"
  case m1 => wtm_at "mem"
  case pp => wtm_at "put"
  case hz => simp
  wtm_at "go"
  refine' ts_ts O' (by with_unfolding_all kernel_rfl) ?m1 ?u ?pp ?hz ?_
  case u => wtm_at "upd"
  case m1 => wtm_at "mem"
  case pp => wtm_at "put"
  case hz => simp
  wtm_at "go"
  exact next_end (l₁ := (x, instS 218 dx []) :: (dx, attrS (tsA n2 .none 0 0)) :: (n2, dictE 0 []) :: l) (by wtm_at "sb") (h n2)
end
end
section
set_option Elab.async false
set_option linter.all false
set_option maxRecDepth 100000
set_option maxHeartbeats 1000000
local macro_rules | `(tactic| wtm_at "ats") => `(tactic| (refine' at_ts (by wtm_at "ok") (by with_unfolding_all kernel_rfl) ?m1 ?m2 ?lk ?hh ?_; wtm_at "m12"; (case lk => wtm_at "look"); (case hh => first | rfl | assumption)))
section
variable {P : Params} {C : Cx} {m : Loc} {l l' : Led} {Q E : Pv} {sx sd n2 : Addr} {ep : Nat} {ns : List Nd} {rd : Value} {po fi : Int}
theorem bind168 (v w : Value) (rest : List Value) : bindArgs (fdOf 168) ⟨v :: w :: rest, []⟩ = (newTuple rest >>= fun t => pure [(Str.ofString "self", v), (Str.ofString "node", w), (Str.ofString "predecessors", t)]) := by
  cases rest <;> kernel_rfl
theorem bind201 (v : Value) (rest : List Value) : bindArgs (fdOf 201) ⟨v :: rest, []⟩ = (newTuple rest >>= fun t => pure [(Str.ofString "self", v), (Str.ofString "nodes", t)]) := by
  cases rest <;> kernel_rfl
theorem tm_ts {f : Addr} {name : Str} {as : Loc} {Q : Value → List Value → Loc → Led → Prop} (O : Ok (KK P) C) (hf : findIn (KK P) (.ref 218) name = some (some (.ref f))) (ht : isFn (KK P) (.ref f) = true) (h1 : (sx, instS 218 sd []) ∈ l) (h2 : (sd, attrS as) ∈ l) (hl : as.lookup name = none) (h : Q (.ref f) [.ref sx] m l) : TM C m l (.ref sx) name Q E :=
  tm_inst O cls218 hf ht h1 h2 hl h
theorem bindT {A : Around} {us : List Value} {f : Value → List (Str × Value)} {Q : List (Str × Value) → Loc → Led → Prop} (hz : us.length ≤ 16000000) (h : ∀ D, Q (unB (f (.ref D))) m ((D, tupS (us.map un)) :: l)) : T { C with A := A } unB m l (newTuple us >>= fun t => pure (f t)) Q E := by
  refine T.bind (φ := un) (newTuple_T (C := { C with A := A }) (Q := fun b m l => ∀ a, un a = b → T { C with A := A } unB m l (pure (f a)) Q E) (fun D a ha => ?_) hz)
  obtain rfl := un_ref ha
  exact T.pure (h D)
theorem tm_161 {as : Loc} {Q : Value → List Value → Loc → Led → Prop} (O : Ok (KK P) C) (h1 : (sx, instS 218 sd []) ∈ l) (h2 : (sd, attrS as) ∈ l) (hl : as.lookup (Str.ofString "_get_nodeinfo") = none) (h : Q (.ref 161) [.ref sx] m l) : TM C m l (.ref sx) (Str.ofString "_get_nodeinfo") Q E :=
  tm_ts O (by kernel_rfl) (by kernel_rfl) h1 h2 hl h
theorem tm_173 {as : Loc} {Q : Value → List Value → Loc → Led → Prop} (O : Ok (KK P) C) (h1 : (sx, instS 218 sd []) ∈ l) (h2 : (sd, attrS as) ∈ l) (hl : as.lookup (Str.ofString "prepare") = none) (h : Q (.ref 173) [.ref sx] m l) : TM C m l (.ref sx) (Str.ofString "prepare") Q E :=
  tm_ts O (by kernel_rfl) (by kernel_rfl) h1 h2 hl h
theorem tm_180 {as : Loc} {Q : Value → List Value → Loc → Led → Prop} (O : Ok (KK P) C) (h1 : (sx, instS 218 sd []) ∈ l) (h2 : (sd, attrS as) ∈ l) (hl : as.lookup (Str.ofString "get_ready") = none) (h : Q (.ref 180) [.ref sx] m l) : TM C m l (.ref sx) (Str.ofString "get_ready") Q E :=
  tm_ts O (by kernel_rfl) (by kernel_rfl) h1 h2 hl h
theorem tm_187 {as : Loc} {Q : Value → List Value → Loc → Led → Prop} (O : Ok (KK P) C) (h1 : (sx, instS 218 sd []) ∈ l) (h2 : (sd, attrS as) ∈ l) (hl : as.lookup (Str.ofString "is_active") = none) (h : Q (.ref 187) [.ref sx] m l) : TM C m l (.ref sx) (Str.ofString "is_active") Q E :=
  tm_ts O (by kernel_rfl) (by kernel_rfl) h1 h2 hl h
theorem tm_208 {as : Loc} {Q : Value → List Value → Loc → Led → Prop} (O : Ok (KK P) C) (h1 : (sx, instS 218 sd []) ∈ l) (h2 : (sd, attrS as) ∈ l) (hl : as.lookup (Str.ofString "_find_cycle") = none) (h : Q (.ref 208) [.ref sx] m l) : TM C m l (.ref sx) (Str.ofString "_find_cycle") Q E :=
  tm_ts O (by kernel_rfl) (by kernel_rfl) h1 h2 hl h
local macro_rules | `(tactic| wtm_at "tms") => `(tactic| first
  | (with_reducible refine' tm_161 (by wtm_at "ok") ?m1 ?m2 ?lk ?_; (case m1 => wtm_at "mem"); (case m2 => wtm_at "mem"); (case lk => with_unfolding_all rfl))
  | (with_reducible refine' tm_173 (by wtm_at "ok") ?m1 ?m2 ?lk ?_; (case m1 => wtm_at "mem"); (case m2 => wtm_at "mem"); (case lk => with_unfolding_all rfl))
  | (with_reducible refine' tm_180 (by wtm_at "ok") ?m1 ?m2 ?lk ?_; (case m1 => wtm_at "mem"); (case m2 => wtm_at "mem"); (case lk => with_unfolding_all rfl))
  | (with_reducible refine' tm_187 (by wtm_at "ok") ?m1 ?m2 ?lk ?_; (case m1 => wtm_at "mem"); (case m2 => wtm_at "mem"); (case lk => with_unfolding_all rfl))
  | (with_reducible refine' tm_208 (by wtm_at "ok") ?m1 ?m2 ?lk ?_; (case m1 => wtm_at "mem"); (case m2 => wtm_at "mem"); (case lk => with_unfolding_all rfl)))
theorem TCall.sb {f : Value} {vs : List Value} {kw : List (Str × Value)} (hs : Sb l' l) (h : TCall C m l' f vs kw Q E) : TCall C m l f vs kw Q E :=
  fun a b c h1 h2 h3 s S => h a b c h1 h2 h3 s (hs.st S)
theorem sortSb (pre : Led) : Sb (sortL sx sd n2 ep ns rd po fi (pre ++ l)) (pre ++ sortL sx sd n2 ep ns rd po fi l) :=
  Sb.of_perm (List.perm_append_comm_assoc ((sx, instS 218 sd []) :: (sd, attrS (tsA n2 rd po fi)) :: (n2, dictE ep (n2L ns)) :: nodesL ns) pre l)
theorem sortSb1 (a : Addr × Shape) : Sb (sortL sx sd n2 ep ns rd po fi (a :: l)) (a :: sortL sx sd n2 ep ns rd po fi l) := sortSb [a]
theorem sortSb2 (a b : Addr × Shape) : Sb (sortL sx sd n2 ep ns rd po fi (a :: b :: l)) (a :: b :: sortL sx sd n2 ep ns rd po fi l) := sortSb [a, b]
theorem sortSb' (pre : Led) : Sb (pre ++ sortL sx sd n2 ep ns rd po fi l) (sortL sx sd n2 ep ns rd po fi (pre ++ l)) :=
  Sb.of_perm (List.perm_append_comm_assoc ((sx, instS 218 sd []) :: (sd, attrS (tsA n2 rd po fi)) :: (n2, dictE ep (n2L ns)) :: nodesL ns) pre l).symm
theorem sortSb1' (a : Addr × Shape) : Sb (a :: sortL sx sd n2 ep ns rd po fi l) (sortL sx sd n2 ep ns rd po fi (a :: l)) := sortSb' [a]
theorem sortSb2' (a b : Addr × Shape) : Sb (a :: b :: sortL sx sd n2 ep ns rd po fi l) (sortL sx sd n2 ep ns rd po fi (a :: b :: l)) := sortSb' [a, b]
theorem absG_len (ns : List Nd) : (absG ns).length = ns.length := by simp [absG]
theorem gnew_len (g : Gr) (k : Int) : (gnew g k).length ≤ g.length + 1 := by unfold gnew; split <;> simp
theorem gmod_len (g : Gr) (k : Int) (f) : (gmod g k f).length = g.length := by simp [gmod]
theorem enterKVD {P : Params} {C : Cx} {a : Addr} {m : Loc} {l : Led} {vs : List Value} {kw : List (Str × Value)} {Q E : Pv} (O : Ok (KK P) C) (F : FnK a) (hroom : C.A.depth < recursionLimit)
    (hb : ∀ vvs vkw, vvs.map un = vs → unK vkw = kw → T { C with A := C.A.in1 } unB m l (bindArgs (fdOf a) ⟨vvs, vkw⟩) (fun b m₁ l₁ => m₁ = m ∧ (b.all fun x => decide ((fdOf a).scope.names.lookup x.1 = some .local)) = true ∧
      ∀ L', TF (sub C (en a L')) b.reverse ((C.L, Frm m) :: l₁) (execs (bodyOf a) (en a L')) (RetQ C m Q) no) E)
    (hcell0 : ((fdOf a).scope.names.all fun x => x.2 != .cell) = true := by kernel_rfl)
    (hbody : (fdOf a).body = .stmts (bodyOf a) := by kernel_rfl) (hclo : (fdOf a).closure = [] := by kernel_rfl)
    (hco : (fdOf a).scope.isCoroutine = false := by kernel_rfl) (hgen : (fdOf a).scope.isGenerator = false := by kernel_rfl) (hk : (fdOf a).scope.kind = .function := by kernel_rfl) : TCd C m l (.ref a) vs kw Q E := by
  obtain ⟨oc, od, osl, h1, h2⟩ := F P
  exact enterV (O.X _ _ h1) rfl hbody hclo (codeRec_of O.X h2) O.lim hroom hb hcell0 hco hgen hk
theorem c_addD (O : Ok (KK P) C) (R : Room C.A 4) {k : Int} {ps : List Int} (hd : (keysOf ns).Nodup) (hz : ns.length ≤ 900000) (hpz : ps.length ≤ 1000) (hsz : gle (absG ns) 900000)
    (h : ∀ ep' ns', (keysOf ns').Nodup → absG ns' = addG (absG ns) k ps → Q .none m (sortL sx sd n2 ep' ns' .none po fi l)) :
    TCd C m (sortL sx sd n2 ep ns .none po fi l) (.ref 168) (.ref sx :: .int k 0 :: iL ps) [] Q E := by
  refine enterKVD O FF.c168.fk R.now ?_
  intro vvs vkw hv hk
  obtain rfl := kw0 hk
  obtain ⟨v, w, us, rfl, hv1, hv2, hv3⟩ : ∃ v w us, vvs = v :: w :: us ∧ un v = .ref sx ∧ un w = .int k 0 ∧ us.map un = iL ps := by
    match vvs, hv with
    | [_], hv => simp at hv
    | v :: w :: us, hv => simp only [List.map_cons, List.cons.injEq] at hv; exact ⟨v, w, us, rfl, hv.1, hv.2.1, hv.2.2⟩
  rw [bind168]
  have hul : us.length = ps.length := by have := congrArg List.length hv3; simpa [iL] using this
  refine bindT (f := fun t => [(Str.ofString "self", v), (Str.ofString "node", w), (Str.ofString "predecessors", t)]) (by lia) fun D => ⟨rfl, by rfl, fun L' => ?_⟩
  rw [show (unB [(Str.ofString "self", v), (Str.ofString "node", w), (Str.ofString "predecessors", Value.ref D)]).reverse = [(Str.ofString "predecessors", .ref D), (Str.ofString "node", .int k 0), (Str.ofString "self", .ref sx)] from by simp [unB, hv1, hv2, show un (Value.ref D) = .ref D from rfl], hv3]
  have O' := O.sub (en 168 L')
  have R' : Room (sub C (en 168 L')).A 3 := R.sub
  wtm_at "body"
  wtm_at "go"
  wtm_at "ats"
  wtm_at "go"
  wtm_at "tms"
  wtm_at "go"
  refine TCall.sb (sortSb2 _ _) (c_gni O' R' hd (by lia) fun ep' ns' p x q hns hx hd' habs => ?_)
  have hxm : x ∈ ns' := by rw [hns]; simp
  wtm_at "go"
  refine at_np O' (sort_node hxm (node_inst x)) (sort_node hxm (node_dict x)) ?_
  wtm_at "go"
  refine' f_len_tup ?mm ?hz ?_
  case mm => wtm_at "mem"
  case hz => rw [iL_len]; lia
  wtm_at "go"
  subst hns
  refine ts_np O' (sort_node hxm (node_dict x)) (.there (.there (.there (upd_np p q x _ _)))) ?_
  rw [iL_len]
  have hab2 := gmod_mid (p := p) (q := q) (x := x) (y := { x with np := x.np + (ps.length : Int) }) (f := fun z => (z.1 + ps.length, z.2)) hd' rfl rfl
  have hd2 : (keysOf (p ++ ({ x with np := x.np + (ps.length : Int) } : Nd) :: q)).Nodup := by rw [keys_mid]; exact hd'; rfl
  have hgl : gle (absG (p ++ ({ x with np := x.np + (ps.length : Int) } : Nd) :: q)) 900000 := by rw [hab2, habs]; exact gle_np (gle_new hsz k) _ (· + (ps.length : Int))
  have hl2 : (absG (p ++ ({ x with np := x.np + (ps.length : Int) } : Nd) :: q)).length ≤ ns.length + 1 := by rw [hab2, gmod_len, habs, ← absG_len]; exact gnew_len _ _
  rw [show n2L (p ++ x :: q) = n2L (p ++ ({ x with np := x.np + (ps.length : Int) } : Nd) :: q) from by simp [n2L]]
  generalize (p ++ ({ x with np := x.np + (ps.length : Int) } : Nd) :: q) = ns1 at hab2 hd2 hgl hl2 ⊢
  rw [habs, hx] at hab2
  wtm_at "go"
  refine' for_tup ?mm R.handled (fun i m₁ l₁ => ∃ ep ns2, m₁ = [(Str.ofString "predecessors", .ref D), (Str.ofString "node", .int k 0), (Str.ofString "self", .ref sx)] ∧
    l₁ = sortL sx sd n2 ep ns2 .none po fi ((C.L, Frm m) :: (D, tupS (iL ps)) :: l) ∧ (keysOf ns2).Nodup ∧ gle (absG ns2) (900000 + i) ∧ ns2.length ≤ 900001 + i ∧
    absG ns2 = (ps.take i).foldl (fun g p => gmod (gnew g p) p fun x => (x.1, x.2 ++ [k])) (gmod (gnew (absG ns) k) k fun z => (z.1 + ps.length, z.2))) ?fg ?sb ?hS ?h0 ?turn ?fin
  case h0 => exact ⟨ep', ns1, rfl, rfl, hd2, hgl, by rw [← absG_len]; lia, by simpa using hab2⟩
  case fg => wtm_at "fg"
  case sb => exact Sb.refl
  case mm => wtm_at "mem"
  case hS => rintro i m₁ l₁ ⟨ep, ns2, rfl, rfl, _⟩; wtm_at "mem"
  case turn =>
    rintro it P i v m₁ l₁ hv ⟨ep2, ns2, rfl, rfl, hdn, hgl2, hln, hab⟩
    obtain ⟨pr, hpr, rfl⟩ : ∃ pr, ps[i]? = some pr ∧ v = .int pr 0 := by
      unfold iL at hv
      simp only [List.getElem?_map, Option.map_eq_some_iff] at hv
      obtain ⟨c, h1, rfl⟩ := hv
      exact ⟨c, h1, rfl⟩
    have hi : i < ps.length := (List.getElem?_eq_some_iff.mp hpr).1
    wtm_at "go"
    wtm_at "tms"
    wtm_at "go"
    refine TCall.sb (sortSb1 _) (c_gni O' R' hdn (by lia) fun ep3 ns3 p3 x3 q3 hns3 hx3 hd3 hab3 => ?_)
    have hxm3 : x3 ∈ ns3 := by rw [hns3]; simp
    have hsl : x3.succ.length ≤ 900000 + i := gle_of (by rw [hab3]; exact gle_new hgl2 _) hxm3
    wtm_at "go"
    refine at_succ O' (sort_node hxm3 (node_inst x3)) (sort_node hxm3 (node_dict x3)) ?_
    wtm_at "go"
    refine tm_append (vs := iL x3.succ) (sort_node hxm3 (node_succ x3)) ?_
    wtm_at "go"
    subst hns3
    refine m_append (vs := iL x3.succ) (l' := sortL sx sd n2 ep3 (p3 ++ ({ x3 with succ := x3.succ ++ [k] } : Nd) :: q3) .none po fi ((it, P) :: (C.L, Frm m) :: (D, tupS (iL ps)) :: l)) ?_ (by rw [iL_len]; lia) ?_
    · have := upd_succ p3 q3 x3 (x3.succ ++ [k]) ((it, P) :: (C.L, Frm m) :: (D, tupS (iL ps)) :: l)
      rw [iL_append] at this
      dsimp only [sortL]
      rw [show n2L (p3 ++ ({ x3 with succ := x3.succ ++ [k] } : Nd) :: q3) = n2L (p3 ++ x3 :: q3) from by simp [n2L]]
      exact .there (.there (.there this))
    wtm_at "go"
    have hab4 := gmod_mid (p := p3) (q := q3) (x := x3) (y := { x3 with succ := x3.succ ++ [k] }) (f := fun z => (z.1, z.2 ++ [k])) hd3 rfl rfl
    refine' loop_next ?fg ?sb ⟨ep3, (p3 ++ ({ x3 with succ := x3.succ ++ [k] } : Nd) :: q3), rfl, rfl, ?_⟩
    case fg => wtm_at "fg"
    case sb => exact sortSb1' _
    refine ⟨by rw [keys_mid]; exact hd3; rfl, ?_, ?_, ?_⟩
    · rw [hab4, hab3]; exact gle_mod (gle_new hgl2 _) _ _
    · rw [← absG_len, hab4, gmod_len, hab3]
      have := gnew_len (absG ns2) pr
      rw [absG_len] at this
      lia
    · rw [hab4, hab3, hab, hx3, List.take_succ, hpr]
      simp
  case fin =>
    rintro m₁ l₁ ⟨ep2, ns2, rfl, rfl, hdn, hgl2, hln, hab⟩
    wtm_at "go"
    refine next_end ?_ (h ep2 ns2 hdn ?_)
    · exact Sb.trans (Sb.take Ext.one (Sb.drop Sb.refl)) (sortSb2' _ _)
    · rw [hab, iL_len, List.take_length]; rfl
end
end
local macro_rules | `(tactic| wtm_at "ats") => `(tactic| (refine' at_ts (by wtm_at "ok") (by with_unfolding_all kernel_rfl) ?m1 ?m2 ?lk ?hh ?_; wtm_at "m12"; (case lk => wtm_at "look"); (case hh => first | rfl | assumption)))
local macro_rules | `(tactic| wtm_at "tms") => `(tactic| first
  | (with_reducible refine' tm_161 (by wtm_at "ok") ?m1 ?m2 ?lk ?_; wtm_at "m12"; (case lk => with_unfolding_all rfl))
  | (with_reducible refine' tm_173 (by wtm_at "ok") ?m1 ?m2 ?lk ?_; wtm_at "m12"; (case lk => with_unfolding_all rfl))
  | (with_reducible refine' tm_180 (by wtm_at "ok") ?m1 ?m2 ?lk ?_; wtm_at "m12"; (case lk => with_unfolding_all rfl))
  | (with_reducible refine' tm_187 (by wtm_at "ok") ?m1 ?m2 ?lk ?_; wtm_at "m12"; (case lk => with_unfolding_all rfl))
  | (with_reducible refine' tm_208 (by wtm_at "ok") ?m1 ?m2 ?lk ?_; wtm_at "m12"; (case lk => with_unfolding_all rfl)))
section
set_option Elab.async false
set_option linter.all false
set_option maxRecDepth 100000
set_option maxHeartbeats 1000000
section
variable {P : Params} {C : Cx} {m : Loc} {l l' : Led} {Q E : Pv} {sx sd n2 ra : Addr} {ep : Nat} {ns : List Nd} {rd : Value} {po fi : Int} {rs : List Int}
theorem e_OUT {env : Env} {pos : Pos} (O : Ok (KK P) C) (h : Q (.int (-1) 0) m l) (hk : env.scope.kind = .function := by with_unfolding_all rfl) (hx : env.kindOf (Str.ofString "_NODE_OUT") = some .globalImplicit := by with_unfolding_all rfl)
    (hg : env.globals = mainGlobals := by with_unfolding_all rfl) : TV C m l (eval (.Name (Str.ofString "_NODE_OUT") pos) env) Q E := by
  obtain ⟨t, e⟩ := gl_XNODEXOUT (P := P)
  exact e_glob O e h hk hx hg (by decide)
theorem e_DONE {env : Env} {pos : Pos} (O : Ok (KK P) C) (h : Q (.int (-2) 0) m l) (hk : env.scope.kind = .function := by with_unfolding_all rfl) (hx : env.kindOf (Str.ofString "_NODE_DONE") = some .globalImplicit := by with_unfolding_all rfl)
    (hg : env.globals = mainGlobals := by with_unfolding_all rfl) : TV C m l (eval (.Name (Str.ofString "_NODE_DONE") pos) env) Q E := by
  obtain ⟨t, e⟩ := gl_XNODEXDONE (P := P)
  exact e_glob O e h hk hx hg (by decide)
set_option hygiene false
local macro_rules | `(tactic| wtm_at "user") => `(tactic| first | with_reducible refine e_OUT (by wtm_at "ok") ?_ | with_reducible refine e_DONE (by wtm_at "ok") ?_)
set_option hygiene true
theorem c_is_active (O : Ok (KK P) C) (R : Room C.A 1) (hz : rs.length ≤ 1000000) (h : Q (.bool (decide (fi < po) || !rs.isEmpty)) m (sortL sx sd n2 ep ns (.ref ra) po fi ((ra, listS (iL rs)) :: l))) :
    TCall C m (sortL sx sd n2 ep ns (.ref ra) po fi ((ra, listS (iL rs)) :: l)) (.ref 187) [.ref sx] [] Q E := by
  refine enterK (bs := [(Str.ofString "self", .ref sx)]) (m' := [(Str.ofString "self", .ref sx)]) O FF.c187.fk R.now ?_
  intro vvs vkw hv hk
  obtain ⟨v, rfl, hv1⟩ := map1 hv
  obtain rfl := kw0 hk
  refine T.pure (a := [(Str.ofString "self", v)]) ⟨by simp [unB, hv1], rfl, fun L' => ?_⟩
  have O' := O.sub (en 187 L')
  wtm_at "body"
  wtm_at "go"
  wtm_at "ats"
  wtm_at "go"
  wtm_at "ats"
  wtm_at "go"
  wtm_at "ats"
  wtm_at "go"
  refine Br.dec (fun hb => ?_) (fun hb => ?_)
  · wtm_at "go"
    rw [decide_eq_true hb] at h ⊢
    exact ret_end Sb.refl h
  · wtm_at "go"
    wtm_at "ats"
    wtm_at "go"
    refine' f_bool_list (vs := iL rs) ?mm (by rw [iL_len]; lia) ?_
    case mm => wtm_at "mem"
    wtm_at "go"
    rw [decide_eq_false hb] at h
    exact ret_end Sb.refl (by simpa [iL] using h)
theorem c_get_ready (O : Ok (KK P) C) (R : Room C.A 1) (hz : rs.length ≤ 1000000) (hd : (keysOf ns).Nodup) (hk : ∀ k ∈ rs, k ∈ keysOf ns)
    (h : ∀ t ns', (keysOf ns').Nodup → absG ns' = outG (absG ns) rs → Q (.ref t) m ((t, tupS (iL rs)) :: sortL sx sd n2 ep ns' (.ref ra) (po + rs.length) fi ((ra, listS []) :: l))) :
    TCall C m (sortL sx sd n2 ep ns (.ref ra) po fi ((ra, listS (iL rs)) :: l)) (.ref 180) [.ref sx] [] Q E := by
  refine enterK (bs := [(Str.ofString "self", .ref sx)]) (m' := [(Str.ofString "self", .ref sx)]) O FF.c180.fk R.now ?_
  intro vvs vkw hv hk'
  obtain ⟨v, rfl, hv1⟩ := map1 hv
  obtain rfl := kw0 hk'
  refine T.pure (a := [(Str.ofString "self", v)]) ⟨by simp [unB, hv1], rfl, fun L' => ?_⟩
  have O' := O.sub (en 180 L')
  wtm_at "body"
  wtm_at "go"
  wtm_at "ats"
  wtm_at "go"
  wtm_at "ats"
  wtm_at "go"
  refine' f_tuple (vs := iL rs) ?mm (by rw [iL_len]; lia) fun t => ?_
  case mm => wtm_at "mem"
  wtm_at "go"
  wtm_at "ats"
  wtm_at "go"
  refine' for_tup (vs := iL rs) ?mm R.handled (fun i m₁ l₁ => ∃ ns2, m₁ = [(Str.ofString "self", .ref sx), (Str.ofString "result", .ref t), (Str.ofString "n2i", .ref n2)] ∧
    l₁ = (t, tupS (iL rs)) :: (C.L, Frm m) :: sortL sx sd n2 ep ns2 (.ref ra) po fi ((ra, listS (iL rs)) :: l) ∧ (keysOf ns2).Nodup ∧ absG ns2 = outG (absG ns) (rs.take i)) ?fg ?sb ?hS ?h0 ?turn ?fin
  case h0 => exact ⟨ns, rfl, rfl, hd, by simp [outG]⟩
  case fg => wtm_at "fg"
  case sb => exact Sb.refl
  case mm => wtm_at "mem"
  case hS => rintro i m₁ l₁ ⟨ns2, rfl, rfl, _⟩; wtm_at "mem"
  case turn =>
    rintro it P i v m₁ l₁ hv ⟨ns2, rfl, rfl, hdn, hab⟩
    obtain ⟨pr, hpr, rfl⟩ : ∃ pr, rs[i]? = some pr ∧ v = .int pr 0 := by
      unfold iL at hv
      simp only [List.getElem?_map, Option.map_eq_some_iff] at hv
      obtain ⟨c, h1, rfl⟩ := hv
      exact ⟨c, h1, rfl⟩
    have hpk : pr ∈ keysOf ns2 := by
      rw [← absG_keys, hab, gkeys_out, absG_keys]
      exact hk pr (List.mem_of_getElem? hpr)
    obtain ⟨p2, x2, q2, rfl, hx2⟩ := split_key hpk
    have hxm : x2 ∈ p2 ++ x2 :: q2 := by simp
    subst hx2
    wtm_at "go"
    refine' sd_get (kvs := n2L (p2 ++ x2 :: q2)) ?mm (val_mid hdn) ?_
    case mm => wtm_at "mem"
    refine ts_np O' (List.mem_cons_of_mem _ (List.mem_cons_of_mem _ (List.mem_cons_of_mem _ (sort_node hxm (node_dict x2))))) (.there (.there (.there (.there (.there (.there (upd_np p2 q2 x2 (-1) _))))))) ?_
    wtm_at "go"
    have hab4 := gmod_mid (p := p2) (q := q2) (x := x2) (y := { x2 with np := -1 }) (f := fun z => (-1, z.2)) hdn rfl rfl
    refine' loop_next ?fg ?sb ⟨p2 ++ ({ x2 with np := -1 } : Nd) :: q2, rfl, rfl, ?_⟩
    case fg => wtm_at "fg"
    case sb =>
      dsimp only [sortL]
      rw [show n2L (p2 ++ ({ x2 with np := -1 } : Nd) :: q2) = n2L (p2 ++ x2 :: q2) from by simp [n2L]]
      exact Sb.refl
    refine ⟨by rw [keys_mid]; exact hdn; rfl, ?_⟩
    rw [hab4, hab, List.take_succ, hpr]
    unfold outG
    simp
  case fin =>
    rintro m₁ l₁ ⟨ns2, rfl, rfl, hdn, hab⟩
    wtm_at "go"
    wtm_at "ats"
    refine' tm_clear (vs := iL rs) ?mm ?_
    case mm => wtm_at "mem"
    wtm_at "go"
    refine' m_clear (vs := iL rs) ?u (by rw [iL_len]; lia) ?_
    case u => wtm_at "upd"
    wtm_at "go"
    wtm_at "ats"
    wtm_at "go"
    refine' f_len_tup (vs := iL rs) ?mm (by rw [iL_len]; lia) ?_
    case mm => wtm_at "mem"
    wtm_at "go"
    refine' ts_ts O' (by with_unfolding_all kernel_rfl) ?m1 ?u ?pp ?hz ?_
    case u => wtm_at "upd"
    case m1 => wtm_at "mem"
    case pp => wtm_at "put"
    case hz => simp
    wtm_at "go"
    rw [iL_len] at hab ⊢
    rw [List.take_length] at hab
    exact ret_end (by wtm_at "sb") (h t ns2 hdn hab)
end
end
section
set_option Elab.async false
set_option linter.all false
set_option maxRecDepth 100000
set_option maxHeartbeats 1000000
set_option hygiene false
local macro_rules | `(tactic| wtm_at "user") => `(tactic| first | with_reducible refine e_OUT (by wtm_at "ok") ?_ | with_reducible refine e_DONE (by wtm_at "ok") ?_)
set_option hygiene true
section
variable {P : Params} {C : Cx} {m : Loc} {l l' : Led} {Q E : Pv} {sx sd n2 ra : Addr} {ep : Nat} {ns : List Nd} {rd : Value} {po fi : Int} {rs : List Int}
noncomputable abbrev dnI (cL D sx n2 sd ra : Addr) (ep : Nat) (po fi : Int) (ns : List Nd) (rs ks : List Int) (m : Loc) (l : Led) (i : Nat) (m₁ : Loc) (l₁ : Led) : Prop :=
  ∃ ns2 rs2 f2, m₁ = [(Str.ofString "nodes", .ref D), (Str.ofString "self", .ref sx), (Str.ofString "n2i", .ref n2)] ∧
    l₁ = (D, tupS (iL ks)) :: (cL, Frm m) :: sortL sx sd n2 ep ns2 (.ref ra) po f2 ((ra, listS (iL rs2)) :: l) ∧ f2 = fi + i ∧ (keysOf ns2).Nodup ∧ rs2.length ≤ 1000 + 1000 * i ∧ (absG ns2, rs2) = doneAll (absG ns, rs) (ks.take i)
noncomputable abbrev dnJ (cL D sx n2 sd ra : Addr) (ep : Nat) (po f2 : Int) (kk : List Int) (ns3 : List Nd) (rs2 ks : List Int) (m : Loc) (l : Led) (it : Addr) (P : Shape) (sa : Addr) (sc : List Int) (i j : Nat) (m₁ : Loc) (l₁ : Led) : Prop :=
  ∃ ns4 rs4, m₁ = [(Str.ofString "nodes", .ref D), (Str.ofString "self", .ref sx), (Str.ofString "n2i", .ref n2)] ∧
      l₁ = (it, P) :: (D, tupS (iL ks)) :: (cL, Frm m) :: sortL sx sd n2 ep ns4 (.ref ra) po f2 ((ra, listS (iL rs4)) :: l) ∧ (keysOf ns4).Nodup ∧ keysOf ns4 = kk ∧ rs4.length ≤ 1000 + 1000 * i + j ∧ (∃ y ∈ ns4, y.sa = sa ∧ y.succ = sc) ∧
      (absG ns4, rs4) = (sc.take j).foldl dcr (absG ns3, rs2)
theorem c_doneD (O : Ok (KK P) C) (R : Room C.A 1) {ks : List Int} (hz : rs.length ≤ 1000) (hkz : ks.length ≤ 1000) (hd : (keysOf ns).Nodup) (hk : ∀ k ∈ ks, k ∈ keysOf ns) (hcl : gcl (absG ns)) (hgl : gle (absG ns) 1000)
    (hout : ∀ i k, ks[i]? = some k → (gat (doneAll (absG ns, rs) (ks.take i)).1 k).1 = -1)
    (h : ∀ ns' rs', (keysOf ns').Nodup → (absG ns', rs') = doneAll (absG ns, rs) ks → Q .none m (sortL sx sd n2 ep ns' (.ref ra) po (fi + ks.length) ((ra, listS (iL rs')) :: l))) :
    TCd C m (sortL sx sd n2 ep ns (.ref ra) po fi ((ra, listS (iL rs)) :: l)) (.ref 201) (.ref sx :: iL ks) [] Q E := by
  refine enterKVD O FF.c201.fk R.now ?_
  intro vvs vkw hv hk'
  obtain rfl := kw0 hk'
  obtain ⟨v, us, rfl, hv1, hv3⟩ : ∃ v us, vvs = v :: us ∧ un v = .ref sx ∧ us.map un = iL ks := by
    match vvs, hv with
    | v :: us, hv => simp only [List.map_cons, List.cons.injEq] at hv; exact ⟨v, us, rfl, hv.1, hv.2⟩
  rw [bind201]
  have hul : us.length = ks.length := by have := congrArg List.length hv3; simpa [iL] using this
  refine bindT (f := fun t => [(Str.ofString "self", v), (Str.ofString "nodes", t)]) (by lia) fun D => ⟨rfl, by rfl, fun L' => ?_⟩
  rw [show (unB [(Str.ofString "self", v), (Str.ofString "nodes", Value.ref D)]).reverse = [(Str.ofString "nodes", .ref D), (Str.ofString "self", .ref sx)] from by simp [unB, hv1, show un (Value.ref D) = .ref D from rfl], hv3]
  have O' := O.sub (en 201 L')
  wtm_at "body"
  wtm_at "go"
  wtm_at "ats"
  wtm_at "go"
  wtm_at "ats"
  wtm_at "go"
  refine' for_tup (vs := iL ks) ?mm R.handled (dnI C.L D sx n2 sd ra ep po fi ns rs ks m l) ?fg ?sb ?hS ?h0 ?turn ?fin
  case h0 => exact ⟨ns, rs, fi, rfl, rfl, by simp, hd, by lia, by simp [doneAll]⟩
  case fg => wtm_at "fg"
  case sb => exact Sb.trans (Sb.take (Ext.skip Ext.one) (Sb.take Ext.one Sb.refl)) Sb.refl
  case mm => wtm_at "mem"
  case hS => rintro i m₁ l₁ ⟨ns2, rs2, f2, rfl, rfl, _⟩; wtm_at "mem"
  case turn =>
    rintro it P i v m₁ l₁ hv ⟨ns2, rs2, f2, rfl, rfl, hf2, hdn, hrl, hab⟩
    obtain ⟨pr, hpr, rfl⟩ : ∃ pr, ks[i]? = some pr ∧ v = .int pr 0 := by
      unfold iL at hv
      simp only [List.getElem?_map, Option.map_eq_some_iff] at hv
      obtain ⟨c, h1, rfl⟩ := hv
      exact ⟨c, h1, rfl⟩
    have hi : i < ks.length := (List.getElem?_eq_some_iff.mp hpr).1
    have hab1 : absG ns2 = (doneAll (absG ns, rs) (ks.take i)).1 := (congrArg Prod.fst hab)
    have hkeys : keysOf ns2 = keysOf ns := by rw [← absG_keys, ← absG_keys, hab1, gkeys_doneAll]
    have hcl2 : gcl (absG ns2) := by rw [hab1]; exact gcl_doneAll _ _ hcl
    have hgl2 : gle (absG ns2) 1000 := by rw [hab1]; exact gle_doneAll _ _ hgl
    have hpk : pr ∈ keysOf ns2 := by rw [hkeys]; exact hk pr (List.mem_of_getElem? hpr)
    have hnp := hout i pr hpr
    rw [← hab1] at hnp
    obtain ⟨p2, x2, q2, rfl, hx2⟩ := split_key hpk
    have hxm : x2 ∈ p2 ++ x2 :: q2 := by simp
    subst hx2
    rw [gat_mid hdn] at hnp
    simp only at hnp
    wtm_at "go"
    refine' tm_get (kvs := n2L (p2 ++ x2 :: q2)) ?mm ?_
    case mm => wtm_at "mem"
    wtm_at "go"
    refine' m_get (kvs := n2L (p2 ++ x2 :: q2)) O' ?mm ?_
    case mm => wtm_at "mem"
    rw [val_mid hdn, show (some (Value.ref x2.na)).getD .none = .ref x2.na from rfl]
    wtm_at "go"
    refine at_np O' (List.mem_cons_of_mem _ (List.mem_cons_of_mem _ (List.mem_cons_of_mem _ (sort_node hxm (node_inst x2))))) (List.mem_cons_of_mem _ (List.mem_cons_of_mem _ (List.mem_cons_of_mem _ (sort_node hxm (node_dict x2))))) ?_
    wtm_at "go"
    refine Br.nei (fun hb => absurd hnp hb) (fun _ => ?_)
    wtm_at "go"
    refine ts_np O' (List.mem_cons_of_mem _ (List.mem_cons_of_mem _ (List.mem_cons_of_mem _ (sort_node hxm (node_dict x2))))) (.there (.there (.there (.there (.there (.there (upd_np p2 q2 x2 (-2) _))))))) ?_
    have hab3 := gmod_mid (p := p2) (q := q2) (x := x2) (y := { x2 with np := -2 }) (f := fun z => (-2, z.2)) hdn rfl rfl
    rw [← n2L_np p2 q2 x2 (-2)]
    have hdn3 : (keysOf (p2 ++ ({ x2 with np := -2 } : Nd) :: q2)).Nodup := by rw [keys_mid]; exact hdn; rfl
    have hk3 : keysOf (p2 ++ ({ x2 with np := -2 } : Nd) :: q2) = keysOf ns := by rw [← hkeys]; exact keys_mid _ _ _ _ rfl
    have hxm3 : ({ x2 with np := -2 } : Nd) ∈ p2 ++ ({ x2 with np := -2 } : Nd) :: q2 := by simp
    have hsk : ∀ s ∈ x2.succ, s ∈ keysOf ns := fun s hs => by
      rw [← hkeys, ← absG_keys]
      exact hcl2 _ (List.mem_map_of_mem (f := fun x : Nd => (x.key, x.np, x.succ)) hxm) s hs
    have hsl : x2.succ.length ≤ 1000 := gle_of hgl2 hxm
    have hdone : doneAll (absG ns, rs) (ks.take (i + 1)) = x2.succ.foldl dcr (absG (p2 ++ ({ x2 with np := -2 } : Nd) :: q2), rs2) := by
      unfold doneAll
      rw [List.take_succ, hpr, List.foldl_append]
      show doneK (doneAll (absG ns, rs) (ks.take i)) x2.key = _
      rw [← hab]
      unfold doneK
      rw [gat_mid hdn, hab3]
    have hy3 : ∃ y ∈ p2 ++ ({ x2 with np := -2 } : Nd) :: q2, y.sa = x2.sa ∧ y.succ = x2.succ := ⟨_, hxm3, rfl, rfl⟩
    generalize hgen : p2 ++ ({ x2 with np := -2 } : Nd) :: q2 = ns3 at hdn3 hk3 hxm3 hdone hy3 ⊢
    wtm_at "go"
    refine at_succ (x := ({ x2 with np := -2 } : Nd)) O' (List.mem_cons_of_mem _ (List.mem_cons_of_mem _ (List.mem_cons_of_mem _ (sort_node hxm3 (node_inst _))))) (List.mem_cons_of_mem _ (List.mem_cons_of_mem _ (List.mem_cons_of_mem _ (sort_node hxm3 (node_dict _))))) ?_
    show TIt _ _ _ (.ref x2.sa) _ _
    refine' for_list (a := x2.sa) (vs := iL x2.succ) ?mm R.handled (dnJ C.L D sx n2 sd ra ep po f2 (keysOf ns) ns3 rs2 ks m l it P x2.sa x2.succ i) ?fg ?sb ?hS ?h0 ?turn4 ?fin4
    case h0 => exact ⟨ns3, rs2, rfl, rfl, hdn3, hk3, by lia, hy3, by simp⟩
    case fg => wtm_at "fg"
    case sb => exact Sb.refl
    case mm =>
      obtain ⟨y, hy, h1, h2⟩ := hy3
      rw [← h1, ← h2]
      exact List.mem_cons_of_mem _ (List.mem_cons_of_mem _ (List.mem_cons_of_mem _ (sort_node hy (node_succ y))))
    case hS =>
      rintro j m₁ l₁ ⟨ns4, rs4, rfl, rfl, _, _, _, ⟨y, hy, h1, h2⟩, _⟩
      rw [← h1, ← h2]
      exact List.mem_cons_of_mem _ (List.mem_cons_of_mem _ (List.mem_cons_of_mem _ (sort_node hy (node_succ y))))
    case turn4 =>
      rintro it4 P4 j v m₁ l₁ hv4 ⟨ns4, rs4, rfl, rfl, hdn4, hk4, hrl4, hy4, hab4⟩
      obtain ⟨s, hs, rfl⟩ : ∃ s, x2.succ[j]? = some s ∧ v = .int s 0 := by
        unfold iL at hv4
        simp only [List.getElem?_map, Option.map_eq_some_iff] at hv4
        obtain ⟨c, h1, rfl⟩ := hv4
        exact ⟨c, h1, rfl⟩
      have hj : j < x2.succ.length := (List.getElem?_eq_some_iff.mp hs).1
      have hsk4 : s ∈ keysOf ns4 := by rw [hk4]; exact hsk s (List.mem_of_getElem? hs)
      obtain ⟨p4, x4, q4, rfl, hx4⟩ := split_key hsk4
      have hxm4 : x4 ∈ p4 ++ x4 :: q4 := by simp
      subst hx4
      wtm_at "go"
      refine' sd_get (kvs := n2L (p4 ++ x4 :: q4)) ?mm (val_mid hdn4) ?_
      case mm => wtm_at "mem"
      wtm_at "go"
      refine at_np O' (List.mem_cons_of_mem _ (List.mem_cons_of_mem _ (List.mem_cons_of_mem _ (List.mem_cons_of_mem _ (sort_node hxm4 (node_inst x4)))))) (List.mem_cons_of_mem _ (List.mem_cons_of_mem _ (List.mem_cons_of_mem _ (List.mem_cons_of_mem _ (sort_node hxm4 (node_dict x4)))))) ?_
      wtm_at "go"
      refine ts_np O' (List.mem_cons_of_mem _ (List.mem_cons_of_mem _ (List.mem_cons_of_mem _ (List.mem_cons_of_mem _ (sort_node hxm4 (node_dict x4)))))) (.there (.there (.there (.there (.there (.there (.there (upd_np p4 q4 x4 (x4.np - 1) _)))))))) ?_
      rw [← n2L_np p4 q4 x4 (x4.np - 1)]
      have hab5 := gmod_mid (p := p4) (q := q4) (x := x4) (y := { x4 with np := x4.np - 1 }) (f := fun z => (z.1 - 1, z.2)) hdn4 rfl rfl
      have hxm5 : ({ x4 with np := x4.np - 1 } : Nd) ∈ p4 ++ ({ x4 with np := x4.np - 1 } : Nd) :: q4 := by simp
      have hstep : (x2.succ.take (j + 1)).foldl dcr (absG ns3, rs2) = (absG (p4 ++ ({ x4 with np := x4.np - 1 } : Nd) :: q4), if x4.np - 1 = 0 then rs4 ++ [x4.key] else rs4) := by
        rw [List.take_succ, hs, List.foldl_append, ← hab4, hab5]
        show dcr _ _ = _
        unfold dcr
        rw [gat_mid hdn4]
      have hdn5 : (keysOf (p4 ++ ({ x4 with np := x4.np - 1 } : Nd) :: q4)).Nodup := by rw [keys_mid]; exact hdn4; rfl
      have hk5 : keysOf (p4 ++ ({ x4 with np := x4.np - 1 } : Nd) :: q4) = keysOf ns := by rw [← hk4]; exact keys_mid _ _ _ _ rfl
      have hy5 := keepsucc (v := x4.np - 1) hy4
      generalize hgen5 : p4 ++ ({ x4 with np := x4.np - 1 } : Nd) :: q4 = ns5 at hdn5 hk5 hxm5 hstep hy5 ⊢
      wtm_at "go"
      refine at_np (x := ({ x4 with np := x4.np - 1 } : Nd)) O' (List.mem_cons_of_mem _ (List.mem_cons_of_mem _ (List.mem_cons_of_mem _ (List.mem_cons_of_mem _ (sort_node hxm5 (node_inst _)))))) (List.mem_cons_of_mem _ (List.mem_cons_of_mem _ (List.mem_cons_of_mem _ (List.mem_cons_of_mem _ (sort_node hxm5 (node_dict _)))))) ?_
      show TV _ _ _ _ _ _
      wtm_at "go"
      refine Br.eqi (fun hb => ?_) (fun hb => ?_)
      · wtm_at "go"
        wtm_at "ats"
        refine' tm_append (vs := iL rs4) ?mm ?_
        case mm => wtm_at "mem"
        wtm_at "go"
        refine' m_append (vs := iL rs4) ?u (by rw [iL_len]; lia) ?_
        case u => wtm_at "upd"
        wtm_at "go"
        rw [show iL rs4 ++ [Value.int x4.key 0] = iL (rs4 ++ [x4.key]) from by simp [iL]]
        refine' loop_next ?fg ?sb ⟨ns5, rs4 ++ [x4.key], rfl, rfl, hdn5, hk5, by simp; lia, hy5, by rw [hstep, if_pos hb]⟩
        case fg => wtm_at "fg"
        case sb => exact Sb.refl
      · wtm_at "go"
        refine' loop_next ?fg ?sb ⟨ns5, rs4, rfl, rfl, hdn5, hk5, by lia, hy5, by rw [hstep, if_neg hb]⟩
        case fg => wtm_at "fg"
        case sb => exact Sb.refl
    case fin4 =>
      rintro m₁ l₁ ⟨ns4, rs4, rfl, rfl, hdn4, hk4, hrl4, hy4, hab4⟩
      rw [iL_len] at hrl4 hab4
      rw [List.take_length, ← hdone] at hab4
      wtm_at "go"
      wtm_at "ats"
      wtm_at "go"
      refine' ts_ts O' (by with_unfolding_all kernel_rfl) ?m1 ?u ?pp ?hz ?_
      case u => wtm_at "upd"
      case m1 => wtm_at "mem"
      case pp => wtm_at "put"
      case hz => simp
      wtm_at "go"
      refine' loop_next ?fg ?sb ⟨ns4, rs4, f2 + 1, rfl, rfl, by rw [hf2]; push_cast; lia, hdn4, by lia, hab4⟩
      case fg => wtm_at "fg"
      case sb => exact Sb.refl
  case fin =>
    rintro m₁ l₁ ⟨ns2, rs2, f2, rfl, rfl, hf2, hdn, hrl, hab⟩
    rw [iL_len] at hf2 hab
    rw [List.take_length] at hab
    wtm_at "go"
    subst hf2
    exact next_end (by wtm_at "sb") (h ns2 rs2 hdn hab)
end
end
set_option hygiene false
local macro_rules | `(tactic| wtm_at "tf") => `(tactic| ((with_reducible show TF _ _ _ (exec (Stmt.Expr _ _) _) _ _); with_reducible refine x_exprR ?_))
local macro_rules | `(tactic| wtm_at "tf") => `(tactic| ((with_reducible show TF _ _ _ (exec (Stmt.Try _ _ _ _ _) _) _ _); with_reducible refine x_try ?_))
local macro_rules | `(tactic| wtm_at "tv") => `(tactic| ((with_reducible show TV _ _ _ (eval (Expr.Call (Expr.Subscript _ _ _) [] [] _) _) _ _); with_reducible refine e_callmw ?_))
local macro_rules | `(tactic| wtm_at "tv") => `(tactic| with_reducible (first | refine e_slice ?_ | refine p_none ?_ | refine p_some ?_))
local macro_rules | `(tactic| wtm_at "asC") => `(tactic| refine x_assignC (cl := []) (by with_unfolding_all rfl) (by with_unfolding_all rfl) (by with_unfolding_all rfl) (by decide +kernel) ?_)
local macro_rules | `(tactic| wtm_at "eC") => `(tactic| refine e_comp (cl := []) (by with_unfolding_all rfl) (by with_unfolding_all rfl) (by decide +kernel) ?_)
local macro_rules | `(tactic| wtm_at "op") => `(tactic| with_reducible (((show TB _ _ _ _ _ _ _ _); first | refine i_mul (IntMulOk.of_right (by decide)) ?_ | refine i_mul (IntMulOk.of_left (by decide)) ?_)))
set_option hygiene true
section
set_option Elab.async false
set_option linter.all false
set_option maxRecDepth 100000
set_option maxHeartbeats 1000000
/-! ## _find_cycle -/
structure Lv where
  key : Int
  i : Nat
  mw : Addr
  it : Addr
  sa : Addr
noncomputable def lvL (x : Lv) : Led := [(x.mw, mwS x.it), (x.it, litS x.sa x.i)]
noncomputable def lvsL (rs : List Lv) : Led := rs.flatMap lvL
noncomputable def lvK (rs : List Lv) : List (Int × Nat) := rs.map fun x => (x.key, x.i)
noncomputable def lkeys (rs : List Lv) : List Int := rs.map (·.key)
noncomputable def lmws (rs : List Lv) : List Value := rs.map fun x => .ref x.mw
noncomputable def scG (g : Gr) (k : Int) : List Int := (gat g k).2
noncomputable def idxP : List Int → List (Int × Value)
  | [] => []
  | k :: r => idxP r ++ [(k, .int r.length 0)]
theorem kys_lvK (rs : List Lv) : kys (lvK rs) = lkeys rs := by simp [kys, lvK, lkeys]
theorem idx_val : ∀ {rs : List Int} {a b : List Int} {k : Int}, rs = a ++ k :: b → rs.Nodup → valueAt (idxP rs) k = some (.int b.length 0)
  | [], a, b, k, e, _ => by simp at e
  | x :: r, [], b, k, e, hn => by
    simp only [List.nil_append, List.cons.injEq] at e
    obtain ⟨rfl, rfl⟩ := e
    unfold idxP valueAt
    rw [List.find?_append]
    have : (idxP r).find? (fun p => decide (p.1 = x)) = none := by
      rw [List.find?_eq_none]
      have hx := (List.nodup_cons.mp hn).1
      have key : ∀ (r : List Int) (p : Int × Value), p ∈ idxP r → p.1 ∈ r := by
        intro r
        induction r with
        | nil => intro p hp; simp [idxP] at hp
        | cons y r ih =>
          intro p hp
          rcases List.mem_append.mp hp with h | h
          · exact .tail _ (ih p h)
          · simp at h; subst h; exact .head _
      intro p hp
      have := key r p hp
      simp only [decide_eq_true_eq]
      exact fun e => hx (e ▸ this)
    rw [this]
    simp
  | x :: r, y :: a, b, k, e, hn => by
    simp only [List.cons_append, List.cons.injEq] at e
    obtain ⟨rfl, rfl⟩ := e
    have ih := idx_val (rs := a ++ k :: b) rfl (List.nodup_cons.mp hn).2
    unfold idxP valueAt
    rw [List.find?_append]
    unfold valueAt at ih
    cases h : (idxP (a ++ k :: b)).find? (fun p => decide (p.1 = k)) with
    | none => rw [h] at ih; cases ih
    | some p => rw [h] at ih; simpa using ih
theorem idx_key : ∀ (r : List Int) (p : Int × Value), p ∈ idxP r → p.1 ∈ r := by
  intro r
  induction r with
  | nil => intro p hp; simp [idxP] at hp
  | cons y r ih =>
    intro p hp
    rcases List.mem_append.mp hp with h | h
    · exact .tail _ (ih p h)
    · simp at h; subst h; exact .head _
theorem idx_none {rs : List Int} {k : Int} (h : k ∉ rs) : valueAt (idxP rs) k = none := by
  unfold valueAt
  have : (idxP rs).find? (fun p => decide (p.1 = k)) = none := by
    rw [List.find?_eq_none]
    intro p hp
    have := idx_key rs p hp
    simp only [decide_eq_true_eq]
    exact fun e => h (e ▸ this)
  rw [this]; rfl
theorem idx_some {rs : List Int} {k : Int} (hn : rs.Nodup) : (valueAt (idxP rs) k).isSome = decide (k ∈ rs) := by
  by_cases h : k ∈ rs
  · obtain ⟨a, b, e⟩ := List.append_of_mem h
    rw [idx_val e hn]; simp [h]
  · rw [idx_none h]; simp [h]
theorem idx_stored {rs : List Int} {k : Int} (h : k ∉ rs) : stored (idxP rs) k (.int rs.length 0) = idxP (k :: rs) := by
  unfold stored
  rw [if_neg]
  · rfl
  · rw [List.any_eq_true]
    rintro ⟨p, hp, e⟩
    simp only [decide_eq_true_eq] at e
    exact h (e ▸ idx_key rs p hp)
theorem idx_without {rs : List Int} {k : Int} (h : k ∉ rs) : without (idxP (k :: rs)) k = idxP rs := by
  show without (idxP rs ++ [(k, Value.int rs.length 0)]) k = idxP rs
  unfold without
  rw [List.filter_append, List.filter_eq_self.mpr fun p hp => by
    have : p.1 ≠ k := fun e => h (e ▸ idx_key rs p hp)
    simpa using this]
  simp
theorem idx_len (rs : List Int) : (idxP rs).length = rs.length := by
  induction rs with
  | nil => rfl
  | cons k r ih => simp [idxP, ih]
noncomputable abbrev dfsL (sk ik se di : Addr) (ep2 : Nat) (rs : List Lv) (sn : List Int) (r : Led) : Led :=
  (sk, listS (iL (lkeys rs).reverse)) :: (ik, listS (lmws rs).reverse) :: (se, setS sn) :: (di, dictE ep2 (idxP (lkeys rs))) :: (lvsL rs ++ r)
theorem scG_of {ns : List Nd} (hd : (keysOf ns).Nodup) {y : Nd} (hy : y ∈ ns) : scG (absG ns) y.key = y.succ := by
  obtain ⟨p, q, rfl⟩ := List.append_of_mem hy
  unfold scG
  rw [gat_mid hd]
theorem DS.start {sc : Int → List Int} {ks : List Int} {first : Int} {fin sn : List Int} (D : DS sc ks first fin [] sn none) (c : Int) : DS sc ks first fin [] sn (some c) := ⟨trivial, D.topo, D.seen, D.snd, D.nd, D.keys, D.dead, D.root, D.le⟩
theorem val_of {ns : List Nd} (hd : (keysOf ns).Nodup) {y : Nd} (hy : y ∈ ns) : valueAt (n2L ns) y.key = some (.ref y.na) := by
  obtain ⟨p, q, rfl⟩ := List.append_of_mem hy
  exact val_mid hd
noncomputable abbrev fcM (sx n2 sk ik se di : Addr) : Loc := [(Str.ofString "self", Value.ref sx), (Str.ofString "n2i", Value.ref n2), (Str.ofString "stack", Value.ref sk), (Str.ofString "itstack", Value.ref ik), (Str.ofString "seen", Value.ref se), (Str.ofString "node2stacki", Value.ref di)]
noncomputable abbrev fcN (sx n2 sk ik se di : Addr) (node : Int) : Loc := [(Str.ofString "self", Value.ref sx), (Str.ofString "n2i", Value.ref n2), (Str.ofString "stack", Value.ref sk), (Str.ofString "itstack", Value.ref ik), (Str.ofString "seen", Value.ref se), (Str.ofString "node2stacki", Value.ref di), (Str.ofString "node", Value.int node 0)]
noncomputable abbrev fcI1 (sx n2 sk ik se di : Addr) (r : Led) (sc : Int → List Int) (ns : List Nd) (first : Int) (i : Nat) (m₁ : Loc) (l₁ : Led) : Prop :=
  ∃ ep2 fin sn, m₁ = fcM sx n2 sk ik se di ∧ l₁ = dfsL sk ik se di ep2 [] sn r ∧ DS sc (keysOf ns) first fin [] sn none ∧ (∀ k ∈ (keysOf ns).take i, k ∈ fin)
noncomputable abbrev fcI2 (sx n2 sk ik se di : Addr) (r : Led) (sc : Int → List Int) (ns : List Nd) (first : Int) (it : Addr) (P : Shape) (root : Int) (i : Nat) (k : Nat) (m₁ : Loc) (l₁ : Led) : Prop :=
  ∃ ep2 fin rs sn node, m₁ = fcN sx n2 sk ik se di node ∧ l₁ = (it, P) :: dfsL sk ik se di ep2 rs sn r ∧ DS sc (keysOf ns) first fin (lvK rs) sn (some node) ∧ node ∈ keysOf ns ∧ (rs = [] → fin = [] → node = first) ∧
      (∀ x ∈ rs, ∃ y ∈ ns, y.key = x.key ∧ y.sa = x.sa) ∧ (root ∈ sn ∨ root = node) ∧ k = whole sc (keysOf ns) - used sc fin (lvK rs) ∧ (∀ k ∈ (keysOf ns).take i, k ∈ fin)
noncomputable abbrev fcJ (sx n2 sk ik se di : Addr) (r : Led) (sc : Int → List Int) (ns : List Nd) (first : Int) (it : Addr) (P : Shape) (root : Int) (i : Nat) (u : Nat) (m₁ : Loc) (l₁ : Led) : Prop :=
  ∃ ep4 fin4 rs4 sn4 node4, m₁ = fcN sx n2 sk ik se di node4 ∧ l₁ = (it, P) :: dfsL sk ik se di ep4 rs4 sn4 r ∧ DS sc (keysOf ns) first fin4 (lvK rs4) sn4 none ∧
        (∀ x ∈ rs4, ∃ y ∈ ns, y.key = x.key ∧ y.sa = x.sa) ∧ root ∈ sn4 ∧ used sc fin4 (lvK rs4) = u ∧ (∀ k ∈ (keysOf ns).take i, k ∈ fin4)
noncomputable abbrev fcI3 (sx n2 sk ik se di : Addr) (r : Led) (sc : Int → List Int) (ns : List Nd) (first : Int) (it : Addr) (P : Shape) (root : Int) (i : Nat) (u : Nat) (k : Nat) (m₁ : Loc) (l₁ : Led) : Prop :=
  ∃ ep4 fin4 rs4 sn4 node4, m₁ = fcN sx n2 sk ik se di node4 ∧ l₁ = (it, P) :: dfsL sk ik se di ep4 rs4 sn4 r ∧ DS sc (keysOf ns) first fin4 (lvK rs4) sn4 none ∧
          (∀ x ∈ rs4, ∃ y ∈ ns, y.key = x.key ∧ y.sa = x.sa) ∧ root ∈ sn4 ∧ used sc fin4 (lvK rs4) = u ∧ (∀ k ∈ (keysOf ns).take i, k ∈ fin4) ∧ k = rs4.length
theorem ring_list {ks a b : List Int} {k : Int} (e : ks = a ++ k :: b) : pickL (iL ks.reverse) (some (b.length : Int)) none none ++ [Value.int k 0] = iL (k :: a.reverse ++ [k]) := by
  subst e
  rw [pickL_plain]
  have h1 : kms_lo (some (b.length : Int)) (iL (a ++ k :: b).reverse).length = b.length := by
    simp only [kms_lo, iL_len, List.length_reverse, List.length_append, List.length_cons]
    rw [if_neg (by lia)]
    lia
  rw [h1]
  have h2 : (a ++ k :: b).reverse = b.reverse ++ (k :: a.reverse) := by simp
  rw [h2, iL_append]
  have h3 : (iL b.reverse).length = b.length := by simp [iL]
  rw [← h3, List.drop_left]
  have h4 : kms_hi none (iL b.reverse ++ iL (k :: a.reverse)).length - (iL b.reverse).length = (iL (k :: a.reverse)).length := by simp [kms_hi]
  rw [h4, List.take_length]
  simp [iL]
section
variable {P : Params} {C : Cx} {m : Loc} {l l' : Led} {Q E : Pv} {sx sd n2 ra : Addr} {ep : Nat} {ns : List Nd} {rd : Value} {po fi : Int}
theorem c_fc (O : Ok (KK P) C) (R : Room C.A 1) (F : Fra C l) {first : Int} (hd : (keysOf ns).Nodup) (hz : ns.length ≤ 1000) (hcl : gcl (absG ns)) (hgl : gle (absG ns) 1000)
    (hfirst : ∀ x, (keysOf ns).head? = some x → x = first)
    (h0 : (∃ fin, Topo (scG (absG ns)) fin ∧ ∀ k ∈ keysOf ns, k ∈ fin) → Q .none m (sortL sx sd n2 ep ns rd po fi l))
    (h1 : ∀ ring r, Ring (scG (absG ns)) (keysOf ns) first ring → Q (.ref r) m ((r, listS (iL ring)) :: sortL sx sd n2 ep ns rd po fi l)) :
    TCall C m (sortL sx sd n2 ep ns rd po fi l) (.ref 208) [.ref sx] [] Q E := by
  refine enterK (bs := [(Str.ofString "self", .ref sx)]) (m' := [(Str.ofString "self", .ref sx)]) O FF.c208.fk R.now ?_
  intro vvs vkw hv hk
  obtain ⟨v, rfl, hv1⟩ := map1 hv
  obtain rfl := kw0 hk
  refine T.pure (a := [(Str.ofString "self", v)]) ⟨by simp [unB, hv1], rfl, fun L' => ?_⟩
  have O' := O.sub (en 208 L')
  have R' : Room (sub C (en 208 L')).A 0 := R.sub
  wtm_at "body"
  wtm_at "go"
  wtm_at "ats"
  wtm_at "go"
  refine ⟨by simp, fun sk => ?_⟩
  wtm_at "go"
  refine ⟨by simp, fun ik => ?_⟩
  wtm_at "go"
  refine f_set0 fun se => ?_
  wtm_at "go"
  refine e_dict0 fun di => ?_
  wtm_at "go"
  have hF : FraH (sub C (en 208 L')) (en 208 L') ((C.L, Frm m) :: sortL sx sd n2 ep ns rd po fi l) := by
    refine F.sub (m := m) (by with_unfolding_all rfl) ?_ (fun p hp => ?_) (.head _)
    · intro h; with_unfolding_all cases h
    · exact .tail _ (.tail _ (.tail _ (.tail _ (List.mem_append_right _ hp))))
  have hn2 : (n2, dictE ep (n2L ns)) ∈ (C.L, Frm m) :: sortL sx sd n2 ep ns rd po fi l := .tail _ (.tail _ (.tail _ (.head _)))
  have hnode : ∀ y ∈ ns, ∀ e ∈ nodeL y, e ∈ (C.L, Frm m) :: sortL sx sd n2 ep ns rd po fi l := fun y hy e he => .tail _ (sort_node hy he)
  have hend : ∀ X : Led, Sb ((C.L, Frm m) :: sortL sx sd n2 ep ns rd po fi l) (X ++ ((C.L, Frm m) :: sortL sx sd n2 ep ns rd po fi l)) := fun X => Sb.dropA Sb.refl
  generalize hr : (C.L, Frm m) :: sortL sx sd n2 ep ns rd po fi l = r at hF hn2 hnode hend ⊢
  have hsc : ∀ y ∈ ns, scG (absG ns) y.key = y.succ := fun y hy => scG_of hd hy
  have hkl : (keysOf ns).length ≤ 1000 := by simpa [keysOf] using hz
  have hclk : ∀ k ∈ keysOf ns, ∀ s ∈ scG (absG ns) k, s ∈ keysOf ns := fun k hk s hs => by
    obtain ⟨y, hy, rfl⟩ := List.mem_map.mp hk
    rw [hsc y hy] at hs
    rw [← absG_keys]
    exact hcl _ (List.mem_map_of_mem (f := fun x : Nd => (x.key, x.np, x.succ)) hy) s hs
  have hsl : ∀ y ∈ ns, y.succ.length ≤ 1000 := fun y hy => gle_of hgl hy
  generalize hsce : scG (absG ns) = sc at h0 h1 hsc hclk
  refine' for_dict O' ?mm R'.handled (fcI1 sx n2 sk ik se di r sc ns first) ?fg ?sb ?hS ?h0 ?turn ?fin
  case mm => exact .tail _ (.tail _ (.tail _ (.tail _ hn2)))
  case h0 => exact ⟨0, [], [], rfl, rfl, ⟨trivial, Topo.nil, by simp [kys], by simp, by simp [kys], by simp [kys], fun h => absurd rfl h, by simp [kys], by simp⟩, by simp⟩
  case fg => wtm_at "fg"
  case sb =>
    show Sb ((sk, listS []) :: (ik, listS []) :: (se, setS []) :: (di, dictE 0 []) :: r) _
    wtm_at "sb"
  case hS => rintro i m₁ l₁ ⟨ep2, fin, sn, rfl, rfl, _⟩; exact .tail _ (.tail _ (.tail _ (.tail _ hn2)))
  case fin =>
    rintro m₁ l₁ ⟨ep2, fin, sn, rfl, rfl, D, hcov⟩
    wtm_at "go"
    subst hr
    refine ret_end (Sb.dropA (s := [_, _, _, _]) Sb.refl) (h0 ⟨fin, D.topo, fun k hk => hcov k ?_⟩)
    have : (n2L ns).length = (keysOf ns).length := by simp [n2L, keysOf]
    rw [this, List.take_length]; exact hk
  case turn =>
    rintro it P i root m₁ l₁ hrt ⟨ep2, fin, sn, rfl, rfl, D, hcov⟩
    have hkeys : (n2L ns).map (·.1) = keysOf ns := by simp [n2L, keysOf]
    rw [hkeys] at hrt
    have hrk : root ∈ keysOf ns := List.mem_of_getElem? hrt
    wtm_at "go"
    refine c_inS (ks := sn) (by wtm_at "mem") (by have := D.sn_len; lia) ?_
    wtm_at "go"
    refine Br.of (fun hb => ?_) (fun hb => ?_)
    · have hrf : root ∈ fin := by
        have : root ∈ sn := by simpa using hb
        rcases (D.seen root).mp this with h | h
        · exact h
        · simp [kys] at h
      wtm_at "go"
      refine' loop_cont ?fg ?sb ⟨ep2, fin, sn, rfl, rfl, D, ?_⟩
      case fg => wtm_at "fg"
      case sb => exact Sb.refl
      intro k hk
      rw [List.take_succ, hrt] at hk
      rcases List.mem_append.mp hk with hk | hk
      · exact hcov k hk
      · simp at hk; exact hk ▸ hrf
    have hrs : root ∉ sn := by simpa using hb
    have hfst0 : fin = [] → root = first := fun hf => by
      apply hfirst
      have h1 : (keysOf ns).take i = [] := List.eq_nil_iff_forall_not_mem.mpr fun s hs => by have := hcov s hs; rw [hf] at this; cases this
      have h2 := (List.getElem?_eq_some_iff.mp hrt).1
      have h3 := congrArg List.length h1
      rw [List.length_take, List.length_nil] at h3
      have h4 : i = 0 := by lia
      subst h4
      rw [List.head?_eq_getElem?]; exact hrt
    wtm_at "go"
    refine' x_whileV (fcI2 sx n2 sk ik se di r sc ns first it P root i) ?fg ?sb ?h0 ?turn2
    case h0 => exact ⟨ep2, fin, [], sn, root, rfl, rfl, D.start root, hrk, fun _ => hfst0, by simp, .inr rfl, rfl, hcov⟩
    case fg => wtm_at "fg"
    case sb => exact Sb.refl
    case turn2 =>
      rintro k m₁ l₁ ⟨ep3, fin3, rs, sn3, node, rfl, rfl, D3, hnk, hfst, hlv, hroot, rfl, hcov3⟩
      refine b_value (e_bool (t_bool (Br.tt ?_)))
      refine execs_cons (x_join (J := fcJ sx n2 sk ik se di r sc ns first it P root i (used sc fin3 (lvK rs))) ?h1 ?h2)
      case h1 =>
        have hsl3 := D3.sn_len
        have hrl3 : rs.length ≤ 1000 := by have := D3.rs_len; simp [lvK] at this; lia
        have hnd3 : (lkeys rs).Nodup := by rw [← kys_lvK]; exact (List.nodup_append.mp D3.nd).2.1
        wtm_at "go"
        refine c_inS (ks := sn3) (by wtm_at "mem") (by lia) ?_
        wtm_at "go"
        refine Br.of (fun hb => ?_) (fun hb => ?_)
        · have hin : node ∈ sn3 := by simpa using hb
          wtm_at "go"
          refine c_inD (kvs := idxP (lkeys rs)) O' (by wtm_at "mem") ?_
          rw [idx_some hnd3]
          wtm_at "go"
          refine Br.dec (fun hb => ?_) (fun hb => ?_)
          · obtain ⟨a, x, b, rfl, hx⟩ : ∃ a x b, rs = a ++ x :: b ∧ x.key = node := by
              obtain ⟨x, hx, hxk⟩ := List.mem_map.mp hb
              obtain ⟨a, b, e⟩ := List.append_of_mem hx
              exact ⟨a, x, b, e, hxk⟩
            have hks : lkeys (a ++ x :: b) = lkeys a ++ node :: lkeys b := by simp [lkeys, hx]
            wtm_at "go"
            refine sd_get (kvs := idxP (lkeys (a ++ x :: b))) (by wtm_at "mem") (idx_val hks hnd3) ?_
            wtm_at "go"
            intro sl
            refine s_slice (vs := iL (lkeys (a ++ x :: b)).reverse) (vl := .int (lkeys b).length 0) (vu := .none) (vk := .none) (lo := some ((lkeys b).length : Int)) (hi := none) (st := none) (by wtm_at "mem") (by wtm_at "mem") rfl rfl rfl (by simp) (by rw [iL_len]; simp [lkeys] at hrl3 ⊢; lia) fun r1 => ?_
            wtm_at "go"
            refine ⟨by simp, fun r2 => ?_⟩
            wtm_at "go"
            refine o_add_list (vs := pickL (iL (lkeys (a ++ x :: b)).reverse) (some ((lkeys b).length : Int)) none none) (ws := [Value.int node 0]) (by wtm_at "mem") (by wtm_at "mem") ?_ fun r3 => ?_
            · have := congrArg List.length (ring_list hks)
              rw [List.length_append] at this
              rw [this, iL_len]
              simp [lkeys] at hrl3 ⊢
              lia
            rw [ring_list hks]
            wtm_at "go"
            have hring : Ring sc (keysOf ns) first (node :: (lkeys a).reverse ++ [node]) := by
              have := D3.ring (a := lvK a) (b := lvK b) (i := x.i) (by simp [lvK, hx])
              rw [kys_lvK] at this
              exact this
            refine while_ret ?_
            wtm_at "go"
            refine loop_ret ?_
            wtm_at "go"
            have hsb : Sb ((r3, listS (iL (node :: (lkeys a).reverse ++ [node]))) :: r) ((r3, listS (iL (node :: (lkeys a).reverse ++ [node]))) :: (r2, listS [Value.int node 0]) :: (r1, listS (pickL (iL (lkeys (a ++ x :: b)).reverse) (some ((lkeys b).length : Int)) none none)) :: (sl, sliS (.int (lkeys b).length 0) .none .none) :: (it, P) :: dfsL sk ik se di ep3 (a ++ x :: b) sn3 r) :=
              Sb.take Ext.one (Sb.dropA (s := [_, _, _, _, _, _, _, _]) (Sb.dropA Sb.refl))
            subst hr
            exact ret_end (Sb.trans (Sb.of_perm (List.Perm.swap _ _ _)) hsb) (h1 _ r3 hring)
          · have hfin : node ∈ fin3 := by
              rcases (D3.seen node).mp hin with h | h
              · exact h
              · rw [kys_lvK] at h; exact absurd h hb
            wtm_at "go"
            refine' join_end ?fg ?sb ⟨ep3, fin3, rs, sn3, node, rfl, rfl, D3.met hfin, hlv, hroot.elim id (fun e => e ▸ hin), rfl, hcov3⟩
            case fg => wtm_at "fg"
            case sb => exact Sb.refl
        · have hnin : node ∉ sn3 := by simpa using hb
          have hnl : node ∉ lkeys rs := fun h => hnin ((D3.seen node).mpr (.inr (by rw [kys_lvK]; exact h)))
          obtain ⟨y, hy, hyk⟩ := List.mem_map.mp hnk
          wtm_at "go"
          refine tm_add (ks := sn3) (by wtm_at "mem") ?_
          wtm_at "go"
          refine' m_add (ks := sn3) ?u (by lia) hnin ?_
          case u => wtm_at "upd"
          wtm_at "go"
          refine sd_get (kvs := n2L ns) (v := .ref y.na) (.tail _ (.tail _ (.tail _ (.tail _ (.tail _ (List.mem_append_right _ hn2)))))) (by rw [← hyk]; exact val_of hd hy) ?_
          wtm_at "go"
          refine at_succ O' (.tail _ (.tail _ (.tail _ (.tail _ (.tail _ (List.mem_append_right _ (hnode y hy _ (node_inst y)))))))) (.tail _ (.tail _ (.tail _ (.tail _ (.tail _ (List.mem_append_right _ (hnode y hy _ (node_dict y)))))))) ?_
          wtm_at "go"
          refine f_iter (vs := iL y.succ) (.tail _ (.tail _ (.tail _ (.tail _ (.tail _ (List.mem_append_right _ (hnode y hy _ (node_succ y)))))))) fun it2 => ?_
          wtm_at "go"
          refine at_next (.head _) fun mw2 => ?_
          refine T.weak (.there .here) (litF_litS _) ?_
          show TL _ _ _ _ _ _
          wtm_at "go"
          refine' m_append (vs := (lmws rs).reverse) ?u (by simp [lmws]; lia) ?_
          case u => wtm_at "upd"
          wtm_at "go"
          refine' f_len_list (vs := iL (lkeys rs).reverse) (by wtm_at "mem") (by rw [iL_len]; simp [lkeys]; lia) ?_
          wtm_at "go"
          rw [show (iL (lkeys rs).reverse).length = (lkeys rs).length from by simp [iL]]
          refine' si_dict (kvs := idxP (lkeys rs)) (fun ep' => ?u) (by rw [idx_len]; simp [lkeys]; lia) fun ep4 => ?_
          case u => wtm_at "upd"
          rw [idx_stored hnl]
          wtm_at "go"
          refine' m_append (vs := iL (lkeys rs).reverse) ?u (by rw [iL_len]; simp [lkeys]; lia) ?_
          case u => wtm_at "upd"
          wtm_at "go"
          have e1 : iL (lkeys rs).reverse ++ [Value.int node 0] = iL (lkeys (⟨node, 0, mw2, it2, y.sa⟩ :: rs)).reverse := by simp [lkeys, iL]
          have e2 : (lmws rs).reverse ++ [Value.ref mw2] = (lmws (⟨node, 0, mw2, it2, y.sa⟩ :: rs)).reverse := by simp [lmws]
          have e3 : idxP (node :: lkeys rs) = idxP (lkeys (⟨node, 0, mw2, it2, y.sa⟩ :: rs)) := rfl
          rw [e1, e2, e3]
          refine' join_end ?fg ?sb ⟨ep4, fin3, ⟨node, 0, mw2, it2, y.sa⟩ :: rs, sn3 ++ [node], node, rfl, rfl, D3.push hnin hnk (fun h => hfst (by simpa [lvK] using h)), fun x hx => ?_, ?_, by simp [used, lvK], hcov3⟩
          case fg => wtm_at "fg"
          case sb =>
            show Sb ((it, P) :: (sk, listS (iL (lkeys (⟨node, 0, mw2, it2, y.sa⟩ :: rs)).reverse)) :: (ik, listS (lmws (⟨node, 0, mw2, it2, y.sa⟩ :: rs)).reverse) :: (se, setS (sn3 ++ [node])) :: (di, dictE ep4 (idxP (lkeys (⟨node, 0, mw2, it2, y.sa⟩ :: rs)))) :: (mw2, mwS it2) :: (it2, litS y.sa 0) :: (lvsL rs ++ r)) _
            wtm_at "sb"
          · rcases List.mem_cons.mp hx with rfl | hx
            · exact ⟨y, hy, hyk, rfl⟩
            · exact hlv x hx
          · rcases hroot with h | h
            · exact List.mem_append_left _ h
            · rw [h]; simp
      case h2 =>
        rintro m₁ l₁ ⟨ep4, fin4, rs4, sn4, node4, rfl, rfl, D4, hlv4, hroot4, hused4, hcov4⟩
        have hrl4 : rs4.length ≤ 1000 := by have := D4.rs_len; simp [lvK] at this; lia
        refine execs_cons ?_
        refine' x_whileV (fcI3 sx n2 sk ik se di r sc ns first it P root i (used sc fin3 (lvK rs))) ?fg ?sb ?h0 ?turn3
        case h0 => exact ⟨ep4, fin4, rs4, sn4, node4, rfl, rfl, D4, hlv4, hroot4, hused4, hcov4, rfl⟩
        case fg => wtm_at "fg"
        case sb => exact Sb.refl
        case turn3 =>
          rintro k m₁ l₁ ⟨ep5, fin5, rs5, sn5, node5, rfl, rfl, D5, hlv5, hroot5, hused5, hcov5, rfl⟩
          have hrl5 : rs5.length ≤ 1000 := by have := D5.rs_len; simp [lvK] at this; lia
          wtm_at "go"
          refine t_list (vs := iL (lkeys rs5).reverse) (by wtm_at "mem") (by rw [iL_len]; simp [lkeys]; lia) ?_
          cases rs5 with
          | nil =>
            refine Br.ff ?_
            wtm_at "go"
            refine while_brk ?_
            wtm_at "go"
            refine' loop_next ?fg ?sb ⟨ep5, fin5, sn5, rfl, rfl, D5, fun k hk => ?_⟩
            case fg => wtm_at "fg"
            case sb => exact Sb.refl
            rw [List.take_succ, hrt] at hk
            rcases List.mem_append.mp hk with hk | hk
            · exact hcov5 k hk
            · simp at hk
              subst hk
              rcases (D5.seen k).mp hroot5 with h | h
              · exact h
              · simp [kys, lvK] at h
          | cons x rs6 =>
            have hne : (!(iL (lkeys (x :: rs6)).reverse).isEmpty) = true := by simp [lkeys, iL]
            rw [hne]
            refine Br.tt ?_
            wtm_at "go"
            have hmw : (lmws (x :: rs6)).reverse = (lmws rs6).reverse ++ [Value.ref x.mw] := by simp [lmws]
            have hky : iL (lkeys (x :: rs6)).reverse = iL (lkeys rs6).reverse ++ [Value.int x.key 0] := by simp [lkeys, iL]
            have hlw : (lmws rs6).reverse.length = rs6.length := by simp [lmws]
            have hl5 : rs6.length + 1 ≤ 1000 := hrl5
            obtain ⟨y, hy, hyk, hya⟩ := hlv5 x (.head _)
            have hscx : sc x.key = y.succ := by rw [← hyk]; exact hsc y hy
            refine s_list_neg (vs := (lmws (x :: rs6)).reverse) (v := .ref x.mw) (by wtm_at "mem") (by decide) (by rw [hmw]; simp [lmws]; lia) ?_ (by rw [hmw]; simp [lmws]; lia) ?_
            · rw [hmw]
              have : ((-1 : Int) + (((lmws rs6).reverse ++ [Value.ref x.mw]).length : Int)).toNat = (lmws rs6).reverse.length := by simp; lia
              rw [this]; simp
            rw [show dfsL sk ik se di ep5 (x :: rs6) sn5 r = (sk, listS (iL (lkeys (x :: rs6)).reverse)) :: (ik, listS (lmws (x :: rs6)).reverse) :: (se, setS sn5) :: (di, dictE ep5 (idxP (lkeys (x :: rs6)))) :: (x.mw, mwS x.it) :: (x.it, litS x.sa x.i) :: (lvsL rs6 ++ r) from rfl]
            have hna : x.key ∉ lkeys rs6 := by
              have := (List.nodup_append.mp D5.nd).2.1
              rw [kys_lvK] at this
              exact (List.nodup_cons.mp this).1
            refine ⟨x.mw, x.it, rfl, by wtm_at "mem", ?_⟩
            have hsa : (x.sa, listS (iL y.succ)) ∈ r := by rw [← hya]; exact hnode y hy _ (node_succ y)
            cases hnx : (sc x.key)[x.i]? with
            | some s =>
              refine' c_mw_item (vs := iL y.succ) (v := .int s 0) ?mw ?ls ?u ?v ?_
              case u => wtm_at "upd"
              case mw => wtm_at "mem"
              case ls => exact .tail _ (.tail _ (.tail _ (.tail _ (.tail _ (.tail _ (.tail _ (List.mem_append_right _ hsa)))))))
              case v =>
                rw [hscx] at hnx
                unfold iL
                rw [List.getElem?_map, hnx]; rfl
              wtm_at "go"
              refine while_brk ?_
              wtm_at "go"
              have hD := D5.next hnx
              refine' while_next (j := whole sc (keysOf ns) - used sc fin5 (lvK ({ x with i := x.i + 1 } :: rs6))) ?fg ?sb ?hj ⟨ep5, fin5, { x with i := x.i + 1 } :: rs6, sn5, s, rfl, rfl, hD, hclk x.key (D5.keys _ (by simp [kys, lvK])) s (List.mem_of_getElem? hnx), by simp, fun z hz => ?_, .inl hroot5, rfl, hcov5⟩
              case fg => wtm_at "fg"
              case sb => exact Sb.refl
              case hj =>
                have := D5.used_next hnx
                rw [← hused5]
                exact this
              rcases List.mem_cons.mp hz with rfl | hz
              · exact ⟨y, hy, hyk, hya⟩
              · exact hlv5 z (.tail _ hz)
            | none =>
              refine' c_mw_end (vs := iL y.succ) R'.handled ?ext ?mw ?ls ?v (fun e => ?_)
              case ext => wtm_at "ext"
              case mw => wtm_at "mem"
              case ls => exact .tail _ (.tail _ (.tail _ (.tail _ (.tail _ (.tail _ (List.mem_append_right _ hsa))))))
              case v =>
                rw [hscx] at hnx
                unfold iL
                rw [List.getElem?_map, hnx]; rfl
              refine caught_new Sb.refl (hF.mono fun p hp => .tail _ (.tail _ (.tail _ (.tail _ (.tail _ (.tail _ (List.mem_append_right _ hp))))))) fun tb => ?_
              have O'' := O'.mark e
              refine handle_T (Tn := "StopIteration") (e_biT O'' BF.cStopIteration.bl ⟨rfl, rfl, rfl⟩) ?_ exc_stop nt_stop sub_stop
              rw [hmw, hky]
              wtm_at "go"
              refine' m_pop (vs := iL (lkeys rs6).reverse) ?u (by rw [iL_len]; simp [lkeys]; lia) ?_
              case u => wtm_at "upd"
              wtm_at "go"
              refine' di_dict (kvs := idxP (lkeys (x :: rs6))) (fun ep' => ?u) ?hv (by rw [idx_len]; simp [lkeys]; lia) fun ep6 => ?_
              case u => wtm_at "upd"
              case hv => rw [show lkeys (x :: rs6) = x.key :: lkeys rs6 from rfl, idx_val (rs := x.key :: lkeys rs6) (a := []) (b := lkeys rs6) rfl (by
                have := (List.nodup_append.mp D5.nd).2.1
                rw [kys_lvK] at this
                exact this)]; rfl
              rw [show lkeys (x :: rs6) = x.key :: lkeys rs6 from rfl, idx_without hna]
              wtm_at "go"
              refine' m_pop (vs := (lmws rs6).reverse) ?u (by simp [lmws]; lia) ?_
              case u => wtm_at "upd"
              wtm_at "go"
              obtain ⟨hD, hu⟩ := D5.pop hnx
              refine' while_next (j := rs6.length) ?fg ?sb (by simp) ⟨ep6, fin5 ++ [x.key], rs6, sn5, node5, rfl, rfl, hD, fun z hz => hlv5 z (.tail _ hz), hroot5, hu.trans hused5, fun k hk => List.mem_append_left _ (hcov5 k hk), rfl⟩
              case fg => wtm_at "fg"
              case sb =>
                show Sb ((it, P) :: (sk, listS (iL (lkeys rs6).reverse)) :: (ik, listS (lmws rs6).reverse) :: (se, setS sn5) :: (di, dictE ep6 (idxP (lkeys rs6))) :: (lvsL rs6 ++ r)) _
                wtm_at "sb"
end
end
section
set_option Elab.async false
set_option linter.all false
set_option maxRecDepth 100000
set_option maxHeartbeats 1000000
theorem enterKE {P : Params} {C : Cx} {a : Addr} {m m' : Loc} {l : Led} {vs : List Value} {kw bs : List (Str × Value)} {Q E : Pv} (O : Ok (KK P) C) (F : FnK a) (hroom : C.A.depth < recursionLimit)
    (hb : ∀ vvs vkw, vvs.map un = vs → unK vkw = kw → T { C with A := C.A.in1 } unB m l (bindArgs (fdOf a) ⟨vvs, vkw⟩) (fun b m₁ l₁ => b = bs ∧ m₁ = m ∧
      ∀ L', TF (sub C (en a L')) m' ((C.L, Frm m) :: l₁) (execs (bodyOf a) (en a L')) (RetQ C m Q) (RaiseQ C m E)) E)
    (hm : m' = bs.reverse := by rfl) (hcell0 : ((fdOf a).scope.names.all fun x => x.2 != .cell) = true := by kernel_rfl) (hloc0 : (bs.all fun x => decide ((fdOf a).scope.names.lookup x.1 = some .local)) = true := by rfl)
    (hbody : (fdOf a).body = .stmts (bodyOf a) := by kernel_rfl) (hclo : (fdOf a).closure = [] := by kernel_rfl)
    (hco : (fdOf a).scope.isCoroutine = false := by kernel_rfl) (hgen : (fdOf a).scope.isGenerator = false := by kernel_rfl) (hk : (fdOf a).scope.kind = .function := by kernel_rfl) : TCall C m l (.ref a) vs kw Q E := by
  obtain ⟨oc, od, osl, h1, h2⟩ := F P
  exact (enterE (O.X _ _ h1) rfl hbody hclo (codeRec_of O.X h2) O.lim hroom hb hm hcell0 hloc0 hco hgen hk).call
theorem own136 {P : Params} {C : Cx} {mg : Str → Option Value} (O : Ok (KK P) C) (G : C.base.Ns mainGlobals mg) : OwnCls (Str.ofString "CycleError") 136 [.type "ValueError", .type "Exception", .type "BaseException", .type "object"] "ValueError.__new__" mg C.base :=
  ⟨mg_of O.X G GF.c136.gl, ⟨_, _, _, _, _, _, _, _, _, _, _, _, _, _, _, _, _, O.X 136 _ (by with_unfolding_all rfl), .of_isNs (isNs_of_in O.X (by kernel_rfl)), nsMap_none_of_in O.X (by kernel_rfl) (by kernel_rfl), tail_of_in O.X (by kernel_rfl)⟩⟩
theorem exc136 {P : Params} : ExcK (KK P) 136 := ⟨_, _, _, _, _, _, _, _, _, _, _, _, _, _, _, _, _, by with_unfolding_all rfl, by decide +kernel⟩
theorem sortP {l l' : Led} (h : l.Perm l') {sx sd n2 : Addr} {ep : Nat} {ns : List Nd} {rd : Value} {po fi : Int} : (sortL sx sd n2 ep ns rd po fi l).Perm (sortL sx sd n2 ep ns rd po fi l') :=
  (((h.append_left _).cons _).cons _).cons _
section
variable {P : Params} {C : Cx} {m : Loc} {l l' : Led} {Q E : Pv} {sx sd n2 ra : Addr} {ep : Nat} {ns : List Nd} {rd : Value} {po fi : Int}
theorem c_prepare (O : Ok (KK P) C) (R : Room C.A 2) (F : Fra C l) {first : Int} (hd : (keysOf ns).Nodup) (hz : ns.length ≤ 1000) (hcl : gcl (absG ns)) (hgl : gle (absG ns) 1000)
    (hfirst : ∀ x, (keysOf ns).head? = some x → x = first)
    (h0 : ∀ ra, (∃ fin, Topo (scG (absG ns)) fin ∧ ∀ k ∈ keysOf ns, k ∈ fin) → Q .none m (sortL sx sd n2 ep ns (.ref ra) po fi ((ra, listS (iL ((ns.filter fun x => x.np == 0).map (·.key)))) :: l)))
    (h1 : ∀ ra ring e t, Ring (scG (absG ns)) (keysOf ns) first ring → E (.ref e) m ((e, excT (.ref 136) t) :: (t, tbS) :: sortL sx sd n2 ep ns (.ref ra) po fi ((ra, listS (iL ((ns.filter fun x => x.np == 0).map (·.key)))) :: l))) :
    TCall C m (sortL sx sd n2 ep ns .none po fi l) (.ref 173) [.ref sx] [] Q E := by
  refine enterKE (bs := [(Str.ofString "self", .ref sx)]) (m' := [(Str.ofString "self", .ref sx)]) O FF.c173.fk R.now ?_
  intro vvs vkw hv hk
  obtain ⟨v, rfl, hv1⟩ := map1 hv
  obtain rfl := kw0 hk
  refine T.pure (a := [(Str.ofString "self", v)]) ⟨by simp [unB, hv1], rfl, fun L' => ?_⟩
  have O' := O.sub (en 173 L')
  have R' : Room (sub C (en 173 L')).A 1 := R.sub
  wtm_at "body"
  wtm_at "go"
  wtm_at "ats"
  wtm_at "go"
  refine e_comp (cl := []) (by with_unfolding_all rfl) (by with_unfolding_all rfl) (by decide +kernel) ?_
  wtm_at "go"
  wtm_at "ats"
  wtm_at "go"
  refine' tm_values (kvs := n2L ns) ?mm ?_
  case mm => wtm_at "mem"
  wtm_at "go"
  refine' m_values (kvs := n2L ns) O' ?mm fun vw => ?_
  case mm => wtm_at "mem"
  have hn2l : (n2L ns).length = ns.length := by simp [n2L]
  refine' comp_values (kvs := n2L ns) (ep := ep) (d := n2) (.head _) ?mm R'.handled (by lia) (fun i ys l₁ => ys = iL (((ns.take i).filter fun x => x.np == 0).map (·.key)) ∧ l₁ = (C.L, Frm m) :: sortL sx sd n2 ep ns .none po fi l) ?sb ?hS ?h0 ?turn ?fin
  case h0 => exact ⟨rfl, rfl⟩
  case sb => wtm_at "sb"
  case mm => wtm_at "mem"
  case hS => rintro i ys l₁ ⟨rfl, rfl⟩; wtm_at "mem"
  case turn =>
    rintro it L2 P2 acc i v ys l₁ hv ⟨rfl, rfl⟩ hle
    have O2 := O'.cx L2
    obtain ⟨x, hx, rfl⟩ : ∃ x, ns[i]? = some x ∧ v = .ref x.na := by
      unfold n2L at hv
      simp only [List.map_map, List.getElem?_map, Option.map_eq_some_iff] at hv
      obtain ⟨x, h1, h2⟩ := hv
      exact ⟨x, h1, h2.symm⟩
    have hxm := List.mem_of_getElem? hx
    wtm_at "go"
    refine tests_one ?_
    wtm_at "go"
    refine at_np O2 (.tail _ (.tail _ (.tail _ (.tail _ (sort_node hxm (node_inst x)))))) (.tail _ (.tail _ (.tail _ (.tail _ (sort_node hxm (node_dict x)))))) ?_
    wtm_at "go"
    have hst : (((ns.take (i + 1)).filter fun x => x.np == 0).map (·.key)) = (((ns.take i).filter fun x => x.np == 0).map (·.key)) ++ if x.np == 0 then [x.key] else [] := by
      rw [List.take_succ, hx, List.filter_append, List.map_append]
      congr 1
      by_cases h : x.np == 0 <;> simp [h]
    refine Br.eqi (fun hb => ?_) (fun hb => ?_)
    · wtm_at "go"
      refine at_node O2 (.tail _ (.tail _ (.tail _ (.tail _ (sort_node hxm (node_inst x)))))) (.tail _ (.tail _ (.tail _ (.tail _ (sort_node hxm (node_dict x)))))) ?_
      refine ⟨_, Sb.refl, ?_, rfl⟩
      rw [hst]
      simp [hb, iL]
    · refine ⟨_, Sb.refl, ?_, rfl⟩
      rw [hst]
      simp [hb, iL]
  case fin =>
    rintro acc l₁ ys ⟨rfl, rfl⟩
    rw [hn2l, List.take_length]
    wtm_at "go"
    refine' ts_ts O' (by with_unfolding_all kernel_rfl) ?m1 ?u ?pp ?hz ?_
    case u => wtm_at "upd"
    case m1 => wtm_at "mem"
    case pp => wtm_at "put"
    case hz => simp
    wtm_at "go"
    wtm_at "tms"
    wtm_at "go"
    refine TCall.sb (l' := sortL sx sd n2 ep ns (.ref acc) po fi ((acc, listS (iL ((ns.filter fun x => x.np == 0).map (·.key)))) :: (C.L, Frm m) :: l)) ?_ (c_fc O' (R'.mono (by decide)) ?_ hd hz hcl hgl hfirst (fun hfin => ?_) fun ring r hring => ?_)
    · exact sortSb2 _ _
    · refine (Fra.sub (m := m) F ?_ ?_ (fun p hp => .tail _ (.tail _ hp)) (.tail _ (.head _))).fra
      · with_unfolding_all rfl
      · intro h; with_unfolding_all cases h
    · wtm_at "go"
      refine next_end ?_ (h0 acc hfin)
      exact Sb.trans (sortSb1' _) (Sb.of_perm (sortP (List.Perm.swap _ _ _)))
    · wtm_at "go"
      have hrl : ring.length ≤ 2000 ∧ ring ≠ [] := by
        obtain ⟨p, x, q, rfl, hnd, _, hks, _⟩ := hring
        have h1 := len_sub hnd hks
        have h2 : (keysOf ns).length = ns.length := by simp [keysOf]
        simp at h1 ⊢
        lia
      refine t_list (vs := iL ring) (.head _) (by rw [iL_len]; lia) ?_
      have hne : (!(iL ring).isEmpty) = true := by
        cases ring with
        | nil => exact absurd rfl hrl.2
        | cons _ _ => rfl
      rw [hne]
      refine Br.tt ?_
      wtm_at "go"
      refine x_raise (Cl := 136) O' PySem.F.excBase_ValueError (fun mg G => own136 O' G) R'.handled (by with_unfolding_all rfl) ?_
      wtm_at "go"
      refine e_jstr1 ?_
      wtm_at "go"
      refine ⟨by simp, fun e => ⟨e, _, sortL sx sd n2 ep ns (.ref acc) po fi ((acc, listS (iL ((ns.filter fun x => x.np == 0).map (·.key)))) :: l), rfl, ?_, ?_, fun t => h1 acc ring e t hring⟩⟩
      · refine Sb.take Ext.one (Sb.drop ?_)
        exact Sb.trans (sortSb1' _) (Sb.of_perm (sortP (List.Perm.swap _ _ _)))
      · exact F.mono fun p hp => .tail _ (.tail _ (.tail _ (List.mem_append_right _ (.tail _ hp))))
end
end
section
set_option Elab.async false
set_option linter.all false
set_option maxRecDepth 100000
set_option maxHeartbeats 1000000
theorem enterKCC {P : Params} {C : Cx} {a : Addr} {m m' : Loc} {l : Led} {cl : Nat → Led} {vs : List Value} {kw bs : List (Str × Value)} {Q E : Pv} (O : Ok (KK P) C) (F : FnK a) (hroom : C.A.depth < recursionLimit)
    (hb : ∀ vvs vkw, vvs.map un = vs → unK vkw = kw → T { C with A := C.A.in1 } unB m l (bindArgs (fdOf a) ⟨vvs, vkw⟩) (fun b m₁ l₁ => b = bs ∧ m₁ = m ∧
      ∀ L', TF (sub C (enC a L')) m' (cl (L' + 1) ++ ((C.L, Frm m) :: l₁)) (execs (bodyOf a) (enC a L')) (RetQ C m Q) no) E)
    (hcl : ∀ n, cellLed (fdOf a).scope.names bs n = cl n) (hm : m' = (bs.filter fun p => decide ((fdOf a).scope.names.lookup p.1 = some .local)).reverse := by rfl) (hnd : ((cellsFrom 0 (fdOf a).scope.names []).map (·.1)).Nodup := by decide +kernel)
    (hloc0 : (bs.all fun x => decide ((fdOf a).scope.names.lookup x.1 = some .local) || (decide ((fdOf a).scope.names.lookup x.1 = some .cell) && (((cellsFrom 0 (fdOf a).scope.names []).map (·.1)).contains x.1))) = true := by rfl)
    (hbody : (fdOf a).body = .stmts (bodyOf a) := by kernel_rfl) (hclo : (fdOf a).closure = [] := by kernel_rfl)
    (hco : (fdOf a).scope.isCoroutine = false := by kernel_rfl) (hgen : (fdOf a).scope.isGenerator = false := by kernel_rfl) (hk : (fdOf a).scope.kind = .function := by kernel_rfl) : TCall C m l (.ref a) vs kw Q E := by
  obtain ⟨oc, od, osl, h1, h2⟩ := F P
  refine (enterCC (O.X _ _ h1) rfl hbody hclo (codeRec_of O.X h2) O.lim hroom (fun vvs vkw x y => ?_) hm hnd hloc0 hco hgen hk).call
  simp only [hcl]
  exact hb vvs vkw x y
theorem rI_int (n : Nat) : rI 0 n 1 = (List.range n).map fun i : Nat => (i : Int) := by rw [rI_one]; simp
theorem rI_get {n : Nat} {i : Nat} {k : Int} (h : (rI 0 n 1)[i]? = some k) : i < n ∧ k = i := by
  rw [rI_int, List.getElem?_map, Option.map_eq_some_iff] at h
  obtain ⟨j, h1, rfl⟩ := h
  have hi : i < n := by
    rcases Nat.lt_or_ge i n with h | h
    · exact h
    · rw [List.getElem?_eq_none (by simpa using h)] at h1; cases h1
  rw [List.getElem?_range hi] at h1
  exact ⟨hi, by rw [Option.some.inj h1]⟩
theorem filt_step {α : Type} (p : α → Bool) (l : List α) {i : Nat} {x : α} (h : l[i]? = some x) : (l.take (i + 1)).filter p = (l.take i).filter p ++ if p x then [x] else [] := by
  rw [List.take_succ, h, List.filter_append]
  congr 1
  by_cases hp : p x <;> simp [hp]
theorem pick_upto (fs : List Int) (b : Nat) : pickL (iL fs) none (some (b : Int)) none = iL (fs.take b) := by
  rw [pickL_plain]
  simp only [kms_lo, kms_hi, iL_len]
  rw [if_neg (by lia), List.drop_zero, Nat.sub_zero]
  unfold iL
  rw [← List.map_take]
  congr 1
  rw [Int.toNat_natCast, List.take_eq_take_iff]
  lia
end
local macro_rules | `(tactic| wtm_at "tv") => `(tactic| ((with_reducible show TV _ _ _ (eval (Expr.Name _ _) _) _ _); refine' e_cell ?hl ?hc ?mm ?_; (case hl => with_unfolding_all rfl); (case hc => with_unfolding_all rfl); (case mm => wtm_at "mem")))
local macro_rules | `(tactic| wtm_at "sc") => `(tactic| (refine' store_cell ?hl ?hc ?u ?_; (case hl => with_unfolding_all rfl); (case hc => with_unfolding_all rfl); (case u => wtm_at "upd")))
set_option hygiene false
local macro_rules | `(tactic| wtm_at "mem") => `(tactic| with_reducible assumption)
local macro_rules | `(tactic| wtm_at "fsc") => `(tactic| ((case fg => wtm_at "fg"); (case sb => wtm_at "sb")))
set_option hygiene true
section
set_option Elab.async false
set_option linter.all false
set_option maxRecDepth 100000
set_option maxHeartbeats 1000000
/-! ## _law_write -/
noncomputable def num3 (fs : List Int) (g : Nat) : Int := fs.getD (3 * g) 0 * 65536 + fs.getD (3 * g + 1) 0 * 256 + fs.getD (3 * g + 2) 0
noncomputable def sign4 (F : List Int) (n : Int) : List Int := [3, 2, 1, 0].map fun j : Nat => F.getD (n / 64 ^ j % 64).toNat 0
noncomputable def signsTo (F fs : List Int) (k : Nat) : List Int := (List.range k).flatMap fun g => sign4 F (num3 fs g)
theorem signsTo_succ (F fs : List Int) (k : Nat) : signsTo F fs (k + 1) = signsTo F fs k ++ sign4 F (num3 fs k) := by
  unfold signsTo
  rw [List.range_succ, List.flatMap_append]
  simp
theorem signsTo_len (F fs : List Int) (k : Nat) : (signsTo F fs k).length = 4 * k := by
  induction k with
  | zero => rfl
  | succ k ih => rw [signsTo_succ, List.length_append, ih]; simp [sign4]; lia
theorem rI3_get {q i : Nat} {k : Int} (h : (rI 0 (3 * q : Nat) 3)[i]? = some k) : i < q ∧ k = 3 * i := by
  unfold rI at h
  have e : (Builtin.Range.rangeSize 0 ((3 * q : Nat) : Int) 3).toNat = q := by unfold Builtin.Range.rangeSize; simp; split <;> lia
  rw [e, List.getElem?_map, Option.map_eq_some_iff] at h
  obtain ⟨j, h1, rfl⟩ := h
  have hi : i < q := by
    rcases Nat.lt_or_ge i q with h | h
    · exact h
    · rw [List.getElem?_eq_none (by simpa using h)] at h1; cases h1
  rw [List.getElem?_range hi] at h1
  cases h1
  exact ⟨hi, by lia⟩
theorem rI3_len (q : Nat) : (rI 0 (3 * q : Nat) 3).length = q := by
  unfold rI
  have e : (Builtin.Range.rangeSize 0 ((3 * q : Nat) : Int) 3).toNat = q := by unfold Builtin.Range.rangeSize; simp; split <;> lia
  rw [e]; simp
noncomputable def alph62 : List Int := KBw.bInts (([65, 66, 67, 68, 69, 70, 71, 72, 73, 74, 75, 76, 77, 78, 79, 80, 81, 82, 83, 84, 85, 86, 87, 88, 89, 90, 97, 98, 99, 100, 101, 102, 103, 104, 105, 106, 107, 108, 109, 110, 111, 112, 113, 114, 115, 116, 117, 118, 119, 120, 121, 122, 48, 49, 50, 51, 52, 53, 54, 55, 56, 57] : List UInt8).toArray)
theorem alph62_len : alph62.length = 62 := by decide +kernel
theorem p64 {j : Nat} (h : j ≤ 3) : (64 : Int) ^ j ≠ 0 ∧ ((64 : Int) ^ j).natAbs < 1073741824 ∧ (0 : Int) ≤ 64 ^ j := by
  match j, h with
  | 0, _ => decide
  | 1, _ => decide
  | 2, _ => decide
  | 3, _ => decide
noncomputable def lackN (ns : List Int) : Nat := (3 - ns.length % 3) % 3
theorem lack_eq (ns : List Int) : (-(ns.length : Int)).fmod 3 = (lackN ns : Int) := by
  unfold lackN
  rw [Int.fmod_eq_emod_of_nonneg _ (by decide)]
  lia
theorem lack3 (ns : List Int) : lackN ns ≤ 2 ∧ (ns.length + lackN ns) % 3 = 0 := by unfold lackN; lia
noncomputable def wrS (ns : List Int) (c d : Int) : List Int := (signsTo (alph62 ++ [c, d]) (ns ++ List.replicate (lackN ns) 0) ((ns.length + lackN ns) / 3)).take (4 * ((ns.length + lackN ns) / 3) - lackN ns) ++ List.replicate (lackN ns) 61
noncomputable abbrev wrI (cL fa fl sa ta oa L1 : Addr) (lk : Int) (F fs : List Int) (m : Loc) (l : Led) (i : Nat) (m₁ : Loc) (l₁ : Led) : Prop :=
  ∃ ov, m₁ = [(Str.ofString "two", .ref ta), (Str.ofString "octets", .ref oa), (Str.ofString "lack", .int lk 0), (Str.ofString "filled", .ref fl), (Str.ofString "signs", .ref sa)] ∧
    l₁ = (sa, listS (iL (signsTo F fs i))) :: (fl, listS (iL fs)) :: (fa, listS (iL F)) :: (L1 + 1, cellS ov) :: (L1, cellS (some (.ref fa))) :: (cL, Frm m) :: l
section
variable {P : Params} {C : Cx} {m : Loc} {l l' : Led} {Q E : Pv}
theorem c_write (O : Ok (KK P) C) (R : Room C.A 1) {oa ta : Addr} {ns : List Int} {c d : Int} (ho : (oa, listS (iL ns)) ∈ l) (ht : (ta, listS (iL [c, d])) ∈ l) (hz : ns.length ≤ 100000) (h : ∀ r, Q (.ref r) m ((r, listS (iL (wrS ns c d))) :: l)) :
    TCall C m l (.ref 242) [.ref oa, .ref ta] [] Q E := by
  refine enterKCC (bs := [(Str.ofString "octets", .ref oa), (Str.ofString "two", .ref ta)]) (m' := [(Str.ofString "two", .ref ta), (Str.ofString "octets", .ref oa)]) (cl := fun n => [(n + 1, cellS none), (n, cellS none)]) O FF.c242.fk R.now ?_ (fun n => by with_unfolding_all rfl)
  intro vvs vkw hv hk
  obtain ⟨v, w, rfl, hv1, hv2⟩ := map2 hv
  obtain rfl := kw0 hk
  refine T.pure (a := [(Str.ofString "octets", v), (Str.ofString "two", w)]) ⟨by simp [unB, hv1, hv2], rfl, fun L' => ?_⟩
  have O' := O.sub (enC 242 L')
  have R' : Room (sub C (enC 242 L')).A 0 := R.sub
  simp only [List.cons_append, List.nil_append]
  wtm_at "body"
  wtm_at "go"
  rw [bytes_byv]
  refine f_list_bytes (ns := alph62) (InB_bInts _) (by rw [alph62_len]; decide) R'.handled fun r1 => ?_
  wtm_at "go"
  refine o_add_list (vs := iL alph62) (ws := iL [c, d]) (.head _) (by wtm_at "mem") (by rw [iL_len, alph62_len, iL_len]; simp) fun fa => ?_
  rw [← iL_append]
  wtm_at "sc"
  wtm_at "go"
  refine f_len_list (vs := iL ns) (by wtm_at "mem") (by rw [iL_len]; lia) ?_
  rw [iL_len]
  wtm_at "go"
  rw [lack_eq]
  obtain ⟨hl2, hl3⟩ := lack3 ns
  generalize hq : (ns.length + lackN ns) / 3 = q
  have hql : ns.length + lackN ns = 3 * q := by lia
  wtm_at "go"
  refine ⟨by simp, fun r2 => ?_⟩
  wtm_at "go"
  refine o_mul_list (vs := [.int 0 0]) (.head _) (by lia) (by lia) (by simp) fun r3 => ?_
  rw [show (List.replicate (lackN ns : Int).toNat [Value.int 0 0]).flatten = iL (List.replicate (lackN ns) 0) from by simp [iL, List.map_replicate]]
  wtm_at "go"
  refine o_add_list (vs := iL ns) (ws := iL (List.replicate (lackN ns) 0)) (by wtm_at "mem") (.head _) (by rw [iL_len, iL_len, List.length_replicate]; lia) fun fl => ?_
  rw [← iL_append]
  generalize hfl : ns ++ List.replicate (lackN ns) 0 = fs
  have hfs : fs.length = 3 * q := by rw [← hfl, List.length_append, List.length_replicate]; exact hql
  wtm_at "go"
  refine ⟨by simp, fun sa => ?_⟩
  wtm_at "go"
  refine f_len_list (vs := iL fs) (by wtm_at "mem") (by rw [iL_len]; lia) ?_
  rw [iL_len, hfs]
  wtm_at "go"
  refine f_range3 (by decide) (by decide) fun ra => ?_
  wtm_at "go"
  have hgi : ∀ j : Nat, j < 3 * q → (iL fs)[j]? = some (.int (fs.getD j 0) 0) := fun j hj => by unfold iL; rw [List.getElem?_map, List.getD_eq_getElem?_getD, List.getElem?_eq_getElem (by lia)]; rfl
  have hF : (alph62 ++ [c, d]).length = 64 := by rw [List.length_append, alph62_len]; rfl
  generalize hFe : alph62 ++ [c, d] = F at hF ⊢
  refine' for_range (.head _) (by decide) (by decide) (by lia) (by decide) R'.handled (wrI C.L fa fl sa ta oa (L' + 1) (lackN ns) F fs m l) ?fg ?sb ?h0 ?turn ?fin
  case h0 => exact ⟨none, rfl, rfl⟩
  case fg => wtm_at "fg"
  case sb =>
    show Sb ((sa, listS []) :: (fl, listS (iL fs)) :: (fa, listS (iL F)) :: (L' + 1 + 1, cellS none) :: (L' + 1, cellS (some (Value.ref fa))) :: (C.L, Frm m) :: l) _
    exact Sb.drop (Sb.take Ext.one (Sb.take Ext.one (Sb.drop (Sb.drop (Sb.take Ext.one (Sb.drop Sb.refl))))))
  case turn =>
    rintro it P2 i k m₁ l₁ hk ⟨ov, rfl, rfl⟩
    obtain ⟨hi, rfl⟩ := rI3_get hk
    wtm_at "go"
    refine s_list (vs := iL fs) (v := .int (fs.getD (3 * i) 0) 0) (by wtm_at "mem") (by lia) (by rw [show (3 * (i : Int)).toNat = 3 * i by lia]; exact hgi _ (by lia)) (by rw [iL_len]; lia) ?_
    wtm_at "go"
    refine s_list (vs := iL fs) (v := .int (fs.getD (3 * i + 1) 0) 0) (by wtm_at "mem") (by lia) (by rw [show (3 * (i : Int) + 1).toNat = 3 * i + 1 by lia]; exact hgi _ (by lia)) (by rw [iL_len]; lia) ?_
    wtm_at "go"
    refine s_list (vs := iL fs) (v := .int (fs.getD (3 * i + 2) 0) 0) (by wtm_at "mem") (by lia) (by rw [show (3 * (i : Int) + 2).toNat = 3 * i + 2 by lia]; exact hgi _ (by lia)) (by rw [iL_len]; lia) ?_
    wtm_at "go"
    wtm_at "sc"
    wtm_at "go"
    show TV _ _ _ (eval _ _) _ _
    generalize hnum : fs.getD (3 * i) 0 * 65536 + fs.getD (3 * i + 1) 0 * 256 + fs.getD (3 * i + 2) 0 = num
    refine e_comp (cl := [(Str.ofString "number", _), (Str.ofString "figures", _)]) (by with_unfolding_all rfl) (by with_unfolding_all rfl) (by decide +kernel) ?_
    wtm_at "go"
    refine ⟨by simp, fun jl => ?_⟩
    refine' comp_list (vs := iL [3, 2, 1, 0]) (.head _) R'.handled (by simp [iL]) (fun j ys l₁ => ys = iL ((sign4 F num).take j) ∧ l₁ = (jl, listS (iL [3, 2, 1, 0])) :: (it, P2) :: (sa, listS (iL (signsTo F fs i))) :: (fl, listS (iL fs)) :: (fa, listS (iL F)) :: (L' + 1 + 1, cellS (some (.int num 0))) :: (L' + 1, cellS (some (Value.ref fa))) :: (C.L, Frm m) :: l) ?sb2 ?hS2 ?h02 ?turn2 ?fin2
    case h02 => exact ⟨rfl, rfl⟩
    case sb2 => exact Sb.refl
    case hS2 => rintro j ys l₁ ⟨rfl, rfl⟩; exact .head _
    case turn2 =>
      rintro it2 L2 P3 acc j v ys l₁ hv ⟨rfl, rfl⟩ hle
      have O2 := O'.cx L2
      obtain ⟨jv, hjv, hj3, rfl⟩ : ∃ jv : Nat, ([3, 2, 1, 0] : List Nat)[j]? = some jv ∧ jv ≤ 3 ∧ v = .int jv 0 := by
        match j, hv with
        | 0, hv => exact ⟨3, rfl, by decide, (Option.some.inj hv).symm⟩
        | 1, hv => exact ⟨2, rfl, by decide, (Option.some.inj hv).symm⟩
        | 2, hv => exact ⟨1, rfl, by decide, (Option.some.inj hv).symm⟩
        | 3, hv => exact ⟨0, rfl, by decide, (Option.some.inj hv).symm⟩
      wtm_at "go"
      refine tests_nil (Br.tt ?_)
      wtm_at "go"
      refine i_pow (by lia) (by lia) (by decide) ?_
      rw [Int.toNat_natCast]
      have hp := p64 hj3
      refine i_div hp.1 hp.2.1 ?_
      wtm_at "go"
      rw [Int.fdiv_eq_ediv_of_nonneg _ hp.2.2, Int.fmod_eq_emod_of_nonneg _ (by decide)]
      have h0 : 0 ≤ num / 64 ^ jv % 64 := Int.emod_nonneg _ (by decide)
      have h1 : num / 64 ^ jv % 64 < 64 := Int.emod_lt_of_pos _ (by decide)
      refine s_list (vs := iL F) (v := .int (F.getD (num / 64 ^ jv % 64).toNat 0) 0) (by wtm_at "mem") h0 (by unfold iL; rw [List.getElem?_map, List.getD_eq_getElem?_getD, List.getElem?_eq_getElem (by lia)]; rfl) (by rw [iL_len]; lia) ?_
      refine ⟨_, Sb.refl, ?_, rfl⟩
      have e : (sign4 F num)[j]? = some (F.getD (num / 64 ^ jv % 64).toNat 0) := by unfold sign4; rw [List.getElem?_map, hjv]; rfl
      rw [List.take_succ, e, iL_append]
      rfl
    case fin2 =>
      rintro acc l₁ ys ⟨rfl, rfl⟩
      have e4 : (sign4 F num).take (iL [3, 2, 1, 0]).length = sign4 F num := by rw [List.take_of_length_le]; simp [sign4, iL]
      rw [e4]
      wtm_at "go"
      refine' m_extend (vs := iL (signsTo F fs i)) (ws := iL (sign4 F num)) ?u (.head _) (by rw [iL_len, iL_len, signsTo_len]; simp [sign4]; lia) ?_
      case u => wtm_at "upd"
      have e5 : num = num3 fs i := hnum.symm
      rw [← iL_append, e5, ← signsTo_succ]
      wtm_at "go"
      refine' loop_next ?fg ?sb ⟨_, rfl, rfl⟩
      case fg => wtm_at "fg"
      case sb =>
        show Sb ((it, P2) :: (sa, listS (iL (signsTo F fs (i + 1)))) :: (fl, listS (iL fs)) :: (fa, listS (iL F)) :: (L' + 1 + 1, cellS (some (Value.int (num3 fs i) 0))) :: (L' + 1, cellS (some (Value.ref fa))) :: (C.L, Frm m) :: l) _
        exact Sb.drop (Sb.drop Sb.refl)
  case fin =>
    rintro m₁ l₁ ⟨ov, rfl, rfl⟩
    rw [rI3_len]
    wtm_at "go"
    refine f_len_list (vs := iL (signsTo F fs q)) (.head _) (by rw [iL_len, signsTo_len]; lia) ?_
    rw [iL_len, signsTo_len]
    wtm_at "go"
    have hlq : lackN ns ≤ 4 * q := by lia
    rw [show ((4 * q : Nat) : Int) - (lackN ns : Int) = ((4 * q - lackN ns : Nat) : Int) by lia]
    intro sl
    refine s_slice (vs := iL (signsTo F fs q)) (vl := .none) (vu := .int ((4 * q - lackN ns : Nat) : Int) 0) (vk := .none) (lo := none) (hi := some ((4 * q - lackN ns : Nat) : Int)) (st := none) (.tail _ (.head _)) (.head _) rfl rfl rfl (by simp) (by rw [iL_len, signsTo_len]; lia) fun sr => ?_
    rw [pick_upto]
    wtm_at "go"
    refine ⟨by simp, fun r6 => ?_⟩
    wtm_at "go"
    refine o_mul_list (vs := [.int 61 0]) (.head _) (by lia) (by lia) (by simp) fun r7 => ?_
    rw [show (List.replicate (lackN ns : Int).toNat [Value.int 61 0]).flatten = iL (List.replicate (lackN ns) 61) from by simp [iL, List.map_replicate]]
    refine o_add_list (vs := iL ((signsTo F fs q).take (4 * q - lackN ns))) (ws := iL (List.replicate (lackN ns) 61)) (by wtm_at "mem") (.head _) (by rw [iL_len, iL_len, List.length_replicate, List.length_take]; lia) fun r8 => ?_
    rw [← iL_append]
    wtm_at "go"
    have e : wrS ns c d = (signsTo F fs q).take (4 * q - lackN ns) ++ List.replicate (lackN ns) 61 := by unfold wrS; rw [hFe, hfl, hq]
    rw [← e]
    refine ret_end ?_ (h r8)
    show Sb ((C.L, Frm m) :: (r8, listS (iL (wrS ns c d))) :: l) _
    wtm_at "sb"
end
end
section
set_option Elab.async false
set_option linter.all false
set_option maxRecDepth 100000
set_option maxHeartbeats 1000000
/-! ## writing and reading, plain -/
noncomputable def fig : List Int → List Int
  | a :: b :: c :: t => a / 4 :: (a % 4 * 16 + b / 16) :: (b % 16 * 4 + c / 64) :: c % 64 :: fig t
  | [a, b] => [a / 4, a % 4 * 16 + b / 16, b % 16 * 4]
  | [a] => [a / 4, a % 4 * 16]
  | [] => []
theorem enc_fig : ∀ ns : List Int, encS 0 0 ns = (fig ns).map sym ++ List.replicate (lackN ns) 61
  | [] => rfl
  | [a] => rfl
  | [a, b] => rfl
  | a :: b :: c :: t => by
    have ih := enc_fig t
    have e : lackN (a :: b :: c :: t) = lackN t := by unfold lackN; simp only [List.length_cons]; rw [show (t.length + 1 + 1 + 1) % 3 = t.length % 3 by lia]
    rw [e]
    simp only [encS, fig, List.map_cons, List.cons_append, ih]
theorem fig_len : ∀ ns : List Int, (fig ns).length % 4 ≠ 1 ∧ lackN ns = (4 - (fig ns).length % 4) % 4
  | [] => ⟨by decide, rfl⟩
  | [a] => ⟨by simp [fig], rfl⟩
  | [a, b] => ⟨by simp [fig], rfl⟩
  | a :: b :: c :: t => by
    have ih := fig_len t
    have e : lackN (a :: b :: c :: t) = lackN t := by unfold lackN; simp only [List.length_cons]; rw [show (t.length + 1 + 1 + 1) % 3 = t.length % 3 by lia]
    have e2 : (fig (a :: b :: c :: t)).length % 4 = (fig t).length % 4 := by simp only [fig, List.length_cons]; lia
    rw [e, e2]
    exact ih
theorem div64 {a : Int} (h : 0 ≤ a ∧ a < 256) : 0 ≤ a / 4 ∧ a / 4 < 64 := ⟨Int.ediv_nonneg h.1 (by decide), Int.ediv_lt_of_lt_mul (by decide) h.2⟩
theorem mid1 {a b : Int} (ha : 0 ≤ a ∧ a < 256) (hb : 0 ≤ b ∧ b < 256) : 0 ≤ a % 4 * 16 + b / 16 ∧ a % 4 * 16 + b / 16 < 64 := by lia
theorem mid2 {b c : Int} (ha : 0 ≤ b ∧ b < 256) (hb : 0 ≤ c ∧ c < 256) : 0 ≤ b % 16 * 4 + c / 64 ∧ b % 16 * 4 + c / 64 < 64 := by lia
theorem fig_in : ∀ {ns : List Int}, InB ns → InF (fig ns)
  | [], _, v, hv => nomatch hv
  | [a], h, v, hv => by
    have ha := h a (.head _)
    simp only [fig, List.mem_cons, List.not_mem_nil, or_false] at hv
    rcases hv with rfl | rfl
    · exact div64 ha
    · lia
  | [a, b], h, v, hv => by
    have ha := h a (.head _)
    have hb := h b (.tail _ (.head _))
    simp only [fig, List.mem_cons, List.not_mem_nil, or_false] at hv
    rcases hv with rfl | rfl | rfl
    · exact div64 ha
    · exact mid1 ha hb
    · lia
  | a :: b :: c :: t, h, v, hv => by
    have ha := h a (.head _)
    have hb := h b (.tail _ (.head _))
    have hc := h c (.tail _ (.tail _ (.head _)))
    simp only [fig, List.mem_cons] at hv
    rcases hv with rfl | rfl | rfl | rfl | hv
    · exact div64 ha
    · exact mid1 ha hb
    · exact mid2 hb hc
    · lia
    · exact fig_in (fun n hn => h n (.tail _ (.tail _ (.tail _ hn)))) v hv
theorem d1 {a b : Int} (hb : 0 ≤ b ∧ b < 256) (ha : 0 ≤ a ∧ a < 256) : a / 4 * 4 + (a % 4 * 16 + b / 16) / 16 = a := by lia
theorem d2 {a b c : Int} (hb : 0 ≤ b ∧ b < 256) (hc : 0 ≤ c ∧ c < 256) : (a % 4 * 16 + b / 16) % 16 * 16 + (b % 16 * 4 + c / 64) / 4 = b := by omega
theorem d3 {b c : Int} (hc : 0 ≤ c ∧ c < 256) : (b % 16 * 4 + c / 64) % 4 * 64 + c % 64 = c := by lia
theorem dec_fig : ∀ {ns : List Int}, InB ns → decS 0 0 (fig ns) = ns
  | [], _ => rfl
  | [a], h => by
    have ha := h a (.head _)
    simp only [fig, decS]
    rw [show a / 4 * 4 + a % 4 * 16 / 16 = a by lia]
  | [a, b], h => by
    have ha := h a (.head _)
    have hb := h b (.tail _ (.head _))
    simp only [fig, decS]
    rw [d1 hb ha, show (a % 4 * 16 + b / 16) % 16 * 16 + b % 16 * 4 / 4 = b by lia]
  | a :: b :: c :: t, h => by
    have ha := h a (.head _)
    have hb := h b (.tail _ (.head _))
    have hc := h c (.tail _ (.tail _ (.head _)))
    rw [fig, dec4, d1 hb ha, d2 hb hc, d3 hc, dec_fig fun n hn => h n (.tail _ (.tail _ (.tail _ hn)))]
/-! the law's own writing is b64encode's -/
theorem fig_get : ∀ k : Fin 64, k.val < 62 → alph62.getD k.val 0 = b64L.getD k.val 0 ∧ b64L.getD k.val 0 ≠ 43 ∧ b64L.getD k.val 0 ≠ 47 ∧ b64L.getD k.val 0 ≠ 45 ∧ b64L.getD k.val 0 ≠ 95 ∧ b64L.getD k.val 0 ≠ 46 := by decide +kernel
theorem figs_at {v c d : Int} (h : 0 ≤ v ∧ v < 64) : (alph62 ++ [c, d]).getD v.toNat 0 = trI 43 47 c d (sym v) := by
  have hl := alph62_len
  unfold sym
  rcases Nat.lt_or_ge v.toNat 62 with h1 | h1
  · obtain ⟨e, n1, n2, _⟩ := fig_get ⟨v.toNat, by lia⟩ h1
    rw [List.getD_eq_getElem?_getD, List.getElem?_append_left (by lia), ← List.getD_eq_getElem?_getD]
    simp only at e n1 n2
    unfold trI
    rw [if_neg n2, if_neg n1, e]
  · rw [List.getD_eq_getElem?_getD, List.getElem?_append_right (by lia), hl]
    rcases (by lia : v.toNat = 62 ∨ v.toNat = 63) with e | e
    · rw [e]; rfl
    · rw [e]; rfl
theorem signs_step (F : List Int) (a b c : Int) (t : List Int) (k : Nat) : signsTo F (a :: b :: c :: t) (k + 1) = sign4 F (a * 65536 + b * 256 + c) ++ signsTo F t k := by
  unfold signsTo
  rw [List.range_succ_eq_map, List.flatMap_cons, List.flatMap_map]
  congr 1
theorem q0 {a b c : Int} (ha : 0 ≤ a ∧ a < 256) (hb : 0 ≤ b ∧ b < 256) (hc : 0 ≤ c ∧ c < 256) : (a * 65536 + b * 256 + c) / 262144 % 64 = a / 4 := by lia
theorem q1 {a b c : Int} (ha : 0 ≤ a ∧ a < 256) (hb : 0 ≤ b ∧ b < 256) (hc : 0 ≤ c ∧ c < 256) : (a * 65536 + b * 256 + c) / 4096 % 64 = a % 4 * 16 + b / 16 := by lia
theorem q2 {a b c : Int} (ha : 0 ≤ a ∧ a < 256) (hb : 0 ≤ b ∧ b < 256) (hc : 0 ≤ c ∧ c < 256) : (a * 65536 + b * 256 + c) / 64 % 64 = b % 16 * 4 + c / 64 := by omega
theorem q3 {a b c : Int} : (a * 65536 + b * 256 + c) / 1 % 64 = c % 64 := by lia
theorem sign4_fig (F : List Int) {a b c : Int} (ha : 0 ≤ a ∧ a < 256) (hb : 0 ≤ b ∧ b < 256) (hc : 0 ≤ c ∧ c < 256) :
    sign4 F (a * 65536 + b * 256 + c) = [a / 4, a % 4 * 16 + b / 16, b % 16 * 4 + c / 64, c % 64].map fun v => F.getD v.toNat 0 := by
  show [F.getD ((a * 65536 + b * 256 + c) / 262144 % 64).toNat 0, F.getD ((a * 65536 + b * 256 + c) / 4096 % 64).toNat 0, F.getD ((a * 65536 + b * 256 + c) / 64 % 64).toNat 0, F.getD ((a * 65536 + b * 256 + c) / 1 % 64).toNat 0] = _
  rw [q0 ha hb hc, q1 ha hb hc, q2 ha hb hc, q3]
  rfl
theorem wr_fig : ∀ {ns : List Int} {c d : Int}, InB ns → wrS ns c d = (fig ns).map (fun v => (alph62 ++ [c, d]).getD v.toNat 0) ++ List.replicate (lackN ns) 61
  | [], c, d, _ => rfl
  | [a], c, d, h => by
    have ha := h a (.head _)
    have z : (0 : Int) ≤ 0 ∧ (0 : Int) < 256 := by decide
    have e : wrS [a] c d = (signsTo (alph62 ++ [c, d]) [a, 0, 0] 1).take 2 ++ [61, 61] := by unfold wrS; simp [lackN, List.replicate]
    rw [e, signs_step, sign4_fig _ ha z z]
    simp [fig, lackN, signsTo]
  | [a, b], c, d, h => by
    have ha := h a (.head _)
    have hb := h b (.tail _ (.head _))
    have z : (0 : Int) ≤ 0 ∧ (0 : Int) < 256 := by decide
    have e : wrS [a, b] c d = (signsTo (alph62 ++ [c, d]) [a, b, 0] 1).take 3 ++ [61] := by unfold wrS; simp [lackN, List.replicate]
    rw [e, signs_step, sign4_fig _ ha hb z]
    simp [fig, lackN, signsTo]
  | a :: b :: x :: t, c, d, h => by
    have ha := h a (.head _)
    have hb := h b (.tail _ (.head _))
    have hc := h x (.tail _ (.tail _ (.head _)))
    have ih := wr_fig (ns := t) (c := c) (d := d) fun n hn => h n (.tail _ (.tail _ (.tail _ hn)))
    have e : lackN (a :: b :: x :: t) = lackN t := by unfold lackN; simp only [List.length_cons]; rw [show (t.length + 1 + 1 + 1) % 3 = t.length % 3 by lia]
    obtain ⟨l2, l3⟩ := lack3 t
    have eq : ((a :: b :: x :: t).length + lackN t) / 3 = (t.length + lackN t) / 3 + 1 := by simp only [List.length_cons]; lia
    unfold wrS at ih ⊢
    rw [e, eq, List.cons_append, List.cons_append, List.cons_append, signs_step, sign4_fig _ ha hb hc]
    have e4 : 4 * ((t.length + lackN t) / 3 + 1) - lackN t = 4 + (4 * ((t.length + lackN t) / 3) - lackN t) := by lia
    rw [e4, List.take_add, List.take_left' (by simp), List.drop_left' (by simp), List.append_assoc, ih]
    simp [fig]
theorem wr_enc {ns : List Int} {c d : Int} (h : InB ns) : wrS ns c d = (encS 0 0 ns).map (trI 43 47 c d) := by
  rw [wr_fig h, enc_fig, List.map_append, List.map_map, List.map_replicate]
  congr 1
  exact List.map_congr_left fun v hv => figs_at (fig_in h v hv)
end
section
set_option Elab.async false
set_option linter.all false
set_option maxRecDepth 100000
set_option maxHeartbeats 1000000
/-! ## names and trees, plain -/
noncomputable def twoC (x : Int) : Int := if x % 2 = 0 then 45 else 43
noncomputable def twoD (x : Int) : Int := if x % 2 = 0 then 95 else 47
theorem alph62_ok : ∀ x ∈ alph62, 0 ≤ x ∧ x < 256 ∧ x ≠ 46 := by decide +kernel
theorem two_cases (x : Int) : (twoC x = 45 ∧ twoD x = 95) ∨ (twoC x = 43 ∧ twoD x = 47) := by
  unfold twoC twoD
  by_cases h : x % 2 = 0
  · rw [if_pos h, if_pos h]; exact .inl ⟨rfl, rfl⟩
  · rw [if_neg h, if_neg h]; exact .inr ⟨rfl, rfl⟩
theorem wr_ok {ns : List Int} {x : Int} (h : InB ns) : ∀ y ∈ wrS ns (twoC x) (twoD x), 0 ≤ y ∧ y < 256 ∧ y ≠ 46 := fun y hy => by
  rw [wr_fig h] at hy
  rcases List.mem_append.mp hy with hy | hy
  · obtain ⟨v, hv, rfl⟩ := List.mem_map.mp hy
    obtain ⟨h0, h1⟩ := fig_in h v hv
    have hl : (alph62 ++ [twoC x, twoD x]).length = 64 := by rw [List.length_append, alph62_len]; rfl
    have hm : (alph62 ++ [twoC x, twoD x]).getD v.toNat 0 ∈ alph62 ++ [twoC x, twoD x] := by
      rw [List.getD_eq_getElem?_getD, List.getElem?_eq_getElem (by lia)]; exact List.getElem_mem _
    rcases List.mem_append.mp hm with h2 | h2
    · exact alph62_ok _ h2
    · generalize (alph62 ++ [twoC x, twoD x]).getD v.toNat 0 = z at h2
      simp only [List.mem_cons, List.not_mem_nil, or_false] at h2
      rcases two_cases x with ⟨e1, e2⟩ | ⟨e1, e2⟩ <;> rw [e1, e2] at h2 <;> rcases h2 with rfl | rfl <;> decide
  · rw [List.eq_of_mem_replicate hy]; decide
theorem wr_back {ns : List Int} {x : Int} (h : InB ns) : (wrS ns (twoC x) (twoD x)).map (trI 45 95 43 47) = (fig ns).map sym ++ List.replicate (lackN ns) 61 := by
  rw [wr_fig h, List.map_append, List.map_map, List.map_replicate]
  congr 1
  refine List.map_congr_left fun v hv => ?_
  obtain ⟨h0, h1⟩ := fig_in h v hv
  show trI 45 95 43 47 ((alph62 ++ [twoC x, twoD x]).getD v.toNat 0) = sym v
  rw [figs_at ⟨h0, h1⟩]
  have key : ∀ k : Fin 64, trI 45 95 43 47 (trI 43 47 45 95 (b64L.getD k.val 0)) = b64L.getD k.val 0 ∧ trI 45 95 43 47 (trI 43 47 43 47 (b64L.getD k.val 0)) = b64L.getD k.val 0 := by decide +kernel
  have := key ⟨v.toNat, by lia⟩
  rcases two_cases x with ⟨e1, e2⟩ | ⟨e1, e2⟩ <;> rw [e1, e2]
  · exact this.1
  · exact this.2
theorem wr_len (ns : List Int) (c d : Int) : (wrS ns c d).length ≤ 4 * ((ns.length + 2) / 3) + 2 := by
  obtain ⟨h1, h2⟩ := lack3 ns
  unfold wrS
  rw [List.length_append, List.length_replicate, List.length_take]
  have := Nat.min_le_left (4 * ((ns.length + lackN ns) / 3) - lackN ns) ((signsTo (alph62 ++ [c, d]) (ns ++ List.replicate (lackN ns) 0) ((ns.length + lackN ns) / 3)).length)
  omega
theorem wr_ne {a : Int} {ns : List Int} {c d : Int} (h : InB (a :: ns)) : wrS (a :: ns) c d ≠ [] := by
  rw [wr_fig h]
  intro e
  have := List.append_eq_nil_iff.mp e
  have h2 : fig (a :: ns) = [] := List.map_eq_nil_iff.mp this.1
  match ns, h2 with
  | [], h2 => simp [fig] at h2
  | [_], h2 => simp [fig] at h2
  | _ :: _ :: _, h2 => simp [fig] at h2
section
variable (lab : Int → Int) (nd : Int → List Int)
noncomputable def Dp : Nat → Int → Prop
  | 0, _ => False
  | d + 1, k => ∀ i ∈ nd k, Dp d i
noncomputable def nmF : Nat → Int → List Int
  | 0, _ => []
  | d + 1, k => wrS (lab k :: joinB [46] (sort2 (lexG ltI) ((nd k).map (nmF d)))) (twoC (lab k)) (twoD (lab k))
noncomputable def octF (d : Nat) (k : Int) : List Int := lab k :: joinB [46] (sort2 (lexG ltI) ((nd k).map (nmF lab nd d)))
noncomputable def treeF : Nat → Int → Dat
  | 0, _ => .none
  | d + 1, k => .list [.int (lab k), .list (sort2 ltT ((nd k).map (treeF d)))]
structure Gd : Prop where
  lab : ∀ k, 0 ≤ lab k ∧ lab k < 256
  two : ∀ k, (nd k).length ≤ 2
end
theorem nmF_succ (lab : Int → Int) (nd : Int → List Int) (d : Nat) (k : Int) : nmF lab nd (d + 1) k = wrS (octF lab nd d k) (twoC (lab k)) (twoD (lab k)) := rfl
noncomputable def Nm (x : List Int) : Prop := ∀ y ∈ x, 0 ≤ y ∧ y < 256 ∧ y ≠ 46
noncomputable def lenB : Nat → Nat
  | 0 => 0
  | d + 1 => 3 * lenB d + 8
section
variable {lab : Int → Int} {nd : Int → List Int}
theorem joinB_two {sp : List Int} {xs : List (List Int)} (h2 : xs.length ≤ 2) : (xs = [] ∧ joinB sp xs = []) ∨ (∃ x, xs = [x] ∧ joinB sp xs = x) ∨ ∃ x y, xs = [x, y] ∧ joinB sp xs = x ++ sp ++ y := by
  match xs, h2 with
  | [], _ => exact .inl ⟨rfl, rfl⟩
  | [x], _ => exact .inr (.inl ⟨x, rfl, rfl⟩)
  | [x, y], _ => exact .inr (.inr ⟨x, y, rfl, rfl⟩)
theorem join_inB {xs : List (List Int)} (h2 : xs.length ≤ 2) (h : ∀ x ∈ xs, Nm x) : InB (joinB [46] xs) := by
  rcases joinB_two (sp := [46]) h2 with ⟨_, e⟩ | ⟨x, rfl, e⟩ | ⟨x, y, rfl, e⟩ <;> rw [e]
  · intro n hn; cases hn
  · exact fun n hn => ⟨(h x (.head _) n hn).1, (h x (.head _) n hn).2.1⟩
  · intro n hn
    rcases List.mem_append.mp hn with hn | hn
    · rcases List.mem_append.mp hn with hn | hn
      · exact ⟨(h x (.head _) n hn).1, (h x (.head _) n hn).2.1⟩
      · simp only [List.mem_cons, List.not_mem_nil, or_false] at hn; subst hn; decide
    · exact ⟨(h y (.tail _ (.head _)) n hn).1, (h y (.tail _ (.head _)) n hn).2.1⟩
theorem nm_ok (G : Gd lab nd) : ∀ (d : Nat) (k : Int), Nm (nmF lab nd d k) ∧ InB (octF lab nd d k)
  | 0, k => by
    have h0 : Nm (nmF lab nd 0 k) := fun y hy => nomatch hy
    refine ⟨h0, fun n hn => ?_⟩
    rcases List.mem_cons.mp hn with rfl | hn
    · exact G.lab k
    · refine join_inB (by rw [sort2_len, List.length_map]; exact G.two k) (fun x hx => ?_) n hn
      obtain ⟨i, _, rfl⟩ := List.mem_map.mp ((sort2_perm _).mem_iff.mp hx)
      exact fun y hy => nomatch hy
  | d + 1, k => by
    have ih := nm_ok G d
    have h1 : ∀ k, Nm (nmF lab nd (d + 1) k) := fun k => wr_ok (ih k).2
    refine ⟨h1 k, fun n hn => ?_⟩
    rcases List.mem_cons.mp hn with rfl | hn
    · exact G.lab k
    · refine join_inB (by rw [sort2_len, List.length_map]; exact G.two k) (fun x hx => ?_) n hn
      obtain ⟨i, _, rfl⟩ := List.mem_map.mp ((sort2_perm _).mem_iff.mp hx)
      exact h1 i
theorem join_len {xs : List (List Int)} (h2 : xs.length ≤ 2) {B : Nat} (h : ∀ x ∈ xs, x.length ≤ B) : (joinB [46] xs).length ≤ 2 * B + 1 := by
  rcases joinB_two (sp := [46]) h2 with ⟨_, e⟩ | ⟨x, rfl, e⟩ | ⟨x, y, rfl, e⟩ <;> rw [e]
  · simp
  · have := h x (.head _); lia
  · have h1 := h x (.head _)
    have h2 := h y (.tail _ (.head _))
    simp only [List.length_append, List.length_cons, List.length_nil]
    lia
theorem nm_len (G : Gd lab nd) : ∀ (d : Nat) (k : Int), (nmF lab nd d k).length ≤ lenB d
  | 0, k => Nat.le_refl _
  | d + 1, k => by
    have h := wr_len (octF lab nd d k) (twoC (lab k)) (twoD (lab k))
    have h2 : (joinB [46] (sort2 (lexG ltI) ((nd k).map (nmF lab nd d)))).length ≤ 2 * lenB d + 1 := join_len (by rw [sort2_len, List.length_map]; exact G.two k) fun x hx => by
      obtain ⟨i, _, rfl⟩ := List.mem_map.mp ((sort2_perm _).mem_iff.mp hx)
      exact nm_len G d i
    rw [nmF_succ]
    unfold octF at h ⊢
    rw [List.length_cons] at h
    show _ ≤ 3 * lenB d + 8
    lia
theorem oct_len (G : Gd lab nd) (d : Nat) (k : Int) : (octF lab nd d k).length ≤ 2 * lenB d + 2 := by
  unfold octF
  rw [List.length_cons]
  exact Nat.succ_le_succ (join_len (by rw [sort2_len, List.length_map]; exact G.two k) fun x hx => by
    obtain ⟨i, _, rfl⟩ := List.mem_map.mp ((sort2_perm _).mem_iff.mp hx)
    exact nm_len G d i)
theorem Dp.up : ∀ {d : Nat} {k : Int}, Dp nd d k → Dp nd (d + 1) k
  | 0, _, h => h.elim
  | _ + 1, _, h => fun i hi => Dp.up (h i hi)
theorem Dp.le {d e : Nat} {k : Int} (h : Dp nd d k) (hle : d ≤ e) : Dp nd e k := by
  induction hle with
  | refl => exact h
  | step _ ih => exact ih.up
theorem nm_up : ∀ {d : Nat} {k : Int}, Dp nd d k → nmF lab nd (d + 1) k = nmF lab nd d k
  | 0, _, h => h.elim
  | d + 1, k, h => by
    rw [nmF_succ, nmF_succ]
    unfold octF
    rw [List.map_congr_left fun i hi => nm_up (h i hi)]
end
/-! ### trees compare -/
noncomputable def Tr : Nat → Dat → Prop
  | 0, _ => False
  | d + 1, t => ∃ a ks, t = .list [.int a, .list ks] ∧ ∀ x ∈ ks, Tr d x
theorem Cm.up : ∀ {n : Nat} {d e : Dat}, Cm n d e → Cm (n + 1) d e
  | 0, _, _, h => h.elim
  | _ + 1, _, _, .inl h => .inl h
  | _ + 1, _, _, .inr ⟨ds, es, h1, h2, h3⟩ => .inr ⟨ds, es, h1, h2, fun j a b => (h3 j a b).up⟩
theorem Cm.le {n k : Nat} {d e : Dat} (h : Cm n d e) (hle : n ≤ k) : Cm k d e := by
  induction hle with
  | refl => exact h
  | step _ ih => exact ih.up
theorem Tr.cm : ∀ {d e : Nat} {t u : Dat}, Tr d t → Tr e u → Cm (2 * d) t u
  | 0, _, _, _, h, _ => h.elim
  | _ + 1, 0, _, _, _, h => h.elim
  | d + 1, e + 1, _, _, ⟨a, ks, rfl, hk⟩, ⟨b, js, rfl, hj⟩ => by
    rw [show 2 * (d + 1) = 2 * d + 1 + 1 by lia]
    refine .inr ⟨_, _, rfl, rfl, fun j h1 h2 => ?_⟩
    match j, h1, h2 with
    | 0, _, _ => exact .inl ⟨a, b, rfl, rfl⟩
    | 1, _, _ => exact .inr ⟨ks, js, rfl, rfl, fun i h3 h4 => (hk _ (List.getElem_mem h3)).cm (hj _ (List.getElem_mem h4))⟩
    | j + 2, h1, _ => exact absurd h1 (by simp)
theorem kqd_le {n k : Nat} {d : Dat} (h : kqdOk n d = true) (hle : n ≤ k) : kqdOk k d = true := by
  induction hle with
  | refl => exact h
  | step _ ih => exact kqdOk_up _ ih
theorem Tr.ok : ∀ {d : Nat} {t : Dat}, Tr d t → kqdOk (2 * d) t = true
  | 0, _, h => h.elim
  | d + 1, _, ⟨a, ks, rfl, hk⟩ => by
    rw [show 2 * (d + 1) = 2 * d + 1 + 1 by lia]
    have h1 : ∀ x ∈ ks, kqdOk (2 * d) x = true := fun x hx => (hk x hx).ok
    simp [kqdOk]
    exact h1
theorem sort2_swap {α : Type} {lt : α → α → Bool} {a b : α} (h : a ≠ b → lt a b = !lt b a) : sort2 lt [a, b] = sort2 lt [b, a] := by
  by_cases e : a = b
  · rw [e]
  · rw [sort2_two, sort2_two, h e]
    cases lt b a <;> rfl
theorem sort2_both {α β : Type} (lt : α → α → Bool) {f : β → α} {is : List β} (h2 : is.length ≤ 2) : ∃ js, sort2 lt (is.map f) = js.map f ∧ (js = is ∨ ∃ a b, is = [a, b] ∧ js = [b, a]) := by
  match is, h2 with
  | [], _ => exact ⟨[], rfl, .inl rfl⟩
  | [a], _ => exact ⟨[a], rfl, .inl rfl⟩
  | [a, b], _ =>
    rw [List.map_cons, List.map_cons, List.map_nil, sort2_two]
    by_cases h : lt (f b) (f a) = true
    · rw [if_pos h]; exact ⟨[b, a], rfl, .inr ⟨a, b, rfl, rfl⟩⟩
    · rw [if_neg h]; exact ⟨[a, b], rfl, .inl rfl⟩
section
variable {lab : Int → Int} {nd : Int → List Int}
theorem tree_tr : ∀ {d : Nat} {k : Int}, Dp nd d k → Tr d (treeF lab nd d k)
  | 0, _, h => h.elim
  | d + 1, k, h => ⟨_, _, rfl, fun x hx => by
    obtain ⟨i, hi, rfl⟩ := List.mem_map.mp ((sort2_perm _).mem_iff.mp hx)
    exact tree_tr (h i hi)⟩
theorem tree_sort {d : Nat} (hd : d ≤ 10) {is js : List Int} (h : ∀ i ∈ is, Dp nd d i) (hj : js = is ∨ ∃ a b, is = [a, b] ∧ js = [b, a]) : sort2 ltT (js.map (treeF lab nd d)) = sort2 ltT (is.map (treeF lab nd d)) := by
  rcases hj with rfl | ⟨a, b, rfl, rfl⟩
  · rfl
  · rw [List.map_cons, List.map_cons, List.map_nil, List.map_cons, List.map_cons, List.map_nil]
    refine sort2_swap fun hne => ltD_anti 20 (Cm.le ((tree_tr (h b (.tail _ (.head _)))).cm (tree_tr (h a (.head _)))) (by lia)) hne
end
end
section
set_option Elab.async false
set_option linter.all false
set_option maxRecDepth 100000
set_option maxHeartbeats 2000000
/-! ## _law_own -/
noncomputable def NsL (l : Led) (na : Addr) (needs : List (List Int)) : Prop := ∃ ps : List (Addr × List Int), ps.map (·.2) = needs ∧ (na, listS (ps.map fun p => Value.ref p.1)) ∈ l ∧ ∀ p ∈ ps, (p.1, listS (iL p.2)) ∈ l
theorem NsL.mono {l l' : Led} {na : Addr} {needs : List (List Int)} (h : NsL l na needs) (hm : ∀ p ∈ l, p ∈ l') : NsL l' na needs :=
  let ⟨ps, a, b, c⟩ := h; ⟨ps, a, hm _ b, fun p hp => hm _ (c p hp)⟩
noncomputable abbrev labF (labels : List Int) (k : Int) : Int := labels.getD k.toNat 0
noncomputable abbrev ndF (needs : List (List Int)) (k : Int) : List Int := needs.getD k.toNat []
theorem NsL.at {l : Led} {na : Addr} {needs : List (List Int)} (h : NsL l na needs) {k : Int} (h0 : 0 ≤ k) (h1 : k < needs.length) :
    ∃ vs a, (na, listS vs) ∈ l ∧ vs[k.toNat]? = some (.ref a) ∧ vs.length = needs.length ∧ (a, listS (iL (ndF needs k))) ∈ l := by
  obtain ⟨ps, e, b, c⟩ := h
  have hl : ps.length = needs.length := by rw [← e, List.length_map]
  have hk : k.toNat < ps.length := by omega
  refine ⟨_, (ps[k.toNat]).1, b, by rw [List.getElem?_map, List.getElem?_eq_getElem hk]; rfl, by rw [List.length_map, hl], ?_⟩
  have := c _ (List.getElem_mem hk)
  have e2 : ndF needs k = (ps[k.toNat]).2 := by
    unfold ndF
    rw [List.getD_eq_getElem?_getD, ← e, List.getElem?_map, List.getElem?_eq_getElem hk]; rfl
  rw [e2]; exact this
theorem lab_at {labels : List Int} {k : Int} (h0 : 0 ≤ k) (h1 : k < labels.length) : (iL labels)[k.toNat]? = some (.int (labF labels k) 0) := by
  unfold iL labF
  rw [List.getElem?_map, List.getD_eq_getElem?_getD, List.getElem?_eq_getElem (by omega)]; rfl
structure Wd (labels : List Int) (needs : List (List Int)) : Prop where
  len : labels.length = needs.length
  small : needs.length ≤ 5
  rng : ∀ k : Int, 0 ≤ k → k < needs.length → ∀ i ∈ ndF needs k, 0 ≤ i ∧ i < needs.length
  gd : Gd (labF labels) (ndF needs)
theorem joinB_take {sp : List Int} {xs : List (List Int)} (h2 : xs.length ≤ 2) {j : Nat} {x : List Int} (hx : xs[j]? = some x) : joinB sp (xs.take (j + 1)) = joinB sp (xs.take j) ++ (if 0 < j then sp else []) ++ x := by
  match xs, h2, j, hx with
  | [a], _, 0, hx => simp at hx; subst hx; simp [joinB]
  | [a, b], _, 0, hx => simp at hx; subst hx; simp [joinB]
  | [a, b], _, 1, hx => simp at hx; subst hx; simp [joinB]
theorem seg_out {e a b : Addr × Shape} {S R : Led} : Sb (e :: b :: (S ++ R)) (b :: a :: (S ++ e :: R)) :=
  Sb.trans (Sb.of_perm ((List.Perm.swap _ _ _).trans (List.Perm.cons _ List.perm_middle.symm))) (Sb.take Ext.one (Sb.drop Sb.refl))
noncomputable abbrev owI (ba : Addr) (k : Int) (lb : Int) (qs : List (Addr × List Int)) (Z : Led) (i : Nat) (m₁ : Loc) (l₁ : Led) : Prop :=
  ∃ oa, m₁ = [(Str.ofString "k", .int k 0), (Str.ofString "octets", .ref oa), (Str.ofString "below", .ref ba)] ∧ l₁ = (oa, listS (iL (lb :: joinB [46] ((qs.map (·.2)).take i)))) :: (ba, listS (refsV qs)) :: Z
theorem seg_sb {e1 e2 e3 : Addr × Shape} {ts : List (Addr × List Int)} {t : Addr × List Int} {L0 : Led} : Sb (e1 :: e2 :: e3 :: (segL (ts ++ [t]) ++ L0)) ((t.1, listS (iL t.2)) :: e1 :: e2 :: e3 :: (segL ts ++ L0)) := by
  refine Sb.of_perm ?_
  unfold segL
  rw [List.map_append, List.append_assoc]
  refine List.Perm.trans ?_ (List.perm_middle (l₁ := [e1, e2, e3]) (l₂ := ts.map (fun p => (p.1, listS (iL p.2))) ++ L0) (a := (t.1, listS (iL t.2))))
  refine List.Perm.append_left [e1, e2, e3] ?_
  exact List.perm_middle
theorem lenB_le {d : Nat} (h : d ≤ 7) : lenB d ≤ 100000 := by
  have : ∀ k : Fin 8, lenB k.val ≤ 100000 := by decide
  exact this ⟨d, by lia⟩
theorem lenB_le6 {d : Nat} (h : d ≤ 6) : lenB d ≤ 40000 := by
  have : ∀ k : Fin 7, lenB k.val ≤ 40000 := by decide
  exact this ⟨d, by lia⟩
section
variable {P : Params} {labels : List Int} {needs : List (List Int)} {la na : Addr}
theorem c_own (W : Wd labels needs) : ∀ (d : Nat) (hd : d ≤ 7) {C : Cx} {m : Loc} {l : Led} {Q E : Pv} {k : Int} (O : Ok (KK P) C) (R : Room C.A (d + 2)) (hla : (la, listS (iL labels)) ∈ l) (hna : NsL l na needs) (h0 : 0 ≤ k) (h1 : k < needs.length)
    (hk : Dp (ndF needs) d k) (h : ∀ r, Q (.ref r) m ((r, listS (iL (nmF (labF labels) (ndF needs) d k))) :: l)), TCall C m l (.ref 247) [.int k 0, .ref la, .ref na] [] Q E
  | 0, _, _, _, _, _, _, _, _, _, _, _, _, _, hk, _ => hk.elim
  | d + 1, hd, C, m, l, Q, E, k, O, R, hla, hna, h0, h1, hk, h => by
    refine enterKCC (bs := [(Str.ofString "k", .int k 0), (Str.ofString "labels", .ref la), (Str.ofString "needs", .ref na)]) (m' := [(Str.ofString "k", .int k 0)]) (cl := fun n => [(n + 1, cellS (some (.ref na))), (n, cellS (some (.ref la)))]) O FF.c247.fk R.now ?_ (fun n => by with_unfolding_all rfl)
    intro vvs vkw hv hkw
    obtain ⟨v1, v2, v3, rfl, e1, e2, e3⟩ := map3 hv
    obtain rfl := kw0 hkw
    refine T.pure (a := [(Str.ofString "k", v1), (Str.ofString "labels", v2), (Str.ofString "needs", v3)]) ⟨by simp [unB, e1, e2, e3], rfl, fun L' => ?_⟩
    have O' := O.sub (enC 247 L')
    have R' : Room (sub C (enC 247 L')).A (d + 2) := R.sub
    simp only [List.cons_append, List.nil_append]
    obtain ⟨nv, ka, hnv, hnk, hnl, hka⟩ := hna.at h0 h1
    wtm_at "body"
    wtm_at "go"
    refine s_list (vs := iL labels) (v := .int (labF labels k) 0) (by wtm_at "mem") h0 (lab_at h0 (by rw [W.len]; exact h1)) (by rw [iL_len, W.len]; exact Nat.le_trans W.small (by decide)) ?_
    wtm_at "go"
    refine ⟨by simp, fun oc => ?_⟩
    wtm_at "go"
    refine e_comp (cl := [(Str.ofString "needs", _), (Str.ofString "labels", _)]) (by with_unfolding_all rfl) (by with_unfolding_all rfl) (by decide +kernel) ?_
    wtm_at "go"
    refine s_list (vs := nv) (v := .ref ka) (by wtm_at "mem") h0 hnk (by rw [hnl]; exact Nat.le_trans W.small (by decide)) ?_
    generalize hxs : ndF needs k = is at hka
    have hi2 : is.length ≤ 2 := by rw [← hxs]; exact W.gd.two k
    refine' comp_list (vs := iL is) (by wtm_at "mem") R'.handled (by rw [iL_len]; lia) (fun j ys l₁ => ∃ ps : List (Addr × List Int), ys = refsV ps ∧ l₁ = segL ps ++ ((oc, listS (iL [labF labels k])) :: (L' + 1 + 1, cellS (some (.ref na))) :: (L' + 1, cellS (some (.ref la))) :: (C.L, Frm m) :: l) ∧ ps.map (·.2) = (is.take j).map (nmF (labF labels) (ndF needs) d)) ?sb ?hS ?h0 ?turn ?fin
    case h0 => exact ⟨[], rfl, rfl, rfl⟩
    case sb => exact Sb.refl
    case hS => rintro j ys l₁ ⟨ps, rfl, rfl, _⟩; exact List.mem_append_right _ (by wtm_at "mem")
    case turn =>
      rintro it L2 P2 acc j v ys l₁ hv ⟨ps, rfl, rfl, hps⟩ hle
      have O2 := O'.cx L2
      obtain ⟨i, hi, rfl⟩ : ∃ i, is[j]? = some i ∧ v = .int i 0 := by
        unfold iL at hv
        simp only [List.getElem?_map, Option.map_eq_some_iff] at hv
        obtain ⟨c, h1, rfl⟩ := hv
        exact ⟨c, h1, rfl⟩
      have him : i ∈ ndF needs k := by rw [hxs]; exact List.mem_of_getElem? hi
      wtm_at "go"
      refine tests_nil (Br.tt ?_)
      wtm_at "go"
      obtain ⟨hr0, hr1⟩ := W.rng k h0 h1 i him
      refine c_own W d (by lia) (C := cx (sub C (enC 247 L')) L2) O2 R' (.tail _ (.tail _ (.tail _ (List.mem_append_right _ (by wtm_at "mem"))))) (hna.mono fun p hp => .tail _ (.tail _ (.tail _ (List.mem_append_right _ (by wtm_at "mem"))))) hr0 hr1 (hk i him) fun r => ?_
      refine ⟨_, seg_sb (t := (r, nmF (labF labels) (ndF needs) d i)), ps ++ [(r, nmF (labF labels) (ndF needs) d i)], by simp, rfl, ?_⟩
      rw [List.map_append, hps, List.take_succ, hi, List.map_append]
      rfl
    case fin =>
      rintro acc l₁ ys ⟨ps, rfl, rfl, hps⟩
      rw [iL_len, List.take_length] at hps
      have hpl : ps.length = is.length := by have := congrArg List.length hps; simpa using this
      wtm_at "go"
      refine f_sortedL (ps := ps) (.head _) (fun p hp => .tail _ (List.mem_append_left _ (List.mem_map_of_mem (f := fun p : Addr × List Int => (p.1, listS (iL p.2))) hp))) (by lia) ?hu fun ba qs hqs hqe => ?_
      case hu => have := R'.units; lia
      rw [hps] at hqe
      have hql : qs.length ≤ 2 := by have := congrArg List.length hqe; rw [List.length_map, sort2_len, List.length_map] at this; lia
      wtm_at "go"
      refine f_len_list (vs := refsV qs) (.head _) (by rw [List.length_map]; lia) ?_
      rw [List.length_map]
      wtm_at "go"
      refine f_range1 fun r1 => ?_
      wtm_at "go"
      have hqm : ∀ q ∈ qs, (q.1, listS (iL q.2)) ∈ segL ps := fun q hq => List.mem_map_of_mem (f := fun p : Addr × List Int => (p.1, listS (iL p.2))) (hqs q hq)
      have hbl : ∀ x ∈ qs.map (·.2), x.length ≤ 100000 := fun x hx => by
        rw [hqe] at hx
        obtain ⟨i, _, rfl⟩ := List.mem_map.mp ((sort2_perm _).mem_iff.mp hx)
        exact Nat.le_trans (nm_len W.gd d i) (lenB_le (by lia))
      refine' for_range (.head _) (by decide) (by decide) (by lia) (by decide) R'.handled (owI ba k (labF labels k) qs (segL ps ++ ((L' + 1 + 1, cellS (some (.ref na))) :: (L' + 1, cellS (some (.ref la))) :: (C.L, Frm m) :: l))) ?fg ?sb ?h0 ?turn ?fin
      case h0 => exact ⟨oc, rfl, rfl⟩
      case fg => wtm_at "fg"
      case sb => exact Sb.drop seg_out
      case turn =>
        rintro it P2 i c m₁ l₁ hc ⟨oa, rfl, rfl⟩
        obtain ⟨hi, rfl⟩ := rI_get hc
        have hqi : (qs.map (·.2))[i]? = some qs[i].2 := by rw [List.getElem?_map, List.getElem?_eq_getElem hi]; rfl
        have hjl : (joinB [46] ((qs.map (·.2)).take i)).length ≤ 200001 := join_len (by rw [List.length_take, List.length_map]; lia) fun x hx => hbl x (List.mem_of_mem_take hx)
        wtm_at "go"
        refine Br.dec (fun hb => ?_) (fun hb => ?_)
        · wtm_at "go"
          refine ⟨by simp, fun e1 => ?_⟩
          refine o_add_list (vs := iL (labF labels k :: joinB [46] ((qs.map (·.2)).take i))) (ws := iL [46]) (by wtm_at "mem") (.head _) (by rw [iL_len, iL_len, List.length_cons]; simp; lia) fun e2 => ?_
          wtm_at "go"
          refine s_list (vs := refsV qs) (v := .ref qs[i].1) (by wtm_at "mem") (by lia) (by rw [Int.toNat_natCast, List.getElem?_map, List.getElem?_eq_getElem hi]; rfl) (by rw [List.length_map]; lia) ?_
          rw [← iL_append]
          refine o_add_list (vs := iL (labF labels k :: joinB [46] ((qs.map (·.2)).take i) ++ [46])) (ws := iL qs[i].2) (.head _) (.tail _ (.tail _ (.tail _ (.tail _ (.tail _ (List.mem_append_left _ (hqm _ (List.getElem_mem hi)))))))) (by have := hbl qs[i].2 (List.mem_map_of_mem (List.getElem_mem hi)); rw [iL_len, iL_len, List.length_append, List.length_cons]; simp; lia) fun e3 => ?_
          rw [← iL_append, show labF labels k :: joinB [46] ((qs.map (·.2)).take i) ++ [46] ++ qs[i].2 = labF labels k :: joinB [46] ((qs.map (·.2)).take (i + 1)) from by rw [joinB_take (by rw [List.length_map]; exact hql) hqi, if_pos (by lia : 0 < i)]; simp]
          wtm_at "go"
          refine' loop_next ?fg ?sb ⟨e3, rfl, rfl⟩
          case fg => wtm_at "fg"
          case sb => wtm_at "sb"
        · wtm_at "go"
          refine ⟨by simp, fun e1 => ?_⟩
          refine o_add_list (vs := iL (labF labels k :: joinB [46] ((qs.map (·.2)).take i))) (ws := iL []) (by wtm_at "mem") (.head _) (by rw [iL_len, iL_len, List.length_cons]; simp; lia) fun e2 => ?_
          wtm_at "go"
          refine s_list (vs := refsV qs) (v := .ref qs[i].1) (by wtm_at "mem") (by lia) (by rw [Int.toNat_natCast, List.getElem?_map, List.getElem?_eq_getElem hi]; rfl) (by rw [List.length_map]; lia) ?_
          rw [← iL_append]
          refine o_add_list (vs := iL (labF labels k :: joinB [46] ((qs.map (·.2)).take i) ++ [])) (ws := iL qs[i].2) (.head _) (.tail _ (.tail _ (.tail _ (.tail _ (.tail _ (List.mem_append_left _ (hqm _ (List.getElem_mem hi)))))))) (by have := hbl qs[i].2 (List.mem_map_of_mem (List.getElem_mem hi)); rw [iL_len, iL_len, List.length_append, List.length_cons]; simp; lia) fun e3 => ?_
          rw [← iL_append, show labF labels k :: joinB [46] ((qs.map (·.2)).take i) ++ [] ++ qs[i].2 = labF labels k :: joinB [46] ((qs.map (·.2)).take (i + 1)) from by rw [joinB_take (by rw [List.length_map]; exact hql) hqi, if_neg (by lia : ¬ 0 < i)]; simp]
          wtm_at "go"
          refine' loop_next ?fg ?sb ⟨e3, rfl, rfl⟩
          case fg => wtm_at "fg"
          case sb => wtm_at "sb"
      case fin =>
        rintro m₁ l₁ ⟨oa, rfl, rfl⟩
        rw [rI_int, List.length_map, List.length_range, ← List.length_map (f := fun p : Addr × List Int => p.2) (as := qs), List.take_length, hqe]
        have hoct : labF labels k :: joinB [46] (sort2 (lexG ltI) (is.map (nmF (labF labels) (ndF needs) d))) = octF (labF labels) (ndF needs) d k := by unfold octF; rw [hxs]
        rw [hoct]
        wtm_at "go"
        refine s_list (vs := iL labels) (v := .int (labF labels k) 0) (.tail _ (.tail _ (List.mem_append_right _ (by wtm_at "mem")))) h0 (lab_at h0 (by rw [W.len]; exact h1)) (by rw [iL_len, W.len]; exact Nat.le_trans W.small (by decide)) ?_
        wtm_at "go"
        rw [Int.fmod_eq_emod_of_nonneg _ (by decide)]
        have hol : (octF (labF labels) (ndF needs) d k).length ≤ 100000 := Nat.le_trans (oct_len W.gd d k) (by have := lenB_le6 (d := d) (by lia); lia)
        refine Br.eqi (fun hb => ?_) (fun hb => ?_)
        · wtm_at "go"
          refine ⟨by simp, fun ta => ?_⟩
          wtm_at "go"
          refine c_write (ns := octF (labF labels) (ndF needs) d k) (c := 45) (d := 95) O' (R'.mono (by lia)) (.tail _ (.head _)) (.head _) hol fun r => ?_
          wtm_at "go"
          refine ret_end ?_ (h r)
          rw [nmF_succ, show twoC (labF labels k) = 45 from if_pos hb, show twoD (labF labels k) = 95 from if_pos hb]
          show Sb ((C.L, Frm m) :: (r, listS (iL (wrS (octF (labF labels) (ndF needs) d k) 45 95))) :: l) _
          exact Sb.trans (Sb.of_perm (List.Perm.swap _ _ _)) (Sb.take Ext.one (Sb.drop (Sb.drop (Sb.drop (Sb.dropA (Sb.drop (Sb.drop Sb.refl)))))))
        · wtm_at "go"
          refine ⟨by simp, fun ta => ?_⟩
          wtm_at "go"
          refine c_write (ns := octF (labF labels) (ndF needs) d k) (c := 43) (d := 47) O' (R'.mono (by lia)) (.tail _ (.head _)) (.head _) hol fun r => ?_
          wtm_at "go"
          refine ret_end ?_ (h r)
          rw [nmF_succ, show twoC (labF labels k) = 43 from if_neg hb, show twoD (labF labels k) = 47 from if_neg hb]
          show Sb ((C.L, Frm m) :: (r, listS (iL (wrS (octF (labF labels) (ndF needs) d k) 43 47))) :: l) _
          exact Sb.trans (Sb.of_perm (List.Perm.swap _ _ _)) (Sb.take Ext.one (Sb.drop (Sb.drop (Sb.drop (Sb.dropA (Sb.drop (Sb.drop Sb.refl)))))))
end
end
section
set_option Elab.async false
set_option linter.all false
set_option maxRecDepth 100000
set_option maxHeartbeats 2000000
/-! ## _law_tree -/
theorem RdsL.snoc {l : Led} {v : Value} {d : Dat} : ∀ {vs : List Value} {ds : List Dat}, RdsL l vs ds → RdL l v d → RdsL l (vs ++ [v]) (ds ++ [d])
  | [], [], _, h => .cons h .nil
  | _ :: _, _ :: _, .cons a r, h => .cons a (r.snoc h)
theorem grow_sb {e1 e2 e3 : Addr × Shape} {Xr X Z : Led} : Sb (e1 :: e2 :: e3 :: ((Xr ++ X) ++ Z)) (Xr ++ (e1 :: e2 :: e3 :: (X ++ Z))) := by
  refine Sb.of_perm ?_
  have h := List.perm_append_comm_assoc [e1, e2, e3] Xr (X ++ Z)
  rw [List.append_assoc]
  exact h
theorem tree_end {t r a : Addr × Shape} {c1 c2 f : Addr × Shape} {X l : Led} : Sb (f :: (t :: r :: X ++ l)) (t :: r :: a :: (X ++ (c1 :: c2 :: f :: l))) := by
  refine Sb.trans (Sb.of_perm (List.perm_middle (l₁ := t :: r :: X) (l₂ := l) (a := f)).symm) ?_
  refine Sb.of_sub ?_
  refine .cons_cons _ (.cons_cons _ (.cons _ ?_))
  exact List.Sublist.append_left (.cons _ (.cons _ (.refl _))) X
section
variable {P : Params} {labels : List Int} {needs : List (List Int)} {la na : Addr}
theorem c_tree (W : Wd labels needs) : ∀ (d : Nat) (hd : d ≤ 7) {C : Cx} {m : Loc} {l : Led} {Q E : Pv} {k : Int} (O : Ok (KK P) C) (R : Room C.A (d + 2)) (hla : (la, listS (iL labels)) ∈ l) (hna : NsL l na needs) (h0 : 0 ≤ k) (h1 : k < needs.length)
    (hk : Dp (ndF needs) d k) (h : ∀ v X, RdL X v (treeF (labF labels) (ndF needs) d k) → Q v m (X ++ l)), TCall C m l (.ref 252) [.int k 0, .ref la, .ref na] [] Q E
  | 0, _, _, _, _, _, _, _, _, _, _, _, _, _, hk, _ => hk.elim
  | d + 1, hd, C, m, l, Q, E, k, O, R, hla, hna, h0, h1, hk, h => by
    refine enterKCC (bs := [(Str.ofString "k", .int k 0), (Str.ofString "labels", .ref la), (Str.ofString "needs", .ref na)]) (m' := [(Str.ofString "k", .int k 0)]) (cl := fun n => [(n + 1, cellS (some (.ref na))), (n, cellS (some (.ref la)))]) O FF.c252.fk R.now ?_ (fun n => by with_unfolding_all rfl)
    intro vvs vkw hv hkw
    obtain ⟨v1, v2, v3, rfl, e1, e2, e3⟩ := map3 hv
    obtain rfl := kw0 hkw
    refine T.pure (a := [(Str.ofString "k", v1), (Str.ofString "labels", v2), (Str.ofString "needs", v3)]) ⟨by simp [unB, e1, e2, e3], rfl, fun L' => ?_⟩
    have O' := O.sub (enC 252 L')
    have R' : Room (sub C (enC 252 L')).A (d + 2) := R.sub
    simp only [List.cons_append, List.nil_append]
    obtain ⟨nv, ka, hnv, hnk, hnl, hka⟩ := hna.at h0 h1
    wtm_at "body"
    wtm_at "go"
    refine s_list (vs := iL labels) (v := .int (labF labels k) 0) (by wtm_at "mem") h0 (lab_at h0 (by rw [W.len]; exact h1)) (by rw [iL_len, W.len]; exact Nat.le_trans W.small (by decide)) ?_
    wtm_at "go"
    refine e_comp (cl := [(Str.ofString "needs", _), (Str.ofString "labels", _)]) (by with_unfolding_all rfl) (by with_unfolding_all rfl) (by decide +kernel) ?_
    wtm_at "go"
    refine s_list (vs := nv) (v := .ref ka) (by wtm_at "mem") h0 hnk (by rw [hnl]; exact Nat.le_trans W.small (by decide)) ?_
    generalize hxs : ndF needs k = is at hka
    have hi2 : is.length ≤ 2 := by rw [← hxs]; exact W.gd.two k
    refine' comp_list (vs := iL is) (by wtm_at "mem") R'.handled (by rw [iL_len]; lia) (fun j ys l₁ => ∃ X : Led, l₁ = X ++ ((L' + 1 + 1, cellS (some (.ref na))) :: (L' + 1, cellS (some (.ref la))) :: (C.L, Frm m) :: l) ∧ RdsL X ys ((is.take j).map (treeF (labF labels) (ndF needs) d))) ?sb ?hS ?h0 ?turn ?fin
    case h0 => exact ⟨[], rfl, .nil⟩
    case sb => exact Sb.refl
    case hS => rintro j ys l₁ ⟨X, rfl, _⟩; exact List.mem_append_right _ (by wtm_at "mem")
    case turn =>
      rintro it L2 P2 acc j v ys l₁ hv ⟨X, rfl, hX⟩ hle
      have O2 := O'.cx L2
      obtain ⟨i, hi, rfl⟩ : ∃ i, is[j]? = some i ∧ v = .int i 0 := by
        unfold iL at hv
        simp only [List.getElem?_map, Option.map_eq_some_iff] at hv
        obtain ⟨c, h1, rfl⟩ := hv
        exact ⟨c, h1, rfl⟩
      have him : i ∈ ndF needs k := by rw [hxs]; exact List.mem_of_getElem? hi
      wtm_at "go"
      refine tests_nil (Br.tt ?_)
      wtm_at "go"
      obtain ⟨hr0, hr1⟩ := W.rng k h0 h1 i him
      refine c_tree W d (by lia) (C := cx (sub C (enC 252 L')) L2) O2 R' (.tail _ (.tail _ (.tail _ (List.mem_append_right _ (by wtm_at "mem"))))) (hna.mono fun p hp => .tail _ (.tail _ (.tail _ (List.mem_append_right _ (by wtm_at "mem"))))) hr0 hr1 (hk i him) fun v Xr hXr => ?_
      refine ⟨_, grow_sb, Xr ++ X, rfl, ?_⟩
      rw [List.take_succ, hi, List.map_append]
      exact (hX.mono fun p hp => List.mem_append_right _ hp).snoc (hXr.mono fun p hp => List.mem_append_left _ hp)
    case fin =>
      rintro acc l₁ ys ⟨X, rfl, hX⟩
      rw [iL_len, List.take_length] at hX
      have htr : ∀ x ∈ is.map (treeF (labF labels) (ndF needs) d), Tr d x := fun x hx => by
        obtain ⟨i, hi, rfl⟩ := List.mem_map.mp hx
        exact tree_tr (hk i (by rw [hxs]; exact hi))
      wtm_at "go"
      refine f_sorted_rd (lX := X) (.head _) (fun p hp => .tail _ (List.mem_append_left _ hp)) hX (by rw [List.length_map]; exact hi2) (fun x hx => ⟨kqd_le (htr x hx).ok (by lia), ?es⟩) (fun x hx y hy => Cm.le ((htr x hx).cm (htr y hy)) (by lia)) ?hu fun r ys' hys => ?_
      case es =>
        have := htr x hx
        match d, this with
        | _ + 1, ⟨a, ks, e, _⟩ => exact ⟨_, e⟩
      case hu => have := R'.units; lia
      wtm_at "go"
      refine ⟨by simp, fun t => ?_⟩
      wtm_at "go"
      refine ret_end tree_end (h (.ref t) ((t, listS [.int (labF labels k) 0, .ref r]) :: (r, listS ys') :: X) ?_)
      show RdL _ _ (.list [.int (labF labels k), .list (sort2 ltT ((ndF needs k).map (treeF (labF labels) (ndF needs) d)))])
      rw [hxs]
      exact .list (.head _) (.cons (.int _) (.cons (.list (.tail _ (.head _)) (hys.mono fun p hp => .tail _ (.tail _ hp))) .nil))
end
end
section
set_option Elab.async false
set_option linter.all false
set_option maxRecDepth 100000
set_option maxHeartbeats 2000000
/-! ## _law_read -/
theorem fig_back {ns : List Int} (h : InB ns) : ((fig ns).map sym).map b64val = fig ns := by
  rw [List.map_map]
  conv => rhs; rw [← List.map_id (fig ns)]
  exact List.map_congr_left fun v hv => val_sym (fig_in h v hv).1 (fig_in h v hv).2
theorem nm_ne {lab : Int → Int} {nd : Int → List Int} (G : Gd lab nd) : ∀ {d : Nat} {k : Int}, Dp nd d k → nmF lab nd d k ≠ []
  | 0, _, h => h.elim
  | d + 1, k, _ => by rw [nmF_succ]; exact wr_ne (nm_ok G d k).2
theorem read_end {t r a p : Addr × Shape} {f : Addr × Shape} {X l : Led} : Sb (f :: (t :: r :: X ++ l)) (t :: r :: a :: (X ++ (p :: f :: l))) := by
  refine Sb.trans (Sb.of_perm (List.perm_middle (l₁ := t :: r :: X) (l₂ := l) (a := f)).symm) ?_
  refine Sb.of_sub ?_
  refine .cons_cons _ (.cons_cons _ (.cons _ ?_))
  exact List.Sublist.append_left (.cons _ (.refl _)) X
noncomputable abbrev rdJ (cL : Addr) (nm oc : List Int) (parts : List (List Int)) (m : Loc) (l : Led) (m₁ : Loc) (l₁ : Led) : Prop :=
  ∃ pl, m₁ = [(Str.ofString "name", byv nm), (Str.ofString "octets", byv oc), (Str.ofString "parts", .ref pl)] ∧ l₁ = (pl, listS (parts.map byv)) :: (cL, Frm m) :: l
section
variable {P : Params} {labels : List Int} {needs : List (List Int)}
theorem c_read (W : Wd labels needs) : ∀ (d : Nat) (hd : d ≤ 7) {C : Cx} {m : Loc} {l : Led} {Q E : Pv} {k : Int} (O : Ok (KK P) C) (R : Room C.A (d + 4)) (h0 : 0 ≤ k) (h1 : k < needs.length)
    (hk : Dp (ndF needs) d k) (h : ∀ v X, RdL X v (treeF (labF labels) (ndF needs) d k) → Q v m (X ++ l)), TCall C m l (.ref 257) [byv (nmF (labF labels) (ndF needs) d k)] [] Q E
  | 0, _, _, _, _, _, _, _, _, _, _, _, hk, _ => hk.elim
  | d + 1, hd, C, m, l, Q, E, k, O, R, h0, h1, hk, h => by
    refine enterK (bs := [(Str.ofString "name", byv (nmF (labF labels) (ndF needs) (d + 1) k))]) (m' := [(Str.ofString "name", byv (nmF (labF labels) (ndF needs) (d + 1) k))]) O FF.c257.fk R.now ?_
    intro vvs vkw hv hkw
    obtain ⟨v1, rfl, e1⟩ := map1 hv
    obtain rfl := kw0 hkw
    refine T.pure (a := [(Str.ofString "name", v1)]) ⟨by simp [unB, e1], rfl, fun L' => ?_⟩
    have O' := O.sub (en 257 L')
    have R' : Room (sub C (en 257 L')).A (d + 4) := R.sub
    have hoB : InB (octF (labF labels) (ndF needs) d k) := (nm_ok W.gd d k).2
    have hol : (octF (labF labels) (ndF needs) d k).length ≤ 100000 := Nat.le_trans (oct_len W.gd d k) (by have := lenB_le6 (d := d) (by lia); lia)
    have hnl : (nmF (labF labels) (ndF needs) (d + 1) k).length ≤ 100000 := Nat.le_trans (nm_len W.gd (d + 1) k) (lenB_le hd)
    have hnB : InB (nmF (labF labels) (ndF needs) (d + 1) k) := fun y hy => ⟨((nm_ok W.gd (d + 1) k).1 y hy).1, ((nm_ok W.gd (d + 1) k).1 y hy).2.1⟩
    have hback : (nmF (labF labels) (ndF needs) (d + 1) k).map (trI 45 95 43 47) = (fig (octF (labF labels) (ndF needs) d k)).map sym ++ List.replicate (lackN (octF (labF labels) (ndF needs) d k)) 61 := wr_back hoB
    obtain ⟨hf1, hf2⟩ := fig_len (octF (labF labels) (ndF needs) d k)
    wtm_at "body"
    wtm_at "go"
    refine c_b64decode (c := 45) (d := 95) (ns := nmF (labF labels) (ndF needs) (d + 1) k) (syms := (fig (octF (labF labels) (ndF needs) d k)).map sym) (p := lackN (octF (labF labels) (ndF needs) d k)) O' (R'.mono (by lia)) hnB (by intro x hx; simp at hx; lia) (by lia) hback (fun x hx => ?s1) (fun x hx => ?s2) (by rw [List.length_map]; exact hf2) (by rw [List.length_map]; exact hf1) ?_
    case s1 =>
      obtain ⟨v, hv, rfl⟩ := List.mem_map.mp hx
      exact sym_in (fig_in hoB v hv).1 (fig_in hoB v hv).2
    case s2 =>
      obtain ⟨v, hv, rfl⟩ := List.mem_map.mp hx
      rw [val_sym (fig_in hoB v hv).1 (fig_in hoB v hv).2]
      exact (fig_in hoB v hv).2
    rw [fig_back hoB, dec_fig hoB]
    clear hback hf1 hf2
    generalize hxs : ndF needs k = is
    have hi2 : is.length ≤ 2 := by rw [← hxs]; exact W.gd.two k
    have hki : ∀ i ∈ is, Dp (ndF needs) d i := fun i hi => hk i (by rw [hxs]; exact hi)
    obtain ⟨js, hjs, hj⟩ := sort2_both (lexG ltI) (f := nmF (labF labels) (ndF needs) d) hi2
    have hjl : js.length ≤ 2 := by rcases hj with rfl | ⟨a, b, rfl, rfl⟩ <;> exact hi2
    have hjm : ∀ i ∈ js, i ∈ is := by
      rcases hj with rfl | ⟨a, b, rfl, rfl⟩
      · exact fun i hi => hi
      · intro i hi; simp at hi ⊢; exact hi.symm
    have hoe : octF (labF labels) (ndF needs) d k = labF labels k :: joinB [46] (js.map (nmF (labF labels) (ndF needs) d)) := by unfold octF; rw [hxs, hjs]
    have hnm : ∀ i ∈ js, InB (nmF (labF labels) (ndF needs) d i) ∧ (46 : Int) ∉ nmF (labF labels) (ndF needs) d i ∧ nmF (labF labels) (ndF needs) d i ≠ [] ∧ (nmF (labF labels) (ndF needs) d i).length ≤ 100000 := fun i hi =>
      ⟨fun y hy => ⟨((nm_ok W.gd d i).1 y hy).1, ((nm_ok W.gd d i).1 y hy).2.1⟩, fun hm => ((nm_ok W.gd d i).1 46 hm).2.2 rfl, nm_ne W.gd (hki i (hjm i hi)), Nat.le_trans (nm_len W.gd d i) (lenB_le (by lia))⟩
    generalize octF (labF labels) (ndF needs) d k = oc at hoe hoB hol
    wtm_at "sto"
    refine then_next (execs_cons (x_join (J := rdJ C.L (nmF (labF labels) (ndF needs) (d + 1) k) oc (js.map (nmF (labF labels) (ndF needs) d)) m l) ?j1 ?j2))
    case j1 =>
      wtm_at "go"
      refine f_len_bytes hoB (by lia) ?_
      wtm_at "go"
      refine Br.dec (fun hb => ?_) (fun hb => ?_)
      · wtm_at "go"
        intro sl
        refine s_slice_by1 hoB (.head _) (by lia) ?_
        have hd1 : oc.drop 1 = joinB [46] (js.map (nmF (labF labels) (ndF needs) d)) := by rw [hoe]; rfl
        rw [hd1]
        refine tm_split ?_
        wtm_at "go"
        match js, hjl, hnm, hoe with
        | [], _, _, hoe => rw [hoe] at hb; simp [joinB] at hb
        | [a], _, hnm, _ =>
          obtain ⟨g1, g2, _, _⟩ := hnm a (.head _)
          refine m_split1 (c := 46) g1 (by decide) g2 fun pl => ?_
          wtm_at "go"
          refine' join_end ?fg ?sb ⟨pl, rfl, rfl⟩
          case fg => wtm_at "fg"
          case sb => exact Sb.take Ext.one (Sb.drop Sb.refl)
        | [a, b], _, hnm, _ =>
          obtain ⟨g1, g2, _, g3⟩ := hnm a (.head _)
          obtain ⟨g4, g5, _, g6⟩ := hnm b (.tail _ (.head _))
          refine m_split2 (c := 46) g1 g4 (by decide) g2 g5 (Nat.le_trans (Nat.add_le_add g3 g6) (by decide)) fun pl => ?_
          wtm_at "go"
          refine' join_end ?fg ?sb ⟨pl, rfl, rfl⟩
          case fg => wtm_at "fg"
          case sb => exact Sb.take Ext.one (Sb.drop Sb.refl)
      · have hjs0 : js = [] := by
          match js, hnm, hoe with
          | [], _, _ => rfl
          | a :: r, hnm, hoe =>
            exfalso
            have g := (hnm a (.head _)).2.2.1
            have : 0 < (joinB [46] ((a :: r).map (nmF (labF labels) (ndF needs) d))).length := by
              have hpos := List.length_pos_iff.mpr g
              cases r with
              | nil => exact hpos
              | cons b r => simp only [List.map_cons, joinB, List.length_append]; lia
            rw [hoe, List.length_cons] at hb
            lia
        subst hjs0
        wtm_at "go"
        refine ⟨by simp, fun pl => ?_⟩
        wtm_at "go"
        refine' join_end ?fg ?sb ⟨pl, rfl, rfl⟩
        case fg => wtm_at "fg"
        case sb => exact Sb.refl
    case j2 =>
      rintro m₁ l₁ ⟨pl, rfl, rfl⟩
      wtm_at "go"
      refine s_bytes (ns := oc) (i := 0) hoB (by decide) (by rw [hoe, List.length_cons]; lia) (by lia) ?_
      rw [show oc.getD (0 : Int).toNat 0 = labF labels k from by rw [hoe]; rfl]
      wtm_at "go"
      wtm_at "eC"
      wtm_at "go"
      refine' comp_list (vs := (js.map (nmF (labF labels) (ndF needs) d)).map byv) (.head _) R'.handled (by rw [List.length_map, List.length_map]; lia) (fun j ys l₁ => ∃ X : Led, l₁ = X ++ ((pl, listS ((js.map (nmF (labF labels) (ndF needs) d)).map byv)) :: (C.L, Frm m) :: l) ∧ RdsL X ys ((js.take j).map (treeF (labF labels) (ndF needs) d))) ?sb ?hS ?h0 ?turn ?fin
      case h0 => exact ⟨[], rfl, .nil⟩
      case sb => exact Sb.refl
      case hS => rintro j ys l₁ ⟨X, rfl, _⟩; exact List.mem_append_right _ (.head _)
      case turn =>
        rintro it L2 P2 acc j v ys l₁ hv ⟨X, rfl, hX⟩ hle
        have O2 := O'.cx L2
        obtain ⟨i, hi, rfl⟩ : ∃ i, js[j]? = some i ∧ v = byv (nmF (labF labels) (ndF needs) d i) := by
          simp only [List.map_map, List.getElem?_map, Option.map_eq_some_iff] at hv
          obtain ⟨c, h1, rfl⟩ := hv
          exact ⟨c, h1, rfl⟩
        have him : i ∈ ndF needs k := by rw [hxs]; exact hjm i (List.mem_of_getElem? hi)
        wtm_at "go"
        refine tests_nil (Br.tt ?_)
        wtm_at "go"
        obtain ⟨hr0, hr1⟩ := W.rng k h0 h1 i him
        refine c_read W d (by lia) (C := cx (sub C (en 257 L')) L2) O2 R' hr0 hr1 (hk i him) fun v Xr hXr => ?_
        refine ⟨_, grow_sb, Xr ++ X, rfl, ?_⟩
        rw [List.take_succ, hi, List.map_append]
        exact (hX.mono fun p hp => List.mem_append_right _ hp).snoc (hXr.mono fun p hp => List.mem_append_left _ hp)
      case fin =>
        rintro acc l₁ ys ⟨X, rfl, hX⟩
        rw [List.length_map, List.length_map, List.take_length] at hX
        have htr : ∀ x ∈ js.map (treeF (labF labels) (ndF needs) d), Tr d x := fun x hx => by
          obtain ⟨i, hi, rfl⟩ := List.mem_map.mp hx
          exact tree_tr (hki i (hjm i hi))
        wtm_at "go"
        refine f_sorted_rd (lX := X) (.head _) (fun p hp => .tail _ (List.mem_append_left _ hp)) hX (by rw [List.length_map]; exact hjl) (fun x hx => ⟨kqd_le (htr x hx).ok (by lia), ?es⟩) (fun x hx y hy => Cm.le ((htr x hx).cm (htr y hy)) (by lia)) ?hu fun r ys' hys => ?_
        case es =>
          have := htr x hx
          match d, this with
          | _ + 1, ⟨a, ks, e, _⟩ => exact ⟨_, e⟩
        case hu => have := R'.units; lia
        rw [tree_sort (by lia) hki hj] at hys
        wtm_at "go"
        refine ⟨by simp, fun t => ?_⟩
        wtm_at "go"
        refine ret_end read_end (h (.ref t) ((t, listS [.int (labF labels k) 0, .ref r]) :: (r, listS ys') :: X) ?_)
        show RdL _ _ (.list [.int (labF labels k), .list (sort2 ltT ((ndF needs k).map (treeF (labF labels) (ndF needs) d)))])
        rw [hxs]
        exact .list (.head _) (.cons (.int _) (.cons (.list (.tail _ (.head _)) (hys.mono fun p hp => .tail _ (.tail _ hp))) .nil))
end
end
section
set_option Elab.async false
set_option linter.all false
set_option maxRecDepth 100000
set_option maxHeartbeats 2000000
/-! ## _law_rounds -/
noncomputable def okR (needs : List (List Int)) (kn : List Int) (k : Int) : Bool := !decide (k ∈ kn) && ((ndF needs k).filter fun i => !decide (i ∈ kn)).isEmpty
noncomputable def newTo (needs : List (List Int)) (kn : List Int) (j : Nat) : List Int := (nats j).filter fun k => okR needs kn k
noncomputable abbrev newR (needs : List (List Int)) (kn : List Int) : List Int := newTo needs kn needs.length
noncomputable def stR (needs : List (List Int)) : Nat → List Int × List (List Int)
  | 0 => ([], [])
  | t + 1 => ((stR needs t).1 ++ newR needs (stR needs t).1, if newR needs (stR needs t).1 = [] then (stR needs t).2 else (stR needs t).2 ++ [newR needs (stR needs t).1])
theorem newTo_len (needs : List (List Int)) (kn : List Int) (j : Nat) : (newTo needs kn j).length ≤ j := Nat.le_trans (List.length_filter_le _ _) (by simp)
theorem stR_len (needs : List (List Int)) : ∀ t, (stR needs t).1.length ≤ t * needs.length ∧ (stR needs t).2.length ≤ t
  | 0 => ⟨by simp [stR], by simp [stR]⟩
  | t + 1 => by
    obtain ⟨h1, h2⟩ := stR_len needs t
    have h3 := newTo_len needs (stR needs t).1 needs.length
    refine ⟨?_, ?_⟩
    · show ((stR needs t).1 ++ newR needs (stR needs t).1).length ≤ _
      rw [List.length_append, Nat.succ_mul]
      exact Nat.add_le_add h1 h3
    · show (if newR needs (stR needs t).1 = [] then (stR needs t).2 else (stR needs t).2 ++ [newR needs (stR needs t).1]).length ≤ _
      split
      · exact Nat.le_succ_of_le h2
      · rw [List.length_append]; exact Nat.succ_le_succ h2
theorem newTo_succ (needs : List (List Int)) (kn : List Int) (j : Nat) : newTo needs kn (j + 1) = newTo needs kn j ++ if okR needs kn j = true then [(j : Int)] else [] := by
  unfold newTo nats
  rw [List.range_succ, List.map_append, List.filter_append]
  congr 1
  cases h : okR needs kn j <;> simp [h]
noncomputable abbrev rdI (cL na L1 ro : Addr) (needs : List (List Int)) (m : Loc) (l : Led) (t : Nat) (m₁ : Loc) (l₁ : Led) : Prop :=
  ∃ ka ps, m₁ = [(Str.ofString "rounds", .ref ro)] ∧ l₁ = (ka, listS (iL (stR needs t).1)) :: (ro, listS (refsV ps)) :: (segL ps ++ ((L1 + 1, cellS (some (.ref ka))) :: (L1, cellS (some (.ref na))) :: (cL, Frm m) :: l)) ∧ ps.map (·.2) = (stR needs t).2
section
variable {P : Params} {C : Cx} {m : Loc} {l : Led} {Q E : Pv} {needs : List (List Int)} {na : Addr}
theorem c_rounds (O : Ok (KK P) C) (R : Room C.A 3) (hna : NsL l na needs) (hn5 : needs.length ≤ 5) (hn2 : ∀ k, (ndF needs k).length ≤ 2) (h : ∀ r ps, ps.map (·.2) = (stR needs needs.length).2 → Q (.ref r) m ((r, listS (refsV ps)) :: (segL ps ++ l))) :
    TCall C m l (.ref 237) [.ref na] [] Q E := by
  refine enterKCC (bs := [(Str.ofString "needs", .ref na)]) (m' := []) (cl := fun n => [(n + 1, cellS none), (n, cellS (some (.ref na)))]) O FF.c237.fk R.now ?_ (fun n => by with_unfolding_all rfl)
  intro vvs vkw hv hkw
  obtain ⟨v1, rfl, e1⟩ := map1 hv
  obtain rfl := kw0 hkw
  refine T.pure (a := [(Str.ofString "needs", v1)]) ⟨by simp [unB, e1], rfl, fun L' => ?_⟩
  have O' := O.sub (enC 237 L')
  have R' : Room (sub C (enC 237 L')).A 2 := R.sub
  have hu : (sub C (enC 237 L')).A.units + 64 < cLine := by have := R'.units; lia
  simp only [List.cons_append, List.nil_append]
  obtain ⟨qs, hq, hqn, hqm⟩ := id hna
  have hql : qs.length = needs.length := by rw [← hq, List.length_map]
  wtm_at "body"
  wtm_at "go"
  refine ⟨by simp, fun k0 => ?_⟩
  wtm_at "sc"
  wtm_at "go"
  refine ⟨by simp, fun ro => ?_⟩
  wtm_at "go"
  refine f_len_list (vs := refsV qs) (by wtm_at "mem") (by rw [List.length_map]; lia) ?_
  rw [List.length_map, hql]
  wtm_at "go"
  refine f_range1 fun r1 => ?_
  wtm_at "go"
  refine' for_range (.head _) (by decide) (by decide) (by lia) (by decide) R'.handled (rdI C.L na (L' + 1) ro needs m l) ?fg ?sb ?h0 ?turn ?fin
  case h0 => exact ⟨k0, [], rfl, rfl, rfl⟩
  case fg => wtm_at "fg"
  case sb =>
    show Sb ((k0, listS []) :: (ro, listS []) :: (L' + 1 + 1, cellS (some (Value.ref k0))) :: (L' + 1, cellS (some (.ref na))) :: (C.L, Frm m) :: l) _
    wtm_at "sb"
  case turn =>
    rintro it P2 t c m₁ l₁ hc ⟨ka, ps, rfl, rfl, hps⟩
    obtain ⟨ht, rfl⟩ := rI_get hc
    have hkl := (stR_len needs t).1
    generalize hkn : (stR needs t).1 = kn at hkl
    have hkl2 : kn.length ≤ 25 := Nat.le_trans hkl (Nat.le_trans (Nat.mul_le_mul (by lia : t ≤ 5) hn5) (by decide))
    wtm_at "go"
    refine x_assignC (cl := [(Str.ofString "needs", _), (Str.ofString "known", _)]) (by with_unfolding_all rfl) (by with_unfolding_all rfl) (by with_unfolding_all rfl) (by decide +kernel) ?_
    wtm_at "go"
    refine f_len_list (vs := refsV qs) (by wtm_at "mem") (by rw [List.length_map]; lia) ?_
    rw [List.length_map, hql]
    wtm_at "go"
    refine f_range1 fun r2 => ?_
    generalize hZ : (it, P2) :: (ka, listS (iL kn)) :: (ro, listS (refsV ps)) :: (segL ps ++ ((L' + 1 + 1, cellS (some (.ref ka))) :: (L' + 1, cellS (some (.ref na))) :: (C.L, Frm m) :: l)) = Z
    have hzk : (ka, listS (iL kn)) ∈ Z := by rw [← hZ]; wtm_at "mem"
    have hzc : (L' + 1 + 1, cellS (some (.ref ka))) ∈ Z := by rw [← hZ]; wtm_at "mem"
    have hzn : (L' + 1, cellS (some (.ref na))) ∈ Z := by rw [← hZ]; wtm_at "mem"
    have hzl : ∀ p ∈ l, p ∈ Z := fun p hp => by rw [← hZ]; wtm_at "mem"
    refine' comp_range (.head _) (by decide) (by decide) (by lia) (by decide) R'.handled (fun j ys l₁ => ys = iL (newTo needs kn j) ∧ l₁ = Z) ?sb2 ?h02 ?turn2 ?fin2
    case h02 => exact ⟨rfl, rfl⟩
    case sb2 => exact Sb.drop Sb.refl
    case turn2 =>
      rintro it2 L2 P3 acc j c ys l₁ hc ⟨rfl, rfl⟩ hle
      have O2 := O'.cx L2
      obtain ⟨hj, rfl⟩ := rI_get hc
      wtm_at "go"
      refine tests_one ?_
      wtm_at "go"
      refine c_ninI (ns := kn) (by wtm_at "mem") hu ?_
      wtm_at "go"
      refine Br.of (fun hb => ?_) (fun hb => ?_)
      · wtm_at "go"
        refine e_comp (cl := [(Str.ofString "known", _)]) (by with_unfolding_all rfl) (by with_unfolding_all rfl) (by decide +kernel) ?_
        wtm_at "go"
        have hjq : j < qs.length := by lia
        have hqj : (qs[j].1, listS (iL (ndF needs j))) ∈ l := by
          have e2 : ndF needs j = qs[j].2 := by
            unfold ndF
            rw [Int.toNat_natCast, List.getD_eq_getElem?_getD, ← hq, List.getElem?_map, List.getElem?_eq_getElem hjq]; rfl
          rw [e2]; exact hqm _ (List.getElem_mem hjq)
        refine s_list (vs := refsV qs) (v := .ref qs[j].1) (.tail _ (.tail _ (.tail _ (hzl _ hqn)))) (by lia) (by rw [Int.toNat_natCast, List.getElem?_map, List.getElem?_eq_getElem hjq]; rfl) (by rw [List.length_map]; lia) ?_
        generalize hxs : ndF needs j = is at hqj
        have hi2 : is.length ≤ 2 := by rw [← hxs]; exact hn2 j
        have hqj2 := hzl _ hqj
        refine' comp_list (vs := iL is) (.tail _ (.tail _ (.tail _ hqj2))) R'.handled (by rw [iL_len]; lia) (fun i ys l₂ => ys = iL ((is.take i).filter fun x => !decide (x ∈ kn)) ∧ l₂ = (it2, P3) :: (acc, listS (iL (newTo needs kn j))) :: ((sub C (enC 237 L')).L, Frm [(Str.ofString "rounds", Value.ref ro), (Str.ofString "turn", Value.int (t : Int) 0)]) :: l₁) ?sb3 ?hS3 ?h03 ?turn3 ?fin3
        case h03 => exact ⟨rfl, rfl⟩
        case sb3 => exact Sb.refl
        case hS3 => rintro i ys l₂ ⟨rfl, rfl⟩; exact .tail _ (.tail _ (.tail _ hqj2))
        case turn3 =>
          rintro it3 L3 P4 acc3 i v ys l₂ hv ⟨rfl, rfl⟩ hle3
          have O3 := O2.cx L3
          obtain ⟨x, hx, rfl⟩ : ∃ x, is[i]? = some x ∧ v = .int x 0 := by
            unfold iL at hv
            simp only [List.getElem?_map, Option.map_eq_some_iff] at hv
            obtain ⟨c, h1, rfl⟩ := hv
            exact ⟨c, h1, rfl⟩
          wtm_at "go"
          refine tests_one ?_
          wtm_at "go"
          refine c_ninI (ns := kn) (by wtm_at "mem") hu ?_
          wtm_at "go"
          have hst := filt_step (fun x => !decide (x ∈ kn)) is hx
          refine Br.of (fun hb3 => ?_) (fun hb3 => ?_)
          · wtm_at "go"
            refine ⟨_, Sb.refl, ?_, rfl⟩
            rw [hst, if_pos hb3, iL_append]; rfl
          · refine ⟨_, Sb.refl, ?_, rfl⟩
            rw [hst, if_neg (by rw [hb3]; simp), List.append_nil]
        case fin3 =>
          rintro acc3 l₂ ys ⟨rfl, rfl⟩
          rw [iL_len, List.take_length]
          wtm_at "go"
          refine ⟨by simp, fun n1 => ?_⟩
          wtm_at "go"
          refine c_eqI (ns := is.filter fun x => !decide (x ∈ kn)) (ms := []) (.tail _ (.head _)) (.head _) hu ?_
          wtm_at "go"
          refine Br.dec (fun hb2 => ?_) (fun hb2 => ?_)
          · wtm_at "go"
            refine ⟨_, Sb.drop (Sb.drop Sb.refl), ?_, rfl⟩
            rw [newTo_succ, if_pos (by unfold okR; rw [hb, hxs, hb2]; rfl), iL_append]; rfl
          · wtm_at "go"
            refine ⟨_, Sb.drop (Sb.drop Sb.refl), ?_, rfl⟩
            have : (is.filter fun x => !decide (x ∈ kn)).isEmpty = false := by
              cases hf : is.filter fun x => !decide (x ∈ kn) with
              | nil => exact absurd hf hb2
              | cons _ _ => rfl
            rw [newTo_succ, if_neg (by unfold okR; rw [hxs, this]; simp), List.append_nil]
      · wtm_at "go"
        refine ⟨_, Sb.refl, ?_, rfl⟩
        rw [newTo_succ, if_neg (by unfold okR; rw [hb]; simp), List.append_nil]
    case fin2 =>
      rintro nw l₁ ys ⟨rfl, hl⟩
      subst l₁
      subst hZ
      rw [rI_int, List.length_map, List.length_range]
      show ∃ m', _
      refine ⟨_, by wtm_at "put", ?_⟩
      have hnl : (newTo needs kn needs.length).length ≤ 5 := Nat.le_trans (newTo_len _ _ _) hn5
      have hst1 : (stR needs (t + 1)).1 = kn ++ newTo needs kn needs.length := by show (stR needs t).1 ++ newR needs (stR needs t).1 = _; rw [hkn]
      have hst2 : (stR needs (t + 1)).2 = if newTo needs kn needs.length = [] then (stR needs t).2 else (stR needs t).2 ++ [newTo needs kn needs.length] := by
        show (if newR needs (stR needs t).1 = [] then (stR needs t).2 else (stR needs t).2 ++ [newR needs (stR needs t).1]) = _
        rw [hkn]
      generalize newTo needs kn needs.length = nw' at hnl hst1 hst2
      wtm_at "go"
      refine ⟨by simp, fun n1 => ?_⟩
      wtm_at "go"
      refine c_neI (ns := nw') (ms := []) (.tail _ (.head _)) (.head _) hu ?_
      wtm_at "go"
      have hpl : ps.length ≤ 5 := by
        have h2 := (stR_len needs t).2
        rw [← hps, List.length_map] at h2
        lia
      refine Br.of (fun hb => ?_) (fun hb => ?_)
      · have hne : ¬ nw' = [] := by simpa using hb
        wtm_at "go"
        refine' m_append (vs := refsV ps) ?u (by rw [List.length_map]; lia) ?_
        case u => wtm_at "upd"
        rw [show refsV ps ++ [Value.ref nw] = refsV (ps ++ [(nw, nw')]) from by simp]
        wtm_at "go"
        refine o_add_list (vs := iL kn) (ws := iL nw') (by wtm_at "mem") (.tail _ (.head _)) (by rw [iL_len, iL_len]; lia) fun kb => ?_
        rw [← iL_append, ← hst1]
        wtm_at "sc"
        wtm_at "go"
        refine' loop_next ?fg ?sb ⟨kb, ps ++ [(nw, nw')], rfl, rfl, ?_⟩
        case fg => wtm_at "fg"
        case sb =>
          refine' Sb.trans (b := (nw, listS (iL nw')) :: (it, P2) :: (kb, listS (iL (stR needs (t + 1)).1)) :: (ro, listS (refsV (ps ++ [(nw, nw')]))) :: (segL ps ++ ((L' + 1 + 1, cellS (some (.ref kb))) :: (L' + 1, cellS (some (.ref na))) :: (C.L, Frm m) :: l))) (Sb.of_perm ?p) ?s
          case p =>
            rw [show segL (ps ++ [(nw, nw')]) = segL ps ++ [(nw, listS (iL nw'))] from by simp [segL], List.append_assoc]
            exact List.perm_middle (l₁ := [(it, P2), (kb, listS (iL (stR needs (t + 1)).1)), (ro, listS (refsV (ps ++ [(nw, nw')])))] ++ segL ps)
          case s => wtm_at "sb"
        rw [List.map_append, hps, hst2, if_neg hne]; rfl
      · have he : nw' = [] := by simpa using hb
        wtm_at "go"
        refine o_add_list (vs := iL kn) (ws := iL nw') (by wtm_at "mem") (.tail _ (.head _)) (by rw [iL_len, iL_len]; lia) fun kb => ?_
        rw [← iL_append, ← hst1]
        wtm_at "sc"
        wtm_at "go"
        refine' loop_next ?fg ?sb ⟨kb, ps, rfl, rfl, ?_⟩
        case fg => wtm_at "fg"
        case sb => wtm_at "sb"
        rw [hps, hst2, if_pos he]
  case fin =>
    rintro m₁ l₁ ⟨ka, ps, rfl, rfl, hps⟩
    rw [rI_int, List.length_map, List.length_range] at hps
    wtm_at "go"
    refine ret_end ?_ (h ro ps hps)
    refine Sb.trans (Sb.of_perm (List.perm_middle (l₁ := (ro, listS (refsV ps)) :: segL ps) (l₂ := l) (a := (C.L, Frm m))).symm) ?_
    refine Sb.of_sub (.cons _ (.cons_cons _ ?_))
    exact List.Sublist.append_left (.cons _ (.cons _ (.refl _))) (segL ps)
end
end
section
set_option Elab.async false
set_option linter.all false
set_option maxRecDepth 100000
set_option maxHeartbeats 2000000
/-! ## _law_needs -/
theorem pickL_ints (ns : List Int) (lo hi st : Option Int) : ∃ ks, pickL (iL ns) lo hi st = iL ks := by
  unfold pickL
  generalize sliceRange _ _ _ = r
  refine ⟨r.filterMap (ns[·]?), ?_⟩
  unfold iL
  induction r with
  | nil => rfl
  | cons i r ih =>
    rw [List.filterMap_cons, List.filterMap_cons, List.getElem?_map]
    cases ns[i]? with
    | none => exact ih
    | some x => simp only [Option.map_some, List.map_cons, ih]
theorem pow_small {sp : Int} {j : Nat} (h : 0 < sp) (h5 : sp ≤ 5) (hj : j ≤ 1) : 1 ≤ sp ^ j ∧ sp ^ j ≤ 5 := by
  match j, hj with
  | 0, _ => simp
  | 1, _ => rw [Int.pow_succ, Int.pow_zero]; lia
structure Wf (n : Int) (labels : List Int) (needs : List (List Int)) : Prop where
  lab : ∀ x ∈ labels, 0 ≤ x ∧ x < 256
  two : ∀ x ∈ needs, x.length ≤ 2 ∧ ∀ i ∈ x, 0 ≤ i ∧ i < n
noncomputable def cellL : List Int := [1, 13, 32, 34, 143]
noncomputable def octL : List Int := [250, 251, 254, 253]
theorem octL_ok : ∀ x ∈ octL, 0 ≤ x ∧ x < 256 := by decide
noncomputable abbrev ndI (cL sA lb nd L1 : Addr) (tot n : Int) (m : Loc) (l : Led) (i : Nat) (m₁ : Loc) (l₁ : Led) : Prop :=
  ∃ o1 o2 labels ps, m₁ = [(Str.ofString "script", .ref sA), (Str.ofString "total", .int tot 0), (Str.ofString "count", .int n 0), (Str.ofString "labels", .ref lb), (Str.ofString "needs", .ref nd)] ∧
    l₁ = (lb, listS (iL labels)) :: (nd, listS (refsV ps)) :: (segL ps ++ ((L1 + 1, cellS o2) :: (L1, cellS o1) :: (cL, Frm m) :: l)) ∧ labels.length = i ∧ ps.length = i ∧ Wf n labels (ps.map (·.2))
noncomputable abbrev ndJ (cL sA lb nd L1 : Addr) (tot n : Int) (cell : Int) (labels : List Int) (ps : List (Addr × List Int)) (it : Addr) (P2 : Shape) (m : Loc) (l : Led) (i : Nat) (m₁ : Loc) (l₁ : Led) : Prop :=
  ∃ sp : Int, 0 ≤ sp ∧ sp ≤ n ∧ m₁ = [(Str.ofString "script", .ref sA), (Str.ofString "total", .int tot 0), (Str.ofString "count", .int n 0), (Str.ofString "labels", .ref lb), (Str.ofString "needs", .ref nd), (Str.ofString "k", .int (i : Int) 0)] ∧
    l₁ = (it, P2) :: (lb, listS (iL labels)) :: (nd, listS (refsV ps)) :: (segL ps ++ ((L1 + 1, cellS (some (.int sp 0))) :: (L1, cellS (some (.int cell 0))) :: (cL, Frm m) :: l))
section
variable {P : Params} {C : Cx} {m : Loc} {l : Led} {Q E : Pv}
theorem c_needs (O : Ok (KK P) C) (R : Room C.A 2) {sA : Addr} {ss : List Int} (hs : BaseL C sA (iL ss)) (hz : ss.length ≤ 63)
    (h : ∀ t lb nd labels ps, ps.length = labels.length → 1 ≤ labels.length → labels.length ≤ 5 → Wf labels.length labels (ps.map (·.2)) → Q (.ref t) m ((t, tupS [.ref lb, .ref nd]) :: (lb, listS (iL labels)) :: (nd, listS (refsV ps)) :: (segL ps ++ l))) :
    TCall C m l (.ref 227) [.ref sA] [] Q E := by
  refine enterKCC (bs := [(Str.ofString "script", .ref sA)]) (m' := [(Str.ofString "script", .ref sA)]) (cl := fun n => [(n + 1, cellS none), (n, cellS none)]) O FF.c227.fk R.now ?_ (fun n => by with_unfolding_all rfl)
  intro vvs vkw hv hkw
  obtain ⟨v1, rfl, e1⟩ := map1 hv
  obtain rfl := kw0 hkw
  refine T.pure (a := [(Str.ofString "script", v1)]) ⟨by simp [unB, e1], rfl, fun L' => ?_⟩
  have O' := O.sub (enC 227 L')
  have R' : Room (sub C (enC 227 L')).A 1 := R.sub
  have hs : BaseL (sub C (enC 227 L')) sA (iL ss) := hs
  simp only [List.cons_append, List.nil_append]
  wtm_at "body"
  wtm_at "go"
  refine f_sumB (ns := ss) hs R'.handled ?_
  generalize ss.sum = tot
  wtm_at "go"
  have hr0 : 0 ≤ tot.fmod 4 := Int.fmod_nonneg_of_pos _ (by decide)
  have hr1 : tot.fmod 4 < 4 := Int.fmod_lt_of_pos _ (by decide)
  obtain ⟨n, hn1, hn5, hne⟩ : ∃ n : Nat, 2 ≤ n ∧ n ≤ 5 ∧ 5 - tot.fmod 4 = (n : Int) := ⟨5 - (tot.fmod 4).toNat, by lia, by lia, by lia⟩
  rw [hne]
  refine ⟨by simp, fun lb => ?_⟩
  wtm_at "go"
  refine ⟨by simp, fun nd => ?_⟩
  wtm_at "go"
  refine f_range1 fun r1 => ?_
  wtm_at "go"
  refine' for_range (.head _) (by decide) (by decide) (by lia) (by decide) R'.handled (ndI C.L sA lb nd (L' + 1) tot n m l) ?fg ?sb ?h0 ?turn ?fin
  case h0 => exact ⟨none, none, [], [], rfl, rfl, rfl, rfl, ⟨fun x hx => (nomatch hx), fun x hx => (nomatch hx)⟩⟩
  case fg => wtm_at "fg"
  case sb =>
    show Sb ((lb, listS []) :: (nd, listS []) :: (L' + 1 + 1, cellS none) :: (L' + 1, cellS none) :: (C.L, Frm m) :: l) _
    wtm_at "sb"
  case turn =>
    rintro it P2 i c m₁ l₁ hc ⟨o1, o2, labels, ps, rfl, rfl, hll, hpl, hW⟩
    obtain ⟨hi, rfl⟩ := rI_get hc
    wtm_at "go"
    refine ⟨by simp, fun c5 => ?_⟩
    wtm_at "go"
    have hcg : (iL cellL)[(i : Int).toNat]? = some (.int (cellL.getD i 0) 0) := by
      rw [Int.toNat_natCast]; unfold iL
      rw [List.getElem?_map, List.getD_eq_getElem?_getD, List.getElem?_eq_getElem (by show i < 5; lia)]; rfl
    refine s_list (vs := iL cellL) (v := .int (cellL.getD i 0) 0) (.head _) (by lia) hcg (by simp [iL, cellL]) ?_
    wtm_at "go"
    intro sl
    refine s_sliceB (vs := iL ss) (vl := .int (i : Int) 0) (vu := .none) (vk := .int 5 0) (lo := some ((i : Nat) : Int)) (hi := none) (st := some 5) hs (.head _) rfl rfl rfl (by simp) (by rw [iL_len]; lia) fun sa => ?_
    obtain ⟨ks, hks⟩ := pickL_ints ss (some ((i : Nat) : Int)) none (some 5)
    rw [hks]
    wtm_at "go"
    refine f_sum (ns := ks) (.head _) R'.handled ?_
    wtm_at "go"
    generalize cellL.getD i 0 + ks.sum = cell
    wtm_at "sc"
    refine then_next (execs_cons (x_join (J := ndJ C.L sA lb nd (L' + 1) tot n cell labels ps it P2 m l i) ?j1 ?j2))
    case j1 =>
      wtm_at "go"
      refine Br.eqi (fun hb => ?_) (fun hb => ?_)
      · wtm_at "go"
        wtm_at "sc"
        wtm_at "go"
        refine' join_end ?fg ?sb ⟨n, by lia, by lia, rfl, rfl⟩
        wtm_at "fs"
      · wtm_at "go"
        wtm_at "sc"
        wtm_at "go"
        refine' join_end ?fg ?sb ⟨i, by lia, by lia, rfl, rfl⟩
        wtm_at "fs"
    case j2 =>
      rintro m₁ l₁ ⟨sp, hs0, hsn, rfl, rfl⟩
      wtm_at "go"
      refine ⟨by simp, fun o4 => ?_⟩
      wtm_at "go"
      have hc0 : 0 ≤ cell.fmod 4 := Int.fmod_nonneg_of_pos _ (by decide)
      have hc1 : cell.fmod 4 < 4 := Int.fmod_lt_of_pos _ (by decide)
      have hob : octL[(cell.fmod 4).toNat]? = some (octL.getD (cell.fmod 4).toNat 0) := by rw [List.getD_eq_getElem?_getD, List.getElem?_eq_getElem (by show _ < 4; lia)]; rfl
      refine s_list (vs := iL octL) (v := .int (octL.getD (cell.fmod 4).toNat 0) 0) (.head _) hc0 (by unfold iL; rw [List.getElem?_map, hob]; rfl) (by simp [iL, octL]) ?_
      wtm_at "go"
      refine' m_append (vs := iL labels) ?u (by rw [iL_len]; lia) ?_
      case u => wtm_at "upd"
      have hlo := octL_ok _ (List.mem_of_getElem? hob)
      generalize octL.getD (cell.fmod 4).toNat 0 = lv at hlo
      rw [show iL labels ++ [Value.int lv 0] = iL (labels ++ [lv]) from by simp [iL]]
      wtm_at "go"
      refine e_comp (cl := [(Str.ofString "span", _), (Str.ofString "cell", _)]) (by with_unfolding_all rfl) (by with_unfolding_all rfl) (by decide +kernel) ?_
      wtm_at "go"
      have hq0 : 0 ≤ (cell.fdiv 4).fmod 3 := Int.fmod_nonneg_of_pos _ (by decide)
      have hq1 : (cell.fdiv 4).fmod 3 < 3 := Int.fmod_lt_of_pos _ (by decide)
      obtain ⟨q, hq2, hqe⟩ : ∃ q : Nat, q ≤ 2 ∧ (cell.fdiv 4).fmod 3 = (q : Int) := ⟨((cell.fdiv 4).fmod 3).toNat, by lia, by lia⟩
      rw [hqe]
      refine f_range1 fun r2 => ?_
      refine' comp_range (.head _) (by decide) (by decide) (by lia) (by decide) R'.handled (fun j ys l₁ => ∃ ms, ys = iL ms ∧ l₁ = (o4, listS [Value.int 250 0, Value.int 251 0, Value.int 254 0, Value.int 253 0]) :: (it, P2) :: (lb, listS (iL (labels ++ [lv]))) :: (nd, listS (refsV ps)) :: (segL ps ++ ((L' + 1 + 1, cellS (some (.int sp 0))) :: (L' + 1, cellS (some (.int cell 0))) :: (C.L, Frm m) :: l)) ∧ ms.length ≤ j ∧ ∀ i ∈ ms, 0 ≤ i ∧ i < n) ?sb2 ?h02 ?turn2 ?fin2
      case h02 => exact ⟨[], rfl, rfl, by simp, fun x hx => (nomatch hx)⟩
      case sb2 => exact Sb.drop Sb.refl
      case turn2 =>
        rintro it2 L2 P3 acc j c ys l₁ hc ⟨ms, rfl, rfl, hml, hmr⟩ hle
        have O2 := O'.cx L2
        obtain ⟨hj, rfl⟩ := rI_get hc
        wtm_at "go"
        refine tests_one ?_
        wtm_at "go"
        refine Br.dec (fun hb => ?_) (fun hb => ?_)
        · wtm_at "go"
          refine i_pow (by lia) (by lia) (by lia) ?_
          rw [Int.toNat_natCast]
          obtain ⟨g1, g2⟩ := pow_small hb (by lia : sp ≤ 5) (by lia : j ≤ 1)
          wtm_at "go"
          refine i_div (by lia) (by lia) ?_
          wtm_at "go"
          refine i_mod (by lia) ?_
          have z0 : 0 ≤ (cell.fdiv (12 * sp ^ j)).fmod sp := Int.fmod_nonneg_of_pos _ hb
          have z1 : (cell.fdiv (12 * sp ^ j)).fmod sp < sp := Int.fmod_lt_of_pos _ hb
          refine ⟨_, Sb.refl, ms ++ [(cell.fdiv (12 * sp ^ j)).fmod sp], by simp [iL], rfl, by simp; exact hml, fun x hx => ?_⟩
          rcases List.mem_append.mp hx with hx | hx
          · exact hmr x hx
          · simp at hx; subst hx; exact ⟨z0, by lia⟩
        · exact ⟨_, Sb.refl, ms, rfl, rfl, Nat.le_succ_of_le hml, hmr⟩
      case fin2 =>
        rintro acc l₁ ys ⟨ms, rfl, rfl, hml, hmr⟩
        rw [rI_int, List.length_map, List.length_range] at hml
        wtm_at "go"
        refine' m_append (vs := refsV ps) ?u (by rw [List.length_map]; lia) ?_
        case u => wtm_at "upd"
        rw [show refsV ps ++ [Value.ref acc] = refsV (ps ++ [(acc, ms)]) from by simp]
        wtm_at "go"
        refine' loop_next ?fg ?sb ⟨_, _, labels ++ [lv], ps ++ [(acc, ms)], rfl, rfl, by simp [hll], by simp [hpl], ⟨fun x hx => ?_, fun x hx => ?_⟩⟩
        case fg => wtm_at "fg"
        case sb =>
          refine' Sb.trans (b := (acc, listS (iL ms)) :: (it, P2) :: (lb, listS (iL (labels ++ [lv]))) :: (nd, listS (refsV (ps ++ [(acc, ms)]))) :: (segL ps ++ ((L' + 1 + 1, cellS (some (.int sp 0))) :: (L' + 1, cellS (some (.int cell 0))) :: (C.L, Frm m) :: l))) (Sb.of_perm ?p) ?s
          case p =>
            rw [show segL (ps ++ [(acc, ms)]) = segL ps ++ [(acc, listS (iL ms))] from by simp [segL], List.append_assoc]
            exact List.perm_middle (l₁ := [(it, P2), (lb, listS (iL (labels ++ [lv]))), (nd, listS (refsV (ps ++ [(acc, ms)])))] ++ segL ps)
          case s => exact Sb.take Ext.one (Sb.drop Sb.refl)
        · rcases List.mem_append.mp hx with hx | hx
          · exact hW.lab x hx
          · simp at hx; subst hx; exact hlo
        · rw [List.map_append] at hx
          rcases List.mem_append.mp hx with hx | hx
          · exact hW.two x hx
          · simp at hx; subst hx; exact ⟨by lia, hmr⟩
  case fin =>
    rintro m₁ l₁ ⟨o1, o2, labels, ps, rfl, rfl, hll, hpl, hW⟩
    rw [rI_int, List.length_map, List.length_range] at hll hpl
    wtm_at "go"
    refine ⟨by simp, fun t => ?_⟩
    wtm_at "go"
    refine ret_end ?_ (h t lb nd labels ps (by lia) (by lia) (by lia) (by rw [hll]; exact hW))
    refine Sb.trans (Sb.of_perm (List.perm_middle (l₁ := (t, tupS [.ref lb, .ref nd]) :: (lb, listS (iL labels)) :: (nd, listS (refsV ps)) :: segL ps) (l₂ := l) (a := (C.L, Frm m))).symm) ?_
    refine Sb.of_sub (.cons_cons _ (.cons_cons _ (.cons_cons _ ?_)))
    exact List.Sublist.append_left (.cons _ (.cons _ (.refl _))) (segL ps)
end
end
section
set_option Elab.async false
set_option linter.all false
set_option maxRecDepth 100000
set_option maxHeartbeats 1000000
/-! ## the rounds, plain -/
noncomputable def edN (needs : List (List Int)) (i : Nat) : Edges := (List.range i).flatMap fun k : Nat => (ndF needs k).map fun p => (p, (k : Int))
theorem edN_succ (needs : List (List Int)) (i : Nat) : edN needs (i + 1) = edN needs i ++ (ndF needs i).map fun p => (p, (i : Int)) := by
  unfold edN
  rw [List.range_succ, List.flatMap_append]
  simp
theorem mem_edN {needs : List (List Int)} {i : Nat} {e : Int × Int} : e ∈ edN needs i ↔ ∃ k : Nat, k < i ∧ e.2 = k ∧ e.1 ∈ ndF needs k := by
  unfold edN
  simp only [List.mem_flatMap, List.mem_range, List.mem_map]
  constructor
  · rintro ⟨k, hk, p, hp, rfl⟩
    exact ⟨k, hk, rfl, hp⟩
  · rintro ⟨k, hk, h2, h1⟩
    exact ⟨k, hk, e.1, h1, by rw [← h2]⟩
theorem edN_len {needs : List (List Int)} (h : ∀ k, (ndF needs k).length ≤ 2) : ∀ i, (edN needs i).length ≤ 2 * i
  | 0 => Nat.le_refl _
  | i + 1 => by
    rw [edN_succ, List.length_append, List.length_map]
    have := edN_len h i
    have := h i
    lia
theorem nats_mem {n : Nat} {k : Int} : k ∈ nats n ↔ 0 ≤ k ∧ k < n := by
  simp only [nats, List.mem_map, List.mem_range]
  constructor
  · rintro ⟨j, hj, rfl⟩; lia
  · rintro ⟨h0, h1⟩; exact ⟨k.toNat, by lia, by lia⟩
theorem okR_iff {needs : List (List Int)} {kn : List Int} {k : Int} : okR needs kn k = true ↔ k ∉ kn ∧ ∀ i ∈ ndF needs k, i ∈ kn := by
  unfold okR
  rw [Bool.and_eq_true, List.isEmpty_iff, List.filter_eq_nil_iff]
  simp
theorem newR_iff {needs : List (List Int)} {kn : List Int} {k : Int} : k ∈ newR needs kn ↔ (0 ≤ k ∧ k < needs.length) ∧ k ∉ kn ∧ ∀ i ∈ ndF needs k, i ∈ kn := by
  unfold newR newTo
  rw [List.mem_filter, nats_mem, okR_iff]
theorem nats_lt (n : Nat) : (nats n).Pairwise (· < ·) := by
  unfold nats
  rw [List.pairwise_map]
  exact List.Pairwise.imp (fun h => by lia) List.pairwise_lt_range
theorem newR_lt (needs : List (List Int)) (kn : List Int) : (newR needs kn).Pairwise (· < ·) := (nats_lt _).filter _
theorem ready_needs {needs : List (List Int)} {ks D rs : List Int} {g : Gr} (R : RS (edN needs needs.length) ks D g rs) (hk : ∀ k, k ∈ ks ↔ 0 ≤ k ∧ k < needs.length) (k : Int) :
    k ∈ rs ↔ (0 ≤ k ∧ k < needs.length) ∧ k ∉ D ∧ ∀ i ∈ ndF needs k, i ∈ D := by
  rw [R.rmem k, hk k]
  constructor
  · rintro ⟨h1, h2, h3⟩
    refine ⟨h1, h2, fun i hi => h3 (i, k) (mem_edN.mpr ⟨k.toNat, by lia, by show k = _; lia, ?_⟩) rfl⟩
    show i ∈ ndF needs ((k.toNat : Nat) : Int)
    rw [show ((k.toNat : Nat) : Int) = k by lia]; exact hi
  · rintro ⟨h1, h2, h3⟩
    refine ⟨h1, h2, fun e he h => ?_⟩
    obtain ⟨j, hj, e2, e1⟩ := mem_edN.mp he
    rw [← h, e2] at h3
    exact h3 _ e1
structure Rd (needs : List (List Int)) (t : Nat) (D : List Int) : Prop where
  mem : ∀ k, k ∈ D ↔ k ∈ (stR needs t).1
  dp : ∀ k ∈ D, Dp (ndF needs) t k
  le : t ≤ D.length
theorem Rd.zero (needs : List (List Int)) : Rd needs 0 [] := ⟨fun k => Iff.rfl, fun k h => (nomatch h), Nat.le_refl _⟩
theorem Rd.same {needs : List (List Int)} {ks D rs : List Int} {g : Gr} {t : Nat} (S : Rd needs t D) (R : RS (edN needs needs.length) ks D g rs) (hk : ∀ k, k ∈ ks ↔ 0 ≤ k ∧ k < needs.length) (k : Int) : k ∈ rs ↔ k ∈ newR needs (stR needs t).1 := by
  rw [ready_needs R hk k, newR_iff, S.mem k]
  constructor
  · rintro ⟨h1, h2, h3⟩; exact ⟨h1, h2, fun i hi => (S.mem i).mp (h3 i hi)⟩
  · rintro ⟨h1, h2, h3⟩; exact ⟨h1, h2, fun i hi => (S.mem i).mpr (h3 i hi)⟩
theorem Rd.dpr {needs : List (List Int)} {ks D rs : List Int} {g : Gr} {t : Nat} (S : Rd needs t D) (R : RS (edN needs needs.length) ks D g rs) (hk : ∀ k, k ∈ ks ↔ 0 ≤ k ∧ k < needs.length) {k : Int} (h : k ∈ rs) : Dp (ndF needs) (t + 1) k :=
  fun i hi => S.dp i (((ready_needs R hk k).mp h).2.2 i hi)
theorem Rd.step {needs : List (List Int)} {ks D rs : List Int} {g : Gr} {t : Nat} (S : Rd needs t D) (R : RS (edN needs needs.length) ks D g rs) (hk : ∀ k, k ∈ ks ↔ 0 ≤ k ∧ k < needs.length) (hne : rs ≠ []) :
    Rd needs (t + 1) (D ++ rs) ∧ (stR needs (t + 1)).2 = (stR needs t).2 ++ [newR needs (stR needs t).1] := by
  refine ⟨⟨fun k => ?_, fun k hkm => ?_, ?_⟩, ?_⟩
  · show k ∈ D ++ rs ↔ k ∈ (stR needs t).1 ++ newR needs (stR needs t).1
    rw [List.mem_append, List.mem_append, S.mem k, S.same R hk k]
  · rcases List.mem_append.mp hkm with h | h
    · exact (S.dp k h).up
    · exact S.dpr R hk h
  · rw [List.length_append]
    have := S.le
    have := List.length_pos_iff.mpr hne
    lia
  · show (if newR needs (stR needs t).1 = [] then _ else _) = _
    rw [if_neg]
    intro e
    obtain ⟨x, hx⟩ := List.exists_mem_of_ne_nil rs hne
    have := (S.same R hk x).mp hx
    rw [e] at this; cases this
theorem stR_stop {needs : List (List Int)} {t : Nat} (h : newR needs (stR needs t).1 = []) : ∀ s, stR needs (t + s) = stR needs t
  | 0 => rfl
  | s + 1 => by
    have ih := stR_stop h s
    show ((stR needs (t + s)).1 ++ newR needs (stR needs (t + s)).1, if newR needs (stR needs (t + s)).1 = [] then (stR needs (t + s)).2 else (stR needs (t + s)).2 ++ [newR needs (stR needs (t + s)).1]) = _
    rw [ih, h, if_pos rfl, List.append_nil]
theorem Rd.last {needs : List (List Int)} {ks D : List Int} {g : Gr} {t : Nat} (S : Rd needs t D) (R : RS (edN needs needs.length) ks D g []) (hk : ∀ k, k ∈ ks ↔ 0 ≤ k ∧ k < needs.length) (ht : t ≤ needs.length) : stR needs needs.length = stR needs t := by
  have h : newR needs (stR needs t).1 = [] := List.eq_nil_iff_forall_not_mem.mpr fun k hkm => by
    have := (S.same R hk k).mpr hkm
    cases this
  have := stR_stop h (needs.length - t)
  rw [show t + (needs.length - t) = needs.length by lia] at this
  exact this
theorem sorted_new {needs : List (List Int)} {kn rs ns' : List Int} (hp : ns'.Perm rs) (hs : ns'.Pairwise (· ≤ ·)) (hn : rs.Nodup) (hm : ∀ k, k ∈ rs ↔ k ∈ newR needs kn) : ns' = newR needs kn := by
  have h1 := newR_lt needs kn
  have hnd : (newR needs kn).Nodup := h1.imp fun h => by lia
  have hp2 : ns'.Perm (newR needs kn) := hp.trans ((List.perm_ext_iff_of_nodup hn hnd).mpr hm)
  exact lks_uniq hp2 hs (h1.imp fun h => by lia)
/-! rings and orders -/
theorem dp_edge {needs : List (List Int)} {n : Nat} {d : Nat} {x y : Int} (h : y ∈ scE (edN needs n) x) (hd : Dp (ndF needs) (d + 1) y) : Dp (ndF needs) d x := by
  obtain ⟨k, _, e2, e1⟩ := mem_edN.mp (mem_sc.mp h)
  simp only at e1 e2
  exact hd x (e2 ▸ e1)
theorem dp_path {needs : List (List Int)} {n : Nat} : ∀ {q : List Int} {x z : Int} {d : Nat}, Path (fun x y => y ∈ scE (edN needs n) x) (x :: q ++ [z]) → Dp (ndF needs) d z → ∃ e, e < d ∧ Dp (ndF needs) e x
  | _, _, _, 0, _, hd => hd.elim
  | [], x, z, d + 1, hp, hd => ⟨d, Nat.lt_succ_self _, dp_edge hp.1 hd⟩
  | y :: q, x, z, d + 1, hp, hd => by
    obtain ⟨e, he, hde⟩ := dp_path (q := q) (x := y) (z := z) hp.2 hd
    match e, he, hde with
    | 0, _, hde => exact hde.elim
    | e + 1, he, hde => exact ⟨e, by lia, dp_edge hp.1 hde⟩
theorem ring_no {needs : List (List Int)} {n : Nat} {q : List Int} {x : Int} (hp : Path (fun x y => y ∈ scE (edN needs n) x) (x :: q ++ [x])) : ∀ d, ¬ Dp (ndF needs) d x := by
  intro d
  induction d using Nat.strongRecOn with
  | ind d ih =>
    intro hd
    obtain ⟨e, he, hde⟩ := dp_path hp hd
    exact ih e he hde
theorem ring_less {needs : List (List Int)} {ks D : List Int} {first : Int} {ring : List Int} {t : Nat} {g : Gr} {rs : List Int} (S : Rd needs t D) (R : RS (edN needs needs.length) ks D g rs) (h : Ring (scE (edN needs needs.length)) ks first ring) : D.length < ks.length := by
  obtain ⟨p, x, q, rfl, hnd, hpath, hks, _⟩ := h
  have hx : x ∈ ks := hks x (by simp)
  have hxD : x ∉ D := fun hxD => ring_no (Path.tail (a := p) (by rw [List.append_assoc] at hpath; exact hpath)) t (S.dp x hxD)
  have h1 : (x :: D).length ≤ ks.length := len_sub (List.nodup_cons.mpr ⟨hxD, R.dn⟩) fun k hk => by
    rcases List.mem_cons.mp hk with rfl | hk
    · exact hx
    · exact R.dks k hk
  rw [List.length_cons] at h1
  lia
theorem topo_all {needs : List (List Int)} {ks D : List Int} {g : Gr} {fin : List Int} (R : RS (edN needs needs.length) ks D g []) (T : Topo (scE (edN needs needs.length)) fin) (hc : ∀ k ∈ ks, k ∈ fin) : D.length = ks.length := by
  have hall : ∀ k ∈ ks, k ∈ D := by
    have key : ∀ n k, k ∈ ks → fin.length - fin.idxOf k ≤ n → k ∈ D := by
      intro n
      induction n with
      | zero =>
        intro k hk hn
        have := List.idxOf_lt_length_iff.mpr (hc k hk)
        lia
      | succ n ih =>
        intro k hk hn
        by_cases hkD : k ∈ D
        · exact hkD
        · have hr : ¬ ∀ e ∈ edN needs needs.length, e.2 = k → e.1 ∈ D := fun hall => by
            have := (R.rmem k).mpr ⟨hk, hkD, hall⟩
            cases this
          exfalso
          refine hr fun e he h2 => ?_
          have he1 := (R.ecl e he).1
          have hs : k ∈ scE (edN needs needs.length) e.1 := mem_sc.mpr (by rw [← h2]; exact he)
          have hl := topo_lt T (hc _ he1) hs
          have := List.idxOf_lt_length_iff.mpr (hc _ he1)
          exact ih e.1 he1 (by lia)
    exact fun k hk => key _ k hk (Nat.le_refl _)
  exact Nat.le_antisymm (len_sub R.dn R.dks) (len_sub R.nd hall)
end
section
set_option Elab.async false
set_option linter.all false
set_option maxRecDepth 100000
set_option maxHeartbeats 4000000
/-! ## _law_names -/
theorem TCd.sb {C : Cx} {m : Loc} {l l' : Led} {f : Value} {vs : List Value} {kw : List (Str × Value)} {Q E : Pv} (hs : Sb l' l) (h : TCd C m l' f vs kw Q E) : TCd C m l f vs kw Q E :=
  fun a b c h1 h2 h3 s S => h a b c h1 h2 h3 s (hs.st S)
section
variable {P : Params} {C : Cx} {m : Loc} {l l' : Led} {Q E : Pv} {sx sd n2 ra : Addr} {ep : Nat} {ns : List Nd} {rd : Value} {po fi : Int}
theorem f_ts (O : Ok (KK P) C) (R : Room C.A 2) (h : ∀ sx sd n2, Q (.ref sx) m (sortL sx sd n2 0 [] .none 0 0 l)) : TCall C m l (.ref 218) [] [] Q E :=
  f_make O mk218 in218 ty154 fun x dx vvs => c_tsinit O.under (Room.under (R.mono (by decide))) fun n2 => ⟨rfl, h x dx n2⟩
end
theorem gcl_out : ∀ (rs : List Int) (g : Gr), gcl g → gcl (outG g rs)
  | [], _, h => h
  | k :: rs, g, h => gcl_out rs _ (gcl_mod h k fun _ => -1)
theorem gle_out {B : Nat} : ∀ (rs : List Int) (g : Gr), gle g B → gle (outG g rs) B
  | [], _, h => h
  | k :: rs, g, h => gle_out rs _ (gle_np h k fun _ => -1)
theorem enc_inB {ns : List Int} (h : InB ns) : InB (encS 0 0 ns) := fun y hy => by
  rw [enc_fig] at hy
  rcases List.mem_append.mp hy with hy | hy
  · obtain ⟨v, hv, rfl⟩ := List.mem_map.mp hy
    exact sym_in (fig_in h v hv).1 (fig_in h v hv).2
  · rw [List.eq_of_mem_replicate hy]; decide
theorem enc_len {ns : List Int} (h : InB ns) (hz : ns.length ≤ 100000) : (encS 0 0 ns).length ≤ 16000000 := by
  have h1 := wr_len ns 43 47
  rw [wr_enc h, List.length_map] at h1
  lia
theorem enc_id {ns : List Int} (h : InB ns) : encS 0 0 ns = wrS ns 43 47 := by
  rw [wr_enc h]
  conv => lhs; rw [← List.map_id (encS 0 0 ns)]
  refine List.map_congr_left fun y _ => ?_
  unfold trI
  split
  · rename_i e; exact e
  · split
    · rename_i e; exact e
    · rfl
noncomputable abbrev nmA (cL L1 la na sx sd n2 : Addr) (needs : List (List Int)) (m : Loc) (l : Led) (i : Nat) (m₁ : Loc) (l₁ : Led) : Prop :=
  ∃ ep ns, m₁ = [(Str.ofString "needs", .ref na), (Str.ofString "labels", .ref la), (Str.ofString "sorter", .ref sx)] ∧ l₁ = sortL sx sd n2 ep ns .none 0 0 ((L1, cellS none) :: (cL, Frm m) :: l) ∧
    GOf (edN needs i) (absG ns) ∧ (∀ x, (gkeys (absG ns)).head? = some x → x = 0) ∧ (∀ k ∈ gkeys (absG ns), 0 ≤ k ∧ k < needs.length) ∧ (∀ j : Nat, j < i → (j : Int) ∈ gkeys (absG ns)) ∧ (i = 0 → ns = [])
noncomputable abbrev nmT (cL L1 la na sx sd n2 : Addr) (ep : Nat) (ns : List Nd) (Es : Edges) (m : Loc) (l : Led) (m₁ : Loc) (l₁ : Led) : Prop :=
  ∃ tv tA ra, m₁ = [(Str.ofString "needs", .ref na), (Str.ofString "labels", .ref la), (Str.ofString "sorter", .ref sx), (Str.ofString "told", .ref tA)] ∧
    l₁ = sortL sx sd n2 ep ns (.ref ra) 0 0 ((ra, listS (iL (zeros (absG ns)))) :: (tA, listS tv) :: (L1, cellS none) :: (cL, Frm m) :: l) ∧
    (((∃ fin, Topo (scE Es) fin ∧ ∀ k ∈ keysOf ns, k ∈ fin) ∧ tv = [.none]) ∨ ((∃ ring, Ring (scE Es) (keysOf ns) 0 ring) ∧ tv = []))
structure NmR (labels : List Int) (needs : List (List Int)) (D : List Int) (tv : List Value) : Prop where
  mem : ∀ k, k ∈ D ↔ k ∈ (stR needs needs.length).1
  dp : ∀ k ∈ D, Dp (ndF needs) 6 k
  rng : ∀ k ∈ D, 0 ≤ k ∧ k < needs.length
  nd : D.Nodup
  tv : (D.length = needs.length ∧ tv = [.none]) ∨ (D.length < needs.length ∧ tv = [])
noncomputable abbrev kvN (labels : List Int) (needs : List (List Int)) (D : List Int) : List (Int × Value) := D.map fun k => (k, byv (nmF (labF labels) (ndF needs) 6 k))
theorem kv_at {labels : List Int} {needs : List (List Int)} {x : Int} {D : List Int} (h : x ∈ D) : valueAt (kvN labels needs D) x = some (byv (nmF (labF labels) (ndF needs) 6 x)) := by
  unfold valueAt kvN
  induction D with
  | nil => cases h
  | cons y D ih =>
    rw [List.map_cons, List.find?_cons]
    by_cases e : y = x
    · subst e; simp
    · rw [decide_eq_false e]
      rcases List.mem_cons.mp h with h | h
      · exact absurd h.symm e
      · exact ih h
theorem kv_new {labels : List Int} {needs : List (List Int)} {x : Int} {D : List Int} (h : x ∉ D) : stored (kvN labels needs D) x (byv (nmF (labF labels) (ndF needs) 6 x)) = kvN labels needs (D ++ [x]) := by
  unfold stored kvN
  rw [if_neg]
  · rw [List.map_append]; rfl
  · rw [List.any_eq_true]
    rintro ⟨p, hp, e⟩
    obtain ⟨y, hy, rfl⟩ := List.mem_map.mp hp
    simp only [decide_eq_true_eq] at e
    exact h (e ▸ hy)
noncomputable abbrev nmW (la na sx sd n2 ra rA dA tA : Addr) (ep : Nat) (labels : List Int) (needs : List (List Int)) (ks : List Int) (Z : Led) (k : Nat) (m₁ : Loc) (l₁ : Led) : Prop :=
  ∃ t D ns' rs ps ep2, m₁ = [(Str.ofString "needs", .ref na), (Str.ofString "labels", .ref la), (Str.ofString "sorter", .ref sx), (Str.ofString "told", .ref tA), (Str.ofString "rounds", .ref rA)] ∧
    l₁ = sortL sx sd n2 ep ns' (.ref ra) ((D.length : Nat) : Int) ((D.length : Nat) : Int) ((ra, listS (iL rs)) :: (rA, listS (refsV ps)) :: (dA, dictE ep2 (kvN labels needs D)) :: (segL ps ++ Z)) ∧
    RS (edN needs needs.length) ks D (absG ns') rs ∧ Rd needs t D ∧ ps.map (·.2) = (stR needs t).2 ∧ k = needs.length - D.length
noncomputable abbrev nmK (la na sx sd n2 ra rA dA tA t1 : Addr) (ep : Nat) (ns1 : List Nd) (labels : List Int) (needs : List (List Int)) (D rs : List Int) (ps : List (Addr × List Int)) (Z : Led) (po fi : Int) (j : Nat) (m₁ : Loc) (l₁ : Led) : Prop :=
  ∃ ep3, m₁ = [(Str.ofString "needs", .ref na), (Str.ofString "labels", .ref la), (Str.ofString "sorter", .ref sx), (Str.ofString "told", .ref tA), (Str.ofString "rounds", .ref rA), (Str.ofString "new", .ref t1)] ∧
    l₁ = (t1, tupS (iL rs)) :: sortL sx sd n2 ep ns1 (.ref ra) po fi ((ra, listS []) :: (rA, listS (refsV ps)) :: (dA, dictE ep3 (kvN labels needs (D ++ rs.take j))) :: (segL ps ++ Z))
section
variable {P : Params} {C : Cx} {m : Loc} {l : Led} {Q E : Pv} {labels : List Int} {needs : List (List Int)} {la na : Addr}
theorem c_names (W : Wd labels needs) (hn1 : 1 ≤ needs.length) (O : Ok (KK P) C) (R : Room C.A 6) (F : Fra C l) (hla : (la, listS (iL labels)) ∈ l) (hna : NsL l na needs)
    (h : ∀ t dA rA tA ep D ps tv, ps.map (·.2) = (stR needs needs.length).2 → NmR labels needs D tv → Q (.ref t) m ((t, tupS [.ref dA, .ref rA, .ref tA]) :: (dA, dictE ep (kvN labels needs D)) :: (rA, listS (refsV ps)) :: (tA, listS tv) :: (segL ps ++ l))) :
    TCall C m l (.ref 232) [.ref la, .ref na] [] Q E := by
  refine enterKCC (bs := [(Str.ofString "labels", .ref la), (Str.ofString "needs", .ref na)]) (m' := [(Str.ofString "needs", .ref na), (Str.ofString "labels", .ref la)]) (cl := fun n => [(n, cellS none)]) O FF.c232.fk R.now ?_ (fun n => by with_unfolding_all rfl)
  intro vvs vkw hv hkw
  obtain ⟨v1, v2, rfl, e1, e2⟩ := map2 hv
  obtain rfl := kw0 hkw
  refine T.pure (a := [(Str.ofString "labels", v1), (Str.ofString "needs", v2)]) ⟨by simp [unB, e1, e2], rfl, fun L' => ?_⟩
  have O' := O.sub (enC 232 L')
  have R' : Room (sub C (enC 232 L')).A 5 := R.sub
  simp only [List.cons_append, List.nil_append]
  obtain ⟨qs, hq, hqn, hqm⟩ := id hna
  have hql : qs.length = needs.length := by rw [← hq, List.length_map]
  have hn5 := W.small
  wtm_at "body"
  wtm_at "go"
  refine ⟨kp218 O', ?_⟩
  wtm_at "go"
  refine f_ts O' (R'.mono (by decide)) fun sx sd n2 => ?_
  wtm_at "go"
  refine f_len_list (vs := refsV qs) (.tail _ (.tail _ (.tail _ (List.mem_append_right _ (.tail _ (.tail _ hqn)))))) (by rw [List.length_map]; lia) ?_
  rw [List.length_map, hql]
  wtm_at "go"
  refine f_range1 fun r1 => ?_
  wtm_at "go"
  refine' for_range (.head _) (by decide) (by decide) (by lia) (by decide) R'.handled (nmA C.L (L' + 1) la na sx sd n2 needs m l) ?fg ?sb ?h0 ?turn ?fin
  case h0 => exact ⟨0, [], rfl, rfl, GOf.nil, fun x hx => (nomatch hx), fun k hk => (nomatch hk), fun j hj => absurd hj (Nat.not_lt_zero _), fun _ => rfl⟩
  case fg => wtm_at "fg"
  case sb => exact Sb.drop Sb.refl
  case turn =>
    rintro it P2 i c m₁ l₁ hc ⟨ep, ns, rfl, rfl, G, hh, hks, hkj, hi0⟩
    obtain ⟨hi, rfl⟩ := rI_get hc
    have hkl : (keysOf ns).length ≤ needs.length := by
      rw [← absG_keys]
      have := len_sub (b := nats needs.length) G.nd fun k hk => nats_mem.mpr (hks k hk)
      simpa using this
    have hnl : ns.length ≤ 5 := by simp [keysOf] at hkl; lia
    wtm_at "go"
    refine e_methS2 O' ?_
    wtm_at "go"
    refine at_bound (f := 168) (dx := sd) (sl := []) (as := tsA n2 .none 0 0) O' cls218 (by with_unfolding_all kernel_rfl) hd218 (by with_unfolding_all kernel_rfl) (by with_unfolding_all kernel_rfl) (by with_unfolding_all kernel_rfl) (by with_unfolding_all kernel_rfl) (by decide +kernel) ?b1 ?b2 ?b3 fun q => ?_
    case b1 => wtm_at "mem"
    case b2 => wtm_at "mem"
    case b3 => with_unfolding_all rfl
    refine ⟨q, 168, sx, rfl, by kernel_rfl, ?_⟩
    wtm_at "go"
    refine args_star ?_
    wtm_at "go"
    have hiq : i < qs.length := by lia
    have hki : (qs[i].1, listS (iL (ndF needs i))) ∈ l := by
      have e2 : ndF needs i = qs[i].2 := by
        unfold ndF
        rw [Int.toNat_natCast, List.getD_eq_getElem?_getD, ← hq, List.getElem?_map, List.getElem?_eq_getElem hiq]; rfl
      rw [e2]; exact hqm _ (List.getElem_mem hiq)
    have smem : ∀ p ∈ l, p ∈ (q, bmS 168 sx) :: (it, P2) :: sortL sx sd n2 ep ns Value.none 0 0 ((L' + 1, cellS none) :: (C.L, Frm m) :: l) := fun p hp => .tail _ (.tail _ (.tail _ (.tail _ (.tail _ (List.mem_append_right _ (.tail _ (.tail _ hp)))))))
    refine s_list (vs := refsV qs) (v := .ref qs[i].1) (smem _ hqn) (by lia) (by rw [Int.toNat_natCast, List.getElem?_map, List.getElem?_eq_getElem hiq]; rfl) (by rw [List.length_map]; lia) ?_
    have hi2 := W.gd.two i
    refine ⟨iL (ndF needs i), ⟨_, rfl, .inl (smem _ hki)⟩, by rw [iL_len]; lia, ?_⟩
    wtm_at "go"
    refine ⟨.head _, ?_⟩
    rw [List.append_nil]
    refine TCd.sb (l' := sortL sx sd n2 ep ns .none 0 0 ((q, bmS 168 sx) :: (it, P2) :: (L' + 1, cellS none) :: (C.L, Frm m) :: l)) (sortSb2 _ _) (c_addD (k := (i : Int)) (ps := ndF needs i) O' (R'.mono (by decide)) (by rw [← absG_keys]; exact G.nd) (by lia) (by lia) (gat_len G (by have := edN_len W.gd.two i; lia)) fun ep2 ns2 hd2 ha2 => ?_)
    obtain ⟨b1, b2, b3⟩ := G.add i (ndF needs i)
    wtm_at "go"
    refine' loop_next ?fg ?sb ⟨ep2, ns2, rfl, rfl, by rw [ha2, edN_succ]; exact b1, fun x hx => ?_, fun k hk => ?_, fun j hj => ?_, fun h => absurd h (by lia)⟩
    case fg => wtm_at "fg"
    case sb => exact Sb.trans (sortSb1' _) (Sb.trans (Sb.drop Sb.refl) (sortSb1' _))
    · rw [ha2, b3] at hx
      have hx := Option.some.inj hx
      cases hg : (gkeys (absG ns)).head? with
      | some y => rw [hg] at hx; simp only [Option.getD_some] at hx; rw [← hx]; exact hh y hg
      | none =>
        rw [hg] at hx
        simp only [Option.getD_none] at hx
        have hi00 : i = 0 := by
          rcases Nat.eq_zero_or_pos i with h | h
          · exact h
          · have := hkj 0 h
            rw [List.head?_eq_none_iff.mp hg] at this; cases this
        subst hi00; exact hx.symm
    · rw [ha2, b2] at hk
      rcases hk with h | h | h
      · exact hks k h
      · subst h; lia
      · exact W.rng i (by lia) (by lia) k h
    · rw [ha2, b2]
      rcases Nat.lt_or_ge j i with h | h
      · exact .inl (hkj j h)
      · exact .inr (.inl (by lia))
  case fin =>
    rintro m₁ l₁ ⟨ep, ns, rfl, rfl, G, hh, hks0, hkj, _⟩
    rw [rI_int, List.length_map, List.length_range] at G hkj
    have hks : ∀ k, k ∈ gkeys (absG ns) ↔ 0 ≤ k ∧ k < needs.length := fun k => ⟨hks0 k, fun hk => by have := hkj k.toNat (by lia); rwa [show ((k.toNat : Nat) : Int) = k by lia] at this⟩
    clear hks0 hkj
    have hkl : (gkeys (absG ns)).length = needs.length := by
      have h1 := len_sub (b := nats needs.length) G.nd fun k hk => nats_mem.mpr ((hks k).mp hk)
      have h2 := len_sub (a := nats needs.length) (b := gkeys (absG ns)) ((nats_lt _).imp fun h => by lia) fun k hk => (hks k).mpr (nats_mem.mp hk)
      simp at h1 h2
      lia
    have hnl : ns.length ≤ 5 := by rw [absG_keys] at hkl; simp [keysOf] at hkl; lia
    have hd : (keysOf ns).Nodup := by rw [← absG_keys]; exact G.nd
    have hEl : (edN needs needs.length).length ≤ 10 := by have := edN_len W.gd.two needs.length; lia
    have hscE : scG (absG ns) = scE (edN needs needs.length) := scG_gof G
    have hfst : ∀ x, (keysOf ns).head? = some x → x = 0 := fun x hx => hh x (by rw [absG_keys]; exact hx)
    have hFr : Fra (sub C (enC 232 L')) ((C.L, Frm m) :: l) := (Fra.sub (m := m) F (by with_unfolding_all rfl) (by intro h; with_unfolding_all cases h) (fun p hp => .tail _ hp) (.head _)).fra
    have hFH : FraH (sub C (enC 232 L')) (enC 232 L') ((C.L, Frm m) :: l) := Fra.sub (m := m) F (by with_unfolding_all rfl) (by intro h; with_unfolding_all cases h) (fun p hp => .tail _ hp) (.head _)
    refine execs_nil (then_next (execs_cons (x_join (J := nmT C.L (L' + 1) la na sx sd n2 ep ns (edN needs needs.length) m l) ?k1 ?k2)))
    case k1 =>
      wtm_at "go"
      wtm_at "tms"
      wtm_at "go"
      refine c_prepare O' (R'.mono (by decide)) (hFr.mono fun p hp => .tail _ hp) hd (by lia) (gof_cl G) (gat_len G (by lia)) hfst (fun ra hfin => ?_) fun ra ring e t hring => ?_
      · rw [zeros_ns]
        rw [hscE] at hfin
        wtm_at "go"
        refine ⟨by simp, fun tA => ?_⟩
        wtm_at "go"
        refine' join_end ?fg ?sb ⟨[.none], tA, ra, rfl, rfl, .inl ⟨hfin, rfl⟩⟩
        case fg => wtm_at "fg"
        case sb => exact Sb.trans (Sb.of_perm (sortP (List.Perm.swap _ _ _))) (sortSb1 _)
      · rw [zeros_ns]
        rw [hscE] at hring
        refine caught_next Sb.refl (hFH.mono fun p hp => .tail _ (.tail _ (.tail _ (List.mem_append_right _ (.tail _ (.tail _ hp)))))) fun tb => ?_
        have O'' := O'.mark e
        refine handle_O O' exc136 (e_globR O'' GF.c136.gl ⟨rfl, rfl, rfl⟩) ?_
        wtm_at "go"
        refine ⟨by simp, fun tA => ?_⟩
        wtm_at "go"
        refine' join_end ?fg ?sb ⟨[], tA, ra, rfl, rfl, .inr ⟨⟨ring, hring⟩, rfl⟩⟩
        case fg => wtm_at "fg"
        case sb => exact Sb.trans (Sb.trans (Sb.of_perm (sortP (List.Perm.swap _ _ _))) (sortSb1 _)) (Sb.take Ext.one (Sb.drop (Sb.drop Sb.refl)))
    case k2 =>
      rintro m₁ l₁ ⟨tv, tA, ra, rfl, rfl, htold⟩
      wtm_at "go"
      refine e_dict0 fun dA => ?_
      wtm_at "sc"
      wtm_at "go"
      refine ⟨by simp, fun rA => ?_⟩
      wtm_at "go"
      have R0 := RS.init G
      have hlZ : ∀ p ∈ l, p ∈ (tA, listS tv) :: (L' + 1, cellS (some (.ref dA))) :: (C.L, Frm m) :: l := fun p hp => .tail _ (.tail _ (.tail _ hp))
      have hcZ : (L' + 1, cellS (some (Value.ref dA))) ∈ (tA, listS tv) :: (L' + 1, cellS (some (Value.ref dA))) :: (C.L, Frm m) :: l := .tail _ (.head _)
      generalize hZ : (tA, listS tv) :: (L' + 1, cellS (some (Value.ref dA))) :: (C.L, Frm m) :: l = Z at hlZ hcZ
      refine' x_whileV (nmW la na sx sd n2 ra rA dA tA ep labels needs (gkeys (absG ns)) Z) ?fg ?sb ?h0 ?turn
      case h0 => exact ⟨0, [], ns, zeros (absG ns), [], 0, rfl, rfl, R0, Rd.zero needs, rfl, rfl⟩
      case fg => wtm_at "fg"
      case sb =>
        subst hZ
        show Sb (sortL sx sd n2 ep ns (.ref ra) 0 0 ((ra, listS (iL (zeros (absG ns)))) :: (rA, listS []) :: (dA, dictE 0 []) :: (tA, listS tv) :: (L' + 1, cellS (some (Value.ref dA))) :: (C.L, Frm m) :: l)) _
        exact Sb.trans (Sb.of_perm (sortP (List.perm_middle (l₁ := [(rA, listS []), (dA, dictE 0 [])]) (a := (ra, listS (iL (zeros (absG ns)))))).symm)) (sortSb2 _ _)
      case turn =>
        rintro k m₁ l₁ ⟨t, D, ns', rs, ps, ep2, rfl, rfl, RR, SD, hps, rfl⟩
        have hd' : (keysOf ns').Nodup := by rw [← absG_keys, RR.keys]; exact RR.nd
        have hrl := RR.rlen
        have hdl := RR.dlen
        wtm_at "go"
        wtm_at "tms"
        wtm_at "go"
        refine c_is_active O' (R'.mono (by decide)) (by lia) ?_
        rw [decide_eq_false (Int.lt_irrefl _), Bool.false_or]
        wtm_at "go"
        by_cases hre : rs = []
        · subst hre
          refine Br.ff ?_
          wtm_at "go"
          refine ⟨by simp, fun tt => ?_⟩
          wtm_at "go"
          have ht5 : t ≤ needs.length := by have := SD.le; lia
          have hlast := SD.last RR hks ht5
          have hNm : NmR labels needs D tv := by
            refine ⟨fun k => by rw [hlast]; exact SD.mem k, fun k hk => (SD.dp k hk).le (by lia), fun k hk => (hks k).mp (RR.dks k hk), RR.dn, ?_⟩
            rcases htold with ⟨⟨fin, T, hc⟩, e⟩ | ⟨⟨ring, hring⟩, e⟩
            · exact .inl ⟨(topo_all RR T fun k hk => hc k (by rw [← absG_keys]; exact hk)).trans hkl, e⟩
            · refine .inr ⟨?_, e⟩
              rw [← absG_keys] at hring
              have := ring_less SD RR hring
              rw [hkl] at this; exact this
          subst hZ
          refine ret_end ?_ (h tt dA rA tA ep2 D ps tv (by rw [hlast]; exact hps) hNm)
          refine' Sb.trans (b := (tt, tupS [.ref dA, .ref rA, .ref tA]) :: (rA, listS (refsV ps)) :: (dA, dictE ep2 (kvN labels needs D)) :: (tA, listS tv) :: (C.L, Frm m) :: (segL ps ++ l)) ?s1 (Sb.trans (b := (tt, tupS [.ref dA, .ref rA, .ref tA]) :: (rA, listS (refsV ps)) :: (dA, dictE ep2 (kvN labels needs D)) :: (segL ps ++ ((tA, listS tv) :: (C.L, Frm m) :: l))) (Sb.of_perm ?s2) (Sb.of_sub ?s3))
          case s1 =>
            show Sb ((C.L, Frm m) :: (tt, tupS [.ref dA, .ref rA, .ref tA]) :: (dA, dictE ep2 (kvN labels needs D)) :: (rA, listS (refsV ps)) :: (tA, listS tv) :: (segL ps ++ l)) _
            wtm_at "sb"
          case s2 =>
            refine List.Perm.cons _ (List.Perm.cons _ (List.Perm.cons _ ?_))
            exact ((List.perm_middle (l₁ := segL ps)).trans (List.Perm.cons _ List.perm_middle)).symm
          case s3 =>
            refine .cons_cons _ (.cons _ (.cons _ (.cons _ ?_)))
            refine List.Sublist.trans ?_ (List.sublist_append_right _ _)
            refine .cons _ (.cons_cons _ (.cons_cons _ ?_))
            exact List.Sublist.append_left (.cons_cons _ (.cons _ (.refl _))) (segL ps)
        · rw [show rs.isEmpty = false from by cases rs with | nil => exact absurd rfl hre | cons _ _ => rfl]
          refine Br.tt ?_
          have hrm : ∀ x ∈ rs, (0 ≤ x ∧ x < needs.length) ∧ x ∉ D ∧ ∀ i ∈ ndF needs x, i ∈ D := fun x hx => (ready_needs RR hks x).mp hx
          have htn : t + 1 ≤ 6 := by have := SD.le; lia
          wtm_at "go"
          wtm_at "tms"
          wtm_at "go"
          refine c_get_ready O' (R'.mono (by decide)) (by lia) hd' (fun k hk => by rw [← absG_keys, RR.keys]; exact ((RR.rmem k).mp hk).1) fun t1 ns1 hd1 hab1 => ?_
          wtm_at "go"
          refine' for_tup (vs := iL rs) (.head _) R'.handled (nmK la na sx sd n2 ra rA dA tA t1 ep ns1 labels needs D rs ps Z ((D.length : Nat) + (rs.length : Nat) : Int) (D.length : Nat)) ?fg ?sb ?hS ?h0 ?turn2 ?fin2
          case h0 => exact ⟨ep2, rfl, by rw [List.take_zero, List.append_nil]⟩
          case fg => wtm_at "fg"
          case sb => exact Sb.refl
          case hS => rintro j m₁ l₁ ⟨ep3, rfl, rfl⟩; exact .head _
          case turn2 =>
            rintro it3 P3 j v m₁ l₁ hv ⟨ep3, rfl, rfl⟩
            obtain ⟨x, hx, rfl⟩ : ∃ x, rs[j]? = some x ∧ v = .int x 0 := by
              unfold iL at hv
              simp only [List.getElem?_map, Option.map_eq_some_iff] at hv
              obtain ⟨c, h1, rfl⟩ := hv
              exact ⟨c, h1, rfl⟩
            have hxm := List.mem_of_getElem? hx
            obtain ⟨⟨hx0, hx1⟩, hxD, hxn⟩ := hrm x hxm
            obtain ⟨nv, kx, hnv, hnk, hnl2, hkx⟩ := hna.at hx0 hx1
            wtm_at "go"
            generalize hY : (it3, P3) :: (t1, tupS (iL rs)) :: sortL sx sd n2 ep ns1 (.ref ra) ((D.length : Nat) + (rs.length : Nat) : Int) (D.length : Nat) ((ra, listS []) :: (rA, listS (refsV ps)) :: (dA, dictE ep3 (kvN labels needs (D ++ rs.take j))) :: (segL ps ++ Z)) = Y
            have hZY : ∀ p ∈ Z, p ∈ Y := fun p hp => by rw [← hY]; exact .tail _ (.tail _ (.tail _ (.tail _ (.tail _ (List.mem_append_right _ (.tail _ (.tail _ (.tail _ (List.mem_append_right _ hp)))))))))
            have hYd : (dA, dictE ep3 (kvN labels needs (D ++ rs.take j))) ∈ Y := by rw [← hY]; exact .tail _ (.tail _ (.tail _ (.tail _ (.tail _ (List.mem_append_right _ (.tail _ (.tail _ (.head _))))))))
            have hYc := hZY _ hcZ
            have hYn := hZY _ (hlZ _ hnv)
            have hYk := hZY _ (hlZ _ hkx)
            have hYl := hZY _ (hlZ _ hla)
            have hi2 := W.gd.two x
            have hkv : ∀ i ∈ ndF needs x, valueAt (kvN labels needs (D ++ rs.take j)) i = some (byv (nmF (labF labels) (ndF needs) 6 i)) := fun i hi => kv_at (List.mem_append_left _ (hxn i hi))
            refine e_comp (cl := [(Str.ofString "names", _)]) (by with_unfolding_all rfl) (by with_unfolding_all rfl) (by decide +kernel) ?_
            wtm_at "go"
            refine s_list (vs := nv) (v := .ref kx) hYn hx0 hnk (by rw [hnl2]; lia) ?_
            refine' comp_list (vs := iL (ndF needs x)) hYk R'.handled (by rw [iL_len]; lia) (fun i ys l₁ => ys = (((ndF needs x).take i).map (nmF (labF labels) (ndF needs) 6)).map byv ∧ l₁ = Y) ?sb3 ?hS3 ?h03 ?turn3 ?fin3
            case h03 => exact ⟨rfl, rfl⟩
            case sb3 => exact Sb.refl
            case hS3 => rintro i ys l₁ ⟨rfl, rfl⟩; exact hYk
            case turn3 =>
              rintro it4 L4 P4 acc i v ys l₁ hv4 ⟨rfl, rfl⟩ hle
              have O4 := O'.cx L4
              obtain ⟨c, hc, rfl⟩ : ∃ c, (ndF needs x)[i]? = some c ∧ v = .int c 0 := by
                unfold iL at hv4
                simp only [List.getElem?_map, Option.map_eq_some_iff] at hv4
                obtain ⟨c, h1, rfl⟩ := hv4
                exact ⟨c, h1, rfl⟩
              have hcm := List.mem_of_getElem? hc
              wtm_at "go"
              refine tests_one ?_
              wtm_at "go"
              refine c_inD O4 (.tail _ (.tail _ (.tail _ hYd))) ?_
              rw [hkv c hcm]
              show TT _ _ _ (.bool true) _ _
              wtm_at "go"
              refine sd_get (.tail _ (.tail _ (.tail _ hYd))) (hkv c hcm) ?_
              refine ⟨_, Sb.refl, ?_, rfl⟩
              rw [List.take_succ, hc, List.map_append, List.map_append]; rfl
            case fin3 =>
              rintro acc l₁ ys ⟨rfl, hl⟩
              subst l₁
              rw [iL_len, List.take_length]
              wtm_at "go"
              refine f_sortedB (xs := (ndF needs x).map (nmF (labF labels) (ndF needs) 6)) (.head _) (by rw [List.length_map]; exact hi2) (fun y hy => ?_) fun bl => ?_
              · obtain ⟨i, _, rfl⟩ := List.mem_map.mp hy
                exact fun z hz => ⟨((nm_ok W.gd 6 i).1 z hz).1, ((nm_ok W.gd 6 i).1 z hz).2.1⟩
              wtm_at "go"
              have hll : labels.length = needs.length := W.len
              refine s_list (vs := iL labels) (v := .int (labF labels x) 0) (.tail _ (.tail _ hYl)) hx0 (lab_at hx0 (by lia)) (by rw [iL_len]; lia) ?_
              wtm_at "go"
              refine ⟨by simp, fun e1 => ?_⟩
              wtm_at "go"
              refine f_bytes (ns := [labF labels x]) (.head _) (fun z hz => by simp only [List.mem_cons, List.not_mem_nil, or_false] at hz; rw [hz]; exact W.gd.lab x) (by simp) R'.handled ?_
              wtm_at "go"
              refine tm_join (ns := [46]) ?_
              wtm_at "go"
              have hnmlen : ∀ y ∈ sort2 (lexG ltI) ((ndF needs x).map (nmF (labF labels) (ndF needs) 6)), y.length ≤ 100000 := fun y hy => by
                obtain ⟨i, _, rfl⟩ := List.mem_map.mp ((sort2_perm _).mem_iff.mp hy)
                exact Nat.le_trans (nm_len W.gd 6 i) (lenB_le (by decide))
              refine m_join (sp := [46]) (xs := sort2 (lexG ltI) ((ndF needs x).map (nmF (labF labels) (ndF needs) 6))) (.tail _ (.head _)) (by rw [sort2_len, List.length_map]; exact hi2) hnmlen (by simp) ?_
              have hol : (octF (labF labels) (ndF needs) 6 x).length ≤ 100000 := Nat.le_trans (oct_len W.gd 6 x) (by have := lenB_le6 (d := 6) (by decide); lia)
              refine o_add_bytes (ns := [labF labels x]) (ks := joinB [46] (sort2 (lexG ltI) ((ndF needs x).map (nmF (labF labels) (ndF needs) 6)))) (by have := hol; unfold octF at this; rw [List.length_cons] at this; simp only [List.length_cons, List.length_nil]; lia) ?_
              rw [show [labF labels x] ++ joinB [46] (sort2 (lexG ltI) ((ndF needs x).map (nmF (labF labels) (ndF needs) 6))) = octF (labF labels) (ndF needs) 6 x from rfl]
              wtm_at "go"
              refine s_list (vs := iL labels) (v := .int (labF labels x) 0) (.tail _ (.tail _ (.tail _ hYl))) hx0 (lab_at hx0 (by lia)) (by rw [iL_len]; lia) ?_
              wtm_at "go"
              rw [Int.fmod_eq_emod_of_nonneg _ (by decide)]
              have hoB : InB (octF (labF labels) (ndF needs) 6 x) := (nm_ok W.gd 6 x).2
              have hn7 : nmF (labF labels) (ndF needs) (6 + 1) x = nmF (labF labels) (ndF needs) 6 x := nm_up ((SD.dpr RR hks hxm).le htn)
              have hxt : x ∉ rs.take j := fun hm => by
                obtain ⟨i, hi, e⟩ := List.getElem_of_mem hm
                rw [List.getElem_take] at e
                have hij : i < j := by rw [List.length_take] at hi; lia
                have hir : i < rs.length := by rw [List.length_take] at hi; lia
                have h1 : rs[i]? = rs[j]? := by rw [hx, List.getElem?_eq_getElem hir, e]
                have := (List.getElem?_inj hir RR.rnd).mp h1
                lia
              have hxn2 : x ∉ D ++ rs.take j := fun hm => (List.mem_append.mp hm).elim hxD hxt
              have htk : rs.take j ++ [x] = rs.take (j + 1) := by rw [List.take_succ, hx]; rfl
              refine Br.eqi (fun hb => ?_) (fun hb => ?_)
              · wtm_at "go"
                refine c_b64encode (c := 45) (d := 95) O' (R'.mono (by decide)) hoB (by intro z hz; simp at hz; lia) (by lia) (enc_inB hoB) (enc_len hoB hol) ?_
                rw [← wr_enc hoB, show wrS (octF (labF labels) (ndF needs) 6 x) 45 95 = nmF (labF labels) (ndF needs) 6 x from by rw [← hn7, nmF_succ, show twoC (labF labels x) = 45 from if_pos hb, show twoD (labF labels x) = 95 from if_pos hb]]
                subst hY
                wtm_at "go"
                refine' si_dict (kvs := kvN labels needs (D ++ rs.take j)) (v := byv (nmF (labF labels) (ndF needs) 6 x)) (fun ep' => ?u) (by rw [List.length_map, List.length_append, List.length_take]; lia) fun ep4 => ?_
                case u => wtm_at "upd"
                rw [kv_new hxn2, List.append_assoc, htk]
                wtm_at "go"
                refine' loop_next ?fg ?sb ⟨ep4, rfl, rfl⟩
                case fg => wtm_at "fg"
                case sb => exact Sb.drop (Sb.drop (Sb.drop Sb.refl))
              · wtm_at "go"
                refine c_b64encode0 O' (R'.mono (by decide)) hoB (by lia) ?_
                rw [enc_id hoB, show wrS (octF (labF labels) (ndF needs) 6 x) 43 47 = nmF (labF labels) (ndF needs) 6 x from by rw [← hn7, nmF_succ, show twoC (labF labels x) = 43 from if_neg hb, show twoD (labF labels x) = 47 from if_neg hb]]
                subst hY
                wtm_at "go"
                refine' si_dict (kvs := kvN labels needs (D ++ rs.take j)) (v := byv (nmF (labF labels) (ndF needs) 6 x)) (fun ep' => ?u) (by rw [List.length_map, List.length_append, List.length_take]; lia) fun ep4 => ?_
                case u => wtm_at "upd"
                rw [kv_new hxn2, List.append_assoc, htk]
                wtm_at "go"
                refine' loop_next ?fg ?sb ⟨ep4, rfl, rfl⟩
                case fg => wtm_at "fg"
                case sb => exact Sb.drop (Sb.drop (Sb.drop Sb.refl))
          case fin2 =>
            rintro m₁ l₁ ⟨ep3, rfl, rfl⟩
            rw [iL_len, List.take_length]
            wtm_at "go"
            refine e_methS1 O' ?_
            wtm_at "go"
            refine at_bound (f := 201) (dx := sd) (sl := []) (as := tsA n2 (.ref ra) ((D.length : Nat) + (rs.length : Nat) : Int) (D.length : Nat)) O' cls218 (by with_unfolding_all kernel_rfl) hd218 (by with_unfolding_all kernel_rfl) (by with_unfolding_all kernel_rfl) (by with_unfolding_all kernel_rfl) (by with_unfolding_all kernel_rfl) (by decide +kernel) ?b1 ?b2 ?b3 fun q => ?_
            case b1 => wtm_at "mem"
            case b2 => wtm_at "mem"
            case b3 => with_unfolding_all rfl
            refine ⟨q, 201, sx, rfl, by kernel_rfl, ?_⟩
            wtm_at "go"
            refine ⟨iL rs, ⟨t1, rfl, .inr (.tail _ (.head _))⟩, by rw [iL_len]; lia, .head _, ?_⟩
            have hkeys1 : keysOf ns1 = gkeys (absG ns) := by rw [← absG_keys, hab1, gkeys_out, RR.keys]
            have hcl1 : gcl (absG ns1) := by rw [hab1]; exact gcl_out _ _ RR.gcl
            have hgl1 : gle (absG ns1) 1000 := by rw [hab1]; exact gle_out _ _ (RR.gle (by lia))
            refine TCd.sb (l' := sortL sx sd n2 ep ns1 (.ref ra) ((D.length : Nat) + (rs.length : Nat) : Int) (D.length : Nat) ((ra, listS (iL [])) :: (q, bmS 201 sx) :: (t1, tupS (iL rs)) :: (rA, listS (refsV ps)) :: (dA, dictE ep3 (kvN labels needs (D ++ rs))) :: (segL ps ++ Z))) ?_ (c_doneD (ks := rs) O' (R'.mono (by decide)) (by simp) (by lia) hd1 (fun k hk => by rw [hkeys1]; exact ((RR.rmem k).mp hk).1) hcl1 hgl1 (fun i k hik => by rw [hab1]; exact RR.out hik) fun ns2 rs2 hd2 hab2 => ?_)
            · exact Sb.trans (Sb.of_perm (sortP (List.perm_middle (l₁ := [(q, bmS 201 sx), (t1, tupS (iL rs))]) (a := (ra, listS (iL [])))).symm)) (sortSb2 _ _)
            · wtm_at "go"
              have R2 := RR.round
              rw [← hab1] at R2
              have ea : (doneAll (absG ns1, []) rs).1 = absG ns2 := (congrArg Prod.fst hab2).symm
              have eb : (doneAll (absG ns1, []) rs).2 = rs2 := (congrArg Prod.snd hab2).symm
              rw [ea, eb] at R2
              obtain ⟨SD2, hst2⟩ := SD.step RR hks hre
              refine f_sortedI (ns := rs) (.tail _ (.tail _ (.tail _ (List.mem_append_right _ (.tail _ (.tail _ (.head _))))))) (by lia) fun ns' hp hs r => ?_
              have hne : ns' = newR needs (stR needs t).1 := sorted_new hp hs RR.rnd (SD.same RR hks)
              have hpl : ps.length ≤ 5 := by
                have h2 := (stR_len needs t).2
                rw [← hps, List.length_map] at h2
                have := SD.le
                lia
              wtm_at "go"
              refine' m_append (vs := refsV ps) ?u (by rw [List.length_map]; lia) ?_
              case u => wtm_at "upd"
              rw [show refsV ps ++ [Value.ref r] = refsV (ps ++ [(r, ns')]) from by simp]
              wtm_at "go"
              have hpos := List.length_pos_iff.mpr hre
              have hdn : D.length < needs.length := by have := RR.less hre; lia
              have e1 : (((D ++ rs).length : Nat) : Int) = (D.length : Nat) + (rs.length : Nat) := by rw [List.length_append]; push_cast; rfl
              refine' while_next (j := needs.length - (D ++ rs).length) ?fg ?sb (by rw [List.length_append]; lia) ⟨t + 1, D ++ rs, ns2, rs2, ps ++ [(r, ns')], ep3, rfl, rfl, R2, SD2, by rw [List.map_append, hps, hst2, hne]; rfl, rfl⟩
              case fg => wtm_at "fg"
              case sb =>
                rw [e1]
                refine' Sb.trans (b := sortL sx sd n2 ep ns2 (.ref ra) ((D.length : Nat) + (rs.length : Nat) : Int) ((D.length : Nat) + (rs.length : Nat) : Int) ((r, listS (iL ns')) :: (ra, listS (iL rs2)) :: (rA, listS (refsV (ps ++ [(r, ns')]))) :: (dA, dictE ep3 (kvN labels needs (D ++ rs))) :: (segL ps ++ Z))) (Sb.of_perm (sortP ?p)) (Sb.trans (sortSb1 _) (Sb.of_sub ?s))
                case p =>
                  rw [show segL (ps ++ [(r, ns')]) = segL ps ++ [(r, listS (iL ns'))] from by simp [segL], List.append_assoc]
                  exact List.perm_middle (l₁ := [(ra, listS (iL rs2)), (rA, listS (refsV (ps ++ [(r, ns')]))), (dA, dictE ep3 (kvN labels needs (D ++ rs)))] ++ segL ps)
                case s =>
                  refine .cons_cons _ (.cons_cons _ (.cons_cons _ (.cons_cons _ ?_)))
                  exact List.Sublist.append_left (.cons_cons _ (.cons _ (.cons _ (.refl _)))) (nodesL ns2)
end
end
section
set_option Elab.async false
set_option linter.all false
set_option maxRecDepth 100000
set_option maxHeartbeats 4000000
/-! ## _law_holds -/
noncomputable def lol (xs : List (List Int)) : Dat := .list (xs.map fun x => .list (x.map Dat.int))
theorem rds_refs {l : Led} : ∀ {ps : List (Addr × List Int)}, (∀ e ∈ segL ps, e ∈ l) → RdsL l (refsV ps) ((ps.map (·.2)).map fun x => .list (x.map Dat.int))
  | [], _ => .nil
  | p :: ps, h => .cons (rd_ints (h _ (.head _))) (rds_refs fun e he => h e (.tail _ he))
theorem ok_lol (xs : List (List Int)) : kqdOk 40 (lol xs) = true := by
  simp only [lol, kqdOk, List.all_map, List.all_eq_true]
  intro x _
  simp only [Function.comp, kqdOk, List.all_map, List.all_eq_true]
  intro y _
  trivial
theorem stR_flat (needs : List (List Int)) : ∀ t, (stR needs t).2.flatten = (stR needs t).1
  | 0 => rfl
  | t + 1 => by
    have ih := stR_flat needs t
    show (if newR needs (stR needs t).1 = [] then (stR needs t).2 else (stR needs t).2 ++ [newR needs (stR needs t).1]).flatten = (stR needs t).1 ++ newR needs (stR needs t).1
    split
    · rename_i e; rw [e, ih, List.append_nil]
    · rw [List.flatten_append, ih]; simp
theorem stR_nd (needs : List (List Int)) : ∀ t, (stR needs t).1.Nodup
  | 0 => List.nodup_nil
  | t + 1 => by
    have ih := stR_nd needs t
    show ((stR needs t).1 ++ newR needs (stR needs t).1).Nodup
    refine List.nodup_append.mpr ⟨ih, (newR_lt _ _).imp fun h => by lia, fun a ha b hb e => ?_⟩
    subst e
    exact (newR_iff.mp hb).2.1 ha
theorem NmR.len {labels : List Int} {needs : List (List Int)} {D : List Int} {tv : List Value} (N : NmR labels needs D tv) : (stR needs needs.length).1.length = D.length :=
  ((List.perm_ext_iff_of_nodup (stR_nd needs _) N.nd).mpr fun k => (N.mem k).symm).length_eq
section
variable {P : Params} {C : Cx} {m : Loc} {l : Led} {Q E : Pv} {labels : List Int} {needs : List (List Int)} {la na : Addr}
theorem c_holds (W : Wd labels needs) (hn1 : 1 ≤ needs.length) (O : Ok (KK P) C) (R : Room C.A 12) (F : Fra C l) (hla : (la, listS (iL labels)) ∈ l) (hna : NsL l na needs) (h : Q (.bool true) m l) : TCall C m l (.ref 262) [.ref la, .ref na] [] Q E := by
  refine enterK (bs := [(Str.ofString "labels", .ref la), (Str.ofString "needs", .ref na)]) (m' := [(Str.ofString "needs", .ref na), (Str.ofString "labels", .ref la)]) O FF.c262.fk R.now ?_
  intro vvs vkw hv hkw
  obtain ⟨v1, v2, rfl, e1, e2⟩ := map2 hv
  obtain rfl := kw0 hkw
  refine T.pure (a := [(Str.ofString "labels", v1), (Str.ofString "needs", v2)]) ⟨by simp [unB, e1, e2], rfl, fun L' => ?_⟩
  have O' := O.sub (en 262 L')
  have R' : Room (sub C (en 262 L')).A 11 := R.sub
  have hu : (sub C (en 262 L')).A.units + 64 < cLine := by have := R'.units; lia
  have hFr : Fra (sub C (en 262 L')) ((C.L, Frm m) :: l) := (Fra.sub (m := m) F (by with_unfolding_all rfl) (by intro h; with_unfolding_all cases h) (fun p hp => .tail _ hp) (.head _)).fra
  have hna1 : NsL ((C.L, Frm m) :: l) na needs := hna.mono fun p hp => .tail _ hp
  obtain ⟨qs, hq, hqn, hqm⟩ := id hna
  have hql : qs.length = needs.length := by rw [← hq, List.length_map]
  have hn5 := W.small
  wtm_at "body"
  refine execs_cons ?_
  refine x_assignT R'.handled ?_
  wtm_at "go"
  refine c_names W hn1 O' (R'.mono (by decide)) hFr (.tail _ hla) hna1 fun t dA rA tA ep D ps tv hps hN => ?_
  refine ⟨t, _, rfl, .head _, by with_unfolding_all rfl, up_cons ?_⟩
  wtm_at "go"
  refine up_cons ?_
  wtm_at "go"
  refine up_cons ?_
  wtm_at "go"
  refine up_nil ?_
  wtm_at "go"
  generalize hZ : (t, tupS [.ref dA, .ref rA, .ref tA]) :: (dA, dictE ep (kvN labels needs D)) :: (rA, listS (refsV ps)) :: (tA, listS tv) :: (segL ps ++ (C.L, Frm m) :: l) = Z
  have hZl : ∀ p ∈ l, p ∈ Z := fun p hp => by rw [← hZ]; exact .tail _ (.tail _ (.tail _ (.tail _ (List.mem_append_right _ (.tail _ hp)))))
  have hZs : ∀ p ∈ segL ps, p ∈ Z := fun p hp => by rw [← hZ]; exact .tail _ (.tail _ (.tail _ (.tail _ (List.mem_append_left _ hp))))
  have hZr : (rA, listS (refsV ps)) ∈ Z := by rw [← hZ]; exact .tail _ (.tail _ (.head _))
  have hZd : (dA, dictE ep (kvN labels needs D)) ∈ Z := by rw [← hZ]; exact .tail _ (.head _)
  have hZt : (tA, listS tv) ∈ Z := by rw [← hZ]; exact .tail _ (.tail _ (.tail _ (.head _)))
  have hZe : Sb ((C.L, Frm m) :: l) Z := by rw [← hZ]; exact Sb.drop (Sb.drop (Sb.drop (Sb.drop (Sb.dropA Sb.refl))))
  clear hZ
  refine c_rounds O' (R'.mono (by decide)) (hna.mono hZl) hn5 W.gd.two fun r2 ps2 hps2 => ?_
  wtm_at "go"
  refine c_neD (da := lol (ps.map (·.2))) (db := lol (ps2.map (·.2))) (.list (.tail _ (List.mem_append_right _ hZr)) (rds_refs fun e he => .tail _ (List.mem_append_right _ (hZs e he)))) (.list (.head _) (rds_refs fun e he => .tail _ (List.mem_append_left _ he))) (ok_lol _) (ok_lol _) hu (fun hne => absurd (by rw [hps, hps2]) hne) (fun _ => ?_)
  wtm_at "go"
  have hdr : Sb Z ((r2, listS (refsV ps2)) :: (segL ps2 ++ Z)) := Sb.drop (Sb.dropA Sb.refl)
  refine T.led (fun _ S => hdr.st S) ?_
  have hpl : ps.length ≤ 5 := by
    have h2 := (stR_len needs needs.length).2
    rw [← hps, List.length_map] at h2
    lia
  have hsl : (stR needs needs.length).1.length ≤ 25 := Nat.le_trans (stR_len needs needs.length).1 (Nat.le_trans (Nat.mul_le_mul hn5 hn5) (by decide))
  have hfl : ps.flatMap (·.2) = (stR needs needs.length).1 := by rw [List.flatMap_def, hps, stR_flat]
  refine x_flat (x := Str.ofString "new") (y := Str.ofString "k") (a := rA) (rs := ps) (cl := []) R'.handled (by with_unfolding_all rfl) (by with_unfolding_all rfl) (by with_unfolding_all rfl) (by decide +kernel) (by decide +kernel) (by with_unfolding_all rfl) (by with_unfolding_all rfl) (by decide) (by decide) (by decide) ?_ (fun m v => put_ex _ v m)
  wtm_at "go"
  refine ⟨rfl, hZr, fun p hp => hZs _ (List.mem_map_of_mem (f := fun p : Addr × List Int => (p.1, listS (iL p.2))) hp), by lia, fun p hp => ?_, fun sg m' hPut => ?_⟩
  · have h1 : p.2 ∈ (stR needs needs.length).2 := by rw [← hps]; exact List.mem_map_of_mem (f := fun p : Addr × List Int => p.2) hp
    have h2 := (List.sublist_flatten_of_mem h1).length_le
    rw [stR_flat] at h2
    lia
  have hput : Put (Str.ofString "named") (.ref sg) [(Str.ofString "needs", .ref na), (Str.ofString "labels", .ref la), (Str.ofString "names", .ref dA), (Str.ofString "rounds", .ref rA), (Str.ofString "told", .ref tA)] [(Str.ofString "needs", .ref na), (Str.ofString "labels", .ref la), (Str.ofString "names", .ref dA), (Str.ofString "rounds", .ref rA), (Str.ofString "told", .ref tA), (Str.ofString "named", .ref sg)] := by wtm_at "put"
  obtain rfl := Put.uniq hPut hput
  rw [hfl]
  have hnl := hN.len
  have hmem := hN.mem
  generalize (stR needs needs.length).1 = nm at hsl hnl hmem
  have hnd : (nm.length = needs.length ∧ tv = [.none]) ∨ (nm.length < needs.length ∧ tv = []) := by rw [hnl]; exact hN.tv
  refine then_next (execs_cons (x_join (J := fun m₁ l₁ => m₁ = [(Str.ofString "needs", .ref na), (Str.ofString "labels", .ref la), (Str.ofString "names", .ref dA), (Str.ofString "rounds", .ref rA), (Str.ofString "told", .ref tA), (Str.ofString "named", .ref sg)] ∧ l₁ = (sg, listS (iL nm)) :: Z) ?k1 ?k2))
  case k1 =>
    wtm_at "go"
    refine f_len_list (vs := iL nm) (.head _) (by rw [iL_len]; lia) ?_
    wtm_at "go"
    refine f_len_list (vs := refsV qs) (.tail _ (hZl _ hqn)) (by rw [List.length_map]; lia) ?_
    rw [iL_len, List.length_map, hql]
    wtm_at "go"
    refine Br.eqi (fun hb => ?_) (fun hb => ?_)
    · obtain rfl : tv = [.none] := by
        rcases hnd with ⟨_, e⟩ | ⟨e, _⟩
        · exact e
        · lia
      wtm_at "go"
      refine ⟨by simp, fun n1 => ?_⟩
      refine c_neD (da := .list [.none]) (db := .list [.none]) (.list (.tail _ (.tail _ hZt)) (.cons .none .nil)) (.list (.head _) (.cons .none .nil)) rfl rfl hu (fun hne => absurd rfl hne) (fun _ => ?_)
      wtm_at "go"
      refine' join_end ?fg ?sb ⟨rfl, rfl⟩
      case fg => wtm_at "fg"
      case sb => exact Sb.drop Sb.refl
    · obtain rfl : tv = [] := by
        rcases hnd with ⟨e, _⟩ | ⟨_, e⟩
        · lia
        · exact e
      wtm_at "go"
      refine ⟨by simp, fun n1 => ?_⟩
      refine c_neD (da := .list []) (db := .list []) (.list (.tail _ (.tail _ hZt)) .nil) (.list (.head _) .nil) rfl rfl hu (fun hne => absurd rfl hne) (fun _ => ?_)
      wtm_at "go"
      refine' join_end ?fg ?sb ⟨rfl, rfl⟩
      case fg => wtm_at "fg"
      case sb => exact Sb.drop Sb.refl
  case k2 =>
    rintro m₁ l₁ ⟨rfl, rfl⟩
    wtm_at "go"
    refine' for_list (a := sg) (vs := iL nm) (.head _) R'.handled (fun i m₁ l₁ => m₁ = [(Str.ofString "needs", .ref na), (Str.ofString "labels", .ref la), (Str.ofString "names", .ref dA), (Str.ofString "rounds", .ref rA), (Str.ofString "told", .ref tA), (Str.ofString "named", .ref sg)] ∧ l₁ = (sg, listS (iL nm)) :: Z) ?fg ?sb ?hS ?h0 ?turn ?fin
    case h0 => exact ⟨rfl, rfl⟩
    case fg => wtm_at "fg"
    case sb => exact Sb.refl
    case hS => rintro i m₁ l₁ ⟨rfl, rfl⟩; exact .head _
    case turn =>
      rintro it P2 i v m₁ l₁ hv ⟨rfl, rfl⟩
      obtain ⟨x, hx, rfl⟩ : ∃ x, nm[i]? = some x ∧ v = .int x 0 := by
        unfold iL at hv
        simp only [List.getElem?_map, Option.map_eq_some_iff] at hv
        obtain ⟨c, h1, rfl⟩ := hv
        exact ⟨c, h1, rfl⟩
      have hxD : x ∈ D := (hmem x).mpr (List.mem_of_getElem? hx)
      obtain ⟨hx0, hx1⟩ := hN.rng x hxD
      have hxp := hN.dp x hxD
      have hnB : InB (nmF (labF labels) (ndF needs) 6 x) := fun y hy => ⟨((nm_ok W.gd 6 x).1 y hy).1, ((nm_ok W.gd 6 x).1 y hy).2.1⟩
      wtm_at "go"
      refine sd_get (.tail _ (.tail _ hZd)) (kv_at hxD) ?_
      wtm_at "go"
      refine f_list_bytes hnB (Nat.le_trans (nm_len W.gd 6 x) (Nat.le_trans (lenB_le (by decide)) (by decide))) R'.handled fun r1 => ?_
      wtm_at "go"
      refine c_own W 6 (by decide) O' (R'.mono (by decide)) (.tail _ (.tail _ (.tail _ (hZl _ hla)))) (hna.mono fun p hp => .tail _ (.tail _ (.tail _ (hZl _ hp)))) hx0 hx1 hxp fun r3 => ?_
      wtm_at "go"
      refine c_neI (ns := nmF (labF labels) (ndF needs) 6 x) (ms := nmF (labF labels) (ndF needs) 6 x) (.tail _ (.head _)) (.head _) hu ?_
      rw [decide_eq_true rfl, Bool.not_true]
      wtm_at "go"
      refine sd_get (.tail _ (.tail _ (.tail _ (.tail _ hZd)))) (kv_at hxD) ?_
      wtm_at "go"
      refine c_read W 6 (by decide) O' (R'.mono (by decide)) hx0 hx1 hxp fun v4 X4 hX4 => ?_
      wtm_at "go"
      refine c_tree W 6 (by decide) O' (R'.mono (by decide)) (List.mem_append_right _ (.tail _ (.tail _ (.tail _ (.tail _ (hZl _ hla)))))) (hna.mono fun p hp => List.mem_append_right _ (.tail _ (.tail _ (.tail _ (.tail _ (hZl _ hp)))))) hx0 hx1 hxp fun v5 X5 hX5 => ?_
      wtm_at "go"
      have htok := kqd_le (tree_tr (lab := labF labels) hxp).ok (by decide : 2 * 6 ≤ 40)
      refine c_neD (hX4.mono fun p hp => List.mem_append_right _ (List.mem_append_left _ hp)) (hX5.mono fun p hp => List.mem_append_left _ hp) htok htok hu (fun hne => absurd rfl hne) (fun _ => ?_)
      wtm_at "go"
      refine' loop_next ?fg ?sb ⟨rfl, rfl⟩
      case fg => wtm_at "fg"
      case sb => exact Sb.dropA (Sb.dropA (Sb.drop (Sb.drop Sb.refl)))
    case fin =>
      rintro m₁ l₁ ⟨rfl, rfl⟩
      wtm_at "go"
      exact ret_end (Sb.drop hZe) h
end
end
section
set_option Elab.async false
set_option linter.all false
set_option maxRecDepth 100000
set_option maxHeartbeats 4000000
/-! ## law -/
theorem wd_of {labels : List Int} {ps : List (Addr × List Int)} (h1 : ps.length = labels.length) (h5 : labels.length ≤ 5) (W : Wf labels.length labels (ps.map (·.2))) : Wd labels (ps.map (·.2)) := by
  have hnd : ∀ k, ndF (ps.map (·.2)) k = [] ∨ ndF (ps.map (·.2)) k ∈ ps.map (·.2) := fun k => by
    unfold ndF
    rw [List.getD_eq_getElem?_getD]
    cases h : (ps.map (·.2))[k.toNat]? with
    | none => exact .inl rfl
    | some x => exact .inr (List.mem_of_getElem? h)
  refine ⟨by rw [List.length_map]; exact h1.symm, by rw [List.length_map]; lia, fun k _ _ i hi => ?_, ⟨fun k => ?_, fun k => ?_⟩⟩
  · rcases hnd k with e | e
    · rw [e] at hi; cases hi
    · have := (W.two _ e).2 i hi
      rw [List.length_map, h1]; exact this
  · unfold labF
    rw [List.getD_eq_getElem?_getD]
    cases h : labels[k.toNat]? with
    | none => exact ⟨by decide, by decide⟩
    | some x => exact W.lab x (List.mem_of_getElem? h)
  · rcases hnd k with e | e
    · rw [e]; decide
    · exact (W.two _ e).1
theorem nsl_of {l : Led} {nd : Addr} {ps : List (Addr × List Int)} (h1 : (nd, listS (refsV ps)) ∈ l) (h2 : ∀ p ∈ segL ps, p ∈ l) : NsL l nd (ps.map (·.2)) :=
  ⟨ps, rfl, h1, fun p hp => h2 _ (List.mem_map_of_mem (f := fun p : Addr × List Int => (p.1, listS (iL p.2))) hp)⟩
section
variable {P : Params} {C : Cx}
theorem law_body (O : Ok (KK P) C) (R : Room C.A 14) (hfr : C.A.frames = some []) {sA : Addr} {ss : List Int} (hs : BaseL C sA (iL ss)) (hz : ss.length ≤ 63) (L' : Addr) :
    TF (sub C (enC 269 L')) [(Str.ofString "script", .ref sA)] [] (execs (bodyOf 269) (enC 269 L')) (fun fl _ _ => retv fl = .bool true) no := by
  have O' := O.sub (enC 269 L')
  have R' : Room (sub C (enC 269 L')).A 13 := R.sub
  have hs : BaseL (sub C (enC 269 L')) sA (iL ss) := hs
  have hFr : Fra (sub C (enC 269 L')) [] := ⟨⟨[enC 269 L'], Around.frames_deeper hfr, fun e he => by
    rw [List.mem_singleton.mp he]
    exact ⟨(by intro h; with_unfolding_all cases h), L', (by with_unfolding_all rfl), .inl (by with_unfolding_all rfl)⟩⟩⟩
  wtm_at "body"
  refine execs_cons ?_
  refine x_assignT R'.handled ?_
  wtm_at "go"
  refine c_needs O' (R'.mono (by decide)) hs hz fun t lb nd labels ps hlen h1 h5 hW => ?_
  have W := wd_of hlen h5 hW
  refine ⟨t, _, rfl, .head _, by with_unfolding_all rfl, up_cons ?_⟩
  wtm_at "go"
  refine up_cons ?_
  wtm_at "go"
  refine up_nil ?_
  wtm_at "go"
  refine c_holds W (by rw [List.length_map]; lia) O' (R'.mono (by decide)) (hFr.mono fun p hp => (nomatch hp)) (.tail _ (.head _)) (nsl_of (.tail _ (.tail _ (.head _))) fun p hp => .tail _ (.tail _ (.tail _ (List.mem_append_left _ hp)))) ?_
  wtm_at "go"
  rfl
end
theorem law_call {w : World} {s : Shared} {fa sA : Addr} {mg mb : Str → Option Value} {items : Array Value} {ss : List Int} {R : Result → Shared → Prop} (KX : (KK w.params).In s.heap) (lim : s.heap.NoLimit) (G : s.heap.Ns mainGlobals mg) (B : s.heap.Ns builtinsNs mb)
    (hb : ∀ x : Str, x ≠ "__name__" → mb x = bootBuiltins x) (sm : ∃ o, s.heap.get? sysModules = some o) (hmg : mg (Str.ofString "law") = some (.ref fa)) (hl : s.heap.IsList sA items) (hi : items.toList.map un = iL ss) (hz : ss.length ≤ 63)
    (hR : ∀ s', Rel s s' → (∀ b o, s.heap.get? b = some o → s'.heap.get? b = some o) → R (.ok (.ret (.bool true))) s') :
    codeAny (model PySem.Challenge.rw_qh0101_02.row.prog w) callerA (.call (.ref fa) ⟨[.ref sA], []⟩) R s := by
  have e := mg_of KX G (GF.c269.gl (P := w.params))
  rw [hmg] at e
  cases e
  have O : Ok (KK w.params) { prog := PySem.Challenge.rw_qh0101_02.row.prog, w := w, base := s.heap, A := callerA, L := 0 } := ⟨KX, lim, ⟨mg, G⟩, ⟨mb, B, hb⟩, sm⟩
  obtain ⟨oc, od, osl, h1, h2⟩ := FF.c269.fk w.params
  exact topCC (C := { prog := PySem.Challenge.rw_qh0101_02.row.prog, w := w, base := s.heap, A := callerA, L := 0 }) (fd := fdOf 269) (body := bodyOf 269) (b := [(Str.ofString "script", .ref sA)]) (bs := [(Str.ofString "script", .ref sA)]) (m' := [(Str.ofString "script", .ref sA)]) rfl (KX _ _ h1) rfl (by kernel_rfl) (by kernel_rfl) (codeRec_of KX h2) lim (show callerA.depth < recursionLimit by decide) (by with_unfolding_all rfl) rfl
    (fun L' => law_body (sA := sA) (ss := ss) O ⟨(show callerA.depth + 14 < recursionLimit by decide), (show callerA.units + 10 * 14 + 100 < cLine by decide), rfl⟩ rfl ⟨items, hl, hi⟩ hz L') hR (by with_unfolding_all rfl) (by decide +kernel) (by with_unfolding_all rfl) (by kernel_rfl) (by kernel_rfl) (by kernel_rfl)
end
end Mine
open PySem PySem.W PySem.Calls PyProof.Rows PySem.Spec Mine
set_option maxHeartbeats 8000000
theorem PySem.Challenge.cw_qh0101_02_holds : PySem.Challenge.rw_qh0101_02.Holds := by
  refine holds_law saidF fun said => ?_
  refine holds_open (q := viewF) (loose := looseF) (Xt := fun s => xlAt viewF [] s && recOk (RowW.records PySem.Challenge.rw_qh0101_02.row.toRowW) s) (XP := XL viewF []) (Yf := Hook.obs hookF) (Ya := Hook.val hookF) (YP := Hook.says hookF) (N := 3770) hlF (Hook.of hookF) (Hook.keeps hookF) (fun s e => xl_of s (Bool.and_eq_true_iff.mp e).1) XL.keeps (by rfl) (by rfl) (by rfl) (fun s e => recFacts_of (Bool.and_eq_true_iff.mp e).2) (by rfl) said (by decide +kernel) ⟨rfl, rfl, rfl, rfl, rfl, by decide +kernel⟩ ?hw ?hc
  case hw => w_witness2
  case hc =>
    intro w s₀ s₁ mg mb G Y fa o pm cd doc dV kV ho hd hcd hD hmg hg args vals as hpre hlay hrd hwl hlo
    have KX : (KF w.params).In s₁.heap := Y
    refine Ground.open G ?_
    intro T B D TE TW
    wrow_args hpre hlay hrd hwl hlo
    first | refine callC_kw (enter_call ?_) | refine enter_call ?_ | refine callC_kw (enter_callW ?_) | refine enter_callW ?_
    w_top on
    refine codeAny_mono ?_ (fun _ _ g => GoodW.toG g)
    rename_i hL ra w1 r0 hI hr hn hc
    refine law_call KX T.nolimit T.g T.b T.builtins ?sm hmg hL (un_ints hI) (by omega) fun s' hs' hk => ?_
    case sm =>
      obtain ⟨mm, h1, _⟩ := (T.seer (by decide +kernel)).mods
      obtain ⟨o, h2, _⟩ := ns_iff.mp h1
      exact ⟨o, h2⟩
    obtain ⟨h', tk, rfl⟩ := hs'
    refine ⟨.inl ⟨.bool true, .bool true, [], rfl, fun cls => ?_, .bool true, ?_, fun _ => ⟨by simp, fun a ha => by cases ha⟩⟩, hk, rfl, hg⟩
    · rfl
    · first | (with_unfolding_all rfl) | (with_unfolding_all decide) | simp [OpenLaw.row, OpenRow.claim]

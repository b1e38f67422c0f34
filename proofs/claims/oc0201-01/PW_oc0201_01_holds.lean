import PyProof.Rows.All
import Wide.All
import OpenK.AllK
import Wide.FinOn
import PySem.Challenge.RW_oc0201_01
open PySem PySem.W PyProof.Rows
set_option Elab.async false
set_option genSizeOf false
set_option genInjectivity false
set_option maxRecDepth 100000
set_option maxHeartbeats 8000000
set_option linter.unusedVariables false
set_option linter.unusedSectionVars false
set_option linter.unusedSimpArgs false
namespace Mine
section
open PySem PySem.W PyProof.Rows
noncomputable section
noncomputable abbrev PG : Program := PySem.Challenge.rw_oc0201_01.row.toRowW.prog
noncomputable def tst (i : Nat) : Stmt := PG.main.body.getD i (.Pass default)
noncomputable def inCls : Stmt → List Stmt
 | .ClassDef _ _ _ b _ _ _ _ _ _ _ => b
 | _ => []
noncomputable def mst (i j : Nat) : Stmt := (inCls (tst i)).getD j (.Pass default)
noncomputable def fPs : Stmt → Arguments
 | .FunctionDef _ a _ _ _ _ _ _ _ _ => a
 | _ => default
noncomputable def fBo : Stmt → FuncBody
 | .FunctionDef _ _ b _ _ _ _ _ _ _ => .stmts b
 | _ => default
noncomputable def fSc : Stmt → Scope
 | .FunctionDef _ _ _ _ _ _ s _ _ _ => s
 | _ => default
noncomputable abbrev sv (x : String) (t : Tok) : Value := .str (Str.ofString x) t
noncomputable abbrev iv (i : Int) : Value := .int i 0
noncomputable abbrev pa (t : Tok) : Value := sv "/claim/cut.py" t
noncomputable abbrev en (P : Params) (x : String) (t : Tok) (v : Value) : DictEntry := { hash := PyData.keyHash P (Str.ofString x), key := sv x t, val := v }
noncomputable abbrev tu (a : Array Value) : Obj := { cls := .type "tuple", data := .seq a }
noncomputable abbrev cd (a : Array Value) : Obj := { cls := .type "code", data := .fields a }
noncomputable abbrev fo (n q : String) (st : Stmt) (m : Value) (c : Addr) : Obj := { cls := .type "function", data := .func { name := Str.ofString n, qualname := Str.ofString q, params := fPs st, body := fBo st, scope := fSc st, globals := 3, closure := [], defaults := .none, kwdefaults := .none, pyModule := m, code := .ref c } }
noncomputable def KF (P : Params) : Frag := [
  (2, { cls := .none, data := .dict #[] }),
  (3, { cls := .type "dict", data := .dict #[en P "__name__" 165 (sv "law_oc0201_01" 456), en P "__doc__" 166 (.none), en P "__package__" 167 (.none), en P "__loader__" 168 (.builtin "__main__.__loader__#opaque"), en P "__spec__" 169 (.none), en P "__annotations__" 170 (.ref 6), en P "__builtins__" 171 (.ref 4), en P "__file__" 173 (pa 172), en P "__cached__" 174 (.none), en P "_wall" 193 (.ref 21), en P "unorderable_list_difference" 205 (.ref 28), en P "three_way_cmp" 213 (.ref 35), en P "_NODE_OUT" 218 (.int (-1) 217), en P "_NODE_DONE" 221 (.int (-2) 220), en P "_NodeInfo" 258 (.ref 54), en P "CycleError" 276 (.ref 69), en P "TopologicalSorter" 395 (.ref 151), en P "_netrclex" 455 (.ref 193), en P "_law_lexer" 467 (.ref 204), en P "_law_text" 473 (.ref 209), en P "_law_row" 487 (.ref 216), en P "_law_rounds" 505 (.ref 223), en P "_law_spans" 511 (.ref 228), en P "_law_depths" 517 (.ref 233), en P "_law_apart" 531 (.ref 240), en P "_law_works" 537 (.ref 245), en P "law" 543 (.ref 250)] 27 }),
  (15, tu #[]),
  (17, tu #[sv "k" 190]),
  (18, tu #[]),
  (20, cd #[sv "_wall" 187, sv "_wall" 188, pa 189, iv 1, iv 1, iv 0, iv 0, iv 3, .ref 15, .bool true, iv 181, .ref 16, .none, .ref 17, .ref 18, .ref 19, iv 191, iv 1, pa 192]),
  (21, fo "_wall" "_wall" (tst 0) (sv "__main__" 164) 20),
  (22, tu #[]),
  (24, tu #[sv "expected" 199, sv "actual" 200, sv "missing" 201, sv "item" 202]),
  (25, tu #[]),
  (27, cd #[sv "unorderable_list_difference" 196, sv "unorderable_list_difference" 197, pa 198, iv 5, iv 2, iv 0, iv 0, iv 3, .ref 22, .bool true, iv 181, .ref 23, .none, .ref 24, .ref 25, .ref 26, iv 203, iv 5, pa 204]),
  (28, fo "unorderable_list_difference" "unorderable_list_difference" (tst 2) (sv "cpy313.unittest.util" 194) 27),
  (29, tu #[]),
  (31, tu #[sv "x" 209, sv "y" 210]),
  (32, tu #[]),
  (34, cd #[sv "three_way_cmp" 206, sv "three_way_cmp" 207, pa 208, iv 14, iv 2, iv 0, iv 0, iv 3, .ref 29, .bool true, iv 181, .ref 30, .none, .ref 31, .ref 32, .ref 33, iv 211, iv 14, pa 212]),
  (35, fo "three_way_cmp" "three_way_cmp" (tst 3) (sv "cpy313.unittest.util" 194) 34),
  (43, tu #[sv "node" 234, sv "npredecessors" 235, sv "successors" 236]),
  (44, tu #[]),
  (46, tu #[sv "self" 241, sv "node" 242]),
  (47, tu #[]),
  (49, cd #[sv "__init__" 238, sv "_NodeInfo.__init__" 239, pa 240, iv 22, iv 2, iv 0, iv 0, iv 3, .ref 44, .bool true, iv 181, .ref 45, .none, .ref 46, .ref 47, .ref 48, iv 243, iv 22, pa 244]),
  (50, fo "__init__" "_NodeInfo.__init__" (mst 7 1) (sv "cpy313.graphlib" 214) 49),
  (51, tu #[sv "node" 246, sv "npredecessors" 247, sv "successors" 248]),
  (53, { cls := .type "dict", data := .dict #[en P "__module__" 229 (sv "cpy313.graphlib" 214), en P "__firstlineno__" 233 (.int 19 232), en P "__slots__" 237 (.ref 43), en P "__init__" 245 (.ref 50), en P "__static_attributes__" 249 (.ref 51), en P "node" 251 (.ref 55), en P "npredecessors" 253 (.ref 56), en P "successors" 255 (.ref 57), en P "__doc__" 256 (.none)] 5 }),
  (54, { cls := .type "type", data := .cls { name := Str.ofString "_NodeInfo", bases := [.type "object"], mro := [.ref 54, .type "object"], ns := 53, qualname := Str.ofString "_NodeInfo", hasDict := false, slotNames := [Str.ofString "node", Str.ofString "npredecessors", Str.ofString "successors"] }, slots := #[none, none, some (sv "_NodeInfo" 222), some (sv "_NodeInfo" 230), some (.builtin "object.__new__"), some (.bool false)] }),
  (55, { cls := .type "member_descriptor", data := .fields #[sv "node" 250, .ref 54, .builtin "proto.slot", .builtin "proto.slot#set", iv 2] }),
  (56, { cls := .type "member_descriptor", data := .fields #[sv "npredecessors" 252, .ref 54, .builtin "proto.slot", .builtin "proto.slot#set", iv 1] }),
  (57, { cls := .type "member_descriptor", data := .fields #[sv "successors" 254, .ref 54, .builtin "proto.slot", .builtin "proto.slot#set", iv 0] }),
  (60, tu #[.type "ValueError"]),
  (67, tu #[]),
  (68, { cls := .type "dict", data := .dict #[en P "__module__" 266 (sv "cpy313.graphlib" 214), en P "__firstlineno__" 270 (.int 26 269), en P "__static_attributes__" 271 (.ref 67), en P "__weakref__" 273 (.ref 70), en P "__doc__" 274 (.none)] 3 }),
  (69, { cls := .type "type", data := .cls { name := Str.ofString "CycleError", bases := [.type "ValueError"], mro := [.ref 69, .type "ValueError", .type "Exception", .type "BaseException", .type "object"], ns := 68, qualname := Str.ofString "CycleError" }, slots := #[some (.ref 60), none, some (sv "CycleError" 259), some (sv "CycleError" 267), some (.builtin "ValueError.__new__"), some (.bool true)] }),
  (70, { cls := .type "getset_descriptor", data := .fields #[sv "__weakref__" 272, .ref 69, .builtin "ExceptionGroup.__weakref__", .none] }),
  (80, tu #[.none]),
  (81, tu #[]),
  (83, tu #[sv "self" 292, sv "graph" 293, sv "node" 294, sv "predecessors" 295]),
  (84, tu #[]),
  (86, cd #[sv "__init__" 289, sv "TopologicalSorter.__init__" 290, pa 291, iv 30, iv 2, iv 0, iv 0, iv 3, .ref 81, .bool true, iv 181, .ref 82, .none, .ref 83, .ref 84, .ref 85, iv 296, iv 30, pa 297]),
  (87, { cls := .type "function", data := .func { name := Str.ofString "__init__", qualname := Str.ofString "TopologicalSorter.__init__", params := fPs (mst 9 0), body := fBo (mst 9 0), scope := fSc (mst 9 0), globals := 3, closure := [], defaults := .ref 80, kwdefaults := .none, pyModule := sv "cpy313.graphlib" 214, code := .ref 86 } }),
  (88, tu #[]),
  (90, tu #[sv "self" 302, sv "node" 303, sv "result" 304]),
  (91, tu #[]),
  (93, cd #[sv "_get_nodeinfo" 299, sv "TopologicalSorter._get_nodeinfo" 300, pa 301, iv 39, iv 2, iv 0, iv 0, iv 3, .ref 88, .bool true, iv 181, .ref 89, .none, .ref 90, .ref 91, .ref 92, iv 305, iv 39, pa 306]),
  (94, fo "_get_nodeinfo" "TopologicalSorter._get_nodeinfo" (mst 9 1) (sv "cpy313.graphlib" 214) 93),
  (95, tu #[]),
  (97, tu #[sv "self" 311, sv "node" 312, sv "predecessors" 313, sv "nodeinfo" 314, sv "pred" 315, sv "pred_info" 316]),
  (98, tu #[]),
  (100, cd #[sv "add" 308, sv "TopologicalSorter.add" 309, pa 310, iv 44, iv 2, iv 0, iv 0, iv 7, .ref 95, .bool true, iv 181, .ref 96, .none, .ref 97, .ref 98, .ref 99, iv 317, iv 44, pa 318]),
  (101, fo "add" "TopologicalSorter.add" (mst 9 2) (sv "cpy313.graphlib" 214) 100),
  (102, tu #[]),
  (105, cd #[sv "prepare" 320, sv "TopologicalSorter.prepare" 321, pa 322, iv 53, iv 1, iv 0, iv 0, iv 3, .ref 102, .bool true, iv 181, .ref 103, .none, .none, .none, .ref 104, iv 323, iv 53, pa 324]),
  (106, fo "prepare" "TopologicalSorter.prepare" (mst 9 3) (sv "cpy313.graphlib" 214) 105),
  (107, tu #[]),
  (109, tu #[sv "self" 329, sv "result" 330, sv "n2i" 331, sv "node" 332]),
  (110, tu #[]),
  (112, cd #[sv "get_ready" 326, sv "TopologicalSorter.get_ready" 327, pa 328, iv 61, iv 1, iv 0, iv 0, iv 3, .ref 107, .bool true, iv 181, .ref 108, .none, .ref 109, .ref 110, .ref 111, iv 333, iv 61, pa 334]),
  (113, fo "get_ready" "TopologicalSorter.get_ready" (mst 9 4) (sv "cpy313.graphlib" 214) 112),
  (114, tu #[]),
  (116, tu #[sv "self" 339]),
  (117, tu #[]),
  (119, cd #[sv "is_active" 336, sv "TopologicalSorter.is_active" 337, pa 338, iv 72, iv 1, iv 0, iv 0, iv 3, .ref 114, .bool true, iv 181, .ref 115, .none, .ref 116, .ref 117, .ref 118, iv 340, iv 72, pa 341]),
  (120, fo "is_active" "TopologicalSorter.is_active" (mst 9 5) (sv "cpy313.graphlib" 214) 119),
  (121, tu #[]),
  (123, tu #[sv "self" 346]),
  (124, tu #[]),
  (126, cd #[sv "__bool__" 343, sv "TopologicalSorter.__bool__" 344, pa 345, iv 77, iv 1, iv 0, iv 0, iv 3, .ref 121, .bool true, iv 181, .ref 122, .none, .ref 123, .ref 124, .ref 125, iv 347, iv 77, pa 348]),
  (127, fo "__bool__" "TopologicalSorter.__bool__" (mst 9 6) (sv "cpy313.graphlib" 214) 126),
  (128, tu #[]),
  (130, tu #[sv "self" 353, sv "nodes" 354, sv "n2i" 355, sv "node" 356, sv "nodeinfo" 357, sv "stat" 358, sv "successor" 359, sv "successor_info" 360]),
  (131, tu #[]),
  (133, cd #[sv "done" 350, sv "TopologicalSorter.done" 351, pa 352, iv 80, iv 1, iv 0, iv 0, iv 7, .ref 128, .bool true, iv 181, .ref 129, .none, .ref 130, .ref 131, .ref 132, iv 361, iv 80, pa 362]),
  (134, fo "done" "TopologicalSorter.done" (mst 9 7) (sv "cpy313.graphlib" 214) 133),
  (135, tu #[]),
  (137, tu #[sv "self" 367, sv "n2i" 368, sv "stack" 369, sv "itstack" 370, sv "seen" 371, sv "node2stacki" 372, sv "node" 373]),
  (138, tu #[]),
  (140, cd #[sv "_find_cycle" 364, sv "TopologicalSorter._find_cycle" 365, pa 366, iv 103, iv 1, iv 0, iv 0, iv 3, .ref 135, .bool true, iv 181, .ref 136, .none, .ref 137, .ref 138, .ref 139, iv 374, iv 103, pa 375]),
  (141, fo "_find_cycle" "TopologicalSorter._find_cycle" (mst 9 8) (sv "cpy313.graphlib" 214) 140),
  (142, tu #[]),
  (144, tu #[sv "self" 380]),
  (145, tu #[]),
  (147, cd #[sv "static_order" 377, sv "TopologicalSorter.static_order" 378, pa 379, iv 132, iv 1, iv 0, iv 0, iv 3, .ref 142, .bool true, iv 181, .ref 143, .none, .ref 144, .ref 145, .ref 146, iv 381, iv 132, pa 382]),
  (148, fo "static_order" "TopologicalSorter.static_order" (mst 9 9) (sv "cpy313.graphlib" 214) 147),
  (149, tu #[sv "_nfinished" 384, sv "_node2info" 385, sv "_npassedout" 386, sv "_ready_nodes" 387]),
  (150, { cls := .type "dict", data := .dict #[en P "__module__" 284 (sv "cpy313.graphlib" 214), en P "__firstlineno__" 288 (.int 28 287), en P "__init__" 298 (.ref 87), en P "_get_nodeinfo" 307 (.ref 94), en P "add" 319 (.ref 101), en P "prepare" 325 (.ref 106), en P "get_ready" 335 (.ref 113), en P "is_active" 342 (.ref 120), en P "__bool__" 349 (.ref 127), en P "done" 363 (.ref 134), en P "_find_cycle" 376 (.ref 141), en P "static_order" 383 (.ref 148), en P "__static_attributes__" 388 (.ref 149), en P "__dict__" 390 (.ref 152), en P "__weakref__" 392 (.ref 153), en P "__doc__" 393 (.none)] 4 }),
  (151, { cls := .type "type", data := .cls { name := Str.ofString "TopologicalSorter", bases := [.type "object"], mro := [.ref 151, .type "object"], ns := 150, qualname := Str.ofString "TopologicalSorter" }, slots := #[none, none, some (sv "TopologicalSorter" 277), some (sv "TopologicalSorter" 285), some (.builtin "object.__new__"), some (.bool true)] }),
  (152, { cls := .type "getset_descriptor", data := .fields #[sv "__dict__" 389, .ref 151, .builtin "function.__dict__", .builtin "function.__dict__#set"] }),
  (153, { cls := .type "getset_descriptor", data := .fields #[sv "__weakref__" 391, .ref 151, .builtin "ExceptionGroup.__weakref__", .none] }),
  (163, tu #[]),
  (165, tu #[sv "self" 413, sv "fp" 414]),
  (166, tu #[]),
  (168, cd #[sv "__init__" 410, sv "_netrclex.__init__" 411, pa 412, iv 137, iv 2, iv 0, iv 0, iv 3, .ref 163, .bool true, iv 181, .ref 164, .none, .ref 165, .ref 166, .ref 167, iv 415, iv 137, pa 416]),
  (169, fo "__init__" "_netrclex.__init__" (mst 11 0) (sv "cpy313.netrc" 396) 168),
  (170, tu #[]),
  (172, tu #[sv "self" 421, sv "ch" 422]),
  (173, tu #[]),
  (175, cd #[sv "_read_char" 418, sv "_netrclex._read_char" 419, pa 420, iv 143, iv 1, iv 0, iv 0, iv 3, .ref 170, .bool true, iv 181, .ref 171, .none, .ref 172, .ref 173, .ref 174, iv 423, iv 143, pa 424]),
  (176, fo "_read_char" "_netrclex._read_char" (mst 11 1) (sv "cpy313.netrc" 396) 175),
  (177, tu #[]),
  (179, tu #[sv "self" 429, sv "token" 430, sv "fiter" 431, sv "ch" 432]),
  (180, tu #[]),
  (182, cd #[sv "get_token" 426, sv "_netrclex.get_token" 427, pa 428, iv 149, iv 1, iv 0, iv 0, iv 3, .ref 177, .bool true, iv 181, .ref 178, .none, .ref 179, .ref 180, .ref 181, iv 433, iv 149, pa 434]),
  (183, fo "get_token" "_netrclex.get_token" (mst 11 2) (sv "cpy313.netrc" 396) 182),
  (184, tu #[]),
  (186, tu #[sv "self" 439, sv "token" 440]),
  (187, tu #[]),
  (189, cd #[sv "push_token" 436, sv "_netrclex.push_token" 437, pa 438, iv 176, iv 2, iv 0, iv 0, iv 3, .ref 184, .bool true, iv 181, .ref 185, .none, .ref 186, .ref 187, .ref 188, iv 441, iv 176, pa 442]),
  (190, fo "push_token" "_netrclex.push_token" (mst 11 3) (sv "cpy313.netrc" 396) 189),
  (191, tu #[sv "instream" 444, sv "lineno" 445, sv "pushback" 446, sv "whitespace" 447]),
  (192, { cls := .type "dict", data := .dict #[en P "__module__" 405 (sv "cpy313.netrc" 396), en P "__firstlineno__" 409 (.int 135 408), en P "__init__" 417 (.ref 169), en P "_read_char" 425 (.ref 176), en P "get_token" 435 (.ref 183), en P "push_token" 443 (.ref 190), en P "__static_attributes__" 448 (.ref 191), en P "__dict__" 450 (.ref 194), en P "__weakref__" 452 (.ref 195), en P "__doc__" 453 (.none)] 4 }),
  (193, { cls := .type "type", data := .cls { name := Str.ofString "_netrclex", bases := [.type "object"], mro := [.ref 193, .type "object"], ns := 192, qualname := Str.ofString "_netrclex" }, slots := #[none, none, some (sv "_netrclex" 398), some (sv "_netrclex" 406), some (.builtin "object.__new__"), some (.bool true)] }),
  (194, { cls := .type "getset_descriptor", data := .fields #[sv "__dict__" 449, .ref 193, .builtin "function.__dict__", .builtin "function.__dict__#set"] }),
  (195, { cls := .type "getset_descriptor", data := .fields #[sv "__weakref__" 451, .ref 193, .builtin "ExceptionGroup.__weakref__", .none] }),
  (198, tu #[]),
  (200, tu #[sv "text" 461, sv "stream" 462, sv "_law_piece" 463]),
  (201, tu #[sv "signs" 464]),
  (203, cd #[sv "_law_lexer" 458, sv "_law_lexer" 459, pa 460, iv 179, iv 1, iv 0, iv 0, iv 3, .ref 198, .bool true, iv 181, .ref 199, .none, .ref 200, .ref 201, .ref 202, iv 465, iv 179, pa 466]),
  (204, fo "_law_lexer" "_law_lexer" (tst 13) (sv "law_oc0201_01" 456) 203),
  (205, tu #[]),
  (208, cd #[sv "_law_text" 468, sv "_law_text" 469, pa 470, iv 187, iv 2, iv 0, iv 0, iv 3, .ref 205, .bool true, iv 181, .ref 206, .none, .none, .none, .ref 207, iv 471, iv 187, pa 472]),
  (209, fo "_law_text" "_law_text" (tst 14) (sv "law_oc0201_01" 456) 208),
  (210, tu #[]),
  (212, tu #[sv "names" 477, sv "words" 478, sv "number" 479, sv "sorter" 480, sv "name" 481, sv "word" 482, sv "row" 483, sv "waiting" 484]),
  (213, tu #[]),
  (215, cd #[sv "_law_row" 474, sv "_law_row" 475, pa 476, iv 195, iv 3, iv 0, iv 0, iv 3, .ref 210, .bool true, iv 181, .ref 211, .none, .ref 212, .ref 213, .ref 214, iv 485, iv 195, pa 486]),
  (216, fo "_law_row" "_law_row" (tst 15) (sv "law_oc0201_01" 456) 215),
  (217, tu #[]),
  (219, tu #[sv "words" 491, sv "at" 492, sv "sorter" 493, sv "rounds" 494, sv "turn" 495, sv "outer" 496, sv "word" 497, sv "within" 498, sv "inner" 499, sv "other" 500, sv "group" 501, sv "arrow" 502]),
  (220, tu #[]),
  (222, cd #[sv "_law_rounds" 488, sv "_law_rounds" 489, pa 490, iv 209, iv 2, iv 0, iv 0, iv 3, .ref 217, .bool true, iv 181, .ref 218, .none, .ref 219, .ref 220, .ref 221, iv 503, iv 209, pa 504]),
  (223, fo "_law_rounds" "_law_rounds" (tst 16) (sv "law_oc0201_01" 456) 222),
  (224, tu #[]),
  (227, cd #[sv "_law_spans" 506, sv "_law_spans" 507, pa 508, iv 225, iv 2, iv 0, iv 0, iv 3, .ref 224, .bool true, iv 181, .ref 225, .none, .none, .none, .ref 226, iv 509, iv 225, pa 510]),
  (228, fo "_law_spans" "_law_spans" (tst 17) (sv "law_oc0201_01" 456) 227),
  (229, tu #[]),
  (232, cd #[sv "_law_depths" 512, sv "_law_depths" 513, pa 514, iv 227, iv 1, iv 0, iv 0, iv 3, .ref 229, .bool true, iv 181, .ref 230, .none, .none, .none, .ref 231, iv 515, iv 227, pa 516]),
  (233, fo "_law_depths" "_law_depths" (tst 18) (sv "law_oc0201_01" 456) 232),
  (234, tu #[]),
  (236, tu #[sv "spans" 521, sv "dealt" 522, sv "k" 523, sv "start" 524, sv "end" 525, sv "j" 526, sv "low" 527, sv "high" 528]),
  (237, tu #[]),
  (239, cd #[sv "_law_apart" 518, sv "_law_apart" 519, pa 520, iv 235, iv 2, iv 0, iv 0, iv 3, .ref 234, .bool true, iv 181, .ref 235, .none, .ref 236, .ref 237, .ref 238, iv 529, iv 235, pa 530]),
  (240, fo "_law_apart" "_law_apart" (tst 19) (sv "law_oc0201_01" 456) 239),
  (241, tu #[]),
  (244, cd #[sv "_law_works" 532, sv "_law_works" 533, pa 534, iv 241, iv 3, iv 0, iv 0, iv 3, .ref 241, .bool true, iv 181, .ref 242, .none, .none, .none, .ref 243, iv 535, iv 241, pa 536]),
  (245, fo "_law_works" "_law_works" (tst 20) (sv "law_oc0201_01" 456) 244),
  (246, tu #[]),
  (249, cd #[sv "law" 538, sv "law" 539, pa 540, iv 257, iv 1, iv 0, iv 0, iv 3, .ref 246, .bool true, iv 181, .ref 247, .none, .none, .none, .ref 248, iv 541, iv 257, pa 542]),
  (250, fo "law" "law" (tst 21) (sv "law_oc0201_01" 456) 249)]
end
end
section
open PySem PySem.W PyProof.Rows
noncomputable def QV : Program := view PG [0, 2, 3, 5, 6, 7, 8, 9, 11, 13, 14, 15, 16, 17, 18, 19, 20, 21]
abbrev LZ : List Str := [Str.ofString "_NodeInfo"]
def asL : List Addr := [2, 3, 15, 17, 18, 20, 21, 22, 24, 25, 27, 28, 29, 31, 32, 34, 35, 43, 44, 46, 47, 49, 50, 51, 53, 54, 55, 56, 57, 60, 67, 68, 69, 70, 80, 81, 83, 84, 86, 87, 88, 90, 91, 93, 94, 95, 97, 98, 100, 101, 102, 105, 106, 107, 109, 110, 112, 113, 114, 116, 117, 119, 120, 121, 123, 124, 126, 127, 128, 130, 131, 133, 134, 135, 137, 138, 140, 141, 142, 144, 145, 147, 148, 149, 150, 151, 152, 153, 163, 165, 166, 168, 169, 170, 172, 173, 175, 176, 177, 179, 180, 182, 183, 184, 186, 187, 189, 190, 191, 192, 193, 194, 195, 198, 200, 201, 203, 204, 205, 208, 209, 210, 212, 213, 215, 216, 217, 219, 220, 222, 223, 224, 227, 228, 229, 232, 233, 234, 236, 237, 239, 240, 241, 244, 245, 246, 249, 250]
theorem asE (P : Params) : asL = (KF P).map (·.1) := by kernel_rfl
noncomputable abbrev HK : Hook := kmHook KF asL asE [242, 199]
theorem boot1 : opening PG = plainProg PG.main.scope.names := by kernel_rfl
theorem boot2 : ∀ s, fenceModules? PG s = some s := fun s => by kernel_rfl
theorem topA (w : World) (os : OsState) : (topFrom treeTable PG w 3582 ⟨boot_heap w.params, Array.mk [], boot_drawn, boot_toks, os⟩).map (fun s => openSeen QV LZ (importedModules PG.main.body) (fun s => xlAt QV [] s && recOk (RowW.records PySem.Challenge.rw_oc0201_01.row.toRowW) s) true s) = some (openGood QV LZ) := by
 unfold topFrom
 rw [PySem.W.Fast.te14364793385576792824, PySem.W.Fast.te14082659384304107361, PySem.W.Fast.te4187177175401517315]
 kernel_rfl
theorem topB (w : World) (os : OsState) : (topFrom treeTable PG w 3582 ⟨boot_heap w.params, Array.mk [], boot_drawn, boot_toks, os⟩).map (fun s => HK.obs s) = some (HK.val w) := by
 unfold topFrom
 rw [PySem.W.Fast.te14364793385576792824, PySem.W.Fast.te14082659384304107361]
 kernel_rfl
theorem map_two {α β γ : Type} {x : Option α} {f : α → β} {g : α → γ} {b : β} {c : γ} (h : x.map f = some b) (k : x.map g = some c) : x.map (fun s => (f s, g s)) = some (b, c) := by
 cases x with
 | none => cases h
 | some s => cases h; cases k; rfl
theorem topT (w : World) (os : OsState) : (topFrom treeTable PG w 3582 ⟨boot_heap w.params, Array.mk [], boot_drawn, boot_toks, os⟩).map (fun s => (openSeen QV LZ (importedModules PG.main.body) (fun s => xlAt QV [] s && recOk (RowW.records PySem.Challenge.rw_oc0201_01.row.toRowW) s) true s, HK.obs s)) =
  some (openGood QV LZ, HK.val w) := map_two (topA w os) (topB w os)
theorem leftT : LeftO PG QV LZ (fun s => xlAt QV [] s && recOk (RowW.records PySem.Challenge.rw_oc0201_01.row.toRowW) s) HK.obs HK.val 3582 := fun w => by
 obtain ⟨⟨h, gs, d, k, os⟩, e, e'⟩ := Option.map_eq_some_iff.mp (boot_open (p := PG) (N := 3582) boot1 (by decide) boot2 w)
 obtain ⟨rfl, rfl, rfl, rfl⟩ : h = boot_heap w.params ∧ gs = Array.mk [] ∧ d = boot_drawn ∧ k = boot_toks := by simpa using e'
 unfold openEnds
 rw [e, Option.bind_some]
 exact topT w os
end
section
open PySem PySem.W PyProof.Rows
noncomputable def DL : DefRec := match tst 21 with
 | .FunctionDef n ps b _ _ _ sc _ _ pos => { name := n, params := ps, body := b, scope := sc, pos := pos }
 | _ => { name := Str.ofString "", params := default, body := [], scope := default, pos := default }
theorem said1 : OpenLaw.wellSaid PySem.Challenge.rw_oc0201_01 = true := by
 rw [PySem.W.Fast.te9446332074065402090]
 kernel_rfl
theorem head (call : WalkO QV LZ (XL QV []) HK.says PySem.Challenge.rw_oc0201_01.row.toRowW DL [] (fun f vs => PySem.call f vs)) : PySem.Challenge.rw_oc0201_01.Holds := by
 refine holds_law said1 fun said => ?_
 refine holds_open (q := QV) (loose := LZ) (Xt := fun s => xlAt QV [] s && recOk (RowW.records PySem.Challenge.rw_oc0201_01.row.toRowW) s) (XP := XL QV []) (Yf := HK.obs) (Ya := HK.val) (YP := HK.says) (N := 3582) (d := DL) (kwd := []) leftT HK.of HK.keeps (fun s e => xl_of s (Bool.and_eq_true_iff.mp e).1) XL.keeps (by kernel_rfl) (by kernel_rfl) (by kernel_rfl) (fun s e => recFacts_of (Bool.and_eq_true_iff.mp e).2) (by kernel_rfl) said (by decide +kernel) ⟨rfl, rfl, rfl, rfl, rfl, by decide +kernel⟩ ?_ call
 exact ⟨[.list []], by decide +kernel, by decide +kernel⟩
end
section
open PySem PySem.W PyProof.Rows
noncomputable abbrev O := Obj → Prop
noncomputable def raw (o : Obj) : O := fun x => x = o
noncomputable def lst (vs : List Value) : O := fun x => ∃ n, x = { cls := .type "list", data := .seq vs.toArray n }
noncomputable def tup (vs : List Value) : O := fun x => ∃ n, x = { cls := .type "tuple", data := .seq vs.toArray n }
noncomputable abbrev cellO (v : Option Value) : O := raw { cls := .type "cell", data := .cell v }
structure Blk where
 env : Env
 names : List Str
 nd : names.Nodup
 kd : ∀ x ∈ names, env.kindOf x = some .local
 fn : env.scope.kind = .function
noncomputable abbrev Fm := Blk × List (Option Value)
noncomputable def lookV : List Str → List (Option Value) → Str → Option Value
 | n :: ns, v :: vs, x => if x = n then v else lookV ns vs x
 | _, _, _ => none
theorem lookV_notin : ∀ {ns : List Str} {vs : List (Option Value)} {x : Str}, x ∉ ns → lookV ns vs x = none
 | [], _, _, _ => by simp [lookV]
 | _ :: _, [], _, _ => by simp [lookV]
 | n :: ns, v :: vs, x, h => by
  have h1 : x ≠ n := fun e => h (e ▸ List.mem_cons_self)
  have h2 : x ∉ ns := fun e => h (List.mem_cons_of_mem _ e)
  simp only [lookV, if_neg h1]
  exact lookV_notin h2
theorem lookV_at : ∀ {ns : List Str} {vs : List (Option Value)} {k : Nat} {x : Str} {v : Option Value}, ns.Nodup → ns[k]? = some x → vs[k]? = some v → lookV ns vs x = v
 | [], _, _, _, _, _, h, _ => by simp at h
 | _ :: _, [], _, _, _, _, _, h => by simp at h
 | n :: ns, v :: vs, 0, x, v', _, h1, h2 => by
  simp at h1 h2; subst h1 h2; simp [lookV]
 | n :: ns, v :: vs, k + 1, x, v', hn, h1, h2 => by
  simp at h1 h2
  rw [List.nodup_cons] at hn
  have hx : x ∈ ns := List.mem_of_getElem? h1
  have : x ≠ n := fun e => hn.1 (e ▸ hx)
  simp only [lookV, if_neg this]
  exact lookV_at hn.2 h1 h2
theorem lookV_set : ∀ {ns : List Str} {vs : List (Option Value)} {k : Nat} {x : Str} {v : Value}, ns.Nodup → ns[k]? = some x → k < vs.length →
  (fun y => if y = x then some v else lookV ns vs y) = lookV ns (vs.set k (some v))
 | [], _, _, _, _, _, h, _ => by simp at h
 | _ :: _, [], _, _, _, _, _, h => by simp at h
 | n :: ns, v :: vs, 0, x, v', _, h1, _ => by
  simp at h1; subst h1
  funext y
  simp only [List.set_cons_zero, lookV]
  split <;> rfl
 | n :: ns, v :: vs, k + 1, x, v', hn, h1, h2 => by
  simp at h1
  rw [List.nodup_cons] at hn
  have hx : x ∈ ns := List.mem_of_getElem? h1
  have hne : x ≠ n := fun e => hn.1 (e ▸ hx)
  funext y
  simp only [List.set_cons_succ, lookV]
  rw [← lookV_set hn.2 h1 (by simpa using h2)]
  by_cases hy : y = n
  ·subst hy; simp [Ne.symm hne]
  ·simp [hy]
structure Bs where
 h : Heap
 os : OsState
structure St (B : Bs) (fs : List Fm) (L : List (Addr × O)) (s : Shared) : Prop where
 old : ∀ b o, B.h.get? b = some o → s.heap.get? b = some o
 os : s.os = B.os
 gens : s.gens = #[]
 fr : ∀ f ∈ fs, s.heap.Ns f.1.env.locals (lookV f.1.names f.2)
 led : ∀ p ∈ L, ∃ o, s.heap.get? p.1 = some o ∧ p.2 o
 nd : (fs.map (·.1.env.locals) ++ L.map (·.1)).Nodup
 new : ∀ a ∈ fs.map (·.1.env.locals) ++ L.map (·.1), B.h.get? a = none
inductive Upd (a : Addr) (x y : O) : List (Addr × O) → List (Addr × O) → Prop where
 | here {L} : Upd a x y ((a, x) :: L) ((a, y) :: L)
 | there {p L L'} : Upd a x y L L' → Upd a x y (p :: L) (p :: L')
theorem Upd.left {a : Addr} {x y : O} {L L' : List (Addr × O)} (u : Upd a x y L L') (M : List (Addr × O)) : Upd a x y (M ++ L) (M ++ L') := by
 induction M with
 | nil => exact u
 | cons p M ih => exact .there ih
theorem Upd.right {a : Addr} {x y : O} {L L' : List (Addr × O)} (u : Upd a x y L L') (M : List (Addr × O)) : Upd a x y (L ++ M) (L' ++ M) := by
 induction u with
 | here => exact .here
 | there _ ih => exact .there ih
theorem Upd.keys {a : Addr} {x y : O} {L L' : List (Addr × O)} (u : Upd a x y L L') : L'.map (·.1) = L.map (·.1) := by
 induction u with
 | here => rfl
 | there _ ih => simp [ih]
theorem Upd.mem {a : Addr} {x y : O} {L L' : List (Addr × O)} (u : Upd a x y L L') : (a, x) ∈ L := by
 induction u with
 | here => exact List.mem_cons_self
 | there _ ih => exact List.mem_cons_of_mem _ ih
theorem Upd.of_mem {a : Addr} {x y : O} {L L' : List (Addr × O)} (u : Upd a x y L L') (hn : (L.map (·.1)).Nodup) : ∀ p ∈ L', p = (a, y) ∨ (p ∈ L ∧ p.1 ≠ a) := by
 induction u with
 | here =>
  rename_i L
  intro p hp
  rcases List.mem_cons.mp hp with h | h
  ·exact .inl h
  ·refine .inr ⟨List.mem_cons_of_mem _ h, fun e => ?_⟩
   simp only [List.map_cons, List.nodup_cons] at hn
   exact hn.1 (e ▸ List.mem_map_of_mem h)
 | there u ih =>
  rename_i q L L'
  simp only [List.map_cons, List.nodup_cons] at hn
  intro p hp
  rcases List.mem_cons.mp hp with h | h
  ·subst h
   refine .inr ⟨List.mem_cons_self, fun e => hn.1 ?_⟩
   rw [e]; exact List.mem_map_of_mem u.mem
  ·rcases ih hn.2 p h with h | h
   ·exact .inl h
   ·exact .inr ⟨List.mem_cons_of_mem _ h.1, h.2⟩
namespace St
variable {B : Bs} {fs : List Fm} {L L' : List (Addr × O)} {s s' : Shared}
theorem toks (S : St B fs L s) (hh : s'.heap = s.heap) (ho : s'.os = s.os) (hg : s'.gens = s.gens) : St B fs L s' :=
 ⟨hh ▸ S.old, ho.trans S.os, hg.trans S.gens, hh ▸ S.fr, hh ▸ S.led, S.nd, S.new⟩
theorem get (S : St B fs L s) {a : Addr} {x : O} (h : (a, x) ∈ L) : ∃ o, s.heap.get? a = some o ∧ x o := S.led _ h
theorem ndL (S : St B fs L s) : (L.map (·.1)).Nodup := (List.nodup_append.mp S.nd).2.1
theorem ndF (S : St B fs L s) : (fs.map (·.1.env.locals)).Nodup := (List.nodup_append.mp S.nd).1
theorem ne (S : St B fs L s) {f : Fm} {p : Addr × O} (hf : f ∈ fs) (hp : p ∈ L) : f.1.env.locals ≠ p.1 :=
 (List.nodup_append.mp S.nd).2.2 _ (List.mem_map_of_mem hf) _ (List.mem_map_of_mem hp)
theorem upd (S : St B fs L s) {a : Addr} {x y : O} (u : Upd a x y L L') {h' : Heap} {t : Nat} {d : Drawn} (hs : Heap.SameBut a s.heap h') {o' : Obj} (ho' : h'.get? a = some o') (hy : y o') :
  St B fs L' ⟨h', s.gens, d, t, s.os⟩ := by
 have keys := u.keys
 refine ⟨fun b o e => ?_, S.os, S.gens, fun f hf => ?_, fun p hp => ?_, by rw [keys]; exact S.nd, by rw [keys]; exact S.new⟩
 ·have : b ≠ a := fun q => by
   have := S.new a (List.mem_append_right _ (List.mem_map_of_mem u.mem))
   rw [← q, e] at this; cases this
  exact (hs.2 b this).trans (S.old b o e)
 ·exact (S.fr f hf).sameBut hs (S.ne hf u.mem)
 ·rcases u.of_mem S.ndL p hp with rfl | ⟨hp, hne⟩
  ·exact ⟨o', ho', hy⟩
  ·obtain ⟨o, e, i⟩ := S.led p hp
   exact ⟨o, (hs.2 _ hne).trans e, i⟩
theorem alloc (S : St B fs L s) {o : Obj} {y : O} (hy : y o) (hf : o.isFreed = false := by rfl) {t : Nat} {d : Drawn} : St B fs ((s.heap.objs.size, y) :: L) ⟨s.heap.push o, s.gens, d, t, s.os⟩ := by
 have fresh : ∀ a o', s.heap.get? a = some o' → a ≠ s.heap.objs.size := fun a o' e => Nat.ne_of_lt (Heap.lt_size e)
 have nb : B.h.get? s.heap.objs.size = none := by
  cases q : B.h.get? s.heap.objs.size with
  | none => rfl
  | some o' => exact absurd rfl (fresh _ _ (S.old _ _ q))
 refine ⟨fun b o' e => Heap.get?_push_of_some _ (S.old b o' e), S.os, S.gens, fun f hf => (S.fr f hf).push _, fun p hp => ?_, ?_, ?_⟩
 ·rcases List.mem_cons.mp hp with rfl | hp
  ·exact ⟨o, Heap.get?_push_size _ hf, hy⟩
  ·obtain ⟨o', e, i⟩ := S.led p hp
   exact ⟨o', Heap.get?_push_of_some _ e, i⟩
 ·rw [List.map_cons, List.nodup_append, List.nodup_cons]
  refine ⟨S.ndF, ⟨fun q => ?_, S.ndL⟩, fun x hx y hy => ?_⟩
  ·obtain ⟨p, hp, e⟩ := List.mem_map.mp q
   obtain ⟨o', e', _⟩ := S.led p hp
   exact fresh _ _ e' e
  ·rcases List.mem_cons.mp hy with rfl | hy
   ·obtain ⟨f, hf, rfl⟩ := List.mem_map.mp hx
    obtain ⟨o', _, _, e, _⟩ := S.fr f hf
    exact fresh _ _ e
   ·exact (List.nodup_append.mp S.nd).2.2 x hx y hy
 ·intro a ha
  rcases List.mem_append.mp ha with h | h
  ·exact S.new a (List.mem_append_left _ h)
  ·rcases List.mem_cons.mp h with rfl | h
   ·exact nb
   ·exact S.new a (List.mem_append_right _ h)
theorem less (S : St B fs L s) (h : L'.Sublist L) : St B fs L' s := by
 refine ⟨S.old, S.os, S.gens, S.fr, fun p hp => S.led p (h.subset hp), ?_, fun a ha => ?_⟩
 ·have := S.nd
  rw [List.nodup_append] at this ⊢
  exact ⟨this.1, this.2.1.sublist (h.map _), fun x hx y hy => this.2.2 x hx y ((h.map _).subset hy)⟩
 ·rcases List.mem_append.mp ha with q | q
  ·exact S.new a (List.mem_append_left _ q)
  ·exact S.new a (List.mem_append_right _ ((h.map _).subset q))
theorem perm (S : St B fs L s) (h : L.Perm L') : St B fs L' s := by
 refine ⟨S.old, S.os, S.gens, S.fr, fun p hp => S.led p (h.symm.subset hp), ?_, fun a ha => ?_⟩
 ·have := S.nd
  exact ((h.map (·.1)).append_left _).nodup_iff.mp this
 ·rcases List.mem_append.mp ha with q | q
  ·exact S.new a (List.mem_append_left _ q)
  ·exact S.new a (List.mem_append_right _ ((h.symm.map _).subset q))
theorem pop {f : Fm} (S : St B (f :: fs) L s) : St B fs L s :=
 ⟨S.old, S.os, S.gens, fun g hg => S.fr g (List.mem_cons_of_mem _ hg), S.led, by have := S.nd; simp only [List.map_cons, List.cons_append, List.nodup_cons] at this; exact this.2,
  fun a ha => S.new a (by simp only [List.map_cons, List.cons_append]; exact List.mem_cons_of_mem _ ha)⟩
end St
theorem packG {T : Prop} (h : let TT := T; TT) : T := h
theorem packS {P : Prop} {B : Bs} {fs : List Fm} {L : List (Addr × O)} {s : Shared} (S : St B fs L s) (h : let FF := fs; let LL := L; St B FF LL s → P) : P := h S
end
section
open PySem PySem.W PyProof.Rows PySem.Calls
structure Ok (B : Bs) (w : World) : Prop where
 K : (KF w.params).In B.h
 g : ∃ mg mb, B.h.Ns mainGlobals mg ∧ B.h.Ns builtinsNs mb ∧ ∀ x : Str, x ≠ "__name__" → mb x = bootBuiltins x
 lim : B.h.NoLimit
structure AOk (A : Around) (n : Nat) (es : List Env) : Prop where
 depth : A.depth + n ≤ 700
 units : A.units + 20 * n ≤ 5000
 frames : A.frames = some es
 hand : A.handled = none
theorem AOk.deeper {A : Around} {n : Nat} {es : List Env} (h : AOk A (n + 1) es) (env : Env) : AOk (A.deeper env) n (env :: es) :=
 ⟨by have := h.depth; show A.depth + 1 + n ≤ 700; lia, by have := h.units; show A.units + 3 + 20 * n ≤ 5000; lia, by show A.frames.map (env :: ·) = _; rw [h.frames]; rfl, h.hand⟩
theorem AOk.room {A : Around} {n : Nat} {es : List Env} (h : AOk A n es) : A.depth < recursionLimit := by have := h.depth; show A.depth < 1000; lia
theorem AOk.in1 {A : Around} {n : Nat} {es : List Env} (h : AOk A (n + 1) es) : AOk A.in1 n es :=
 ⟨by have := h.depth; show A.depth + n ≤ 700; lia, by have := h.units; show A.units + 1 + 20 * n ≤ 5000; lia, h.frames, h.hand⟩
section
variable {prog : Program} {w : World} {B : Bs} {fs : List Fm} {L L' : List (Addr × O)} {s : Shared} {A : Around} {E : Value → Shared → Prop} {n : Nat} {es : List Env}
theorem ldL {M : Model} {f : Blk} {vs : List (Option Value)} {x : Str} {pos : Pos} {v : Value} {Q : Value → Shared → Prop} (k : Nat) (S : St B ((f, vs) :: fs) L s) (hn : f.names[k]? = some x) (hv : vs[k]? = some (some v)) (h : Q v s)
  (hd : (x == ("__debug__" : Str)) = false := by decide) : wpAny M A (eval (.Name x pos) f.env) Q E s :=
 wpAny_Name (wpAny_loadName_local f.fn (f.kd x (List.mem_of_getElem? hn)) (S.fr _ List.mem_cons_self) (lookV_at f.nd hn hv) h) hd
theorem stL {M : Model} {f : Blk} {vs : List (Option Value)} {x : Str} {v : Value} {Q : Unit → Shared → Prop} (k : Nat) (S : St B ((f, vs) :: fs) L s) (hn : f.names[k]? = some x) (hk : k < vs.length)
  (h : ∀ s', St B ((f, vs.set k (some v)) :: fs) L s' → Q () s') : wpAny M A (storeName f.env x v) Q E s := by
 refine wpAny_storeName_local (f.kd x (List.mem_of_getElem? hn)) (S.fr _ List.mem_cons_self) (fun h' hn' hs => h _ ?_) (by rw [f.fn]; rfl)
 rw [lookV_set f.nd hn hk] at hn'
 have hfl := S.nd
 simp only [List.map_cons, List.cons_append, List.nodup_cons] at hfl
 refine ⟨fun b o e => ?_, S.os, S.gens, fun g hg => ?_, fun p hp => ?_, S.nd, S.new⟩
 ·refine (hs.2 b fun q => ?_).trans (S.old b o e)
  have := S.new f.env.locals (by simp)
  rw [← q, e] at this; cases this
 ·rcases List.mem_cons.mp hg with rfl | hg
  ·exact hn'
  ·exact (S.fr g (List.mem_cons_of_mem _ hg)).sameBut hs fun q => hfl.1 (q ▸ List.mem_append_left _ (List.mem_map_of_mem hg))
 ·refine packG ?_; intro TT
  obtain ⟨o, e, i⟩ := S.led p hp
  exact ⟨o, (hs.2 _ fun q => hfl.1 (q ▸ List.mem_append_right _ (List.mem_map_of_mem hp))).trans e, i⟩
theorem ldG {M : Model} {env : Env} {x : Str} {pos : Pos} {v : Value} {Q : Value → Shared → Prop} (O : Ok B w) (S : St B fs L s) (e : nsIn (KF w.params) mainGlobals x = some (some v)) (hk : env.scope.kind = .function)
  (hx : env.kindOf x = some .globalImplicit) (hg : env.globals = mainGlobals) (h : Q v s) (hd : (x == ("__debug__" : Str)) = false := by decide) : wpAny M A (eval (.Name x pos) env) Q E s := by
 obtain ⟨mg, mb, g, b, hb⟩ := O.g
 exact Name_function_global hk hx (loadGlobal_global (by rw [hg]; exact g.keeps S.old) (mg_of O.K g e) h) hd
theorem ldB {M : Model} {env : Env} {x : Str} {pos : Pos} {v : Value} {Q : Value → Shared → Prop} (O : Ok B w) (S : St B fs L s) (e : nsIn (KF w.params) mainGlobals x = some none) (hv : bootBuiltins x = some v) (hk : env.scope.kind = .function)
  (hx : env.kindOf x = some .globalImplicit) (hg : env.globals = mainGlobals) (hbn : env.builtins = builtinsNs) (h : Q v s) (hn : x ≠ "__name__" := by decide) (hd : (x == ("__debug__" : Str)) = false := by decide) :
  wpAny M A (eval (.Name x pos) env) Q E s := by
 obtain ⟨mg, mb, g, b, hb⟩ := O.g
 exact Name_function_global hk hx (loadGlobal_builtin (by rw [hg]; exact g.keeps S.old) (mg_none_of O.K g e) (by rw [hbn]; exact b.keeps S.old) ((hb x hn).trans hv) h) hd
theorem bind_lookV : ∀ (names : List Str) (vals : List Value) (rest : List Str), (names ++ rest).Nodup → names.length = vals.length →
  (fun x => (names.zip vals).reverse.lookup x) = lookV (names ++ rest) (vals.map some ++ rest.map fun _ => none) := by
 intro names vals rest hn hl
 funext x
 by_cases hx : x ∈ names
 ·obtain ⟨k, hk, rfl⟩ := List.getElem_of_mem hx
  have h1 : (names ++ rest)[k]? = some names[k] := by rw [List.getElem?_append_left hk]; simp [hk]
  have hk' : k < vals.length := hl ▸ hk
  have h2 : (vals.map some ++ rest.map fun _ => (none : Option Value))[k]? = some (some vals[k]) := by
   rw [List.getElem?_append_left (by simpa using hk')]; simp [hk']
  rw [lookV_at hn h1 h2]
  have hnn : names.Nodup := (List.nodup_append.mp hn).1
  have key : ∀ (l : List (Str × Value)), (l.map (·.1)).Nodup → ∀ p ∈ l, l.lookup p.1 = some p.2 := by
   intro l
   induction l with
   | nil => intro _ p hp; cases hp
   | cons q l ih =>
    intro hn p hp
    rw [List.map_cons, List.nodup_cons] at hn
    rcases List.mem_cons.mp hp with rfl | hp
    ·simp [List.lookup]
    ·have : p.1 ≠ q.1 := fun e => hn.1 (e ▸ List.mem_map_of_mem hp)
     rw [List.lookup_cons, show (p.1 == q.1) = false from by simpa using this]
     exact ih hn.2 p hp
  have hm : (names[k], vals[k]) ∈ (names.zip vals).reverse := by
   rw [List.mem_reverse]
   have : (names.zip vals)[k]? = some (names[k], vals[k]) := by simp [List.getElem?_zip_eq_some, hk, hk']
   exact List.mem_of_getElem? this
  refine key _ ?_ _ hm
  rw [List.map_reverse, List.map_fst_zip (by lia)]
  exact (List.reverse_perm names).nodup_iff.mpr hnn
 ·have : (names.zip vals).reverse.lookup x = none := by
   rw [List.lookup_eq_none_iff]
   intro p hp
   rw [List.mem_reverse] at hp
   have := (List.of_mem_zip hp).1
   cases q : (x == p.1) with
   | false => simp [bne, q]
   | true => exact absurd ((beq_iff_eq.mp q) ▸ this) hx
  rw [this]
  clear this
  induction names generalizing vals with
  | nil =>
   cases vals with
   | cons => simp at hl
   | nil =>
    simp only [List.nil_append, List.map_nil]
    clear hn hx hl
    induction rest with
    | nil => rfl
    | cons r rest ih => simp only [List.map_cons, lookV]; split <;> first | rfl | exact ih
  | cons m names ih =>
   cases vals with
   | nil => simp at hl
   | cons v vals =>
    simp only [List.cons_append, List.map_cons, lookV]
    have hxm : x ≠ m := fun e => hx (by rw [e]; exact List.mem_cons_self)
    rw [if_neg hxm]
    exact (ih vals (List.nodup_cons.mp hn).2 (by simpa using hl) (fun e => hx (List.mem_cons_of_mem _ e)))
theorem call_fn {R : Result → Shared → Prop} {a : Addr} {o : Obj} {fd : FuncData} {body : List Stmt} {args : Args} {names rest : List Str} {vals : List Value} (O : Ok B w) (S : St B fs L s) (hA : AOk A (n + 1) es)
  (ho : (KF w.params).lookup a = some o) (hdata : o.data = .func fd) (hcd : codeIn (KF w.params) fd.code fd.qualname = true) (hbody : fd.body = .stmts body)
  (hbind : bindArgs fd args = pure (names.zip vals)) (hlen : names.length = vals.length)
  (hcell : ∀ x ∈ fd.scope.names, x.2 ≠ .cell) (hloc : ∀ x ∈ names ++ rest, fd.scope.names.lookup x = some .local) (hnd : (names ++ rest).Nodup) (hk : fd.scope.kind = .function)
  (h : ∀ (a₁ : Addr) (f : Blk) s', f.env = callEnv fd a₁ a → f.names = names ++ rest → St B ((f, vals.map some ++ rest.map fun _ => none) :: fs) L s' → AOk (A.deeper f.env) n (f.env :: es) →
   wpAny (model prog w) (A.deeper f.env) (execs body f.env) (fun fl s' => R (.ok (.ret (match fl with | .ret v => v | _ => .none))) s')
    (fun e s' => wpAny (model prog w) (A.deeper f.env) (leaving f.env e) (fun _ s'' => R (.error e) s'') (fun e' s'' => R (.error e') s'') s') s')
  (hco : fd.scope.isCoroutine = false := by rfl) (hgen : fd.scope.isGenerator = false := by rfl) :
  codeAny (model prog w) A (.call (.ref a) args) R s := by
 refine codeAny_call_def (binds := names.zip vals) hA.room (S.old _ _ (O.K _ _ ho)) hdata (O.lim.keeps S.old) ((codeRec_of O.K hcd).keeps S.old) hbody (.of_eq hbind) hcell (fun x hx => hloc _ (List.mem_append_left _ (List.of_mem_zip hx).1)) (fun h₀ hns hk₀ => ?_) hco hgen hk
 rw [bind_lookV names vals rest hnd hlen] at hns
 refine h s.heap.objs.size ⟨callEnv fd s.heap.objs.size a, names ++ rest, hnd, hloc, hk⟩ _ rfl rfl ?_ (hA.deeper _)
 have fresh : ∀ a o', s.heap.get? a = some o' → a ≠ s.heap.objs.size := fun a o' e => Nat.ne_of_lt (Heap.lt_size e)
 refine ⟨fun b o e => hk₀ b o (S.old b o e), S.os, S.gens, fun g hg => ?_, fun p hp => ?_, ?_, ?_⟩
 ·rcases List.mem_cons.mp hg with rfl | hg
  ·exact hns
  ·exact (S.fr g hg).keeps hk₀
 ·refine packG ?_; intro TT
  obtain ⟨o', e, i⟩ := S.led p hp
  exact ⟨o', hk₀ _ _ e, i⟩
 ·simp only [List.map_cons, List.cons_append, List.nodup_cons]
  refine ⟨fun q => ?_, S.nd⟩
  rcases List.mem_append.mp q with q | q
  ·refine packG ?_; intro TT
   obtain ⟨g, hg, e⟩ := List.mem_map.mp q
   obtain ⟨o', _, _, e', _⟩ := S.fr g hg
   exact fresh _ _ e' e
  ·refine packG ?_; intro TT
   obtain ⟨p, hp, e⟩ := List.mem_map.mp q
   obtain ⟨o', e', _⟩ := S.led p hp
   exact fresh _ _ e' e
 ·simp only [List.map_cons, List.cons_append]
  intro b hb
  rcases List.mem_cons.mp hb with rfl | hb
  ·show B.h.get? s.heap.objs.size = none
   cases q : B.h.get? s.heap.objs.size with
   | none => rfl
   | some o' => exact absurd rfl (fresh _ _ (S.old _ _ q))
  ·exact S.new b hb
end
end
section
open PySem PySem.W PyProof.Rows PySem.Calls
noncomputable def Cont (M : Model) (A : Around) (rest : List Stmt) (env : Env) (Q : Flow → Shared → Prop) (E : Value → Shared → Prop) : Flow → Shared → Prop := fun f s' => match f with
 | .next => wpAny M A (execs rest env) Q E s'
 | f => Q f s'
noncomputable def LR (M : Model) (A : Around) (rest : List Stmt) (env : Env) (Q : Flow → Shared → Prop) (E : Value → Shared → Prop) : Result → Shared → Prop := fun r s' => match r with
 | .ok f => Cont M A rest env Q E f s'
 | .error e => cameBackBy M A env E e s'
noncomputable def BodyQ (R : Result → Shared → Prop) : Flow → Shared → Prop := fun fl s' => R (.ok (.ret (match fl with | .ret v => v | _ => .none))) s'
theorem body_ret {R : Result → Shared → Prop} {v : Value} {s : Shared} (h : R (.ok (.ret v)) s) : BodyQ R (.ret v) s := h
theorem body_next {R : Result → Shared → Prop} {s : Shared} (h : R (.ok (.ret .none)) s) : BodyQ R .next s := h
structure EnvIs (env : Env) (scope : Scope) : Prop where
 sc : env.scope = scope
 g : env.globals = mainGlobals
 b : env.builtins = builtinsNs
 fn : scope.kind = .function
section
variable {M : Model} {A : Around} {rest : List Stmt} {env : Env} {Q : Flow → Shared → Prop} {E : Value → Shared → Prop} {s : Shared}
theorem cont_next (h : wpAny M A (execs rest env) Q E s) : Cont M A rest env Q E .next s := h
theorem cont_ret {v : Value} (h : Q (.ret v) s) : Cont M A rest env Q E (.ret v) s := h
theorem cont_brk (h : Q .brk s) : Cont M A rest env Q E .brk s := h
theorem cont_cont (h : Q .cont s) : Cont M A rest env Q E .cont s := h
theorem xs_cons {st : Stmt} (h : wpAny M A (exec st env) (Cont M A rest env Q E) E s) : wpAny M A (execs (st :: rest) env) Q E s :=
 wpAny_execs_cons (wpAny_mono h (fun f _ h => by cases f <;> exact h) fun _ _ h => h)
theorem lr_next (h : wpAny M A (execs rest env) Q E s) : LR M A rest env Q E (.ok .next) s := h
theorem lr_ret {v : Value} (h : Q (.ret v) s) : LR M A rest env Q E (.ok (.ret v)) s := h
theorem xs_nil (h : Q .next s) : wpAny M A (execs [] env) Q E s := wpAny_execs_nil h
theorem xs_return {e : Expr} {pos : Pos} (h : wpAny M A (eval e env) (fun v => Q (.ret v)) E s) : wpAny M A (execs (.Return (some e) pos :: rest) env) Q E s :=
 xs_cons (wpAny_Return_some (wpAny_mono h (fun _ _ h => h) fun _ _ h => h))
theorem xs_assign {x : Str} {pos' pos : Pos} {value : Expr} (h : wpAny M A (eval value env) (fun v s₁ => wpAny M A (storeName env x v) (fun _ s₂ => wpAny M A (execs rest env) Q E s₂) E s₁) E s)
  (hs : swapsWith value (some (.Name x pos')) pos.line env = pure false := by with_unfolding_all rfl) : wpAny M A (execs (.Assign [.Name x pos'] value pos :: rest) env) Q E s :=
 xs_cons (wpAny_Assign_Name (wpAny_mono h (fun _ _ h => wpAny_mono h (fun _ _ h => h) fun _ _ h => h) fun _ _ h => h) hs)
theorem xs_if {test : Expr} {body orelse : List Stmt} {pos : Pos}
  (h : wpAny M A (isTrue test env (eval test env)) (fun b s₂ => (b = true → wpAny M A (execs body env) (Cont M A rest env Q E) E s₂) ∧ (b = false → wpAny M A (execs orelse env) (Cont M A rest env Q E) E s₂)) E s) :
  wpAny M A (execs (.If test body orelse pos :: rest) env) Q E s :=
 xs_cons (wpAny_If (wpAny_mono h (fun b _ h => by cases b; exact h.2 rfl; exact h.1 rfl) fun _ _ h => h))
theorem interactive_fn {env : Env} (h : env.scope.kind = .function) : interactive env = false := by unfold interactive; rw [h]; rfl
theorem xs_expr {e : Expr} {pos : Pos} (hk : env.scope.kind = .function) (h : wpAny M A (eval e env) (fun v s' => v = .none ∧ wpAny M A (execs rest env) Q E s') E s)
  (hs : swapsWith e none pos.line env = pure false := by with_unfolding_all rfl) : wpAny M A (execs (.Expr e pos :: rest) env) Q E s :=
 xs_cons (wpAny_Expr (wpAny_mono h (fun v _ h => by obtain ⟨rfl, h⟩ := h; exact h) fun _ _ h => h) (interactive_fn hk) hs)
theorem xs_break {pos : Pos} (h : Q .brk s) : wpAny M A (execs (.Break pos :: rest) env) Q E s := xs_cons (wpAny_Break h)
theorem xs_continue {pos : Pos} (h : Q .cont s) : wpAny M A (execs (.Continue pos :: rest) env) Q E s := xs_cons (wpAny_Continue h)
theorem xs_while {test : Expr} {body orelse : List Stmt} {pos : Pos}
  (h : codeAny M A (.whileLoop test body orelse env) (LR M A rest env Q E) s) : wpAny M A (execs (.While test body orelse pos :: rest) env) Q E s :=
 xs_cons (wpAny_While (codeAny_mono h fun r _ h => by cases r <;> exact h))
theorem xs_for {target iter : Expr} {body orelse : List Stmt} {pos : Pos}
  (h : wpAny M A (eval iter env) (fun x s₁ => wpAny M A (pyIter x) (fun it s₂ =>
   codeAny M A (.forLoop target it body orelse env) (LR M A rest env Q E) s₂) E s₁) E s)
  (hs : ∀ x, foldedSetIterable iter env x = pure x := by intro _; with_unfolding_all rfl) : wpAny M A (execs (.For target iter body orelse pos :: rest) env) Q E s :=
 xs_cons (wpAny_For (wpAny_mono h (fun _ _ h => wpAny_mono h (fun _ _ h => codeAny_mono h fun r _ h => by cases r <;> exact h) fun _ _ h => h) fun _ _ h => h) hs)
end
section
variable {prog : Program} {w : World} {B : Bs} {fs : List Fm} {L L' : List (Addr × O)} {s : Shared} {A : Around} {E : Value → Shared → Prop} {n : Nat} {es : List Env} {Q : Value → Shared → Prop} {env : Env}
theorem lL {M : Model} {names : List Str} {nd : names.Nodup} {kd : ∀ x ∈ names, env.kindOf x = some .local} {fn : env.scope.kind = .function} {vs : List (Option Value)} {x : Str} {pos : Pos} {v : Value}
  (k : Nat) (S : St B ((⟨env, names, nd, kd, fn⟩, vs) :: fs) L s) (hn : names[k]? = some x) (hv : vs[k]? = some (some v)) (h : Q v s)
  (hd : (x == ("__debug__" : Str)) = false := by decide +kernel) : wpAny M A (eval (.Name x pos) env) Q E s := ldL k S hn hv h hd
theorem lG {M : Model} {x : Str} {pos : Pos} {v : Value} {scope : Scope} (O : Ok B w) (S : St B fs L s) (e : ∀ P, nsIn (KF P) mainGlobals x = some (some v)) (hE : EnvIs env scope) (hx : scope.names.lookup x = some .globalImplicit) (h : Q v s)
  (hd : (x == ("__debug__" : Str)) = false := by decide +kernel) : wpAny M A (eval (.Name x pos) env) Q E s :=
 ldG O S (e _) (by rw [hE.sc]; exact hE.fn) (by show env.scope.names.lookup x = _; rw [hE.sc]; exact hx) hE.g h hd
theorem lB {M : Model} {x : Str} {pos : Pos} {v : Value} {scope : Scope} (O : Ok B w) (S : St B fs L s) (e : ∀ P, nsIn (KF P) mainGlobals x = some none) (hv : bootBuiltins x = some v) (hE : EnvIs env scope) (hx : scope.names.lookup x = some .globalImplicit) (h : Q v s)
  (hn : x ≠ "__name__" := by decide +kernel) (hd : (x == ("__debug__" : Str)) = false := by decide +kernel) : wpAny M A (eval (.Name x pos) env) Q E s :=
 ldB O S (e _) hv (by rw [hE.sc]; exact hE.fn) (by show env.scope.names.lookup x = _; rw [hE.sc]; exact hx) hE.g hE.b h hn hd
theorem c_int {M : Model} {i : Int} {k : Nat} {pos : Pos} (S : St B fs L s) (h : ∀ t s', St B fs L s' → Q (.int i t) s') : wpAny M A (eval (.Constant (.int i) k pos) env) Q E s := wpAny_Constant_int (h _ _ (S.toks rfl rfl rfl))
theorem c_str {M : Model} {x : Str} {k : Nat} {pos : Pos} (S : St B fs L s) (h : ∀ t s', St B fs L s' → Q (.str x t) s') : wpAny M A (eval (.Constant (.str x) k pos) env) Q E s := Constant_str (h _ _ (S.toks rfl rfl rfl))
theorem b_sub_bool {p q : Bool} (S : St B fs L s) (h : ∀ t s', St B fs L s' → Q (.int (b2i p - b2i q) t) s') : wpAny (model prog w) A (binaryOp .Sub (.bool p) (.bool q)) Q E s := sub_bool (h _ _ (S.toks rfl rfl rfl))
section
variable {a b : Int} {t u : Tok}
theorem b_add (S : St B fs L s) (h : ∀ t s', St B fs L s' → Q (.int (a + b) t) s') : wpAny (model prog w) A (binaryOp .Add (.int a t) (.int b u)) Q E s := add_int (h _ _ (S.toks rfl rfl rfl))
theorem b_sub (S : St B fs L s) (h : ∀ t s', St B fs L s' → Q (.int (a - b) t) s') : wpAny (model prog w) A (binaryOp .Sub (.int a t) (.int b u)) Q E s := sub_int (h _ _ (S.toks rfl rfl rfl))
theorem b_mod (hb : b ≠ 0) (S : St B fs L s) (h : ∀ t s', St B fs L s' → Q (.int (a.fmod b) t) s') : wpAny (model prog w) A (binaryOp .Mod (.int a t) (.int b u)) Q E s := mod_int hb (h _ _ (S.toks rfl rfl rfl))
end
end
theorem call_def {prog : Program} {w : World} {B : Bs} {fs : List Fm} {L : List (Addr × O)} {s : Shared} {A : Around} {n : Nat} {es : List Env} {R : Result → Shared → Prop} {a : Addr} {o : Obj} {fd : FuncData} {body : List Stmt} {args : Args} {names rest : List Str} {vals : List Value} (O : Ok B w) (S : St B fs L s) (hA : AOk A (n + 1) es)
  (ho : ∀ P, (KF P).lookup a = some o) (hdata : o.data = .func fd) (hcd : ∀ P, codeIn (KF P) fd.code fd.qualname = true) (hbody : fd.body = .stmts body)
  (hbind : bindArgs fd args = pure (names.zip vals)) (hlen : names.length = vals.length)
  (hcell : ∀ x ∈ fd.scope.names, x.2 ≠ .cell) (hloc : ∀ x ∈ names ++ rest, fd.scope.names.lookup x = some .local) (hnd : (names ++ rest).Nodup) (hk : fd.scope.kind = .function)
  (hgl : fd.globals = mainGlobals) (hbl : fd.builtins = builtinsNs)
  (h : ∀ (env : Env) (nd : (names ++ rest).Nodup) (kd : ∀ x ∈ names ++ rest, env.kindOf x = some .local) (fn : env.scope.kind = .function) s', EnvIs env fd.scope → St B ((⟨env, names ++ rest, nd, kd, fn⟩, vals.map some ++ rest.map fun _ => none) :: fs) L s' →
   AOk (A.deeper env) n (env :: es) → ∀ E, wpAny (model prog w) (A.deeper env) (execs body env) (BodyQ R) E s')
  (hco : fd.scope.isCoroutine = false := by rfl) (hgen : fd.scope.isGenerator = false := by rfl) :
  codeAny (model prog w) A (.call (.ref a) args) R s := by
 refine call_fn (names := names) (rest := rest) O S hA (ho _) hdata (hcd _) hbody hbind hlen hcell hloc hnd hk (fun a₁ f s' hf hnm S' hA' => ?_) hco hgen
 refine packG ?_; intro TT
 obtain ⟨env, nms, nd, kd, fn⟩ := f
 dsimp only at hf hnm S' hA' ⊢
 subst hnm
 exact h env nd kd fn s' ⟨by rw [hf]; rfl, by rw [hf]; exact hgl, by rw [hf]; exact hbl, hk⟩ S' hA' _
end
section
open PySem PySem.W PyProof.Rows PySem.Calls
inductive F2 {α β : Type} (R : α → β → Prop) : List α → List β → Prop
 | nil : F2 R [] []
 | cons {x xs v vs} : R x v → F2 R xs vs → F2 R (x :: xs) (v :: vs)
namespace F2
variable {α β γ : Type} {R : α → β → Prop} {xs ys : List α} {vs us : List β}
theorem len (h : F2 R xs vs) : vs.length = xs.length := by
 induction h with
 | nil => rfl
 | cons _ _ ih => simp [ih]
theorem get (h : F2 R xs vs) {i : Nat} {x : α} (e : xs[i]? = some x) : ∃ v, vs[i]? = some v ∧ R x v := by
 induction h generalizing i with
 | nil => simp at e
 | cons r _ ih =>
  cases i with
  | zero => simp at e; subst e; exact ⟨_, rfl, r⟩
  | succ i => simpa using ih (by simpa using e)
theorem tge (h : F2 R xs vs) {i : Nat} {v : β} (e : vs[i]? = some v) : ∃ x, xs[i]? = some x ∧ R x v := by
 induction h generalizing i with
 | nil => simp at e
 | cons r _ ih =>
  cases i with
  | zero => simp at e; subst e; exact ⟨_, rfl, r⟩
  | succ i => simpa using ih (by simpa using e)
theorem append (h : F2 R xs vs) (k : F2 R ys us) : F2 R (xs ++ ys) (vs ++ us) := by
 induction h with
 | nil => exact k
 | cons r _ ih => exact .cons r ih
theorem of {xs : List α} {vs : List β} (hl : vs.length = xs.length) (h : ∀ (i : Nat) x v, xs[i]? = some x → vs[i]? = some v → R x v) : F2 R xs vs := by
 induction xs generalizing vs with
 | nil => cases vs with
  | nil => exact .nil
  | cons => simp at hl
 | cons x xs ih => cases vs with
  | nil => simp at hl
  | cons v vs => exact .cons (h 0 x v rfl rfl) (ih (by simpa using hl) fun i x v h1 h2 => h (i + 1) x v (by simpa using h1) (by simpa using h2))
theorem set (h : F2 R xs vs) {i : Nat} {x : α} {v : β} (r : R x v) : F2 R (xs.set i x) (vs.set i v) := by
 induction h generalizing i with
 | nil => exact .nil
 | cons q k ih => cases i with
  | zero => exact .cons r k
  | succ i => exact .cons q ih
theorem imp {S : α → β → Prop} (h : F2 R xs vs) (hi : ∀ x v, R x v → S x v) : F2 S xs vs := by
 induction h with
 | nil => exact .nil
 | cons q k ih => exact .cons (hi _ _ q) ih
theorem unapp {ys : List α} (h : F2 R (xs ++ ys) vs) : ∃ us ws, vs = us ++ ws ∧ F2 R xs us ∧ F2 R ys ws := by
 induction xs generalizing vs with
 | nil => exact ⟨[], vs, rfl, .nil, h⟩
 | cons x xs ih => cases h with
  | cons r k => obtain ⟨us, ws, rfl, h1, h2⟩ := ih k; exact ⟨_ :: us, ws, rfl, .cons r h1, h2⟩
theorem one {x : α} (h : F2 R [x] vs) : ∃ v, vs = [v] ∧ R x v := by
 cases h with
 | cons r k => cases k; exact ⟨_, rfl, r⟩
theorem two {x y : α} (h : F2 R [x, y] vs) : ∃ u v, vs = [u, v] ∧ R x u ∧ R y v := by
 cases h with
 | cons r k => cases k with | cons r' k => cases k; exact ⟨_, _, rfl, r, r'⟩
theorem mem {v : β} (h : F2 R xs vs) (e : v ∈ vs) : ∃ x ∈ xs, R x v := by
 obtain ⟨i, hi, rfl⟩ := List.getElem_of_mem e
 obtain ⟨x, hx, r⟩ := h.tge (i := i) (by simp [hi]; rfl)
 exact ⟨x, List.mem_of_getElem? hx, r⟩
theorem mem' {x : α} (h : F2 R xs vs) (e : x ∈ xs) : ∃ v ∈ vs, R x v := by
 obtain ⟨i, hi, rfl⟩ := List.getElem_of_mem e
 obtain ⟨v, hv, r⟩ := h.get (i := i) (by simp [hi]; rfl)
 exact ⟨v, List.mem_of_getElem? hv, r⟩
theorem eq {us vs : List β} (h : F2 (fun a b => a = b) us vs) : us = vs := by
 induction h with
 | nil => rfl
 | cons q k ih => rw [q, ih]
end F2
noncomputable def IntV (i : Int) (v : Value) : Prop := ∃ t, v = .int i t
noncomputable def StrV (x : Str) (v : Value) : Prop := ∃ t, v = .str x t
noncomputable def lstR {α : Type} (R : α → Value → Prop) (xs : List α) : O := fun o => ∃ vs, F2 R xs vs ∧ lst vs o
noncomputable def tupR {α : Type} (R : α → Value → Prop) (xs : List α) : O := fun o => ∃ vs, F2 R xs vs ∧ tup vs o
section
variable {prog : Program} {w : World} {B : Bs} {fs : List Fm} {L L' : List (Addr × O)} {s : Shared} {A : Around} {E : Value → Shared → Prop} {n : Nat} {es : List Env} {Q : Value → Shared → Prop} {env : Env}
 {a : Addr} {vs vs' : List Value} {v : Value}
noncomputable def IsL (s : Shared) (a : Addr) (vs : List Value) : Prop := ∃ k, s.heap.get? a = some { cls := .type "list", dict := none, data := .seq vs.toArray k, slots := #[] }
noncomputable def IsT (s : Shared) (a : Addr) (vs : List Value) : Prop := ∃ k, s.heap.get? a = some { cls := .type "tuple", dict := none, data := .seq vs.toArray k, slots := #[] }
theorem St.isL (S : St B fs L s) (h : (a, lst vs) ∈ L) : IsL s a vs := by
 obtain ⟨o, e, k, rfl⟩ := S.get h
 exact ⟨k, e⟩
theorem St.isT (S : St B fs L s) (h : (a, tup vs) ∈ L) : IsT s a vs := by
 obtain ⟨o, e, k, rfl⟩ := S.get h
 exact ⟨k, e⟩
theorem St.isLR {α : Type} {R : α → Value → Prop} {xs : List α} (S : St B fs L s) (h : (a, lstR R xs) ∈ L) : ∃ vs, F2 R xs vs ∧ IsL s a vs := by
 obtain ⟨o, e, vs, hv, k, rfl⟩ := S.get h
 exact ⟨vs, hv, k, e⟩
theorem St.isTR {α : Type} {R : α → Value → Prop} {xs : List α} (S : St B fs L s) (h : (a, tupR R xs) ∈ L) : ∃ vs, F2 R xs vs ∧ IsT s a vs := by
 obtain ⟨o, e, vs, hv, k, rfl⟩ := S.get h
 exact ⟨vs, hv, k, e⟩
theorem IsL.ty (h : IsL s a vs) : s.TypeIs (.ref a) "list" := by
 obtain ⟨k, e⟩ := h
 exact ⟨_, e, rfl⟩
theorem IsT.ty (h : IsT s a vs) : s.TypeIs (.ref a) "tuple" := by
 obtain ⟨k, e⟩ := h
 exact ⟨_, e, rfl⟩
theorem IsL.at (h : IsL s a vs) : s.heap.IsList a vs.toArray := by
 obtain ⟨k, e⟩ := h
 exact ⟨_, e, rfl, k, rfl⟩
theorem IsT.at (h : IsT s a vs) : s.heap.IsTuple a vs.toArray := by
 obtain ⟨k, e⟩ := h
 exact ⟨_, e, rfl, k, rfl⟩
theorem St.mapSeq {x y : O} (S : St B fs L s) (u : Upd a x y L L') (hl : IsL s a vs) {f : Array Value → Array Value} (hf : f vs.toArray = vs'.toArray) (hy : ∀ o, lst vs' o → y o) {t : Nat} {d : Drawn} :
  St B fs L' ⟨s.heap.update a (Obj.mapSeq f), s.gens, d, t, s.os⟩ := by
 obtain ⟨k, e⟩ := hl
 refine S.upd u (Heap.SameBut.update ..) (Heap.get?_update_self _ e rfl) (hy _ ⟨if (f vs.toArray).size == vs.toArray.size then k else k + 1, ?_⟩)
 show Obj.mk _ _ (.seq (f vs.toArray) (if (f vs.toArray).size == vs.toArray.size then k else k + 1)) _ = _
 rw [hf]
theorem l_append {x y : O} (u : Upd a x y L L') (S : St B fs L s) (hl : IsL s a vs) (hy : ∀ o, lst (vs ++ [v]) o → y o) (hsz : vs.length ≤ sizeLine) (h : ∀ s', St B fs L' s' → Q .none s') :
  wpAny (model prog w) A (call (.builtin "list.append") [.ref a, v]) Q E s := by
 refine packG ?_; intro TT
 obtain ⟨k, e⟩ := hl
 refine wpAny_list_append_plain ⟨k, e⟩ (fun h' hl hs => h _ ?_) (by simpa using hsz)
 refine packG ?_; intro TT
 obtain ⟨k', e'⟩ := hl
 exact S.upd u hs e' (hy _ ⟨k', by simp⟩)
theorem l_pop {x y : O} (u : Upd a x y L L') (S : St B fs L s) (hl : IsL s a (vs ++ [v])) (hy : ∀ o, lst vs o → y o) (hsz : vs.length < sizeLine) (h : ∀ s', St B fs L' s' → Q v s') :
  wpAny (model prog w) A (call (.builtin "list.pop") [.ref a]) Q E s := by
 refine packG ?_; intro TT
 obtain ⟨k, e⟩ := id hl
 refine call_meets F.slot_list_pop hl.ty F.entry_list_pop (F.args_list_pop_1 _) (MeetsSeq.list_pop_last a (vs ++ [v]).toArray k v (by simp) (by simp; lia)) ⟨e, h _ ?_⟩
 exact S.mapSeq u hl (by simp [Array.eraseIdxIfInBounds, List.eraseIdx_append_of_length_le]) hy
end
end
section
open PySem PySem.W PyProof.Rows PySem.Calls
namespace St
variable {B : Bs} {fs : List Fm} {L L' : List (Addr × O)} {s s' : Shared}
theorem drop {I : List (Addr × O)} (S : St B fs (I ++ L) s) {h' : Heap} {t : Nat} {d : Drawn} (hk : ∀ b o, b ∉ I.map (·.1) → s.heap.get? b = some o → h'.get? b = some o) : St B fs L ⟨h', s.gens, d, t, s.os⟩ := by
 have nd := S.nd
 rw [List.map_append, ← List.append_assoc, List.nodup_append, List.nodup_append] at nd
 have hLI : ∀ p ∈ L, p.1 ∉ I.map (·.1) := fun p hp hm => nd.2.2 p.1 (List.mem_append_right _ hm) p.1 (List.mem_map_of_mem hp) rfl
 have hFI : ∀ f ∈ fs, f.1.env.locals ∉ I.map (·.1) := fun f hf hm => nd.1.2.2 _ (List.mem_map_of_mem hf) _ hm rfl
 refine ⟨fun b o e => hk b o (fun hm => ?_) (S.old b o e), S.os, S.gens, fun f hf => ?_, fun p hp => ?_, ?_, fun a ha => S.new a ?_⟩
 ·have := S.new b (by rw [List.map_append]; exact List.mem_append_right _ (List.mem_append_left _ hm))
  rw [e] at this; cases this
 ·obtain ⟨o, es, ep, e, r⟩ := S.fr f hf
  exact ⟨o, es, ep, hk _ _ (hFI f hf) e, r⟩
 ·obtain ⟨o, e, i⟩ := S.led p (List.mem_append_right _ hp)
  exact ⟨o, hk _ _ (hLI p hp) e, i⟩
 ·rw [List.nodup_append]
  exact ⟨nd.1.1, nd.2.1, fun x hx y hy => nd.2.2 x (List.mem_append_left _ hx) y hy⟩
 ·rw [List.map_append]
  rcases List.mem_append.mp ha with h | h
  ·exact List.mem_append_left _ h
  ·exact List.mem_append_right _ (List.mem_append_right _ h)
theorem redo {I J : List (Addr × O)} (S : St B fs (I ++ L) s) (hIJ : J.map (·.1) = I.map (·.1)) {h' : Heap} {t : Nat} {d : Drawn} (hk : ∀ b o, b ∉ I.map (·.1) → s.heap.get? b = some o → h'.get? b = some o)
  (hJ : ∀ p ∈ J, ∃ o, h'.get? p.1 = some o ∧ p.2 o) : St B fs (J ++ L) ⟨h', s.gens, d, t, s.os⟩ := by
 have D := S.drop (t := t) (d := d) hk
 refine ⟨D.old, D.os, D.gens, D.fr, fun p hp => ?_, ?_, ?_⟩
 ·rcases List.mem_append.mp hp with h | h
  ·exact hJ p h
  ·exact D.led p h
 ·have := S.nd; rw [List.map_append] at this ⊢; rw [hIJ]; exact this
 ·have := S.new; rw [List.map_append] at this ⊢; rw [hIJ]; exact this
theorem more (S : St B fs L s) {a : Addr} {x : O} {o : Obj} (ho : s.heap.get? a = some o) (hx : x o) (hb : B.h.get? a = none) (hf : a ∉ fs.map (·.1.env.locals)) (hL : a ∉ L.map (·.1)) : St B fs ((a, x) :: L) s := by
 refine ⟨S.old, S.os, S.gens, S.fr, fun p hp => ?_, ?_, ?_⟩
 ·rcases List.mem_cons.mp hp with rfl | h
  ·exact ⟨o, ho, hx⟩
  ·exact S.led p h
 ·have nd := List.nodup_append.mp S.nd
  rw [List.map_cons, List.nodup_append, List.nodup_cons]
  refine ⟨nd.1, ⟨hL, nd.2.1⟩, fun x hx y hy => ?_⟩
  rcases List.mem_cons.mp hy with rfl | hy
  ·exact fun e => hf (e ▸ hx)
  ·exact nd.2.2 x hx y hy
 ·intro b hb'
  rcases List.mem_append.mp hb' with h | h
  ·exact S.new b (List.mem_append_left _ h)
  ·rcases List.mem_cons.mp h with rfl | h
   ·exact hb
   ·exact S.new b (List.mem_append_right _ h)
theorem fresh (S : St B fs L s) : B.h.get? s.heap.objs.size = none ∧ s.heap.objs.size ∉ fs.map (·.1.env.locals) ∧ s.heap.objs.size ∉ L.map (·.1) := by
 have nd := (S.alloc (o := { cls := .none }) (y := raw { cls := .none }) rfl (t := 0) (d := s.drawn))
 have n1 := nd.new s.heap.objs.size (by simp)
 have n2 := nd.nd
 rw [List.map_cons, List.nodup_append, List.nodup_cons] at n2
 exact ⟨n1, fun h => n2.2.2 _ h _ List.mem_cons_self rfl, n2.2.1.1⟩
end St
structure Itr (prog : Program) (w : World) (tgt : Expr) (it : Addr) (n : Nat) (I : Nat → List (Addr × O)) (src : List (Addr × O)) (P : Nat → Value → List (Addr × O) → Prop) : Prop where
 item : ∀ {B fs L s A} {Q : Value → Shared → Prop} {E : Value → Shared → Prop} i, i < n → St B fs (I i ++ L) s → (∀ p ∈ src, p ∈ L) → (∀ v X s', P i v X → St B fs (X ++ (I (i + 1) ++ L)) s' → Q v s') →
  wpAny (model prog w) A (pyNext (.ref it)) (fun r s₁ => ∃ v, r = some v ∧ wpAny (model prog w) A (letOwnedTupleGo tgt (.ref it) v) (fun _ s₂ => Q v s₂) E s₁) E s
 done : ∀ {B fs L s A} {Q : Option Value → Shared → Prop} {E : Value → Shared → Prop}, A.handled = none → St B fs (I n ++ L) s → (∀ p ∈ src, p ∈ L) → (∀ s', St B fs L s' → Q none s') → wpAny (model prog w) A (pyNext (.ref it)) Q E s
 self : ∀ {B fs L s A} {Q : Value → Shared → Prop} {E : Value → Shared → Prop}, St B fs (I 0 ++ L) s → Q (.ref it) s → wpAny (model prog w) A (pyIter (.ref it)) Q E s
noncomputable def litO (l : Addr) (i : Nat) : O := fun o => o.cls = .type "list_iterator" ∧ o.data = .fields #[.ref l, .int i 0]
noncomputable def titO (l : Addr) (i : Nat) : O := fun o => o.cls = .type "tuple_iterator" ∧ o.data = .fields #[.ref l, .int i 0]
noncomputable def ritO (x left step : Int) : O := raw { cls := .type "range_iterator", dict := none, data := .fields #[rawInt x, rawInt left, rawInt step], slots := #[] }
noncomputable def enuO (it : Addr) (i : Int) : O := fun o => ∃ old, o = { cls := .type "enumerate", dict := none, data := .fields #[.none, .bool false, .ref it, rawInt i, .none, old], slots := #[] }
section
variable {prog : Program} {w : World}
noncomputable def Src (C : List Value → O) (src : O) (n : Nat) (P : Nat → Value → Prop) : Prop := ∀ o, src o → ∃ vs, C vs o ∧ vs.length = n ∧ ∀ i v, vs[i]? = some v → P i v
theorem Src.lst (vs : List Value) : Src lst (lst vs) vs.length (fun i v => vs[i]? = some v) := fun _ h => ⟨vs, h, rfl, fun _ _ h => h⟩
theorem Src.lstR {α : Type} (R : α → Value → Prop) (xs : List α) : Src Mine.lst (lstR R xs) xs.length (fun i v => ∃ x, xs[i]? = some x ∧ R x v) := fun _ ⟨vs, hv, h⟩ => ⟨vs, h, hv.len, fun _ _ e => hv.tge e⟩
theorem Src.tup (vs : List Value) : Src tup (tup vs) vs.length (fun i v => vs[i]? = some v) := fun _ h => ⟨vs, h, rfl, fun _ _ h => h⟩
theorem Src.tupR {α : Type} (R : α → Value → Prop) (xs : List α) : Src Mine.tup (tupR R xs) xs.length (fun i v => ∃ x, xs[i]? = some x ∧ R x v) := fun _ ⟨vs, hv, h⟩ => ⟨vs, h, hv.len, fun _ _ e => hv.tge e⟩
theorem Src.lget {B : Bs} {fs : List Fm} {L : List (Addr × O)} {s : Shared} {src : O} {n : Nat} {P : Nat → Value → Prop} {a : Addr} (h : Src Mine.lst src n P) (S : St B fs L s) (hm : (a, src) ∈ L) : ∃ vs, IsL s a vs ∧ vs.length = n ∧ ∀ i v, vs[i]? = some v → P i v := by
 obtain ⟨o, e, i⟩ := S.get hm
 obtain ⟨vs, ⟨k, rfl⟩, hn, hP⟩ := h o i
 exact ⟨vs, ⟨k, e⟩, hn, hP⟩
theorem Src.tget {B : Bs} {fs : List Fm} {L : List (Addr × O)} {s : Shared} {src : O} {n : Nat} {P : Nat → Value → Prop} {a : Addr} (h : Src Mine.tup src n P) (S : St B fs L s) (hm : (a, src) ∈ L) : ∃ vs, IsT s a vs ∧ vs.length = n ∧ ∀ i v, vs[i]? = some v → P i v := by
 obtain ⟨o, e, i⟩ := S.get hm
 obtain ⟨vs, ⟨k, rfl⟩, hn, hP⟩ := h o i
 exact ⟨vs, ⟨k, e⟩, hn, hP⟩
theorem Itr.list (x : Str) (px : Pos) (it a : Addr) {src : O} {n : Nat} {P : Nat → Value → Prop} (hs : Src lst src n P) : Itr prog w (.Name x px) it n (fun i => [(it, litO a i)]) [(a, src)] (fun i v X => P i v ∧ X = []) where
 item := fun {B fs L s A Q E} i hi S hsrc hQ => by
  obtain ⟨o, ho, hc, hd⟩ := S.get List.mem_cons_self
  obtain ⟨vs, hl, rfl, hP⟩ := hs.lget S (List.mem_append_right _ (hsrc _ List.mem_cons_self))
  refine wpAny_pyNext_list_item ⟨o, ho, hc, hd⟩ hl.at (x := vs[i]) (by simp [hi]) fun h' hit' hs' => ?_
  refine ⟨_, rfl, wpAny_pure (hQ _ [] _ ⟨hP i _ (by simp [hi]), rfl⟩ ?_)⟩
  obtain ⟨o', ho', hc', hd'⟩ := hit'
  exact S.redo (J := [(it, litO a (i + 1))]) rfl (fun b o hb e => hs'.extBut b o (fun q => hb (by simp [q])) e) (fun p hp => by simp at hp; subst hp; exact ⟨o', ho', hc', hd'⟩)
 done := fun {B fs L s A Q E} hh S hsrc hQ => by
  obtain ⟨o, ho, hc, hd⟩ := S.get List.mem_cons_self
  obtain ⟨vs, hl, rfl, hP⟩ := hs.lget S (List.mem_append_right _ (hsrc _ List.mem_cons_self))
  exact wpAny_pyNext_list_end hh ⟨o, ho, hc, hd⟩ hl.at (by simp) fun h' he => hQ _ (S.drop fun b o hb e => he b o (fun q => hb (by simp [q])) e)
 self := fun {B fs L s A Q E} S hQ => by
  obtain ⟨o, ho, hc, hd⟩ := S.get List.mem_cons_self
  exact wpAny_pyIter_listiter (i := 0) ⟨o, ho, hc, hd⟩ hQ
theorem Itr.tup (x : Str) (px : Pos) (it a : Addr) {src : O} {n : Nat} {P : Nat → Value → Prop} (hs : Src Mine.tup src n P) : Itr prog w (.Name x px) it n (fun i => [(it, titO a i)]) [(a, src)] (fun i v X => P i v ∧ X = []) where
 item := fun {B fs L s A Q E} i hi S hsrc hQ => by
  obtain ⟨o, ho, hc, hd⟩ := S.get List.mem_cons_self
  obtain ⟨vs, hl, rfl, hP⟩ := hs.tget S (List.mem_append_right _ (hsrc _ List.mem_cons_self))
  refine wpAny_pyNext_tuple_item ⟨o, ho, hc, hd⟩ hl.at (x := vs[i]) (by simp [hi]) fun h' hit' hs' => ?_
  refine ⟨_, rfl, wpAny_pure (hQ _ [] _ ⟨hP i _ (by simp [hi]), rfl⟩ ?_)⟩
  obtain ⟨o', ho', hc', hd'⟩ := hit'
  exact S.redo (J := [(it, titO a (i + 1))]) rfl (fun b o hb e => hs'.extBut b o (fun q => hb (by simp [q])) e) (fun p hp => by simp at hp; subst hp; exact ⟨o', ho', hc', hd'⟩)
 done := fun {B fs L s A Q E} hh S hsrc hQ => by
  obtain ⟨o, ho, hc, hd⟩ := S.get List.mem_cons_self
  obtain ⟨vs, hl, rfl, hP⟩ := hs.tget S (List.mem_append_right _ (hsrc _ List.mem_cons_self))
  exact wpAny_pyNext_tuple_end hh ⟨o, ho, hc, hd⟩ hl.at (by simp) fun h' he => hQ _ (S.drop fun b o hb e => he b o (fun q => hb (by simp [q])) e)
 self := fun {B fs L s A Q E} S hQ => by
  obtain ⟨o, ho, hc, hd⟩ := S.get List.mem_cons_self
  exact wpAny_pyIter_tupleiter (i := 0) ⟨o, ho, hc, hd⟩ hQ
theorem Itr.range (x : Str) (px : Pos) (it : Addr) (a : Int) (n : Nat) : Itr prog w (.Name x px) it n (fun i => [(it, ritO (a + i) ((n : Int) - i) 1)]) [] (fun i v X => (∃ t, v = .int (a + i) t) ∧ X = []) where
 item := fun {B fs L s A Q E} i hi S hsrc hQ => by
  obtain ⟨o, ho, rfl⟩ := S.get List.mem_cons_self
  refine wpAny_pyNext_range_item ho (by lia) fun h' hit' hs' => ?_
  refine ⟨_, rfl, wpAny_pure (hQ _ [] _ ⟨⟨_, rfl⟩, rfl⟩ ?_)⟩
  exact S.redo (J := [(it, ritO (a + (i + 1 : Nat)) ((n : Int) - (i + 1 : Nat)) 1)]) rfl (fun b o hb e => hs'.extBut b o (fun q => hb (by simp [q])) e) (fun p hp => by
   rw [List.mem_singleton] at hp; subst hp
   have e1 : a + (i : Int) + 1 = a + ((i + 1 : Nat) : Int) := by push_cast; lia
   have e2 : (n : Int) - i - 1 = (n : Int) - ((i + 1 : Nat) : Int) := by push_cast; lia
   refine ⟨_, hit', ?_⟩
   show _ = _
   rw [e1, e2])
 done := fun {B fs L s A Q E} hh S hsrc hQ => by
  obtain ⟨o, ho, rfl⟩ := S.get List.mem_cons_self
  exact wpAny_pyNext_range_end hh ho (by lia) fun h' he => hQ _ (S.drop fun b o hb e => he b o (fun q => hb (by simp [q])) e)
 self := fun {B fs L s A Q E} S hQ => by
  obtain ⟨o, ho, rfl⟩ := S.get List.mem_cons_self
  exact wpAny_pyIter_rangeiter ho hQ
theorem Itr.enum (elts : List Expr) (x1 : Nat) (pt : Pos) (e it a : Addr) {src : O} {n : Nat} {P : Nat → Value → Prop} (hs : Src lst src n P) : Itr prog w (.Tuple elts x1 pt) e n (fun i => [(e, enuO it i), (it, litO a i)]) [(a, src)]
  (fun i v X => ∃ t tk x, v = .ref t ∧ P i x ∧ X = [(t, Mine.tup [.int i tk, x])]) where
 item := fun {B fs L s A Q E} i hi S hsrc hQ => by
  obtain ⟨_, he, old, rfl⟩ := S.get List.mem_cons_self
  obtain ⟨o, ho, hc, hd⟩ := S.get (List.mem_cons_of_mem _ List.mem_cons_self)
  obtain ⟨vs, hl, rfl, hP⟩ := hs.lget S (List.mem_append_right _ (hsrc _ List.mem_cons_self))
  have hne : e ≠ it := by have := S.ndL; simp at this; exact this.1.1
  have hF := S.fresh
  refine wpAny_pyNext_enum_item he ⟨o, ho, hc, hd⟩ hl.at (x := vs[i]) (by simp [hi]) hne fun h' heo hit' htu hz hk => ?_
  refine ⟨_, rfl, wpAny_letOwnedTupleGo_enum heo fun h₂ he₂ hs₂ => hQ _ [(s.heap.objs.size, Mine.tup [.int i s.toks, vs[i]])] _ ⟨_, _, _, rfl, hP i _ (by simp [hi]), rfl⟩ ?_⟩
  obtain ⟨o', ho', hc', hd'⟩ := hit'
  replace hs₂ : Heap.SameBut e h' h₂ := hs₂
  have hse : s.heap.objs.size ≠ e := fun q => hF.2.2 (by rw [q]; simp)
  have S' : St B fs ([(e, enuO it (i + 1 : Nat)), (it, litO a (i + 1))] ++ L) ⟨h₂, s.gens, s.drawn, s.toks + 1, s.os⟩ := S.redo (J := [(e, enuO it (i + 1 : Nat)), (it, litO a (i + 1))]) rfl (fun b o hb e' => by
    simp at hb
    exact hs₂.extBut b o hb.1 (hk b o hb.1 hb.2 e')) (fun p hp => by
   simp at hp
   rcases hp with rfl | rfl
   ·exact ⟨_, he₂, vs[i], rfl⟩
   ·exact ⟨o', hs₂.extBut _ _ (Ne.symm hne) ho', hc', hd'⟩)
  exact S'.more (hs₂.extBut _ _ hse htu) ⟨0, by simp⟩ hF.1 hF.2.1 (by simpa using hF.2.2)
 done := fun {B fs L s A Q E} hh S hsrc hQ => by
  obtain ⟨_, he, old, rfl⟩ := S.get List.mem_cons_self
  obtain ⟨o, ho, hc, hd⟩ := S.get (List.mem_cons_of_mem _ List.mem_cons_self)
  obtain ⟨vs, hl, rfl, hP⟩ := hs.lget S (List.mem_append_right _ (hsrc _ List.mem_cons_self))
  exact wpAny_pyNext_enum_end hh he ⟨o, ho, hc, hd⟩ hl.at (by simp) fun h' he' => hQ _ (S.drop fun b o hb e => he' b o (fun q => hb (by simp [q])) e)
 self := fun {B fs L s A Q E} S hQ => by
  obtain ⟨_, he, old, rfl⟩ := S.get List.mem_cons_self
  exact wpAny_pyIter_enum he hQ
noncomputable def TurnQ (G : Shared → Prop) (R : Result → Shared → Prop) : Flow → Shared → Prop := fun f s => match f with
 | .next | .cont => G s
 | .brk => R (.ok .next) s
 | .ret v => R (.ok (.ret v)) s
theorem turn_next {G : Shared → Prop} {R : Result → Shared → Prop} {s : Shared} (h : G s) : TurnQ G R .next s := h
theorem turn_cont {G : Shared → Prop} {R : Result → Shared → Prop} {s : Shared} (h : G s) : TurnQ G R .cont s := h
theorem turn_brk {G : Shared → Prop} {R : Result → Shared → Prop} {s : Shared} (h : R (.ok .next) s) : TurnQ G R .brk s := h
theorem turn_ret {G : Shared → Prop} {R : Result → Shared → Prop} {s : Shared} {v : Value} (h : R (.ok (.ret v)) s) : TurnQ G R (.ret v) s := h
theorem for_itr {tgt : Expr} {it : Addr} {n : Nat} {I : Nat → List (Addr × O)} {src : List (Addr × O)} {P : Nat → Value → List (Addr × O) → Prop} (W : Itr prog w tgt it n I src P)
  {B : Bs} {fs : List Fm} {L₀ : List (Addr × O)} {s : Shared} {A : Around} {R : Result → Shared → Prop} {blk : Blk} {vs₀ : List (Option Value)} {body : List Stmt} {env : Env}
  (hh : A.handled = none) (J : Nat → List (Option Value) → List (Addr × O) → Prop) (hsrc : ∀ i vs L, J i vs L → ∀ p ∈ src, p ∈ L)
  (S : St B ((blk, vs₀) :: fs) (I 0 ++ L₀) s) (h0 : J 0 vs₀ L₀)
  (step : ∀ i vs L v X s E, i < n → J i vs L → P i v X → St B ((blk, vs) :: fs) (X ++ (I (i + 1) ++ L)) s →
   wpAny (model prog w) A (assign tgt env v) (fun _ s₂ => wpAny (model prog w) A (execs body env) (TurnQ (fun s₃ => ∃ vs' L', J (i + 1) vs' L' ∧ St B ((blk, vs') :: fs) (I (i + 1) ++ L') s₃) R) E s₂) E s)
  (hend : ∀ vs L s, J n vs L → St B ((blk, vs) :: fs) L s → R (.ok .next) s) :
  codeAny (model prog w) A (.forLoop tgt (.ref it) body [] env) R s := by
 refine codeAny_forLoop_any (fun k s' => ∃ i vs L, k = n + 1 - i ∧ i ≤ n ∧ J i vs L ∧ St B ((blk, vs) :: fs) (I i ++ L) s') ?_ (n + 1) ⟨0, vs₀, L₀, rfl, Nat.zero_le _, h0, S⟩
 intro k s' hJ1
 refine packG ?_; intro TT
 obtain ⟨i, vs, L, rfl, hi, hJ, S'⟩ := hJ1
 by_cases hlt : i < n
 ·refine wpAny_mono (W.item (Q := fun v s₁' => wpAny (model prog w) A (assign tgt env v) (fun _ s₂ => wpAny (model prog w) A (execs body env) (fun f s₃ => match f with
      | .next | .cont => ∃ m, m < n + 1 - i ∧ ∃ i vs L, m = n + 1 - i ∧ i ≤ n ∧ J i vs L ∧ St B ((blk, vs) :: fs) (I i ++ L) s₃
      | .brk => R (.ok .next) s₃
      | .ret v => R (.ok (.ret v)) s₃) (notedBy (model prog w) A env fun e s' => R (.error e) s') s₂) (notedBy (model prog w) A env fun e s' => R (.error e) s') s₁') i hlt S' (hsrc i vs L hJ) fun v X s₁ hP S₁ => ?_) (fun r s₁ h₁ => ?_) fun _ _ e => e
  rotate_left
  ·refine packG ?_; intro TT
   obtain ⟨v, rfl, h₁⟩ := h₁
   exact h₁
  ·refine wpAny_mono (step i vs L v X s₁ _ hlt hJ hP S₁) (fun _ s₂ h₂ => wpAny_mono h₂ (fun f s₃ h₃ => ?_) fun _ _ e => e) fun _ _ e => e
   cases f with
   | next => obtain ⟨vs', L', hJ', S₃⟩ := h₃; exact ⟨n + 1 - (i + 1), by lia, i + 1, vs', L', rfl, hlt, hJ', S₃⟩
   | cont => obtain ⟨vs', L', hJ', S₃⟩ := h₃; exact ⟨n + 1 - (i + 1), by lia, i + 1, vs', L', rfl, hlt, hJ', S₃⟩
   | brk => exact h₃
   | ret v => exact h₃
 ·have : i = n := by lia
  subst this
  exact W.done hh S' (hsrc i vs L hJ) fun s₁ S₁ => wpAny_execs_nil (hend vs L s₁ hJ S₁)
end
end
section
open PySem PySem.W PyProof.Rows PySem.Calls
section
set_option compiler.extract_closed false
open Lean
def kT (s : String) : Name := .str `Lean.Parser.Tactic s
def kM (s : String) : Name := .str `Lean.Parser.Term s
def ws (s : String) : List String := s.splitOn " "
def nk (k : Name) (as : List Syntax) : Syntax := .node .none k as.toArray
def tk (s : String) : Syntax := .atom .none s
def nl (as : List Syntax) : Syntax := nk `null as
def sq (ts : List Syntax) : Syntax := nk (kT "tacticSeq") [nk (kT "tacticSeq1Indented") [nl (ts.intersperse (tk ";"))]]
def par (ts : List Syntax) : Syntax := nk (kT "paren") [tk "(", sq ts, tk ")"]
def alt (ts : List Syntax) : Syntax := nk (kT "first") [tk "first", nl (ts.map fun a => nk `group [tk "|", sq [a]])]
def tr (t : Syntax) : Syntax := nk (kT "tacticTry_") [tk "try", sq [t]]
def rept (t : Syntax) : Syntax := nk (kT "tacticRepeat_") [tk "repeat", sq [t]]
def red (t : Syntax) : Syntax := nk (kT "withReducible") [tk "with_reducible", sq [t]]
def idn (n : String) : Syntax := mkIdent n.toName
def is (l : String) : List Syntax := (ws l).map idn
def ids (l : String) : Syntax := nl (is l)
def ap (f : String) (as : List Syntax) : Syntax := nk (kM "app") [idn f, nl as]
def hol : Syntax := nk (kM "hole") [tk "_"]
def qm : Syntax := nk (kM "syntheticHole") [tk "?", tk "_"]
def byt (t : Syntax) : Syntax := nk (kM "byTactic") [tk "by", sq [t]]
def rf (f : String) (as : List Syntax) : Syntax := nk (kT "refine") [tk "refine", ap f (as ++ [qm])]
def ext (t : Syntax) : Syntax := red (nk (kT "exact") [tk "exact", t])
def apl (n : String) : Syntax := red (nk (kT "apply") [tk "apply", idn n])
def wt (s : String) : Syntax := nk `PySem.W.tacticWtm_at_ [tk "wtm_at", Syntax.mkStrLit s]
def clr (l : String) : Syntax := nk (kT "clear") [tk "clear", ids l]
def intr (l : String) : Syntax := nk (kT "intro") [tk "intro", ids l]
def only (k : Name) (w : String) (l : String) (loc : List Syntax) : Syntax :=
 nk k [tk w, nk (kT "optConfig") [nl []], nl [], nl [tk "only"], nl [tk "[", nl (((ws l).map fun n => nk (kT "simpLemma") [nl [], nl [], idn n]).intersperse (tk ",")), tk "]"], nl loc]
def sim (l : String) : Syntax := only (kT "simp") "simp" l []
def dsi (l : String) : Syntax := tr (only (kT "dsimp") "dsimp" l [])
def dsS (l : String) : Syntax := tr (only (kT "dsimp") "dsimp" l [nk (kT "location") [tk "at", nk (kT "locationHyp") [ids "S"]]])
def krf : Syntax := byt (nk `tacticKernel_rfl [tk "kernel_rfl"])
def rrf : Syntax := nk (kT "tacticRfl") [tk "rfl"]
def nums (f : String) : List Syntax := (List.range 12).map fun k => rf f [Syntax.mkNumLit (toString k), idn "S", idn "rfl", idn "rfl", byt (red rrf)]
def globs (f : String) (c : String) (n : Nat) : List Syntax := (List.range n).map fun k => red (rf f [idn "O", idn "S", idn (c ++ toString k), idn "hE", krf])
def pl (l : String) : List Syntax := (ws l).map fun n => red (rf n [])
def shw (t : Syntax) (ts : List Syntax) : Syntax := par [red (nk (kT "show") [tk "show", ap "wpAny" [hol, hol, t, hol, hol, hol]]), alt ts]
def unf (n : String) : Syntax := nk (kT "unfold") [tk "unfold", ids n, nl []]
def apps : String := "List.append_eq List.cons_append List.nil_append List.append_assoc"
def word (w : String) : List Syntax := match w with
 | "mem1" => [alt [nk (kT "assumption") [tk "assumption"], ext (idn "List.mem_cons_self"), par [apl "List.mem_cons_of_mem", wt "mem1"], par [apl "List.mem_append_left", wt "mem1"], par [apl "List.mem_append_right", wt "mem1"]]]
 | "mem" => [tr (red (sim apps)), wt "mem1"]
 | "name" => [alt (nums "lLq")]
 | "lname" => [alt (nums "lNq")]
 | "store" => [alt (nums "sLq"), clr "S", intr "s S"]
 | "glob" => [alt (globs "lGb" "g_" 16 ++ globs "lBb" "b_" 15)]
 | "tok" => [alt ((ws "c_int c_str b_add b_sub i_add i_sub b_sub_bool u_neg").map fun n => red (rf n [idn "S"])), clr "S", intr "tok s S"]
 | "xs" => [alt (pl "xs_return xs_assign xs_nil xs_attr xs_sub xs_two xs_aug_attr xs_aug xs_for xs_while xs_try xs_del xs_break xs_continue")]
 | "ev" => [alt (pl "Attribute_any_ m_call ms_call e_call wpAny_BinOp Subscript_ Constant_bool Constant_none List_ Tuple_ wpAny_Compare1 wpAny_UnaryOp BoolOp_or BoolOp_one wpAny_NamedExpr ite_if")]
 | "tr" => [alt (pl "wpAny_isTrue_Compare1 t_and t_or isTrue_or_nil t_name t_call t_attr t_bin t_const isTrue_and_nil isTrue_not")]
 | "op" => [alt (pl "ar_cons ar_nil cw_type cw_builtin cw_m1 cw_m0 PyProof.Rows.callWith_type0 wpAny_assign_Name ep_none ep_some as_sub gt_int ge_int le_int lt_int eq_int ne_int eq_str ne_str wpAny_truthy_bool is_ref_none is_none_none isnot_none_none isnot_ref_none")]
 | "ct" => [alt (pl "cont_next cont_ret cont_brk cont_cont lr_next lr_ret turn_next turn_cont turn_brk turn_ret body_ret body_next if_tt if_ff")]
 | "step" => [alt [shw (ap "eval" [ap "Expr.Name" [hol, hol], hol]) [wt "name", wt "glob"], shw (ap "execs" [hol, hol]) [wt "xs", red (rf "xs_expr" [idn "fn"])], shw (ap "eval" [hol, hol]) [wt "ev", red (rf "e_slice" [nk (kM "namedArgument") [tk "(", idn "B", tk ":=", idn "B", tk ")"]]), wt "tok"],
   shw (ap "storeName" [hol, hol, hol]) [wt "store"], shw (ap "isTrue" [hol, hol, hol]) [wt "tr"], shw (ap "loadName" [hol, hol]) [wt "lname"], shw hol [wt "op", wt "tok"], wt "ct"]]
 | "go" => [rept (wt "step")]
 | "if" => [red (rf "xs_if" [])]
 | "sub" => [dsi "LL", tr (red (sim apps)), rept (alt [ext (ap "List.Sublist.refl" [hol]), apl "List.Sublist.cons_cons", apl "List.Sublist.cons", ext (ap "List.sublist_append_right" [hol, hol]), ext (ap "List.nil_sublist" [hol])])]
 | "pull" => [alt [ext (idn "Pull.here"), par [apl "Pull.there", wt "pull"]]]
 | "perm" => [dsi "LL", tr (sim "List.cons_append List.nil_append List.append_assoc"), rept (alt [ext (ap "List.Perm.refl" [hol]), par [apl "pull", wt "pull"]])]
 | "cell" => [rf "lC" (is "S hE hcs" ++ [byt rrf, idn "rfl", byt (wt "mem")])]
 | "pk" => [rf "packG" [], intr "TT"]
 | "ps" => [tr (par [rf "packS" [idn "S"], clr "S", intr "FF LL S"])]
 | "pq" => [tr (alt [par [rf "packT" [], intr "QQ"], par [rf "packC" [], intr "QQ"], par [rf "packI" [], intr "QQ QN"]])]
 | "us" => [dsS "LL", dsS "G1", dsS "G2", dsS "G3", dsS "FF"]
 | "un" => [dsS "FF", dsS "fset List.set"]
 | "ung" => [dsi "LL", dsi "G1", dsi "G2", dsi "G3"]
 | "srt" => [wt "ung", unf "srtL", wt "mem"]
 | "lex" => [wt "ung", unf "lexL", wt "mem"]
 | "nod" => [wt "ung", unf "nodL", wt "mem"]
 | "permc" => [dsi "LL", tr (sim "List.cons_append List.nil_append List.append_assoc"), nk (kT "classical") [tk "classical", sq [nk (kT "rwSeq") [tk "rw", nk (kT "optConfig") [nl []], nk (kT "rwRuleSeq") [tk "[", nl [nk (kT "rwRule") [nl [], idn "List.perm_iff_count"]], tk "]"], nl []],
   intr "x", sim "List.count_append List.count_cons List.count_nil", nk (kT "lia") [tk "lia", nk (kT "optConfig") [nl []]]]]]
 | _ => []
end
noncomputable def fen : List Fm → Option Env
 | f :: _ => some f.1.env
 | [] => none
noncomputable def fnm (F : List Fm) (k : Nat) : Option Str := match F with
 | f :: _ => f.1.names[k]?
 | [] => none
noncomputable def fvl (F : List Fm) (k : Nat) : Option (Option Value) := match F with
 | f :: _ => f.2[k]?
 | [] => none
noncomputable def fset (F : List Fm) (k : Nat) (v : Value) : List Fm := match F with
 | f :: r => (f.1, f.2.set k (some v)) :: r
 | [] => []
section
variable {M : Model} {A : Around} {env : Env} {tgt elt c : Expr} {v : Value} {body : List Stmt} {R : Result → Shared → Prop} {E : Value → Shared → Prop} {s : Shared} {B : Bs} {F : List Fm} {L : List (Addr × O)} {x : Str} {pos : Pos}
theorem packT {K : Shared → Prop} (h : let QQ := TurnQ K R; wpAny M A (assign tgt env v) (fun _ s₂ => wpAny M A (execs body env) QQ E s₂) E s) : wpAny M A (assign tgt env v) (fun _ s₂ => wpAny M A (execs body env) (TurnQ K R) E s₂) E s := h
theorem packC {K : Value → Shared → Prop} (h : let QQ := K; wpAny M A (assign tgt env v) (fun _ s₂ => wpAny M A (eval elt env) QQ E s₂) E s) : wpAny M A (assign tgt env v) (fun _ s₂ => wpAny M A (eval elt env) K E s₂) E s := h
theorem packI {K : Value → Shared → Prop} {N : Shared → Prop} (h : let QQ := K; let QN := N; wpAny M A (assign tgt env v) (fun _ s₂ => wpAny M A (isTrue c env (eval c env)) (fun ok s₂ => (ok = true → wpAny M A (eval elt env) QQ E s₂) ∧ (ok = false → QN s₂)) E s₂) E s) :
  wpAny M A (assign tgt env v) (fun _ s₂ => wpAny M A (isTrue c env (eval c env)) (fun ok s₂ => (ok = true → wpAny M A (eval elt env) K E s₂) ∧ (ok = false → N s₂)) E s₂) E s := h
theorem lLp {Q : Value → Shared → Prop} (k : Nat) (S : St B F L s) (hh : fen F = some env ∧ fnm F k = some x ∧ fvl F k = some (some v)) (h : Q v s)
  (hd : (x == ("__debug__" : Str)) = false := by decide +kernel) : wpAny M A (eval (.Name x pos) env) Q E s := by
 obtain ⟨he, hn, hv⟩ := hh
 cases F with
 | nil => cases he
 | cons f r =>
  cases he
  exact ldL k S hn hv h hd
theorem lNp {Q : Value → Shared → Prop} (k : Nat) (S : St B F L s) (hh : fen F = some env ∧ fnm F k = some x ∧ fvl F k = some (some v)) (h : Q v s) : wpAny M A (loadName env x) Q E s := by
 obtain ⟨he, hn, hv⟩ := hh
 cases F with
 | nil => cases he
 | cons f r =>
  cases he
  exact wpAny_loadName_local f.1.fn (f.1.kd x (List.mem_of_getElem? hn)) (S.fr _ List.mem_cons_self) (lookV_at f.1.nd hn hv) h
theorem sLp {Q : Unit → Shared → Prop} (k : Nat) (S : St B F L s) (hh : fen F = some env ∧ fnm F k = some x ∧ (fvl F k).isSome = true) (h : ∀ s', St B (fset F k v) L s' → Q () s') : wpAny M A (storeName env x v) Q E s := by
 obtain ⟨he, hn, hk⟩ := hh
 cases F with
 | nil => cases he
 | cons f r =>
  cases he
  refine stL k S hn ?_ h
  obtain ⟨y, hy⟩ := Option.isSome_iff_exists.mp hk
  exact (List.getElem?_eq_some_iff.mp hy).1
end
noncomputable def fkx (F : List Fm) (k : Nat) : Option (Env × Str) := match F with
 | f :: _ => (match f.1.names[k]? with | some x => some (f.1.env, x) | none => none)
 | [] => none
theorem fkx_of {F : List Fm} {k : Nat} {env : Env} {x : Str} (h : fkx F k = some (env, x)) : fen F = some env ∧ fnm F k = some x := by
 cases F with
 | nil => cases h
 | cons f r =>
  unfold fkx at h
  dsimp only at h
  unfold fen fnm
  cases hn : f.1.names[k]? with
  | none => rw [hn] at h; cases h
  | some z => rw [hn] at h; cases h; exact ⟨rfl, hn⟩
section
variable {M : Model} {A : Around} {env : Env} {v : Value} {E : Value → Shared → Prop} {s : Shared} {B : Bs} {F : List Fm} {L : List (Addr × O)} {x y : Str} {pos : Pos}
theorem lLq {Q : Value → Shared → Prop} (k : Nat) (S : St B F L s) (hk : fkx F k = some (env, y)) (hv : fvl F k = some (some v)) (hy : y = x) (h : Q v s)
  (hd : (x == ("__debug__" : Str)) = false := by decide +kernel) : wpAny M A (eval (.Name x pos) env) Q E s :=
 lLp k S (hy ▸ ⟨(fkx_of hk).1, (fkx_of hk).2, hv⟩) h hd
theorem lNq {Q : Value → Shared → Prop} (k : Nat) (S : St B F L s) (hk : fkx F k = some (env, y)) (hv : fvl F k = some (some v)) (hy : y = x) (h : Q v s) : wpAny M A (loadName env x) Q E s :=
 lNp k S (hy ▸ ⟨(fkx_of hk).1, (fkx_of hk).2, hv⟩) h
theorem sLq {Q : Unit → Shared → Prop} (k : Nat) (S : St B F L s) (hk : fkx F k = some (env, y)) (hs : (fvl F k).isSome = true) (hy : y = x) (h : ∀ s', St B (fset F k v) L s' → Q () s') : wpAny M A (storeName env x v) Q E s :=
 sLp k S (hy ▸ ⟨(fkx_of hk).1, (fkx_of hk).2, hs⟩) h
end
theorem w_eq {M : Model} {A : Around} {E : Value → Shared → Prop} {s : Shared} {α : Type} {t t' : Sem α} {Q : α → Shared → Prop} (e : t = t') (h : wpAny M A t' Q E s) : wpAny M A t Q E s := e ▸ h
noncomputable def isB (x : Str) (v : Value) : Prop := (∀ P, nsIn (KF P) mainGlobals x = some none) ∧ bootBuiltins x = some v ∧ x ≠ "__name__" ∧ (x == ("__debug__" : Str)) = false
noncomputable def isG (x : Str) (v : Value) : Prop := (∀ P, nsIn (KF P) mainGlobals x = some (some v)) ∧ (x == ("__debug__" : Str)) = false
section
variable {prog : Program} {w : World} {B : Bs} {fs : List Fm} {L : List (Addr × O)} {s : Shared} {A : Around} {E : Value → Shared → Prop} {env : Env} {x : Str} {v : Value} {pos : Pos} {scope : Scope} {M : Model} {Q : Value → Shared → Prop}
theorem lBb (O : Ok B w) (S : St B fs L s) (b : isB x v) (hE : EnvIs env scope) (hx : scope.names.lookup x = some .globalImplicit) (h : Q v s) : wpAny M A (eval (.Name x pos) env) Q E s := lB O S b.1 b.2.1 hE hx h b.2.2.1 b.2.2.2
theorem lGb (O : Ok B w) (S : St B fs L s) (b : isG x v) (hE : EnvIs env scope) (hx : scope.names.lookup x = some .globalImplicit) (h : Q v s) : wpAny M A (eval (.Name x pos) env) Q E s := lG O S b.1 hE hx h b.2
end
theorem g_0 : isG (Str.ofString "_NODE_OUT") (.int (-1) 217) := ⟨fun _ => by kernel_rfl, by decide +kernel⟩
theorem g_1 : isG (Str.ofString "_NODE_DONE") (.int (-2) 220) := ⟨fun _ => by kernel_rfl, by decide +kernel⟩
theorem g_2 : isG (Str.ofString "unorderable_list_difference") (.ref 28) := ⟨fun _ => by kernel_rfl, by decide +kernel⟩
theorem g_3 : isG (Str.ofString "three_way_cmp") (.ref 35) := ⟨fun _ => by kernel_rfl, by decide +kernel⟩
theorem g_4 : isG (Str.ofString "_NodeInfo") (.ref 54) := ⟨fun _ => by kernel_rfl, by decide +kernel⟩
theorem g_5 : isG (Str.ofString "CycleError") (.ref 69) := ⟨fun _ => by kernel_rfl, by decide +kernel⟩
theorem g_6 : isG (Str.ofString "TopologicalSorter") (.ref 151) := ⟨fun _ => by kernel_rfl, by decide +kernel⟩
theorem g_7 : isG (Str.ofString "_netrclex") (.ref 193) := ⟨fun _ => by kernel_rfl, by decide +kernel⟩
theorem g_8 : isG (Str.ofString "_law_lexer") (.ref 204) := ⟨fun _ => by kernel_rfl, by decide +kernel⟩
theorem g_9 : isG (Str.ofString "_law_text") (.ref 209) := ⟨fun _ => by kernel_rfl, by decide +kernel⟩
theorem g_10 : isG (Str.ofString "_law_row") (.ref 216) := ⟨fun _ => by kernel_rfl, by decide +kernel⟩
theorem g_11 : isG (Str.ofString "_law_rounds") (.ref 223) := ⟨fun _ => by kernel_rfl, by decide +kernel⟩
theorem g_12 : isG (Str.ofString "_law_spans") (.ref 228) := ⟨fun _ => by kernel_rfl, by decide +kernel⟩
theorem g_13 : isG (Str.ofString "_law_depths") (.ref 233) := ⟨fun _ => by kernel_rfl, by decide +kernel⟩
theorem g_14 : isG (Str.ofString "_law_apart") (.ref 240) := ⟨fun _ => by kernel_rfl, by decide +kernel⟩
theorem g_15 : isG (Str.ofString "_law_works") (.ref 245) := ⟨fun _ => by kernel_rfl, by decide +kernel⟩
theorem b_0 : isB (Str.ofString "enumerate") (.type "enumerate") := ⟨fun _ => by kernel_rfl, by kernel_rfl, by decide +kernel, by decide +kernel⟩
theorem b_1 : isB (Str.ofString "len") (.builtin "len") := ⟨fun _ => by kernel_rfl, by kernel_rfl, by decide +kernel, by decide +kernel⟩
theorem b_2 : isB (Str.ofString "max") (.builtin "max") := ⟨fun _ => by kernel_rfl, by kernel_rfl, by decide +kernel, by decide +kernel⟩
theorem b_3 : isB (Str.ofString "sum") (.builtin "sum") := ⟨fun _ => by kernel_rfl, by kernel_rfl, by decide +kernel, by decide +kernel⟩
theorem b_4 : isB (Str.ofString "zip") (.type "zip") := ⟨fun _ => by kernel_rfl, by kernel_rfl, by decide +kernel, by decide +kernel⟩
theorem b_5 : isB (Str.ofString "range") (.type "range") := ⟨fun _ => by kernel_rfl, by kernel_rfl, by decide +kernel, by decide +kernel⟩
theorem b_6 : isB (Str.ofString "list") (.type "list") := ⟨fun _ => by kernel_rfl, by kernel_rfl, by decide +kernel, by decide +kernel⟩
theorem b_7 : isB (Str.ofString "tuple") (.type "tuple") := ⟨fun _ => by kernel_rfl, by kernel_rfl, by decide +kernel, by decide +kernel⟩
theorem b_8 : isB (Str.ofString "sorted") (.builtin "sorted") := ⟨fun _ => by kernel_rfl, by kernel_rfl, by decide +kernel, by decide +kernel⟩
theorem b_9 : isB (Str.ofString "int") (.type "int") := ⟨fun _ => by kernel_rfl, by kernel_rfl, by decide +kernel, by decide +kernel⟩
theorem b_10 : isB (Str.ofString "iter") (.builtin "iter") := ⟨fun _ => by kernel_rfl, by kernel_rfl, by decide +kernel, by decide +kernel⟩
theorem b_11 : isB (Str.ofString "set") (.type "set") := ⟨fun _ => by kernel_rfl, by kernel_rfl, by decide +kernel, by decide +kernel⟩
theorem b_12 : isB (Str.ofString "bool") (.type "bool") := ⟨fun _ => by kernel_rfl, by kernel_rfl, by decide +kernel, by decide +kernel⟩
theorem b_13 : isB (Str.ofString "ValueError") (.type "ValueError") := ⟨fun _ => by kernel_rfl, by kernel_rfl, by decide +kernel, by decide +kernel⟩
theorem b_14 : isB (Str.ofString "StopIteration") (.type "StopIteration") := ⟨fun _ => by kernel_rfl, by kernel_rfl, by decide +kernel, by decide +kernel⟩
end
section
open PySem PySem.W PyProof.Rows PySem.Calls
theorem t_and {M : Model} {A : Around} {env : Env} {E : Value → Shared → Prop} {s : Shared} {x rest pos whole} {Q : Bool → Shared → Prop}
  (h : wpAny M A (isTrue x env (eval x env)) (fun c s' => (c = true → wpAny M A (isTrue (.BoolOp .And rest pos) env whole) Q E s') ∧ (c = false → Q false s')) E s) :
  wpAny M A (isTrue (.BoolOp .And (x :: rest) pos) env whole) Q E s := isTrue_and (wpAny_mono h (fun c _ h => by cases c; exact h.2 rfl; exact h.1 rfl) fun _ _ h => h)
theorem t_or {M : Model} {A : Around} {env : Env} {E : Value → Shared → Prop} {s : Shared} {x rest pos whole} {Q : Bool → Shared → Prop}
  (h : wpAny M A (isTrue x env (eval x env)) (fun c s' => (c = true → Q true s') ∧ (c = false → wpAny M A (isTrue (.BoolOp .Or rest pos) env whole) Q E s')) E s) :
  wpAny M A (isTrue (.BoolOp .Or (x :: rest) pos) env whole) Q E s := isTrue_or (wpAny_mono h (fun c _ h => by cases c; exact h.2 rfl; exact h.1 rfl) fun _ _ h => h)
theorem iff_no {b : Bool} {C : Prop} (h : b = true ↔ C) (hb : b = false) : ¬ C := fun q => by have := h.mpr q; rw [hb] at this; cases this
theorem cutB {M : Model} {A : Around} {E : Value → Shared → Prop} {s : Shared} {B : Bs} {fs : List Fm} {L : List (Addr × O)} {c : Sem Bool} {Q : Bool → Shared → Prop} (C : Prop) (_ : St B fs L s)
  (h : wpAny M A c (fun b s' => (b = true ↔ C) ∧ St B fs L s') E s) (k : ∀ b s', (b = true ↔ C) → St B fs L s' → Q b s') : wpAny M A c Q E s :=
 wpAny_mono h (fun b s' h => k b s' h.1 h.2) fun _ _ h => h
noncomputable def Ret (Q E : Value → Shared → Prop) : Result → Shared → Prop := fun r s' => match r with | .ok (.ret v) => Q v s' | .ok _ => False | .error e => E e s'
theorem ret_ok {Q E : Value → Shared → Prop} {v : Value} {s : Shared} (h : Q v s) : Ret Q E (.ok (.ret v)) s := h
theorem w_call {M : Model} {A : Around} {E : Value → Shared → Prop} {s : Shared} {f : Value} {vs : List Value} {Q : Value → Shared → Prop} (h : codeAny M A (.call f ⟨vs, []⟩) (Ret Q E) s) : wpAny M A (call f vs) Q E s :=
 wpAny_call (codeAny_mono h fun r s' hr => by cases r with | error e => exact hr | ok f => cases f <;> exact hr)
section
variable {prog : Program} {w : World} {B : Bs} {fs : List Fm} {L L' : List (Addr × O)} {s : Shared} {A : Around} {E : Value → Shared → Prop} {n : Nat} {es : List Env} {Q : Value → Shared → Prop} {env : Env}
 {a : Addr} {vs vs' : List Value} {v : Value}
theorem base_get (O : Ok B w) (S : St B fs L s) {f : Addr} {o : Obj} (ho : ∀ P, (KF P).lookup f = some o) : s.heap.get? f = some o := S.old _ _ (O.K _ _ (ho _))
theorem ar_cons {M : Model} {e : Expr} {rest : List Expr} {pos : Pos} {Q : List Value → Shared → Prop}
  (h : wpAny M A (eval e env) (fun v s₁ => wpAny M A (spliced (backTo pos (starEach rest env))) (fun vs s₂ => Q (v :: vs) s₂) E s₁) E s)
  (he : starEach (e :: rest) env = (false, eval e env) :: starEach rest env := by with_unfolding_all rfl) : wpAny M A (spliced (backTo pos (starEach (e :: rest) env))) Q E s := args_cons h he
theorem ar_nil {M : Model} {pos : Pos} {Q : List Value → Shared → Prop} (h : Q [] s) : wpAny M A (spliced (backTo pos (starEach [] env))) Q E s := args_nil h
theorem e_call {M : Model} {func : Expr} {args : List Expr} {pos : Pos}
  (h : wpAny M A (eval func env) (fun f s₁ => wpAny M A (callWith pos f [] (backTo pos (starEach args env)) []) Q E s₁) E s)
  (he : eval (.Call func args [] pos) env = (do callWith pos (← eval func env) [] (backTo pos (starEach args env)) (backToKw pos (keywordEach [] env))) := by with_unfolding_all rfl) :
  wpAny M A (eval (.Call func args [] pos) env) Q E s := Call_ h he
theorem cw_type {M : Model} {pos : Pos} {T : String} {e : Expr} {rest : List Expr}
  (h : wpAny M A (spliced (backTo pos (starEach (e :: rest) env))) (fun vs s₁ => wpAny M A (call (.type T) vs) Q E s₁) E s)
  (he : starEach (e :: rest) env = (false, eval e env) :: starEach rest env := by with_unfolding_all rfl)
  (hplain : (backTo pos (starEach rest env)).any (·.1) = false := by with_unfolding_all rfl) : wpAny M A (callWith pos (.type T) [] (backTo pos (starEach (e :: rest) env)) []) Q E s := callWith_type1 h he hplain
theorem cw_builtin {M : Model} {pos : Pos} {id : String} {e : Expr} {rest : List Expr}
  (h : wpAny M A (spliced (backTo pos (starEach (e :: rest) env))) (fun vs s₁ => wpAny M A (call (.builtin id) vs) Q E s₁) E s)
  (he : starEach (e :: rest) env = (false, eval e env) :: starEach rest env := by with_unfolding_all rfl)
  (hplain : (backTo pos (starEach rest env)).any (·.1) = false := by with_unfolding_all rfl) : wpAny M A (callWith pos (.builtin id) [] (backTo pos (starEach (e :: rest) env)) []) Q E s := PyProof.Rows.callWith_builtin1 h he hplain
theorem t_enum (S : St B fs L s) (hl : IsL s a vs) (h : ∀ e it s', St B fs ([(e, enuO it (0 : Nat)), (it, litO a 0)] ++ L) s' → Q (.ref e) s') : wpAny (model prog w) A (call (.type "enumerate") [.ref a]) Q E s := by
 refine call_enumerate_list hl.at fun h' he hit hz hk => h (s.heap.objs.size + 1) s.heap.objs.size _ ?_
 have hF := S.fresh
 refine packG ?_; intro TT
 obtain ⟨o, ho, hc, hd⟩ := hit
 have S0 : St B fs L ⟨h', s.gens, s.drawn, s.toks, s.os⟩ := S.drop (I := []) (fun b o _ e => hk b o e)
 have S1 : St B fs ((s.heap.objs.size, litO a 0) :: L) ⟨h', s.gens, s.drawn, s.toks, s.os⟩ := S0.more ho ⟨hc, hd⟩ hF.1 hF.2.1 hF.2.2
 have lt : ∀ b o, s.heap.get? b = some o → b ≠ s.heap.objs.size + 1 := fun b o e => Nat.ne_of_lt (Nat.lt_succ_of_lt (Heap.lt_size e))
 refine S1.more (x := enuO s.heap.objs.size (0 : Nat)) he ⟨.none, rfl⟩ ?_ ?_ ?_
 ·cases q : B.h.get? (s.heap.objs.size + 1) with
  | none => rfl
  | some o' => exact absurd rfl (lt _ _ (S.old _ _ q))
 ·intro hm
  refine packG ?_; intro TT
  obtain ⟨f, hf, e⟩ := List.mem_map.mp hm
  obtain ⟨o', _, _, e', _⟩ := S.fr f hf
  exact lt _ _ e' e
 ·intro hm
  rw [List.map_cons] at hm
  rcases List.mem_cons.mp hm with e | hm
  ·simp at e
  ·refine packG ?_; intro TT
   obtain ⟨p, hp, e⟩ := List.mem_map.mp hm
   obtain ⟨o', e', _⟩ := S.led p hp
   exact lt _ _ e' e
theorem pi_enum {it : Addr} (S : St B fs L s) (hm : (a, enuO it (0 : Nat)) ∈ L) (h : Q (.ref a) s) : wpAny (model prog w) A (pyIter (.ref a)) Q E s := by
 refine packG ?_; intro TT
 obtain ⟨_, he, old, rfl⟩ := S.get hm
 exact wpAny_pyIter_enum he h
theorem pi_list (S : St B fs L s) (hl : IsL s a vs) (h : ∀ it s', St B fs ([(it, litO a 0)] ++ L) s' → Q (.ref it) s') : wpAny (model prog w) A (pyIter (.ref a)) Q E s := by
 exact wpAny_pyIter_list hl.at (h _ _ (S.alloc ⟨rfl, rfl⟩))
theorem pi_tup (S : St B fs L s) (hl : IsT s a vs) (h : ∀ it s', St B fs ([(it, titO a 0)] ++ L) s' → Q (.ref it) s') : wpAny (model prog w) A (pyIter (.ref a)) Q E s := by
 exact wpAny_pyIter_tuple hl.at (h _ _ (S.alloc ⟨rfl, rfl⟩))
theorem sub_list {value slice : Expr} {k : Int} {t : Tok} (hl : IsL s a vs) (h0 : 0 ≤ k) (hx : vs[k.toNat]? = some v) (h : Q v s) (hsz : vs.length < 2 ^ 63 := by size_fits)
  (hs : subscripted slice false (.ref a) (.int k t) = operate [.ref a, .int k t] (getItem (.ref a) (.int k t)) := by with_unfolding_all rfl) : wpAny (model prog w) A (subscriptTail value slice (.ref a) (.int k t)) Q E s := by
 have hk : k < 2 ^ 63 := by
  have := (List.getElem?_eq_some_iff.mp hx).1
  lia
 exact tail_any hl.ty slot_list_getitem.lookup (wpAny_getItem_list hl.at h0 hk (by simpa using hx) h) hs
theorem as_tup2 {e₁ e₂ : Expr} {x1 : Nat} {pos : Pos} {v₁ v₂ : Value} {Q : Unit → Shared → Prop} (hh : A.handled = none) (S : St B fs L s) (hl : IsT s a [v₁, v₂])
  (h : ∀ s', St B fs L s' → wpAny (model prog w) A (assign e₁ env v₁) (fun _ s₁ => wpAny (model prog w) A (assign e₂ env v₂) Q E s₁) E s')
  (he : assignEach [e₁, e₂] env = [(false, assign e₁ env), (false, assign e₂ env)] := by with_unfolding_all rfl) : wpAny (model prog w) A (assign (.Tuple [e₁, e₂] x1 pos) env (.ref a)) Q E s := by
 refine wpAny_assign_Tuple hh hl.at (by rw [he]; rfl) (by rw [he]; rfl) fun h' hx => ?_
 rw [he]
 have hF := S.fresh
 have S' : St B fs L ⟨h', s.gens, s.drawn, s.toks, s.os⟩ := S.drop (I := []) (fun b o _ e => hx b o (Nat.ne_of_lt (Heap.lt_size e)) e)
 refine wpAny_bind (wpAny_holding (wpAny_mono (h _ S') (fun _ s₁ h₁ => wpAny_bind (wpAny_holding (wpAny_mono h₁ (fun _ s₂ h₂ => wpAny_pure h₂) fun _ _ e => e))) fun _ _ e => e))
end
end
section
open PySem PySem.W PyProof.Rows PySem.Calls
noncomputable def nsO (names : List Str) (vals : List (Option Value)) : O := fun o => ∃ es ep, o.data = .dict es ep ∧ StrKeys es ∧ (∀ x, nsFind es x = lookV names vals x) ∧ es.size ≤ vals.countP (·.isSome)
theorem nsO.look {names : List Str} {vals : List (Option Value)} {o : Obj} (h : nsO names vals o) (x : Str) : lookIn x o = some (lookV names vals x) := by
 obtain ⟨es, ep, hd, hk, hf, hz⟩ := h
 unfold lookIn
 rw [hd, ← hf]
 dsimp only
 unfold nsFind findBy
 rw [← Array.find?_toList]
 cases he : es.toList.find? (·.key.isStr x) with
 | some e => rfl
 | none =>
  have : es.toList.any (·.refKey) = false := by
   rw [List.any_eq_false]; intro e he; obtain ⟨n, t, h⟩ := hk e (by simpa using he); simp [DictEntry.refKey, h]
  simp [this]
theorem countP_set_none {vals : List (Option Value)} {k : Nat} {v : Value} (h : vals[k]? = some none) : (vals.set k (some v)).countP (·.isSome) = vals.countP (·.isSome) + 1 := by
 induction vals generalizing k with
 | nil => simp at h
 | cons x xs ih => cases k with
  | zero => simp at h; subst h; simp [List.countP_cons]
  | succ k => simp at h; simp [List.countP_cons, ih h]; lia
theorem countP_set_some {vals : List (Option Value)} {k : Nat} {u v : Value} (h : vals[k]? = some (some u)) : (vals.set k (some v)).countP (·.isSome) = vals.countP (·.isSome) := by
 induction vals generalizing k with
 | nil => simp at h
 | cons x xs ih => cases k with
  | zero => simp at h; subst h; simp [List.countP_cons]
  | succ k => simp at h; simp [List.countP_cons, ih h]
theorem nsO.put {names : List Str} {vals : List (Option Value)} {o : Obj} (h : nsO names vals o) {name : Str} {k : Nat} (hn : names.Nodup) (e : names[k]? = some name) (hl : k < vals.length) (hash : Int) (tok : Tok) (v : Value) :
  nsO names (vals.set k (some v)) (o.putName name hash (.str name tok) v) := by
 obtain ⟨es, ep, hd, hk, hf, hz⟩ := h
 obtain ⟨c, d, dt, sl⟩ := o
 dsimp only at hd
 subst hd
 have hlk := lookV_at hn e (v := vals[k]) (vs := vals) (by simp [hl])
 have hfn := hf name
 rw [hlk] at hfn
 cases hi : es.findIdx? (·.key.isStr name) with
 | some i =>
  refine ⟨_, ep, by simp only [Obj.putName_eq, Obj.putNameByArray, hi]; rfl, hk.modify _ _, fun x => ?_, ?_⟩
  ·rw [← lookV_set hn e hl]
   show _ = if x = name then some v else lookV names vals x
   rw [← hf]; exact findBy_modify (fun n v => v.isStr n) Value.isStr_inj es name x v i hi
  ·cases q : vals[k] with
   | none =>
    rw [q] at hfn
    have : nsFind es name = es[i]?.map (·.val) := by unfold nsFind; rw [findBy_of_findIdx?, hi]
    rw [this] at hfn
    have := (Array.findIdx?_eq_some_iff_getElem.mp hi).1
    simp [this] at hfn
   | some u =>
    rw [countP_set_some (u := u) (by rw [← q]; simp [hl])]
    simpa using hz
 | none =>
  refine ⟨_, ep + 1, by simp only [Obj.putName_eq, Obj.putNameByArray, hi]; rfl, hk.push _ _ _ _, fun x => ?_, ?_⟩
  ·rw [← lookV_set hn e hl]
   show _ = if x = name then some v else lookV names vals x
   rw [← hf]
   exact findBy_push (fun n v => v.isStr n) es name x _ _ v (fun y => by
    show (name == y) = decide (y = name)
    by_cases h : y = name
    ·subst h; simp
    ·have : ¬ name = y := fun e => h e.symm
     simp [h, this]) hi
  ·have : nsFind es name = none := by unfold nsFind; rw [findBy_of_findIdx?, hi]
   rw [this] at hfn
   rw [countP_set_none (by rw [hfn]; simp [hl])]
   simpa using hz
noncomputable def instO (C dx : Addr) : O := raw (instObj C dx)
noncomputable def At (s : Shared) (a : Addr) (x : O) : Prop := ∃ o, s.heap.get? a = some o ∧ x o
section
variable {prog : Program} {w : World} {B : Bs} {fs : List Fm} {L L' : List (Addr × O)} {s : Shared} {A : Around} {E : Value → Shared → Prop} {n : Nat} {es : List Env} {env : Env}
 {x C dx a : Addr} {vs vs' : List Value} {v : Value} {names : List Str} {vals : List (Option Value)} {name : Str} {k : Nat}
theorem St.K (S : St B fs L s) (O : Ok B w) : (KF w.params).In s.heap := fun a o e => S.old _ _ (O.K a o e)
theorem St.at (S : St B fs L s) {z : O} (h : (a, z) ∈ L) : At s a z := S.get h
theorem At.inst (hx : At s x (instO C dx)) (hd : At s dx (nsO names vals)) : ∃ od, s.heap.get? dx = some od ∧ nsO names vals od ∧ InstAt s.heap x (instObj C dx) C (some od) := by
 obtain ⟨o, e, rfl⟩ := hx
 obtain ⟨od, e', i⟩ := hd
 exact ⟨od, e', i, e, rfl, rfl, e'⟩
theorem g_own {expr : Bool} {Q : Value → Shared → Prop} (k : Nat) (O : Ok B w) (S : St B fs L s) (hx : At s x (instO C dx)) (hd : At s dx (nsO names vals)) (hn : names.Nodup) (e : names[k]? = some name) (hv : vals[k]? = some (some v))
  (hg : ∀ P, plainGet (KF P) C name = true) (hh : ∀ P, hasDictIn (KF P) C = true) (ha : ∀ P, findIn (KF P) (.ref C) name = some none) (hv' : handedIn v = true) (h : ∀ s', St B fs L s' → Q v s') :
  wpAny (model prog w) A (getAttr (.ref x) name expr) Q E s := by
 refine packG ?_; intro TT
 obtain ⟨od, e', i, I⟩ := hx.inst hd
 exact get_value (S.K O) I (plainGet_of (hg _)).1 (findObj_own (hh _) (ha _) rfl (by rw [i.look, lookV_at hn e hv])) hv' (h _ (S.toks rfl rfl rfl))
theorem m_cls {pl : Sem Bool} {Q : Value × List Value → Shared → Prop} {f : Addr} (O : Ok B w) (S : St B fs L s) (hx : At s x (instO C dx)) (hd : At s dx (nsO names vals)) (hn : lookV names vals name = none)
  (hg : ∀ P, plainGet (KF P) C name = true) (hf : ∀ P, findIn (KF P) (.ref C) name = some (some (.ref f))) (ht : ∀ P, isFn (KF P) (.ref f) = true) (h : Q (.ref f, [.ref x]) s) : wpAny (model prog w) A (getMethod (.ref x) name pl) Q E s := by
 refine packG ?_; intro TT
 obtain ⟨od, e', i, I⟩ := hx.inst hd
 exact method_fn (S.K O) I (plainGet_of (hg _)).1 (plainGet_of (hg _)).2 (hf _) (beq_iff_eq.mp (ht _)) (by show (lookIn name od).map _ = _; rw [i.look, hn]; rfl) h
theorem m_own {pl : Sem Bool} {Q : Value × List Value → Shared → Prop} (k : Nat) (O : Ok B w) (S : St B fs L s) (hx : At s x (instO C dx)) (hd : At s dx (nsO names vals)) (hn : names.Nodup) (e : names[k]? = some name) (hv : vals[k]? = some (some v))
  (hg : ∀ P, plainGet (KF P) C name = true) (hh : ∀ P, hasDictIn (KF P) C = true) (ha : ∀ P, findIn (KF P) (.ref C) name = some none) (hv' : handedIn v = true) (h : ∀ s', St B fs L s' → Q (v, []) s') :
  wpAny (model prog w) A (getMethod (.ref x) name pl) Q E s := by
 refine packG ?_; intro TT
 obtain ⟨od, e', i, I⟩ := hx.inst hd
 exact method_usual (S.K O) I (plainGet_of (hg _)).1 (plainGet_of (hg _)).2 (ha _) rfl (g_own k O S hx hd hn e hv hg hh ha hv' h)
theorem s_own {Q : Unit → Shared → Prop} (k : Nat) (O : Ok B w) (S : St B fs L s) (hx : At s x (instO C dx)) {z y : Mine.O} (u : Upd dx z y L L') (hd : At s dx (nsO names vals)) (hy : ∀ o, nsO names (vals.set k (some v)) o → y o) (hn : names.Nodup) (e : names[k]? = some name) (hl : k < vals.length) (hz : vals.length ≤ 100)
  (hs : ∀ P, findIn (KF P) (.ref C) "__setattr__" = some (some (.builtin "object.__setattr__"))) (hp : ∀ P, plainOver (KF P) C = true) (ht : ∀ P, takerIn (KF P) C name = some none) (hh : ∀ P, hasDictIn (KF P) C = true)
  (h : ∀ s', St B fs L' s' → Q () s') : wpAny (model prog w) A (setAttr (.ref x) name v) Q E s := by
 refine packG ?_; intro TT
 obtain ⟨od, e', i, I⟩ := hx.inst hd
 refine set_plain (S.K O) I (hs _) ?_
 have S1 : St B fs L { s with toks := s.toks + 1 } := S.toks rfl rfl rfl
 refine osa_open (s := { s with toks := s.toks + 1 }) (S1.K O) I (hp _) (ht _) fun b => ?_
 refine packG ?_; intro TT
 obtain ⟨cd, hc, hd'⟩ := any_some (hh w.params)
 have i' := i.put hn e hl (PyData.keyHash w.params name) (s.toks + 1) v
 have i'' := i'
 refine packG ?_; intro TT
 obtain ⟨es', ep', hd2, hk2, hf2, hz2⟩ := i''
 have hfr : (od.putName name (PyData.keyHash w.params name) (.str name (s.toks + 1)) v).isFreed = false := Obj.isFreed_of_dict hd2
 have D' := Heap.get?_update_self (h := s.heap) (a := dx) (Obj.putName name (PyData.keyHash w.params name) (.str name (s.toks + 1)) v) e' hfr
 have hsize : es'.size ≤ 1000 := by
  have := List.countP_le_length (p := fun (x : Option Value) => x.isSome) (l := vals.set k (some v))
  rw [List.length_set] at this; lia
 refine wpAny_bind (wpAny_pure (wpAny_bind (wpAny_bind (wpAny_loadPart I.at_ (wpAny_bind ((looks_clsIn (S1.K O) hc).here ?_))))))
 rw [hd']
 refine wpAny_pure (a := some dx) (wpAny_bind (wpAny_pure (wpAny_bind ?_)))
 unfold nsSet
 refine wpAny_bind (wpAny_bind (wpAny_askSetting (wpAny_pure (wpAny_bind (wpAny_mkText (wpAny_bind (wpAny_loadPart e' ?_)))))))
 obtain ⟨es₀, n₀, q, hk, hf, hz0⟩ := i
 rw [q]
 dsimp only
 have hany : es₀.any (·.refKey) = false := by
  rw [Array.any_eq_false']; intro e he; obtain ⟨n, t, h⟩ := hk e he; simp [DictEntry.refKey, h]
 rw [aRefKeyMayBeTheName_at, hany, Bool.and_false]
 refine wpAny_updatePart e' ?_
 refine wpAny_bind (wpAny_lookBehind D' (by rw [hd2]; exact pastItsLine_dict (by rw [sizeLine_eq]; lia)) ?_)
 exact wpAny_pure (h _ (S.upd u (Heap.SameBut.update ..) D' (hy _ i')))
theorem nsO_empty {names : List Str} : nsO names (names.map fun _ => none) emptyDict := by
 refine ⟨#[], 0, rfl, fun e he => by simp at he, fun x => ?_, by simp⟩
 have : ∀ ns : List Str, lookV ns (ns.map fun _ => none) x = none := by
  intro ns
  induction ns with
  | nil => rfl
  | cons m ns ih => simp only [List.map_cons, lookV]; split <;> first | rfl | exact ih
 rw [this]; rfl
theorem mk_inst {R : Result → Shared → Prop} {rest : List Value} {fI : Addr} (names : List Str) (O : Ok B w) (S : St B fs L s) (hm : ∀ P, makesIn (KF P) C = true) (hi : ∀ P, findIn (KF P) (.ref C) "__init__" = some (some (.ref fI))) (hf : ∀ P, typeIn (KF P) (.ref fI) = some (.type "function"))
  (h : ∀ x dx s', St B fs ((x, instO C dx) :: (dx, nsO names (names.map fun _ => none)) :: L) s' →
   codeAny (model prog w) (A.under (.builtin "type.__call__" ⟨.ref C :: rest, []⟩)) (.call (.ref fI) ⟨.ref x :: rest, []⟩) (InitBack x R) s') :
  codeAny (model prog w) A (.call (.ref C) ⟨rest, []⟩) R s := by
 have X := S.K O
 refine packG ?_; intro TT
 obtain ⟨hh, g, d, t, os⟩ := s
 refine make_core (makes_of X (hm _)) (looks_findIn X (hi _)) (fun self => bind_fn X self (hf _)) (.inl rfl) (h (hh.objs.size + 1) hh.objs.size _ ?_)
 have S1 := S.alloc (o := emptyDict) (y := nsO names (names.map fun _ => none)) nsO_empty (t := t) (d := d)
 have S2 := S1.alloc (o := instObj C hh.objs.size) (y := instO C hh.objs.size) rfl (t := t) (d := d)
 rwa [Heap.size_push] at S2
end
end
section
open PySem PySem.W PyProof.Rows PySem.Calls
noncomputable def others (h : Heap) (X : List Addr) : List (Addr × Obj) := (List.range h.objs.size).filterMap fun b => if b ∈ X then none else (h.get? b).map fun o => (b, o)
theorem mem_others {h : Heap} {X : List Addr} {b : Addr} {o : Obj} : (b, o) ∈ others h X ↔ h.get? b = some o ∧ b ∉ X := by
 unfold others
 rw [List.mem_filterMap]
 constructor
 ·rintro ⟨c, _, e⟩
  split at e
  ·cases e
  ·rename_i hc
   obtain ⟨o', e', q⟩ := Option.map_eq_some_iff.mp e
   cases q
   exact ⟨e', hc⟩
 ·rintro ⟨e, hb⟩
  exact ⟨b, List.mem_range.mpr (Heap.lt_size e), by rw [if_neg hb, e]; rfl⟩
noncomputable def nilHeap : Heap := {}
theorem nil_get (b : Addr) : nilHeap.get? b = none := by simp [nilHeap, Heap.get?]
section
variable {prog : Program} {w : World} {B : Bs} {fs : List Fm} {L L' : List (Addr × O)} {s : Shared} {A : Around} {E : Value → Shared → Prop} {n : Nat} {es : List Env} {env : Env}
 {x C dx a : Addr} {vs vs' : List Value} {v : Value} {names : List Str} {vals : List (Option Value)} {name : Str} {k : Nat} {b : Blk} {ls : List (Option Value)}
theorem St.toFr (S : St B ((b, ls) :: fs) L s) : Fr nilHeap b.env.locals s.heap (lookV b.names ls) := ⟨S.fr _ List.mem_cons_self, fun b o e => (by rw [nil_get] at e; cases e), Nat.zero_le _⟩
theorem St.toNews (S : St B ((b, ls) :: fs) L s) {x : O} {o : Obj} (hm : (a, x) ∈ L) (ho : s.heap.get? a = some o) : News nilHeap b.env.locals s.heap ([] ++ (a, o) :: others s.heap [b.env.locals, a]) := by
 intro p hp
 rcases List.mem_cons.mp hp with rfl | hp
 ·exact ⟨ho, fun e => S.ne List.mem_cons_self hm e.symm, nil_get _⟩
 ·have := mem_others.mp (show (p.1, p.2) ∈ _ from hp)
  exact ⟨this.1, fun e => this.2 (by simp [e]), nil_get _⟩
theorem St.ofNews (S : St B ((b, ls) :: fs) L s) {x y : O} (u : Upd a x y L L') {h' : Heap} {o' : Obj} (F' : Fr nilHeap b.env.locals h' (lookV b.names ls)) (N' : News nilHeap b.env.locals h' ([] ++ (a, o') :: others s.heap [b.env.locals, a])) (hy : y o') {t : Nat} {d : Drawn} :
  St B ((b, ls) :: fs) L' ⟨h', s.gens, d, t, s.os⟩ := by
 have keep : ∀ c o, s.heap.get? c = some o → c ≠ b.env.locals → c ≠ a → h'.get? c = some o := fun c o e h1 h2 => (N' (c, o) (List.mem_cons_of_mem _ (mem_others.mpr ⟨e, by simp [h1, h2]⟩))).1
 have hnd := S.nd
 simp only [List.map_cons, List.cons_append, List.nodup_cons] at hnd
 refine ⟨fun c o e => keep c o (S.old c o e) (fun q => ?_) (fun q => ?_), S.os, S.gens, fun f hf => ?_, fun p hp => ?_, by rw [u.keys]; exact S.nd, by rw [u.keys]; exact S.new⟩
 ·have := S.new b.env.locals (by simp); rw [← q, e] at this; cases this
 ·have := S.new a (List.mem_append_right _ (List.mem_map_of_mem u.mem)); rw [← q, e] at this; cases this
 ·rcases List.mem_cons.mp hf with rfl | hf
  ·exact F'.ns
  ·obtain ⟨o, es, ep, e, r⟩ := S.fr f (List.mem_cons_of_mem _ hf)
   exact ⟨o, es, ep, keep _ _ e (fun q => hnd.1 (q ▸ List.mem_append_left _ (List.mem_map_of_mem hf))) (S.ne (List.mem_cons_of_mem _ hf) u.mem), r⟩
 ·rcases u.of_mem S.ndL p hp with rfl | ⟨hp, hne⟩
  ·exact ⟨o', (N' _ List.mem_cons_self).1, hy⟩
  ·obtain ⟨o, e, i⟩ := S.led p hp
   exact ⟨o, keep _ _ e (fun q => S.ne List.mem_cons_self hp q.symm) hne, i⟩
theorem St.weak (S : St B fs L s) {z y : Mine.O} (u : Upd a z y L L') (h : ∀ o, z o → y o) : St B fs L' s := by
 obtain ⟨o, e, i⟩ := S.get u.mem
 refine ⟨S.old, S.os, S.gens, S.fr, fun p hp => ?_, by rw [u.keys]; exact S.nd, by rw [u.keys]; exact S.new⟩
 rcases u.of_mem S.ndL p hp with rfl | ⟨hp, _⟩
 ·exact ⟨o, e, h _ i⟩
 ·exact S.led p hp
theorem AOk.under_type (h : AOk A (n + 1) es) {C : Addr} {rest : List Value} : AOk (A.under (.builtin "type.__call__" ⟨.ref C :: rest, []⟩)) n es :=
 ⟨by have := h.depth; show A.depth + 1 + n ≤ 700; lia, by have := h.units; show A.units + 1 + 20 * n ≤ 5000; lia, h.frames, h.hand⟩
noncomputable def slotO (C dx : Addr) (sl : List (Option Value)) : O := raw ⟨.ref C, some dx, .plain, sl.toArray⟩
theorem At.slotInst {sl : List (Option Value)} (hx : At s x (slotO C dx sl)) (hd : At s dx (nsO names vals)) : ∃ od, s.heap.get? dx = some od ∧ InstAt s.heap x ⟨.ref C, some dx, .plain, sl.toArray⟩ C (some od) := by
 obtain ⟨o, e, rfl⟩ := hx
 obtain ⟨od, e', i⟩ := hd
 exact ⟨od, e', e, rfl, rfl, e'⟩
theorem g_slot {expr : Bool} {Q : Value → Shared → Prop} {p : Addr} {sl : List (Option Value)} (k : Nat) (O : Ok B w) (S : St B fs L s) (hx : At s x (slotO C dx sl)) (hd : At s dx (nsO names vals))
  (hg : ∀ P, plainGet (KF P) C name = true) (hc : ∀ P, (clsIn (KF P) C).isSome = true) (ha : ∀ P, findIn (KF P) (.ref C) name = some (some (.ref p))) (hn : ∀ P, specialIn (KF P) (.ref p) "__get__" = some (some (.builtin "member_descriptor.__get__")))
  (ht : ∀ P, takesIn (KF P) (.ref p) = some true) (hs : ∀ P, slotIn (KF P) p C = some k) (hk : sl[k]? = some (some v)) (hv : handedIn v = true) (h : ∀ s', St B fs L s' → Q v s') : wpAny (model prog w) A (getAttr (.ref x) name expr) Q E s := by
 refine packG ?_; intro TT
 obtain ⟨od, e', I⟩ := hx.slotInst hd
 have S1 : St B fs L { s with toks := s.toks + 1 } := S.toks rfl rfl rfl
 refine get_bind (S.K O) I (plainGet_of (hg _)).1 (findObj_data (hc _) (ha _) (hn _) (ht _)) (plainGet_of (hg _)).2 (wpAny_call (slot_get (s := { s with toks := s.toks + 1 }) (S1.K O) I (hs _) (v := v) (by simp [hk]) (handed_on hv (h _ S1))))
theorem s_slot {Q : Unit → Shared → Prop} {p : Addr} {sl sl' : List (Option Value)} (k : Nat) (O : Ok B w) (S : St B ((b, ls) :: fs) L s) {z y : Mine.O} (u : Upd x z y L L') (hx : At s x (slotO C dx sl)) (hy : ∀ o, slotO C dx sl' o → y o) (hd : At s dx (nsO names vals))
  (hs : ∀ P, findIn (KF P) (.ref C) "__setattr__" = some (some (.builtin "object.__setattr__"))) (hp : ∀ P, plainOver (KF P) C = true) (ht : ∀ P, takerIn (KF P) C name = some (some (.ref p))) (hT : ∀ P, typeIn (KF P) (.ref p) = some (.type "member_descriptor"))
  (hsl : ∀ P, slotIn (KF P) p C = some k) (hk : k < 100) (e : (sl.toArray ++ Array.replicate (k + 1 - sl.toArray.size) none).setIfInBounds k (some v) = sl'.toArray)
  (h : ∀ s', St B ((b, ls) :: fs) L' s' → Q () s') : wpAny (model prog w) A (setAttr (.ref x) name v) Q E s := by
 refine packG ?_; intro TT
 obtain ⟨od, e', I⟩ := hx.slotInst hd
 refine set_plain (S.K O) I (hs _) ?_
 have S1 : St B ((b, ls) :: fs) L { s with toks := s.toks + 1 } := S.toks rfl rfl rfl
 refine osa_descr (s := { s with toks := s.toks + 1 }) PySem.W.KF.slot_mset (S1.K O) I (hp _) (ht _) (hT _) ?_
 refine slot_set (s := { s with toks := s.toks + 1 }) (ox' := ⟨.ref C, some dx, .plain, sl'.toArray⟩) S1.toFr (S1.toNews u.mem I.at_) (S1.K O) I (hsl _) (by lia) (by simp) (fun p hp => ?_) (by dsimp only; rw [e]) rfl fun h' F' N' => h _ (S1.ofNews u F' N' (hy _ rfl))
 have := mem_others.mp (show (p.1, p.2) ∈ _ from hp)
 exact fun q => this.2 (by simp [q])
end
end
section
open PySem PySem.W PyProof.Rows PySem.Calls
noncomputable def celO (v : Option Value) : O := fun o => o.data = .cell v
namespace St
variable {B : Bs} {fs : List Fm} {L L' : List (Addr × O)} {s s' : Shared}
theorem above (S : St B fs L s) {a : Addr} (h : s.heap.objs.size ≤ a) : B.h.get? a = none ∧ a ∉ fs.map (·.1.env.locals) ∧ a ∉ L.map (·.1) := by
 have fresh : ∀ b o', s.heap.get? b = some o' → b ≠ a := fun b o' e => Nat.ne_of_lt (Nat.lt_of_lt_of_le (Heap.lt_size e) h)
 refine ⟨?_, fun q => ?_, fun q => ?_⟩
 ·cases q : B.h.get? a with
  | none => rfl
  | some o' => exact absurd rfl (fresh _ _ (S.old _ _ q))
 ·obtain ⟨g, hg, e⟩ := List.mem_map.mp q
  obtain ⟨o', _, _, e', _⟩ := S.fr g hg
  exact fresh _ _ e' e
 ·obtain ⟨p, hp, e⟩ := List.mem_map.mp q
  obtain ⟨o', e', _⟩ := S.led p hp
  exact fresh _ _ e' e
theorem grow (S : St B fs L s) {h' : Heap} {t : Nat} {d : Drawn} (hk : ∀ b o, s.heap.get? b = some o → h'.get? b = some o) : St B fs L ⟨h', s.gens, d, t, s.os⟩ := S.drop (I := []) fun b o _ e => hk b o e
theorem moreF (S : St B fs L s) {f : Blk} {vs : List (Option Value)} (hn : s.heap.Ns f.env.locals (lookV f.names vs)) (hb : B.h.get? f.env.locals = none) (hf : f.env.locals ∉ fs.map (·.1.env.locals)) (hL : f.env.locals ∉ L.map (·.1)) : St B ((f, vs) :: fs) L s := by
 refine ⟨S.old, S.os, S.gens, fun g hg => ?_, S.led, ?_, ?_⟩
 ·rcases List.mem_cons.mp hg with rfl | hg
  ·exact hn
  ·exact S.fr g hg
 ·simp only [List.map_cons, List.cons_append, List.nodup_cons]
  exact ⟨fun q => (List.mem_append.mp q).elim hf hL, S.nd⟩
 ·simp only [List.map_cons, List.cons_append]
  intro c hc
  rcases List.mem_cons.mp hc with rfl | hc
  ·exact hb
  ·exact S.new c hc
end St
section
variable {prog : Program} {w : World} {B : Bs} {fs : List Fm} {L L' : List (Addr × O)} {s : Shared} {A : Around} {E : Value → Shared → Prop} {n : Nat} {es : List Env}
theorem call_gen {R : Result → Shared → Prop} {a : Addr} {o : Obj} {fd : FuncData} {body : List Stmt} {args : Args} {names rest : List Str} (O : Ok B w) (S : St B fs L s) (hA : AOk A (n + 1) es)
  (ho : s.heap.get? a = some o) (hdata : o.data = .func fd) (hcd : s.heap.CodeRec fd.code fd.qualname) (hbody : fd.body = .stmts body)
  (hcell : ∀ x ∈ fd.scope.names, x.2 ≠ .cell) (hloc : ∀ x ∈ names ++ rest, fd.scope.names.lookup x = some .local) (hnd : (names ++ rest).Nodup) (hk : fd.scope.kind = .function)
  (hgl : fd.globals = mainGlobals) (hbl : fd.builtins = builtinsNs)
  (h : ∀ E, wpAny (model prog w) A.in1 (bindArgs fd args) (fun binds s₁ => ∃ vals L₁, binds = names.zip vals ∧ names.length = vals.length ∧ St B fs L₁ s₁ ∧
   ∀ (env : Env) (nd : (names ++ rest).Nodup) (kd : ∀ x ∈ names ++ rest, env.kindOf x = some .local) (fn : env.scope.kind = .function) s', EnvIs env fd.scope → env.cells = fd.closure → env.frame = some env.locals → env.code = fd.code →
    St B ((⟨env, names ++ rest, nd, kd, fn⟩, vals.map some ++ rest.map fun _ => none) :: fs) L₁ s' → AOk (A.deeper env) n (env :: es) → ∀ E, wpAny (model prog w) (A.deeper env) (execs body env) (BodyQ R) E s') E s)
  (hco : fd.scope.isCoroutine = false := by rfl) (hgen : fd.scope.isGenerator = false := by rfl) :
  codeAny (model prog w) A (.call (.ref a) args) R s := by
 refine codeAny_call_function hA.room ho hdata hco hgen hbody hcd (wpAny_mono (h _) (fun binds s₁ h₁ => ?_) fun _ _ h => h)
 refine packG ?_; intro TT
 obtain ⟨vals, L₁, rfl, hlen, S₁, h₁⟩ := h₁
 refine wpAny_newFunctionEnv hcell (fun x hx => hloc _ (List.mem_append_left _ (List.of_mem_zip hx).1)) (fun h₀ hns hsb => ?_) hk
 have hk₀ : ∀ b o, s₁.heap.get? b = some o → h₀.get? b = some o := fun b o e => hsb.extBut b o (Nat.ne_of_lt (Heap.lt_size e)) (Heap.get?_push_of_some _ e)
 refine ⟨(O.lim.keeps S₁.old).keeps hk₀, codeAny_func ?_⟩
 rw [bind_lookV names vals rest hnd hlen] at hns
 have F := S₁.above (Nat.le_refl _)
 exact h₁ (callEnv fd s₁.heap.objs.size a) hnd hloc hk _ ⟨rfl, hgl, hbl, hk⟩ rfl rfl rfl ((S₁.grow hk₀).moreF hns F.1 F.2.1 F.2.2) (hA.deeper _) _
theorem call_dflt {R : Result → Shared → Prop} {a : Addr} {o : Obj} {fd : FuncData} {body : List Stmt} {args : Args} {names rest : List Str} {vals : List Value} (O : Ok B w) (S : St B fs L s) (hA : AOk A (n + 1) es)
  (ho : ∀ P, (KF P).lookup a = some o) (hdata : o.data = .func fd) (hcd : ∀ P, codeIn (KF P) fd.code fd.qualname = true) (hbody : fd.body = .stmts body)
  (hbind : ∀ P, peek (KF P) ⟨prog, P⟩ (bindArgs fd args) = some (names.zip vals)) (hlen : names.length = vals.length)
  (hcell : ∀ x ∈ fd.scope.names, x.2 ≠ .cell) (hloc : ∀ x ∈ names ++ rest, fd.scope.names.lookup x = some .local) (hnd : (names ++ rest).Nodup) (hk : fd.scope.kind = .function)
  (hgl : fd.globals = mainGlobals) (hbl : fd.builtins = builtinsNs)
  (h : ∀ (env : Env) (nd : (names ++ rest).Nodup) (kd : ∀ x ∈ names ++ rest, env.kindOf x = some .local) (fn : env.scope.kind = .function) s', EnvIs env fd.scope → St B ((⟨env, names ++ rest, nd, kd, fn⟩, vals.map some ++ rest.map fun _ => none) :: fs) L s' →
   AOk (A.deeper env) n (env :: es) → ∀ E, wpAny (model prog w) (A.deeper env) (execs body env) (BodyQ R) E s')
  (hco : fd.scope.isCoroutine = false := by rfl) (hgen : fd.scope.isGenerator = false := by rfl) :
  codeAny (model prog w) A (.call (.ref a) args) R s :=
 call_gen O S hA (S.K O _ _ (ho _)) hdata (codeRec_of (S.K O) (hcd _)) hbody hcell hloc hnd hk hgl hbl (fun E Γ p hΓ => wp_of_peek (M := model prog w) (S.K O) ⟨vals, L, rfl, hlen, S, fun env nd kd fn s' hE _ _ _ S' hA' => h env nd kd fn s' hE S' hA'⟩ _ (hbind _)) hco hgen
theorem St.cells {cs : List (Str × Addr)} {cm : Str → Option Value} : ∀ {L : List (Addr × O)}, St B fs L s → (∀ n c, cs.lookup n = some c → s.heap.IsCell c (cm n)) → (cs.map (·.1)).Nodup → (cs.map (·.2)).Nodup → (∀ p ∈ cs, B.h.get? p.2 = none ∧ p.2 ∉ fs.map (·.1.env.locals) ∧ p.2 ∉ L.map (·.1)) →
  St B fs (cs.map (fun p => (p.2, celO (cm p.1))) ++ L) s := by
 induction cs with
 | nil => intro L S _ _ _ _; exact S
 | cons q cs ih =>
  intro L S hc hn ha hf
  rw [List.map_cons, List.nodup_cons] at hn ha
  have S' := ih (L := L) S (fun m c hm => hc m c (by
   rw [List.lookup_cons]
   have : (m == q.1) = false := by
    cases e : m == q.1 with
    | false => rfl
    | true => rw [beq_iff_eq] at e; subst e; exact absurd (List.mem_map_of_mem (mem_of_lookup hm)) hn.1
   rw [this]; exact hm)) hn.2 ha.2 (fun p hp => hf p (List.mem_cons_of_mem _ hp))
  obtain ⟨o, ho, hd⟩ := hc q.1 q.2 (by rw [List.lookup_cons, beq_self_eq_true])
  have h1 := hf q List.mem_cons_self
  refine S'.more ho hd h1.1 h1.2.1 ?_
  rw [List.map_append, List.map_map]
  exact fun hm => (List.mem_append.mp hm).elim (fun hm => ha.1 (by simpa using hm)) h1.2.2
theorem cellsFrom_names (n : Nat) (l : List (Str × NameKind)) (acc : List (Str × Addr)) : (cellsFrom n l acc).map (·.1) = ((l.filter (fun x => x.2 == .cell)).map (·.1)).reverse ++ acc.map (·.1) := by
 induction l generalizing n acc with
 | nil => simp [cellsFrom]
 | cons x l ih =>
  unfold cellsFrom
  split
  ·rename_i h
   rw [ih]
   simp [List.filter_cons, h]
  ·rename_i h
   rw [ih]
   simp [List.filter_cons, h]
theorem lC {M : Model} {env : Env} {scope : Scope} {x : Str} {c : Addr} {v : Value} {pos : Pos} {Q : Value → Shared → Prop} (S : St B fs L s) (hE : EnvIs env scope) {cs : List (Str × Addr)} (hcs : env.cells = cs) (hx : scope.names.lookup x = some .cell) (hc : cs.lookup x = some c) (hm : (c, celO (some v)) ∈ L) (h : Q v s)
  (hd : (x == ("__debug__" : Str)) = false := by decide +kernel) : wpAny M A (eval (.Name x pos) env) Q E s := by
 obtain ⟨o, ho, hi⟩ := S.get hm
 exact wpAny_Name (wpAny_loadName_cell (by rw [hE.sc]; exact hE.fn) (by show env.scope.names.lookup x = _; rw [hE.sc]; exact hx) (by rw [hcs]; exact hc) ⟨o, ho, hi⟩ h) hd
theorem lF {M : Model} {env : Env} {scope : Scope} {x : Str} {c : Addr} {v : Value} {pos : Pos} {Q : Value → Shared → Prop} (S : St B fs L s) (hE : EnvIs env scope) {cs : List (Str × Addr)} (hcs : env.cells = cs) (hx : scope.names.lookup x = some .free) (hc : cs.lookup x = some c) (hm : (c, celO (some v)) ∈ L) (h : Q v s)
  (hd : (x == ("__debug__" : Str)) = false := by decide +kernel) (hn : (x == ("__classdict__" : Str)) = false := by decide +kernel) : wpAny M A (eval (.Name x pos) env) Q E s := by
 obtain ⟨o, ho, hi⟩ := S.get hm
 exact wpAny_Name (wpAny_loadName_free (by rw [hE.sc]; exact hE.fn) (by show env.scope.names.lookup x = _; rw [hE.sc]; exact hx) (by rw [hcs]; exact hc) ⟨o, ho, hi⟩ h hn) hd
theorem sC {M : Model} {env : Env} {scope : Scope} {x : Str} {c : Addr} {v : Value} {v₀ : Option Value} {Q : Unit → Shared → Prop} (S : St B fs L s) (hE : EnvIs env scope) {cs : List (Str × Addr)} (hcs : env.cells = cs) (hx : scope.names.lookup x = some .cell) (hc : cs.lookup x = some c) (u : Upd c (celO v₀) (celO (some v)) L L')
  (h : ∀ s', St B fs L' s' → Q () s') : wpAny M A (storeName env x v) Q E s := by
 refine packG ?_; intro TT
 obtain ⟨o, ho, hi⟩ := S.get u.mem
 refine wpAny_storeName_cell (by rw [hE.sc]; exact hE.fn) (by show env.scope.names.lookup x = _; rw [hE.sc]; exact hx) (by rw [hcs]; exact hc) ⟨o, ho, hi⟩ fun h' hc' hs' => h _ ?_
 refine packG ?_; intro TT
 obtain ⟨o', ho', hi'⟩ := hc'
 exact S.upd u hs' ho' hi'
end
end
section
open PySem PySem.W PyProof.Rows PySem.Calls
section
variable {prog : Program} {w : World} {B : Bs} {fs : List Fm} {L : List (Addr × O)} {s : Shared} {A : Around} {E Q : Value → Shared → Prop} {a b : Int} {t u : Tok}
theorem i_add (S : St B fs L s) (h : ∀ t s', St B fs L s' → Q (.int (a + b) t) s') : wpAny (model prog w) A (inplaceOp .Add (.int a t) (.int b u)) Q E s := iadd_int (h _ _ (S.toks rfl rfl rfl))
theorem i_sub (S : St B fs L s) (h : ∀ t s', St B fs L s' → Q (.int (a - b) t) s') : wpAny (model prog w) A (inplaceOp .Sub (.int a t) (.int b u)) Q E s := isub_int (h _ _ (S.toks rfl rfl rfl))
end
theorem line_le {n : Nat} (h : n ≤ 10000) : n ≤ sizeLine := by rw [sizeLine_eq]; lia
theorem if_tt {P Q : Prop} (h : P) : (true = true → P) ∧ (true = false → Q) := ⟨fun _ => h, nofun⟩
theorem if_ff {P Q : Prop} (h : Q) : (false = true → P) ∧ (false = false → Q) := ⟨nofun, fun _ => h⟩
section
variable {M : Model} {A : Around} {rest : List Stmt} {env : Env} {Q : Flow → Shared → Prop} {E : Value → Shared → Prop} {s : Shared}
theorem xs_attr {o : Expr} {attr : Str} {pos' pos : Pos} {value : Expr} (h : wpAny M A (eval value env) (fun v s₁ => wpAny M A (eval o env) (fun ov s₂ => wpAny M A (setAttr ov attr v) (fun _ s₃ => wpAny M A (execs rest env) Q E s₃) E s₂) E s₁) E s)
  (hs : swapsWith value (some (.Attribute o attr pos')) pos.line env = pure false := by with_unfolding_all rfl) : wpAny M A (execs (.Assign [.Attribute o attr pos'] value pos :: rest) env) Q E s :=
 xs_cons (plainObj_wpAny_Assign_Attribute h hs)
theorem xs_sub {o i : Expr} {pos' pos : Pos} {value : Expr} (h : wpAny M A (eval value env) (fun v s₁ => wpAny M A (eval o env) (fun ov s₂ => wpAny M A (eval i env) (fun iv s₃ => wpAny M A (setItem ov iv v) (fun _ s₄ => wpAny M A (execs rest env) Q E s₄) E s₃) E s₂) E s₁) E s)
  (hs : swapsWith value (some (.Subscript o i pos')) pos.line env = pure false := by with_unfolding_all rfl) : wpAny M A (execs (.Assign [.Subscript o i pos'] value pos :: rest) env) Q E s :=
 xs_cons (wpAny_Assign_Subscript h hs)
theorem xs_two {t₁ t₂ : Expr} {pos : Pos} {value : Expr} (h : wpAny M A (eval value env) (fun v s₁ => wpAny M A (assign t₁ env v) (fun _ s₂ => wpAny M A (assign t₂ env v) (fun _ s₃ => wpAny M A (execs rest env) Q E s₃) E s₂) E s₁) E s)
  (he : (assignEach [t₁, t₂] env).map (·.2) = [assign t₁ env, assign t₂ env] := by with_unfolding_all rfl) (hw : swappedStores [t₁, t₂] value env = pure none := by with_unfolding_all rfl) : wpAny M A (execs (.Assign [t₁, t₂] value pos :: rest) env) Q E s :=
 xs_cons (wpAny_Assign_two h he hw)
theorem xs_aug_attr {o value : Expr} {attr : Str} {tpos pos : Pos} {op : Operator}
  (h : wpAny M A (eval o env) (fun ov s₁ => wpAny M A (getAttr ov attr true) (fun old s₂ => wpAny M A (eval value env) (fun v s₃ => wpAny M A (inplaceOp op old v) (fun new s₄ => wpAny M A (setAttr ov attr new) (fun _ s₅ => wpAny M A (execs rest env) Q E s₅) E s₄) E s₃) E s₂) E s₁) E s) :
  wpAny M A (execs (.AugAssign (.Attribute o attr tpos) op value pos :: rest) env) Q E s := xs_cons (wpAny_AugAssign_AttributeAny h)
theorem as_sub {o i : Expr} {pos : Pos} {v : Value} {Q : Unit → Shared → Prop} (h : wpAny M A (eval o env) (fun ov s₂ => wpAny M A (eval i env) (fun iv s₃ => wpAny M A (setItem ov iv v) Q E s₃) E s₂) E s) :
  wpAny M A (assign (.Subscript o i pos) env v) Q E s := by
 rw [assign_Subscript]
 refine wpAny_bind (wpAny_holding (wpAny_mono h (fun ov s₂ h₂ => wpAny_bind (wpAny_holding (wpAny_mono h₂ (fun iv s₃ h₃ => ?_) fun _ _ e => e))) fun _ _ e => e))
 exact wpAny_bind (wpAny_standAt (wpAny_bind (wpAny_holding (wpAny_mono h₃ (fun _ s₄ h₄ => fun Γ p hΓ => by rw [Sem.wp_release]; exact h₄) fun _ _ e => e))))
theorem m_call {o : Expr} {name : Str} {apos pos : Pos} {args : List Expr} {pl : Sem Bool} {Q : Value → Shared → Prop}
  (h : wpAny M A (eval o env) (fun ov s₁ => wpAny M A (getMethod ov name pl) (fun fx s₂ => wpAny M A (callWith pos fx.1 fx.2 (backTo pos (starEach args env)) []) Q E s₂) E s₁) E s)
  (he : eval (.Call (.Attribute o name apos) args [] pos) env = (do
   let ov ← eval o env
   standAt apos.atName
   let (f, first) ← holding [ov] (getMethod ov name pl)
   callWith pos f first (backTo pos (starEach args env)) (backToKw pos (keywordEach [] env))) := by with_unfolding_all rfl) :
  wpAny M A (eval (.Call (.Attribute o name apos) args [] pos) env) Q E s := methodCall_KW h he
end
section
variable {prog : Program} {w : World} {B : Bs} {fs : List Fm} {L L' : List (Addr × O)} {s : Shared} {A : Around} {E : Value → Shared → Prop} {n : Nat} {es : List Env} {env : Env} {Q : Value → Shared → Prop}
 {a : Addr} {vs vs' : List Value} {v : Value} {pos : Pos}
theorem cw_K {f : Addr} {first : List Value} {e : Expr} {rest : List Expr} (O : Ok B w) (hk : ∀ P, keepIn (KF P) (.ref f) = true)
  (h : wpAny (model prog w) A (spliced (backTo pos (starEach (e :: rest) env))) (fun vs s₁ => (KF w.params).In s₁.heap ∧ wpAny (model prog w) A (call (.ref f) (first ++ vs)) Q E s₁) E s)
  (he : starEach (e :: rest) env = (false, eval e env) :: starEach rest env := by with_unfolding_all rfl) (hplain : (backTo pos (starEach rest env)).any (·.1) = false := by with_unfolding_all rfl) :
  wpAny (model prog w) A (callWith pos (.ref f) first (backTo pos (starEach (e :: rest) env)) []) Q E s := callWith_K O.K (hk _) h he hplain
theorem cw_K0 {f : Addr} {first : List Value} (O : Ok B w) (S : St B fs L s) (hk : ∀ P, keepIn (KF P) (.ref f) = true) (h : wpAny (model prog w) A (call (.ref f) (first ++ [])) Q E s) :
  wpAny (model prog w) A (callWith pos (.ref f) first (backTo pos (starEach [] env)) []) Q E s := callWith_K0 (S.K O) (hk _) h
theorem ar_star {e : Expr} {rest : List Expr} {p : Pos} {Q : List Value → Shared → Prop} {M : Model}
  (h : wpAny M A (eval e env) (fun v s₁ => StarOf M A E v (fun here s₂ => wpAny M A (spliced (backTo pos (starEach rest env))) (fun vs s₃ => Q (here ++ vs) s₃) E s₂) s₁) E s)
  (he : starEach (.Starred e p :: rest) env = (true, eval e env) :: starEach rest env := by with_unfolding_all rfl) : wpAny M A (spliced (backTo pos (starEach (.Starred e p :: rest) env))) Q E s := items_star h he
theorem cw_m0 {M : Model} {id : String} {first : List Value} (h : wpAny M A (call (.builtin id) first) Q E s) : wpAny M A (callWith pos (.builtin id) first (backTo pos (starEach [] env)) []) Q E s := callWith_method0 h
theorem cw_m1 {M : Model} {id : String} {first : List Value} {e : Expr} {rest : List Expr} (h : wpAny M A (spliced (backTo pos (starEach (e :: rest) env))) (fun vs s₁ => wpAny M A (call (.builtin id) (first ++ vs)) Q E s₁) E s)
  (he : starEach (e :: rest) env = (false, eval e env) :: starEach rest env := by with_unfolding_all rfl) (hplain : (backTo pos (starEach rest env)).any (·.1) = false := by with_unfolding_all rfl) :
  wpAny M A (callWith pos (.builtin id) first (backTo pos (starEach (e :: rest) env)) []) Q E s := by
 rw [he] at h ⊢
 exact PySem.Calls.callWith_builtin (by show (false || (backTo pos (starEach rest env)).any (·.1)) = false; rw [hplain]; rfl) (evalArgs_plain h)
theorem fresh_big (O : Ok B w) (S : St B fs L s) : (s.heap.objs.size == sysModules) = false := by
 obtain ⟨o, ho⟩ : ∃ o, (KF w.params).lookup 250 = some o := ⟨_, rfl⟩
 have := Heap.lt_size (S.K O _ _ ho)
 exact beq_eq_false_iff_ne.mpr (Nat.ne_of_gt (Nat.lt_trans (by decide) this))
theorem gm_list {name : Str} {id : String} {pl : Sem Bool} {Q : Value × List Value → Shared → Prop} {M : Model} (hl : IsL s a vs) (slot : Slot "list" name id) (hty : typeOf (.builtin id) = pure (.type "method_descriptor")) (h : Q (.builtin id, [.ref a]) s) : wpAny M A (getMethod (.ref a) name pl) Q E s :=
 getMethod_builtin hl.ty PySem.F.plainAttrs_list slot hty (fun b e => by cases e; obtain ⟨k, hk⟩ := hl; exact ⟨_, hk, rfl⟩) h
noncomputable def dicO {κ : Type} [DecidableEq κ] (knd : KeyKind prog w κ) (kvs : List (κ × Value)) : O := fun o => o.IsDictOf knd kvs
section
variable {κ : Type} [DecidableEq κ] {knd : KeyKind prog w κ} {kvs : List (κ × Value)} {k : κ} {key : Value} {d : Addr}
theorem St.dic (S : St B fs L s) (h : (d, dicO knd kvs) ∈ L) : s.heap.DictOf knd d kvs := by
 obtain ⟨o, e, i⟩ := S.get h
 exact Heap.dictOf_iff.mpr ⟨o, e, i⟩
theorem d_new (knd : KeyKind prog w κ) (O : Ok B w) (S : St B fs L s) (h : ∀ d s', (d == sysModules) = false → St B fs ((d, dicO knd []) :: L) s' → Q (.ref d) s') : wpAny (model prog w) A (eval (.Dict [] [] pos) env) Q E s :=
 wpAny_Dict_empty (h _ _ (fresh_big O S) (S.alloc ⟨#[], 0, ⟨rfl, rfl, rfl⟩, rfl, fun _ he => by simp at he, Pairs.nil, List.nodup_nil⟩))
theorem gm_dict {name : Str} {id : String} {pl : Sem Bool} {Q : Value × List Value → Shared → Prop} {M : Model} (hd : s.heap.DictOf knd d kvs) (slot : Slot "dict" name id) (hty : typeOf (.builtin id) = pure (.type "method_descriptor")) (h : Q (.builtin id, [.ref d]) s) : wpAny M A (getMethod (.ref d) name pl) Q E s :=
 getMethod_builtin hd.typeIs PySem.F.plainAttrs_dict slot hty hd.mapOf.noDict h
theorem d_get (S : St B fs L s) (hd : s.heap.DictOf knd d kvs) (hm : (d == sysModules) = false) (hk : knd.is k key = true) (h : ∀ s', St B fs L s' → Q ((valueAt kvs k).getD .none) s') : wpAny (model prog w) A (call (.builtin "dict.get") [.ref d, key]) Q E s :=
 call_meetsIn PySem.F.slot_dict_get hd.typeIs PySem.F.entry_dict_get (PySem.F.args_dict_get_2 _ _) (meets_dict_get knd d hk hm) ⟨_, hd.mapOf, h _ (S.toks rfl rfl rfl)⟩
theorem d_set {x y : O} {Q : Unit → Shared → Prop} (u : Upd d x y L L') (S : St B fs L s) (hd : s.heap.DictOf knd d kvs) (hk : knd.is k key = true) (hsz : kvs.length ≤ sizeLine) (hy : ∀ o, dicO knd (stored kvs k v) o → y o) (h : ∀ s', St B fs L' s' → Q () s') :
  wpAny (model prog w) A (setItem (.ref d) key v) Q E s :=
 wpAny_setItem_pairs hk hd (fun h' hd' hs' => h _ (by
  obtain ⟨o, e, i⟩ := Heap.dictOf_iff.mp hd'
  exact S.upd u hs' e (hy o i))) hsz
theorem d_in (S : St B fs L s) (hd : s.heap.DictOf knd d kvs) (hm : (d == sysModules) = false) (hk : knd.is k key = true) (h : ∀ s', St B fs L s' → Q (.bool (valueAt kvs k).isSome) s') : wpAny (model prog w) A (compareOp .In key (.ref d)) Q E s :=
 wpAny_in_of hk hm hd.mapOf (h _ (S.toks rfl rfl rfl))
theorem d_item (S : St B fs L s) (hd : s.heap.DictOf knd d kvs) (hk : knd.is k key = true) (hv : valueAt kvs k = some v) (h : ∀ s', St B fs L s' → Q v s') : wpAny (model prog w) A (getItem (.ref d) key) Q E s :=
 getItem_slot hd.typeIs (by decide +kernel) PySem.F.slot_dict_getitem (call_meetsIn PySem.F.slot_dict_getitem hd.typeIs PySem.F.entry_dict_getitem (PySem.F.args_dict_getitem_2 _ _) (meets_dict_getitem knd d hk) ⟨_, _, hd.mapOf, hv, h _ (S.toks rfl rfl rfl)⟩)
theorem sub_dict {value slice : Expr} {ops : List Value} (S : St B fs L s) (hd : s.heap.DictOf knd d kvs) (hk : knd.is k key = true) (hv : valueAt kvs k = some v) (h : ∀ s', St B fs L s' → Q v s')
  (hs : subscripted slice false (.ref d) key = operate ops (getItem (.ref d) key) := by with_unfolding_all rfl) : wpAny (model prog w) A (subscriptTail value slice (.ref d) key) Q E s :=
 tail_any hd.typeIs PySem.F.slot_dict_getitem.lookup (d_item S hd hk hv h) hs
end
theorem n_list {M : Model} (S : St B fs L s) (hz : vs.length ≤ sizeLine) (h : ∀ a s', St B fs ((a, lst vs) :: L) s' → Q (.ref a) s') : wpAny M A (newList vs) Q E s :=
 wpAny_newObj_type (h _ _ (S.alloc ⟨0, rfl⟩)) (by show vs.toArray.size ≤ sizeLine; rw [List.size_toArray]; exact hz)
theorem n_tup {M : Model} (S : St B fs L s) (hz : vs.length ≤ sizeLine) (h : ∀ a s', St B fs ((a, tup vs) :: L) s' → Q (.ref a) s') : wpAny M A (newTuple vs) Q E s :=
 wpAny_newObj_type (h _ _ (S.alloc ⟨0, rfl⟩)) (by show vs.toArray.size ≤ sizeLine; rw [List.size_toArray]; exact hz)
theorem len_tup (hl : IsT s a vs) (S : St B fs L s) (hz : vs.length < 2 ^ 63) (h : ∀ t s', St B fs L s' → Q (.int vs.length t) s') : wpAny (model prog w) A (call (.builtin "len") [.ref a]) Q E s := by
 refine packG ?_; intro TT
 obtain ⟨k, e⟩ := id hl
 refine call_len_slot (n := vs.length) hl.ty PySem.F.slot_tuple_len (fun Q' hq => call_meets PySem.F.slot_tuple_len hl.ty PySem.F.entry_tuple_len (PySem.F.args_tuple_len_1 _) (AutoSeq1.tuple___len___tuple_0 a vs.toArray k) ⟨e, by simpa using hq⟩) (by lia) (by lia) (h _ _ (S.toks rfl rfl rfl))
theorem len_list (hl : IsL s a vs) (S : St B fs L s) (hz : vs.length < 2 ^ 63) (h : ∀ t s', St B fs L s' → Q (.int vs.length t) s') : wpAny (model prog w) A (call (.builtin "len") [.ref a]) Q E s :=
 call_len_list hl.at (by simp; lia) (by have := h (s.toks + 1) { s with toks := s.toks + 1 + 1 } (S.toks rfl rfl rfl); simpa using this)
end
end
section
open PySem PySem.W PyProof.Rows PySem.Calls
section
variable {prog : Program} {w : World} {B : Bs} {fs : List Fm} {L L' : List (Addr × O)} {s : Shared} {A : Around} {E : Value → Shared → Prop} {n : Nat} {es : List Env} {env : Env} {Q : Value → Shared → Prop}
 {a : Addr} {vs vs' : List Value} {v : Value} {pos : Pos} {x y : O}
theorem t_tuple (hl : IsL s a vs) (S : St B fs L s) (hz : vs.length ≤ 10000) (h : ∀ t s', St B fs ((t, tup vs) :: L) s' → Q (.ref t) s') : wpAny (model prog w) A (call (.type "tuple") [.ref a]) Q E s :=
 call_tuple_list hl.at (fun h' hk => h _ _ ((S.grow (t := s.toks) (d := s.drawn) hk).alloc ⟨0, rfl⟩)) (by rw [List.size_toArray]; exact line_le hz)
theorem l_clear (u : Upd a x y L L') (S : St B fs L s) (hl : IsL s a vs) (hz : vs.length ≤ 10000) (hy : ∀ o, lst [] o → y o) (h : ∀ s', St B fs L' s' → Q .none s') : wpAny (model prog w) A (call (.builtin "list.clear") [.ref a]) Q E s := by
 refine packG ?_; intro TT
 obtain ⟨k, e⟩ := id hl
 exact call_meets PySem.F.slot_list_clear hl.ty PySem.F.entry_list_clear (PySem.F.args_list_clear_1 _) (AutoSeq1.list_clear_list_0 a vs.toArray k (by rw [List.size_toArray]; exact line_le hz)) ⟨e, h _ (S.mapSeq u hl rfl hy)⟩
theorem truthy_list {Q : Bool → Shared → Prop} (hl : IsL s a vs) (S : St B fs L s) (hz : vs.length ≤ 10000) (h : ∀ s', St B fs L s' → Q (!vs.isEmpty) s') : wpAny (model prog w) A (truthy (.ref a)) Q E s :=
 wpAny_truthy_list hl.at (by rw [List.size_toArray]; lia) (by have := h { s with toks := s.toks + 1 + 1 } (S.toks rfl rfl rfl); simpa using this)
theorem meets_bool_new_list (a : Addr) (vs : List Value) (hz : vs.length ≤ 10000) :
  Meets (Builtin.«bool.__new__» ⟨[.type "bool", .ref a], []⟩) (fun _ R s => IsL s a vs ∧ R (.ok (.ret (.bool (!vs.isEmpty)))) { s with toks := s.toks + 1 + 1 }) :=
 Meets.of_wp fun prog w A R s hs => by
  obtain ⟨hp, g, d, tk, os⟩ := s
  obtain ⟨hl, hs⟩ := hs
  have f1 := PySem.F.conv_sub_bool
  repeat (any_goals (first | assumption | with_reducible (refine wpAny_truthy_list hl.at ?_ ?_) | wp_step))
  all_goals first | (rw [List.size_toArray]; lia) | exact ⟨_, rfl, by simpa using hs⟩
theorem t_bool (hl : IsL s a vs) (S : St B fs L s) (hz : vs.length ≤ 10000) (h : ∀ s', St B fs L s' → Q (.bool (!vs.isEmpty)) s') : wpAny (model prog w) A (call (.type "bool") [.ref a]) Q E s :=
 call_bool_1 (meets_bool_new_list a vs hz) ⟨hl, rfl, h _ (S.toks rfl rfl rfl)⟩
end
end
section
open PySem PySem.W PyProof.Rows PySem.Calls
namespace St
variable {B : Bs} {fs : List Fm} {L L' : List (Addr × O)} {s s' : Shared}
theorem popBut {f : Fm} (S : St B (f :: fs) L s) {h' : Heap} (hs : Heap.SameBut f.1.env.locals s.heap h') {t : Nat} {d : Drawn} : St B fs L ⟨h', s.gens, d, t, s.os⟩ := by
 have hnd := S.nd
 simp only [List.map_cons, List.cons_append, List.nodup_cons] at hnd
 have P := S.pop
 refine ⟨fun b o e => (hs.2 b fun q => ?_).trans (S.old b o e), S.os, S.gens, fun g hg => ?_, fun p hp => ?_, P.nd, P.new⟩
 ·have := S.new f.1.env.locals (by simp); rw [← q, e] at this; cases this
 ·exact (P.fr g hg).sameBut hs fun q => hnd.1 (q ▸ List.mem_append_left _ (List.mem_map_of_mem hg))
 ·obtain ⟨o, e, i⟩ := P.led p hp
  exact ⟨o, (hs.2 _ fun q => hnd.1 (q ▸ List.mem_append_right _ (List.mem_map_of_mem hp))).trans e, i⟩
theorem swapF {f g : Fm} (S : St B (f :: g :: fs) L s) : St B (g :: f :: fs) L s := by
 have p : (f.1.env.locals :: g.1.env.locals :: (fs.map (·.1.env.locals) ++ L.map (·.1))).Perm (g.1.env.locals :: f.1.env.locals :: (fs.map (·.1.env.locals) ++ L.map (·.1))) := .swap ..
 refine ⟨S.old, S.os, S.gens, fun z hz => S.fr z ?_, S.led, p.nodup_iff.mp S.nd, fun a ha => S.new a (p.symm.subset ha)⟩
 simp only [List.mem_cons] at hz ⊢
 rcases hz with h | h | h
 ·exact .inr (.inl h)
 ·exact .inl h
 ·exact .inr (.inr h)
end St
section
variable {prog : Program} {w : World}
noncomputable def Turns (prog : Program) (w : World) (A : Around) (e : Expr) (d : Nat) (it : Addr) (acc : Value) (env : Env) (tgt : Expr) (Bd : (Shared → Prop) → (Value → Shared → Prop) → Shared → Prop) : Prop :=
 ∀ (Q : Fin → Shared → Prop) (E : Value → Shared → Prop) (s : Shared), wpAny (model prog w) A (pyNext (.ref it)) (fun r s₁ => match r with
   | none => Q (.done .next) s₁
   | some v => wpAny (model prog w) A (letOwnedTupleGo tgt (.ref it) v) (fun _ s₂ => wpAny (model prog w) A (assign tgt env v) (fun _ s₃ => Bd (fun s₄ => Q (.again (.compLoop e d (.ref it) acc env)) s₄) E s₃) E s₂) E s₁) E s →
  wpAny (model prog w) A (compTurn e d (.ref it) acc env) Q E s
theorem comp_loop {e tgt : Expr} {acc : Value} {Bd : (Shared → Prop) → (Value → Shared → Prop) → Shared → Prop} {it : Addr} {n : Nat} {I : Nat → List (Addr × O)} {src : List (Addr × O)} {P : Nat → Value → List (Addr × O) → Prop} (W : Itr prog w tgt it n I src P)
  {B : Bs} {fs : List Fm} {L₀ : List (Addr × O)} {s : Shared} {A : Around} {R : Result → Shared → Prop} {blk : Blk} {vs₀ : List (Option Value)} {env : Env} {d : Nat}
  (hturn : Turns prog w A e d it acc env tgt Bd)
  (hh : A.handled = none) (J : Nat → List (Option Value) → List (Addr × O) → Prop) (hsrc : ∀ i vs L, J i vs L → ∀ p ∈ src, p ∈ L)
  (S : St B ((blk, vs₀) :: fs) (I 0 ++ L₀) s) (h0 : J 0 vs₀ L₀)
  (step : ∀ i vs L v X s E, i < n → J i vs L → P i v X → St B ((blk, vs) :: fs) (X ++ (I (i + 1) ++ L)) s →
   wpAny (model prog w) A (assign tgt env v) (fun _ s₂ => Bd (fun s₃ => ∃ vs' L', J (i + 1) vs' L' ∧ St B ((blk, vs') :: fs) (I (i + 1) ++ L') s₃) E s₂) E s)
  (hend : ∀ vs L s, J n vs L → St B ((blk, vs) :: fs) L s → R (.ok .next) s)
  (hmono : ∀ (K K' : Shared → Prop) E s, (∀ s, K s → K' s) → Bd K E s → Bd K' E s)
  (hden : (model prog w).den (.compLoop e d (.ref it) acc env) = (compTurn e d (.ref it) acc env).onRaise (fun x => do noteFrame x env; theTreesLotGoes x))
  (hund : A.under (.compLoop e d (.ref it) acc env) = A) (hq : (Code.compLoop e d (.ref it) acc env).quiet = true) :
  codeAny (model prog w) A (.compLoop e d (.ref it) acc env) R s := by
 refine codeAny_loop hq (fun k s' => ∃ i vs L, k = n + 1 - i ∧ i ≤ n ∧ J i vs L ∧ St B ((blk, vs) :: fs) (I i ++ L) s') ?_ (n + 1) ⟨0, vs₀, L₀, rfl, Nat.zero_le _, h0, S⟩
 intro k s' hJ1
 obtain ⟨i, vs, L, rfl, hi, hJ, S'⟩ := hJ1
 rw [hden, hund]
 refine wpAny_noted (hturn _ _ _ ?_)
 by_cases hlt : i < n
 ·refine wpAny_mono (W.item (A := A) (Q := fun v s₁ => wpAny (model prog w) A (assign tgt env v) (fun _ s₂ => Bd (fun s₃ => ∃ vs' L', J (i + 1) vs' L' ∧ St B ((blk, vs') :: fs) (I (i + 1) ++ L') s₃) (notedBy (model prog w) A env fun e s' => R (.error e) s') s₂) (notedBy (model prog w) A env fun e s' => R (.error e) s') s₁) i hlt S' (hsrc i vs L hJ) fun v X s₁ hP S₁ => step i vs L v X s₁ _ hlt hJ hP S₁) (fun r s₁ h₁ => ?_) fun _ _ e => e
  refine packG ?_; intro TT
  obtain ⟨v, rfl, h₁⟩ := h₁
  refine wpAny_mono h₁ (fun _ s₂ h₂ => wpAny_mono h₂ (fun _ s₃ h₃ => hmono _ _ _ _ (fun s₄ h₄ => ?_) h₃) fun _ _ e => e) fun _ _ e => e
  refine packG ?_; intro TT
  obtain ⟨vs', L', hJ', S₄⟩ := h₄
  exact And.intro rfl ⟨n + 1 - (i + 1), by lia, i + 1, vs', L', rfl, hlt, hJ', S₄⟩
 ·have : i = n := by lia
  subst this
  exact W.done hh S' (hsrc i vs L hJ) fun s₁ S₁ => hend vs L s₁ hJ S₁
noncomputable def BdL (prog : Program) (w : World) (A : Around) (elt : Expr) (acc : Value) (env : Env) (K : Shared → Prop) (E : Value → Shared → Prop) (s : Shared) : Prop :=
 wpAny (model prog w) A (eval elt env) (fun x s₂ => wpAny (model prog w) A (call (.builtin "list.append") [acc, x]) (fun _ s₃ => K s₃) E s₂) E s
noncomputable def BdLI (prog : Program) (w : World) (A : Around) (c elt : Expr) (acc : Value) (env : Env) (K : Shared → Prop) (E : Value → Shared → Prop) (s : Shared) : Prop :=
 wpAny (model prog w) A (isTrue c env (eval c env)) (fun ok s₁ => (ok = true → BdL prog w A elt acc env K E s₁) ∧ (ok = false → K s₁)) E s
noncomputable def BdD (prog : Program) (w : World) (A : Around) (kx vx : Expr) (D : Addr) (env : Env) (K : Shared → Prop) (E : Value → Shared → Prop) (s : Shared) : Prop :=
 wpAny (model prog w) A (eval kx env) (fun kv s₁ => wpAny (model prog w) A (eval vx env) (fun vv s₂ => wpAny (model prog w) A (dictSet D kv vv) (fun _ s₃ => K s₃) E s₂) E s₁) E s
theorem BdL_mono {A : Around} {elt : Expr} {acc : Value} {env : Env} (K K' : Shared → Prop) (E : Value → Shared → Prop) (s : Shared) (h : ∀ s, K s → K' s) (hb : BdL prog w A elt acc env K E s) : BdL prog w A elt acc env K' E s :=
 wpAny_mono hb (fun _ _ h₁ => wpAny_mono h₁ (fun _ s h₂ => h s h₂) fun _ _ e => e) fun _ _ e => e
theorem BdLI_mono {A : Around} {c elt : Expr} {acc : Value} {env : Env} (K K' : Shared → Prop) (E : Value → Shared → Prop) (s : Shared) (h : ∀ s, K s → K' s) (hb : BdLI prog w A c elt acc env K E s) : BdLI prog w A c elt acc env K' E s :=
 wpAny_mono hb (fun _ _ h₁ => ⟨fun e => BdL_mono _ _ _ _ h (h₁.1 e), fun e => h _ (h₁.2 e)⟩) fun _ _ e => e
theorem BdD_mono {A : Around} {kx vx : Expr} {D : Addr} {env : Env} (K K' : Shared → Prop) (E : Value → Shared → Prop) (s : Shared) (h : ∀ s, K s → K' s) (hb : BdD prog w A kx vx D env K E s) : BdD prog w A kx vx D env K' E s :=
 wpAny_mono hb (fun _ _ h₁ => wpAny_mono h₁ (fun _ _ h₂ => wpAny_mono h₂ (fun _ s h₃ => h s h₃) fun _ _ e => e) fun _ _ e => e) fun _ _ e => e
theorem turns_L {A : Around} {elt tgt iter : Expr} {scope : Scope} {pos : Pos} {it : Addr} {acc : Value} {env : Env} : Turns prog w A (.ListComp elt [⟨tgt, iter, [], 0⟩] scope pos) 0 it acc env tgt (BdL prog w A elt acc env) := by
 intro Q E s h
 rw [compTurn_list]
 refine wpAny_bind (wpAny_standAt (wpAny_bind (wpAny_mono h (fun r s₁ h₁ => ?_) fun _ _ h' => h')))
 cases r with
 | none => exact wpAny_pure h₁
 | some v =>
  refine wpAny_bind (wpAny_mono h₁ (fun _ s₂ h₂ => wpAny_bind (wpAny_mono h₂ (fun _ s₃ h₃ => ?_) fun _ _ h' => h')) fun _ _ h' => h')
  refine wpAny_bind (wpAny_tests_nil ?_)
  exact wpAny_bind (wpAny_bind (wpAny_mono h₃ (fun x s₄ h₄ => wpAny_bind (wpAny_mono h₄ (fun _ s₅ h₅ => wpAny_pure (wpAny_pure h₅)) fun _ _ h' => h')) fun _ _ h' => h'))
theorem turns_LI {A : Around} {c elt tgt iter : Expr} {scope : Scope} {pos : Pos} {it : Addr} {acc : Value} {env : Env} : Turns prog w A (.ListComp elt [⟨tgt, iter, [c], 0⟩] scope pos) 0 it acc env tgt (BdLI prog w A c elt acc env) := by
 intro Q E s h
 rw [compTurn_list]
 refine wpAny_bind (wpAny_standAt (wpAny_bind (wpAny_mono h (fun r s₁ h₁ => ?_) fun _ _ h' => h')))
 cases r with
 | none => exact wpAny_pure h₁
 | some v =>
  refine wpAny_bind (wpAny_mono h₁ (fun _ s₂ h₂ => wpAny_bind (wpAny_mono h₂ (fun _ s₃ h₃ => ?_) fun _ _ h' => h')) fun _ _ h' => h')
  refine wpAny_bind (wpAny_tests_one (wpAny_mono h₃ (fun ok s₄ h₄ => ?_) fun _ _ h' => h'))
  cases ok with
  | false => exact wpAny_pure (h₄.2 rfl)
  | true => exact wpAny_bind (wpAny_bind (wpAny_mono (h₄.1 rfl) (fun x s₄ h₄ => wpAny_bind (wpAny_mono h₄ (fun _ s₅ h₅ => wpAny_pure (wpAny_pure h₅)) fun _ _ h' => h')) fun _ _ h' => h'))
theorem turns_D {A : Around} {kx vx tgt iter : Expr} {scope : Scope} {pos : Pos} {it D : Addr} {env : Env} : Turns prog w A (.DictComp kx vx [⟨tgt, iter, [], 0⟩] scope pos) 0 it (.ref D) env tgt (BdD prog w A kx vx D env) := by
 intro Q E s h
 rw [compTurn_dict]
 refine wpAny_bind (wpAny_standAt (wpAny_bind (wpAny_mono h (fun r s₁ h₁ => ?_) fun _ _ h' => h')))
 cases r with
 | none => exact wpAny_pure h₁
 | some v =>
  refine wpAny_bind (wpAny_mono h₁ (fun _ s₂ h₂ => wpAny_bind (wpAny_mono h₂ (fun _ s₃ h₃ => ?_) fun _ _ h' => h')) fun _ _ h' => h')
  refine wpAny_bind (wpAny_tests_nil ?_)
  exact wpAny_bind (wpAny_bind (wpAny_mono h₃ (fun kv s₄ h₄ => wpAny_bind (wpAny_holding (wpAny_mono h₄ (fun vv s₅ h₅ => wpAny_bind (wpAny_standAt (wpAny_holding (wpAny_mono h₅ (fun _ s₆ h₆ => wpAny_pure h₆) fun _ _ h' => h')))) fun _ _ h' => h'))) fun _ _ h' => h'))
end
section
variable {prog : Program} {w : World} {B : Bs} {fs : List Fm} {L L' : List (Addr × O)} {s : Shared} {A : Around} {E : Value → Shared → Prop} {env : Env} {sc : Scope}
noncomputable def CEnd (B : Bs) (f : Blk) (fs : List Fm) (Q : Shared → Prop) (r : Result) (s' : Shared) : Prop := match r with
 | .ok _ => ∃ vs L', St B ((f, vs) :: fs) L' s' ∧ ∀ s'', St B fs L' s'' → Q s''
 | .error _ => False
theorem comp_any {e : Expr} {scope : Scope} {pos : Pos} {newAcc first : Sem Value} {g : Comprehension} {gs : List Comprehension} {cl : List (Str × Addr)} {Q : Value → Shared → Prop} (names : List Str) (hE : EnvIs env sc)
  (hcl : clausesOf e = g :: gs) (hs : ∀ x, foldedSetIterable g.iter env x = pure x) (hclos : closureFor scope env = pure cl) (hcell : ∀ y ∈ scope.names, y.2 ≠ .cell)
  (hkind : scope.kind = .function) (hnames : ∀ x ∈ scope.names, x.2 = .local → scope.names.lookup x.1 = some .local) (hloc : ∀ x ∈ names, scope.names.lookup x = some .local) (hnd : names.Nodup)
  (h : wpAny (model prog w) A first (fun x s₁ => wpAny (model prog w) A (pyIter x) (fun it s₂ => wpAny (model prog w) A newAcc (fun acc s₃ => ∃ L₃, St B fs L₃ s₃ ∧
   ∀ (cenv : Env) (nd : names.Nodup) (kd : ∀ x ∈ names, cenv.kindOf x = some .local) (fn : cenv.scope.kind = .function) s₄, EnvIs cenv (relabel scope env) → cenv.cells = cl → St B ((⟨cenv, names, nd, kd, fn⟩, names.map fun _ => none) :: fs) L₃ s₄ →
    codeAny (model prog w) A (.compStart e 0 it acc cenv) (CEnd B ⟨cenv, names, nd, kd, fn⟩ fs (Q acc)) s₄) E s₂) E s₁) E s) :
  wpAny (model prog w) A (comprehension e scope env pos newAcc false first none) Q E s := by
 refine wpAny_comprehension_free (use := none) hcl hs hclos hkind hnames (wpAny_mono h (fun x s₁ h₁ => wpAny_mono h₁ (fun it s₂ h₂ => wpAny_mono h₂ (fun acc s₃ h₃ => ?_) fun _ _ e => e) fun _ _ e => e) fun _ _ e => e)
 refine packG ?_; intro TT
 obtain ⟨L₃, S₃, h₃⟩ := h₃
 refine wpAny_newFunctionEnv hcell (by intro y hy; simp at hy) (fun h₁ hns₁ hsb₁ => ?_) hkind
 have hk₀ : ∀ b o, s₃.heap.get? b = some o → h₁.get? b = some o := fun b o e => hsb₁.extBut b o (Nat.ne_of_lt (Heap.lt_size e)) (Heap.get?_push_of_some _ e)
 have F := S₃.above (Nat.le_refl _)
 have hb : (fun x => List.lookup x ([] : List (Str × Value)).reverse) = lookV names (names.map fun _ => none) := by
  have := bind_lookV [] [] names (by simpa using hnd) rfl
  exact this
 have hkd : ∀ x ∈ names, (compEnvC scope cl s₃.heap.objs.size env).kindOf x = some .local := fun x hx => lookup_relabel_local (hloc x hx)
 have hfn : (compEnvC scope cl s₃.heap.objs.size env).scope.kind = .function := hkind
 have := h₃ (compEnvC scope cl s₃.heap.objs.size env) hnd hkd hfn { s₃ with heap := h₁, toks := s₃.toks + 0 } ⟨rfl, hE.g, hE.b, hkind⟩ rfl
  ((S₃.grow hk₀).moreF (f := ⟨compEnvC scope cl s₃.heap.objs.size env, names, hnd, hkd, hfn⟩) (by rw [← hb]; exact hns₁) F.1 F.2.1 F.2.2)
 refine codeAny_mono this fun r s' hr => ?_
 cases r with
 | error _ => exact hr.elim
 | ok f =>
  refine packG ?_; intro TT
  obtain ⟨vs, L', S', hQ⟩ := hr
  exact ⟨_, S'.fr _ List.mem_cons_self, fun h' hs' => hQ _ (S'.popBut hs')⟩
theorem comp_use {e : Expr} {scope : Scope} {pos : Pos} {newAcc first : Sem Value} {g : Comprehension} {gs : List Comprehension} {cl : List (Str × Addr)} {Q : Shared → Prop} (names : List Str) (hE : EnvIs env sc)
  {onames : List Str} {ond : onames.Nodup} {okd : ∀ x ∈ onames, env.kindOf x = some .local} {ofn : env.scope.kind = .function} {ovs : List (Option Value)} {y : Str} {py : Pos} (k : Nat)
  (hcl : clausesOf e = g :: gs) (hs : ∀ x, foldedSetIterable g.iter env x = pure x) (hclos : closureFor scope env = pure cl) (hcell : ∀ y ∈ scope.names, y.2 ≠ .cell)
  (hkind : scope.kind = .function) (hnames : ∀ x ∈ scope.names, x.2 = .local → scope.names.lookup x.1 = some .local) (hloc : ∀ x ∈ names, scope.names.lookup x = some .local) (hnd : names.Nodup)
  (hy : onames[k]? = some y) (hk : k < ovs.length)
  (h : wpAny (model prog w) A first (fun x s₁ => wpAny (model prog w) A (pyIter x) (fun it s₂ => wpAny (model prog w) A newAcc (fun acc s₃ => ∃ L₃, St B ((⟨env, onames, ond, okd, ofn⟩, ovs) :: fs) L₃ s₃ ∧
   ∀ (cenv : Env) (nd : names.Nodup) (kd : ∀ x ∈ names, cenv.kindOf x = some .local) (fn : cenv.scope.kind = .function) s₄, EnvIs cenv (relabel scope env) → cenv.cells = cl →
    St B ((⟨cenv, names, nd, kd, fn⟩, names.map fun _ => none) :: (⟨env, onames, ond, okd, ofn⟩, ovs) :: fs) L₃ s₄ →
    codeAny (model prog w) A (.compStart e 0 it acc cenv) (fun r s' => match r with
     | .ok _ => ∃ vs L', St B ((⟨cenv, names, nd, kd, fn⟩, vs) :: (⟨env, onames, ond, okd, ofn⟩, ovs) :: fs) L' s' ∧ ∀ s'', St B ((⟨env, onames, ond, okd, ofn⟩, ovs.set k (some acc)) :: fs) L' s'' → Q s''
     | .error _ => False) s₄) E s₂) E s₁) E s) :
  wpAny (model prog w) A (comprehension e scope env pos newAcc false first (some (assign (.Name y py) env))) (fun _ => Q) E s := by
 refine wpAny_comprehension_free (use := some (assign (.Name y py) env)) hcl hs hclos hkind hnames (wpAny_mono h (fun x s₁ h₁ => wpAny_mono h₁ (fun it s₂ h₂ => wpAny_mono h₂ (fun acc s₃ h₃ => ?_) fun _ _ e => e) fun _ _ e => e) fun _ _ e => e)
 refine packG ?_; intro TT
 obtain ⟨L₃, S₃, h₃⟩ := h₃
 refine wpAny_newFunctionEnv hcell (by intro y hy; simp at hy) (fun h₁ hns₁ hsb₁ => ?_) hkind
 have hk₀ : ∀ b o, s₃.heap.get? b = some o → h₁.get? b = some o := fun b o e => hsb₁.extBut b o (Nat.ne_of_lt (Heap.lt_size e)) (Heap.get?_push_of_some _ e)
 have F := S₃.above (Nat.le_refl _)
 have hb : (fun x => List.lookup x ([] : List (Str × Value)).reverse) = lookV names (names.map fun _ => none) := by
  have := bind_lookV [] [] names (by simpa using hnd) rfl
  exact this
 have hkd : ∀ x ∈ names, (compEnvC scope cl s₃.heap.objs.size env).kindOf x = some .local := fun x hx => lookup_relabel_local (hloc x hx)
 have hfn : (compEnvC scope cl s₃.heap.objs.size env).scope.kind = .function := hkind
 have := h₃ (compEnvC scope cl s₃.heap.objs.size env) hnd hkd hfn { s₃ with heap := h₁, toks := s₃.toks + 0 } ⟨rfl, hE.g, hE.b, hkind⟩ rfl
  ((S₃.grow hk₀).moreF (f := ⟨compEnvC scope cl s₃.heap.objs.size env, names, hnd, hkd, hfn⟩) (by rw [← hb]; exact hns₁) F.1 F.2.1 F.2.2)
 refine codeAny_mono this fun r s' hr => ?_
 cases r with
 | error _ => exact hr.elim
 | ok f =>
  refine packG ?_; intro TT
  obtain ⟨vs, L', S', hQ⟩ := hr
  show wpAny _ A (assign (.Name y py) env acc) _ _ s'
  refine wpAny_assign_Name (stL k S'.swapF hy hk fun s'' S'' => ⟨_, S''.swapF.fr _ List.mem_cons_self, fun h' hs' => hQ _ (S''.swapF.popBut hs')⟩)
end
end
section
open PySem PySem.W PyProof.Rows PySem.Calls
theorem len1 {α : Type} {l : List α} (h : l.length = 1) : ∃ a, l = [a] := by match l, h with | [a], _ => exact ⟨a, rfl⟩
theorem len2 {α : Type} {l : List α} (h : l.length = 2) : ∃ a b, l = [a, b] := by match l, h with | [a, b], _ => exact ⟨a, b, rfl⟩
theorem len3 {α : Type} {l : List α} (h : l.length = 3) : ∃ a b c, l = [a, b, c] := by match l, h with | [a, b, c], _ => exact ⟨a, b, c, rfl⟩
section
variable {prog : Program} {w : World} {B : Bs} {fs : List Fm} {L L' L₀ : List (Addr × O)} {s : Shared} {A : Around} {E : Value → Shared → Prop} {env : Env} {sc scope : Scope} {cl : List (Str × Addr)} {names : List Str} {nn : names.Nodup}
 {elt tgt iter : Expr} {pos : Pos} {it : Addr} {n : Nat} {I : Nat → List (Addr × O)} {src : List (Addr × O)} {P : Nat → Value → List (Addr × O) → Prop} {R : Value → Blk → Result → Shared → Prop}
theorem lc_run (W : Itr prog w tgt it n I src P) (hh : A.handled = none) (S : St B fs (I 0 ++ L₀) s) (J : Nat → List Value → List (Addr × O) → Prop) (hsrc : ∀ i ys L, J i ys L → ∀ p ∈ src, p ∈ L) (h0 : J 0 [] L₀) (hz : ∀ i ys L, J i ys L → ys.length ≤ 10000)
  (step : ∀ D (cenv : Env) (nd : names.Nodup) (kd : ∀ x ∈ names, cenv.kindOf x = some .local) (fn : cenv.scope.kind = .function) i vs ys L v X s E, EnvIs cenv (relabel scope env) → cenv.cells = cl → vs.length = names.length → i < n → J i ys L → P i v X →
   St B ((⟨cenv, names, nd, kd, fn⟩, vs) :: fs) (X ++ (I (i + 1) ++ (D, lst ys) :: L)) s →
   wpAny (model prog w) A (assign tgt cenv v) (fun _ s₂ => wpAny (model prog w) A (eval elt cenv) (fun y s₃ => ∃ vs' L', vs'.length = names.length ∧ J (i + 1) (ys ++ [y]) L' ∧ St B ((⟨cenv, names, nd, kd, fn⟩, vs') :: fs) (I (i + 1) ++ (D, lst ys) :: L') s₃) E s₂) E s)
  (hend : ∀ D blk vs ys L s, J n ys L → St B ((blk, vs) :: fs) ((D, lst ys) :: L) s → R (.ref D) blk (.ok .next) s) :
  wpAny (model prog w) A (newList []) (fun acc s₃ => ∃ L₃, St B fs L₃ s₃ ∧
   ∀ (cenv : Env) (nd : names.Nodup) (kd : ∀ x ∈ names, cenv.kindOf x = some .local) (fn : cenv.scope.kind = .function) s₄, EnvIs cenv (relabel scope env) → cenv.cells = cl → St B ((⟨cenv, names, nd, kd, fn⟩, names.map fun _ => none) :: fs) L₃ s₄ →
    codeAny (model prog w) A (.compStart (.ListComp elt [⟨tgt, iter, [], 0⟩] scope pos) 0 (.ref it) acc cenv) (R acc ⟨cenv, names, nd, kd, fn⟩) s₄) E s := by
 refine n_list S (by decide) fun D s₃ S₃ => ⟨I 0 ++ (D, lst []) :: L₀, S₃.perm List.perm_middle.symm, fun cenv nd kd fn s₄ hE hcl S₄ => ?_⟩
 have run : codeAny (model prog w) A (.compLoop (.ListComp elt [⟨tgt, iter, [], 0⟩] scope pos) 0 (.ref it) (.ref D) cenv) (R (.ref D) ⟨cenv, names, nd, kd, fn⟩) s₄ := by
  refine comp_loop W turns_L hh (fun i vs L => ∃ ys L', L = (D, lst ys) :: L' ∧ vs.length = names.length ∧ J i ys L') ?_ S₄ ⟨[], L₀, rfl, by simp, h0⟩ ?_ ?_ BdL_mono rfl rfl rfl
  ·intro i vs _ hJ1 p hp
   refine packG ?_; intro TT
   obtain ⟨ys, L', rfl, _, hJ⟩ := hJ1
   exact List.mem_cons_of_mem _ (hsrc i ys L' hJ p hp)
  ·intro i vs _ v X s E hi hJ1 hP S
   refine packG ?_; intro TT
   obtain ⟨ys, L', rfl, hvl, hJ⟩ := hJ1
   refine wpAny_mono (step D cenv nd kd fn i vs ys L' v X s E hE hcl hvl hi hJ hP S) (fun _ s₂ h₂ => wpAny_mono h₂ (fun y s₃ h₃ => ?_) fun _ _ e => e) fun _ _ e => e
   refine packG ?_; intro TT
   obtain ⟨vs', L'', hvl', hJ', S'⟩ := h₃
   exact l_append (y := lst (ys ++ [y])) (Upd.here.left _) S' (S'.isL (List.mem_append_right _ List.mem_cons_self)) (fun _ h => h) (line_le (hz i ys L' hJ)) fun s₅ S₅ => ⟨vs', (D, lst (ys ++ [y])) :: L'', ⟨ys ++ [y], L'', rfl, hvl', hJ'⟩, S₅⟩
  ·intro vs _ s hJ1 S
   refine packG ?_; intro TT
   obtain ⟨ys, L', rfl, hvl, hJ⟩ := hJ1
   exact hend D _ vs ys L' s hJ S
 exact codeAny_compStart_list run (W.self S₄ run)
theorem lci_run {c : Expr} (W : Itr prog w tgt it n I src P) (hh : A.handled = none) (S : St B fs (I 0 ++ L₀) s) (J : Nat → List Value → List (Addr × O) → Prop) (hsrc : ∀ i ys L, J i ys L → ∀ p ∈ src, p ∈ L) (h0 : J 0 [] L₀) (hz : ∀ i ys L, J i ys L → ys.length ≤ 10000)
  (step : ∀ D (cenv : Env) (nd : names.Nodup) (kd : ∀ x ∈ names, cenv.kindOf x = some .local) (fn : cenv.scope.kind = .function) i vs ys L v X s E, EnvIs cenv (relabel scope env) → cenv.cells = cl → vs.length = names.length → i < n → J i ys L → P i v X →
   St B ((⟨cenv, names, nd, kd, fn⟩, vs) :: fs) (X ++ (I (i + 1) ++ (D, lst ys) :: L)) s →
   wpAny (model prog w) A (assign tgt cenv v) (fun _ s₂ => wpAny (model prog w) A (isTrue c cenv (eval c cenv)) (fun ok s₂ =>
    (ok = true → wpAny (model prog w) A (eval elt cenv) (fun y s₃ => ∃ vs' L', vs'.length = names.length ∧ J (i + 1) (ys ++ [y]) L' ∧ St B ((⟨cenv, names, nd, kd, fn⟩, vs') :: fs) (I (i + 1) ++ (D, lst ys) :: L') s₃) E s₂) ∧
    (ok = false → ∃ vs' L', vs'.length = names.length ∧ J (i + 1) ys L' ∧ St B ((⟨cenv, names, nd, kd, fn⟩, vs') :: fs) (I (i + 1) ++ (D, lst ys) :: L') s₂)) E s₂) E s)
  (hend : ∀ D blk vs ys L s, J n ys L → St B ((blk, vs) :: fs) ((D, lst ys) :: L) s → R (.ref D) blk (.ok .next) s) :
  wpAny (model prog w) A (newList []) (fun acc s₃ => ∃ L₃, St B fs L₃ s₃ ∧
   ∀ (cenv : Env) (nd : names.Nodup) (kd : ∀ x ∈ names, cenv.kindOf x = some .local) (fn : cenv.scope.kind = .function) s₄, EnvIs cenv (relabel scope env) → cenv.cells = cl → St B ((⟨cenv, names, nd, kd, fn⟩, names.map fun _ => none) :: fs) L₃ s₄ →
    codeAny (model prog w) A (.compStart (.ListComp elt [⟨tgt, iter, [c], 0⟩] scope pos) 0 (.ref it) acc cenv) (R acc ⟨cenv, names, nd, kd, fn⟩) s₄) E s := by
 refine n_list S (by decide) fun D s₃ S₃ => ⟨I 0 ++ (D, lst []) :: L₀, S₃.perm List.perm_middle.symm, fun cenv nd kd fn s₄ hE hcl S₄ => ?_⟩
 have run : codeAny (model prog w) A (.compLoop (.ListComp elt [⟨tgt, iter, [c], 0⟩] scope pos) 0 (.ref it) (.ref D) cenv) (R (.ref D) ⟨cenv, names, nd, kd, fn⟩) s₄ := by
  refine comp_loop W turns_LI hh (fun i vs L => ∃ ys L', L = (D, lst ys) :: L' ∧ vs.length = names.length ∧ J i ys L') ?_ S₄ ⟨[], L₀, rfl, by simp, h0⟩ ?_ ?_ BdLI_mono rfl rfl rfl
  ·intro i vs _ hJ1 p hp
   refine packG ?_; intro TT
   obtain ⟨ys, L', rfl, _, hJ⟩ := hJ1
   exact List.mem_cons_of_mem _ (hsrc i ys L' hJ p hp)
  ·intro i vs _ v X s E hi hJ1 hP S
   refine packG ?_; intro TT
   obtain ⟨ys, L', rfl, hvl, hJ⟩ := hJ1
   refine wpAny_mono (step D cenv nd kd fn i vs ys L' v X s E hE hcl hvl hi hJ hP S) (fun _ s₂ h₂ => wpAny_mono h₂ (fun ok s₃ h₃ => ⟨fun e => ?_, fun e => ?_⟩) fun _ _ e => e) fun _ _ e => e
   ·refine wpAny_mono (h₃.1 e) (fun y s₃ h₃ => ?_) fun _ _ e => e
    refine packG ?_; intro TT
    obtain ⟨vs', L'', hvl', hJ', S'⟩ := h₃
    exact l_append (y := lst (ys ++ [y])) (Upd.here.left _) S' (S'.isL (List.mem_append_right _ List.mem_cons_self)) (fun _ h => h) (line_le (hz i ys L' hJ)) fun s₅ S₅ => ⟨vs', (D, lst (ys ++ [y])) :: L'', ⟨ys ++ [y], L'', rfl, hvl', hJ'⟩, S₅⟩
   ·refine packG ?_; intro TT
    obtain ⟨vs', L'', hvl', hJ', S'⟩ := h₃.2 e
    exact ⟨vs', _, ⟨ys, L'', rfl, hvl', hJ'⟩, S'⟩
  ·intro vs _ s hJ1 S
   refine packG ?_; intro TT
   obtain ⟨ys, L', rfl, hvl, hJ⟩ := hJ1
   exact hend D _ vs ys L' s hJ S
 exact codeAny_compStart_list run (W.self S₄ run)
theorem e_lc {ifs : List Expr} {rest : List Comprehension} {Q : Value → Shared → Prop} (names : List Str) (cl : List (Str × Addr)) (hE : EnvIs env sc) (hclos : closureFor scope env = pure cl)
  (hcell : ∀ y ∈ scope.names, y.2 ≠ .cell) (hkind : scope.kind = .function) (hnames : ∀ x ∈ scope.names, x.2 = .local → scope.names.lookup x.1 = some .local) (hloc : ∀ x ∈ names, scope.names.lookup x = some .local) (hnd : names.Nodup)
  (h : wpAny (model prog w) A (eval iter env) (fun x s₁ => wpAny (model prog w) A (pyIter x) (fun it s₂ => wpAny (model prog w) A (newList []) (fun acc s₃ => ∃ L₃, St B fs L₃ s₃ ∧
   ∀ (cenv : Env) (nd : names.Nodup) (kd : ∀ x ∈ names, cenv.kindOf x = some .local) (fn : cenv.scope.kind = .function) s₄, EnvIs cenv (relabel scope env) → cenv.cells = cl → St B ((⟨cenv, names, nd, kd, fn⟩, names.map fun _ => none) :: fs) L₃ s₄ →
    codeAny (model prog w) A (.compStart (.ListComp elt (⟨tgt, iter, ifs, 0⟩ :: rest) scope pos) 0 it acc cenv) (CEnd B ⟨cenv, names, nd, kd, fn⟩ fs (Q acc)) s₄) E s₂) E s₁) E s)
  (hs : ∀ x, foldedSetIterable iter env x = pure x := by intro _; with_unfolding_all rfl) :
  wpAny (model prog w) A (eval (.ListComp elt (⟨tgt, iter, ifs, 0⟩ :: rest) scope pos) env) Q E s := by
 rw [eval_ListComp]
 exact comp_any names hE rfl hs hclos hcell hkind hnames hloc hnd h
noncomputable def UEnd (B : Bs) (f : Blk) (o : Blk) (ovs : List (Option Value)) (fs : List Fm) (k : Nat) (Q : Shared → Prop) (acc : Value) (r : Result) (s' : Shared) : Prop := match r with
 | .ok _ => ∃ vs L', St B ((f, vs) :: (o, ovs) :: fs) L' s' ∧ ∀ s'', St B ((o, ovs.set k (some acc)) :: fs) L' s'' → Q s''
 | .error _ => False
theorem xs_lc {ifs : List Expr} {rest : List Comprehension} {Q : Flow → Shared → Prop} {stmts : List Stmt} {y : Str} {py spos : Pos} {onames : List Str} {ond : onames.Nodup} {okd : ∀ x ∈ onames, env.kindOf x = some .local} {ofn : env.scope.kind = .function} {ovs : List (Option Value)} (k : Nat)
  (names : List Str) (cl : List (Str × Addr)) (hE : EnvIs env sc) (hclos : closureFor scope env = pure cl)
  (hcell : ∀ y ∈ scope.names, y.2 ≠ .cell) (hkind : scope.kind = .function) (hnames : ∀ x ∈ scope.names, x.2 = .local → scope.names.lookup x.1 = some .local) (hloc : ∀ x ∈ names, scope.names.lookup x = some .local) (hnd : names.Nodup)
  (hsw : swapsWith (.ListComp elt (⟨tgt, iter, ifs, 0⟩ :: rest) scope pos) (some (.Name y py)) spos.line env = pure true) (hy : onames[k]? = some y) (hk : k < ovs.length)
  (h : wpAny (model prog w) A (eval iter env) (fun x s₁ => wpAny (model prog w) A (pyIter x) (fun it s₂ => wpAny (model prog w) A (newList []) (fun acc s₃ => ∃ L₃, St B ((⟨env, onames, ond, okd, ofn⟩, ovs) :: fs) L₃ s₃ ∧
   ∀ (cenv : Env) (nd : names.Nodup) (kd : ∀ x ∈ names, cenv.kindOf x = some .local) (fn : cenv.scope.kind = .function) s₄, EnvIs cenv (relabel scope env) → cenv.cells = cl → St B ((⟨cenv, names, nd, kd, fn⟩, names.map fun _ => none) :: (⟨env, onames, ond, okd, ofn⟩, ovs) :: fs) L₃ s₄ →
    codeAny (model prog w) A (.compStart (.ListComp elt (⟨tgt, iter, ifs, 0⟩ :: rest) scope pos) 0 it acc cenv) (UEnd B ⟨cenv, names, nd, kd, fn⟩ ⟨env, onames, ond, okd, ofn⟩ ovs fs k (wpAny (model prog w) A (execs stmts env) Q E) acc) s₄) E s₂) E s₁) E s)
  (hs : ∀ x, foldedSetIterable iter env x = pure x := by intro _; with_unfolding_all rfl) :
  wpAny (model prog w) A (execs (.Assign [.Name y py] (.ListComp elt (⟨tgt, iter, ifs, 0⟩ :: rest) scope pos) spos :: stmts) env) Q E s := by
 refine xs_cons ?_
 rw [exec_Assign_Name_used _ _ _ _ hsw]
 refine wpAny_bind (wpAny_standAt (wpAny_bind ?_))
 show wpAny _ A (do let _ ← comprehension (.ListComp elt (⟨tgt, iter, ifs, 0⟩ :: rest) scope pos) scope env _ (newList []) false (eval iter env) (some (assign (.Name y py) env))) _ _ s
 exact wpAny_bind (wpAny_mono (comp_use (Q := wpAny (model prog w) A (execs stmts env) Q E) names hE k rfl hs hclos hcell hkind hnames hloc hnd hy hk h) (fun _ s' hq => wpAny_pure (wpAny_pure (cont_next hq))) fun _ _ e => e)
theorem uend {f o : Blk} {vs ovs : List (Option Value)} {k : Nat} {Q : Shared → Prop} {acc : Value} {fl : Flow} (S : St B ((f, vs) :: (o, ovs) :: fs) L s) (h : ∀ s'', St B ((o, ovs.set k (some acc)) :: fs) L s'' → Q s'') : UEnd B f o ovs fs k Q acc (.ok fl) s := ⟨vs, L, S, h⟩
theorem cend {f : Blk} {vs : List (Option Value)} {Q : Shared → Prop} {fl : Flow} (S : St B ((f, vs) :: fs) L s) (h : ∀ s'', St B fs L s'' → Q s'') : CEnd B f fs Q (.ok fl) s := ⟨vs, L, S, h⟩
end
end
section
open PySem PySem.W PyProof.Rows PySem.Calls
noncomputable def FrOk (es : List Env) (fs : List Fm) : Prop := ∀ env ∈ es, env.scope.kind ≠ .module ∧ ∃ f ∈ fs, env.frame = some f.1.env.locals
noncomputable def freed : Heap → List Addr → Heap
 | h, [] => h
 | h, a :: l => (freed h l).update a fun o => { o with data := .freed }
theorem freed_get (h : Heap) (l : List Addr) (b : Addr) : (freed h l).get? b = if b ∈ l then none else h.get? b := by
 induction l with
 | nil => simp [freed]
 | cons a l ih =>
  unfold freed
  by_cases e : b = a
  ·subst e
   simp only [List.mem_cons, true_or, if_true]
   unfold Heap.get? Heap.update
   obtain ⟨objs, lf⟩ := freed h l
   simp only [Array.getElem?_modify, if_true]
   cases objs[b]? <;> rfl
  ·rw [Heap.get?_update_other _ _ (Ne.symm e), ih]
   simp [e]
section
variable {prog : Program} {w : World} {B : Bs} {fs : List Fm} {L L' : List (Addr × O)} {s : Shared} {A : Around} {E : Value → Shared → Prop} {n : Nat} {es : List Env} {env : Env}
theorem St.slots (S : St B fs L s) {l : List Addr} (x : Addr) (hx : x ∉ fs.map (·.1.env.locals) ∧ x ∉ L.map (·.1) ∧ B.h.get? x = none) (hl : ∀ a ∈ l, a ∈ fs.map (·.1.env.locals)) {h' : Heap} (h1 : ∀ b o, b ∉ l → b ≠ x → s.heap.get? b = some o → h'.get? b = some o)
  (h2 : ∀ b o es ep, b ∈ l → s.heap.get? b = some o → o.data = .dict es ep → ∃ o', h'.get? b = some o' ∧ o'.data = o.data) {t : Nat} {d : Drawn} : St B fs L ⟨h', s.gens, d, t, s.os⟩ := by
 refine ⟨fun b o e => h1 b o (fun hm => ?_) (fun q => ?_) (S.old b o e), S.os, S.gens, fun f hf => ?_, fun p hp => ?_, S.nd, S.new⟩
 ·have := S.new b (List.mem_append_left _ (hl b hm)); rw [e] at this; cases this
 ·rw [q, hx.2.2] at e; cases e
 ·obtain ⟨o, es, ep, e, hd, r⟩ := S.fr f hf
  by_cases hm : f.1.env.locals ∈ l
  ·obtain ⟨o', e', hd'⟩ := h2 _ o es ep hm e hd
   exact ⟨o', es, ep, e', hd'.trans hd, r⟩
  ·exact ⟨o, es, ep, h1 _ o hm (fun q => hx.1 (q ▸ List.mem_map_of_mem hf)) e, hd, r⟩
 ·obtain ⟨o, e, i⟩ := S.led p hp
  refine ⟨o, h1 _ o (fun hm => ?_) (fun q => hx.2.1 (q ▸ List.mem_map_of_mem hp)) e, i⟩
  obtain ⟨f, hf, q⟩ := List.mem_map.mp (hl _ hm)
  exact S.ne hf hp q
theorem FrOk.fun (hF : FrOk es fs) {h base : Heap} (hb : ∀ f ∈ fs, base.get? f.1.env.locals = none ∨ ¬ (∃ env ∈ es, env.frame = some f.1.env.locals)) (hn : ∀ f ∈ fs, h.Ns f.1.env.locals (lookV f.1.names f.2)) : h.FunFrames base es := by
 induction es with
 | nil => trivial
 | cons env es ih =>
  obtain ⟨hk, f, hf, hfr⟩ := hF env List.mem_cons_self
  obtain ⟨o, es', ep, ho, hd, _⟩ := hn f hf
  refine ⟨hk, ⟨f.1.env.locals, o, hfr, ?_, ho, fun vs q => by rw [hd] at q; cases q⟩, ih (fun e he => hF e (List.mem_cons_of_mem _ he)) fun f hf => (hb f hf).imp id fun h ⟨e, he, q⟩ => h ⟨e, List.mem_cons_of_mem _ he, q⟩⟩
  rcases hb f hf with h | h
  ·exact h
  ·exact absurd ⟨env, List.mem_cons_self, hfr⟩ h
theorem caught {h' : Heap} {e : Addr} {X T : String} {tk : Nat} {t : Expr} {b₀ : Stmt} {suite : List Stmt} {hpos : Pos} {Q : Flow → Shared → Prop} (S : St B fs L s) (hF : FrOk (env :: es) fs) (hfr : A.frames = some (env :: es)) (hx : Heap.NewExc s.heap h' e X)
  (hexc : isSubtype (.type T) (.type "BaseException") = pure true) (hnt : isSubtype (.type ((Manifest.find? T).elim "type" fun x => x.metatype)) (.type "tuple") = pure false) (hsub : isSubtype (.type X) (.type T) = pure true)
  (ht : ∀ (A : Around) (Q E : Value → Shared → Prop) (s : Shared), St B fs L s → Q (.type T) s → wpAny (model prog w) A (eval t env) Q E s)
  (h : ∀ A' E' s', A'.frames = A.frames → A'.depth = A.depth → A'.units = A.units → St B fs L s' → wpAny (model prog w) A' (execs (b₀ :: suite) env) Q E' s') :
  wpAny (model prog w) A (noteFrame (.ref e) env) (fun _ s₂ => wpAny (model prog w) A (setFlight (.ref e) none) (fun _ s₃ => wpAny (model prog w) A (handleBy (.ref e) env [.ExceptHandler (some t) none (b₀ :: suite) hpos]) Q E s₃) E s₂) E { s with heap := h', toks := tk } := by
 obtain ⟨hk, f₀, hf₀, hfe⟩ := hF env List.mem_cons_self
 obtain ⟨oe, tp, he, hc, hd⟩ := hx.there
 have S0 : St B fs L { s with heap := h', toks := tk } := S.grow hx.keeps
 let l := (env :: es).filterMap (·.frame)
 have hl : ∀ a ∈ l, a ∈ fs.map (·.1.env.locals) := fun a ha => by
  obtain ⟨env', he', q⟩ := List.mem_filterMap.mp ha
  obtain ⟨_, f, hf, q'⟩ := hF env' he'
  rw [q] at q'; cases q'
  exact List.mem_map_of_mem hf
 have hnew : e ∉ fs.map (·.1.env.locals) ∧ e ∉ L.map (·.1) ∧ B.h.get? e = none := by
  refine ⟨fun q => ?_, fun q => ?_, ?_⟩
  ·obtain ⟨f, hf, q⟩ := List.mem_map.mp q
   obtain ⟨o, _, _, ho, _⟩ := S.fr f hf
   rw [q, hx.new] at ho; cases ho
  ·obtain ⟨p, hp, q⟩ := List.mem_map.mp q
   obtain ⟨o, ho, _⟩ := S.led p hp
   rw [q, hx.new] at ho; cases ho
  ·cases q : B.h.get? e with
   | none => rfl
   | some o => have := S.old e o q; rw [hx.new] at this; cases this
 let base := freed h' (e :: l)
 have hbase : ∀ b, base.get? b = if b ∈ e :: l then none else h'.get? b := freed_get h' (e :: l)
 have hkb : base.StaysIn h' := fun b o q => by rw [hbase] at q; split at q <;> first | cases q | exact q
 have hen : base.get? e = none := by rw [hbase, if_pos List.mem_cons_self]
 have hff : h'.FunFrames base (env :: es) := by
  refine FrOk.fun hF (fun f hf => ?_) S0.fr
  by_cases q : ∃ env' ∈ env :: es, env'.frame = some f.1.env.locals
  ·obtain ⟨env', he', q⟩ := q
   exact .inl (by rw [hbase, if_pos (List.mem_cons_of_mem _ (List.mem_filterMap.mpr ⟨env', he', q⟩))])
  ·exact .inr q
 unfold noteFrame
 simp only [hfe]
 refine wpAny_bind (wpAny_field (s := { s with heap := h', toks := tk }) he hd (x := .none) rfl ?_)
 rw [if_neg (by decide)]
 refine wpAny_newEntry (s := { s with heap := h', toks := tk }) (base := base) hfr hff hfe he hkb hen hd (by simp) fun h₁ hL => ?_
 refine packG ?_; intro TT
 obtain ⟨k1, k2, ⟨oe', vs', Tb, oT, ts, he', hcls', hd', h1', hbT, hTe, hT, hdT, h3⟩, k4⟩ := hL
 have hS1 : St B fs L { s with heap := h₁, toks := tk } := by
  refine S0.slots (l := l) e hnew hl (fun b o hb hbe q => ?_) fun b o es ep hb q hd => ?_
  ·exact k1 b o (by rw [hbase, if_neg (by simp [hbe, hb])]; exact q)
  ·refine packG ?_; intro TT
   obtain ⟨sl, q'⟩ := k4 b o q (fun vs z => by rw [hd] at z; cases z)
   exact ⟨_, q', rfl⟩
 have hTn : Tb ∉ fs.map (·.1.env.locals) ∧ Tb ∉ L.map (·.1) ∧ B.h.get? Tb = none := by
  have hfs : Tb ∉ fs.map (·.1.env.locals) := fun q => by
   refine packG ?_; intro TT
   obtain ⟨f, hf, q⟩ := List.mem_map.mp q
   obtain ⟨o, _, _, ho, hd, _⟩ := hS1.fr f hf
   rw [q] at ho
   have := hT.symm.trans ho
   cases this
   rw [hdT] at hd; cases hd
  have hnone : ∀ o, h'.get? Tb ≠ some o := fun o q => by
   rw [hbase, if_neg (by simp only [List.mem_cons, not_or]; exact ⟨hTe, fun hm => hfs (hl _ hm)⟩)] at hbT
   rw [hbT] at q; cases q
  refine ⟨hfs, fun q => ?_, ?_⟩
  ·refine packG ?_; intro TT
   obtain ⟨p, hp, q⟩ := List.mem_map.mp q
   obtain ⟨o, ho, _⟩ := S0.led p hp
   rw [q] at ho; exact hnone o ho
  ·cases q : B.h.get? Tb with
   | none => rfl
   | some o => exact absurd (S0.old Tb o q) (hnone o)
 refine wpAny_handleBy_builtin hexc hnt hsub ?_
 refine ht _ _ _ _ hS1 ⟨rfl, ⟨oe', he', hcls'.trans hc⟩, ?_⟩
 rw [if_pos rfl]
 refine wpAny_setFlight_none (s := { s with heap := h₁, toks := tk }) he' hd' h1' hT hdT (Array.getElem?_eq_some_iff.mp h3).1 ?_
 refine h _ _ _ rfl rfl rfl ?_
 exact hS1.slots (l := []) Tb hTn (by simp) (fun b o _ hb q => (Heap.get?_update_other _ _ (Ne.symm hb)).trans q) (by simp)
theorem xs_try {body : List Stmt} {h₀ : ExceptHandler} {hs : List ExceptHandler} {pos : Pos} {rest : List Stmt} {Q : Flow → Shared → Prop}
  (h : wpAny (model prog w) A (execs body env) (Cont (model prog w) A rest env Q E)
   (fun e s₁ => wpAny (model prog w) A (noteFrame e env) (fun _ s₂ => wpAny (model prog w) A (setFlight e none) (fun _ s₃ => wpAny (model prog w) A (handleBy e env (h₀ :: hs)) (Cont (model prog w) A rest env Q E) E s₃) E s₂) E s₁) s) :
  wpAny (model prog w) A (execs (.Try body (h₀ :: hs) [] [] pos :: rest) env) Q E s :=
 xs_cons (wpAny_Try_except (wpAny_mono h (fun f s₁ h₁ => by cases f <;> first | exact wpAny_execs_nil h₁ | exact h₁) fun _ _ h => h))
end
end
section
open PySem PySem.W PyProof.Rows PySem.Calls
section
variable {prog : Program} {w : World} {B : Bs} {fs : List Fm} {L L' L₀ : List (Addr × O)} {s : Shared} {A : Around} {E : Value → Shared → Prop} {n : Nat} {es : List Env} {env : Env} {Q : Value → Shared → Prop}
 {a : Addr} {vs vs' : List Value} {v : Value} {pos : Pos} {z y : O}
theorem t_name {M : Model} {x : Str} {p : Pos} {whole : Sem Value} {Q : Bool → Shared → Prop} (h : wpAny M A whole (fun v s₁ => wpAny M A (truthy v) Q E s₁) E s) : wpAny M A (isTrue (.Name x p) env whole) Q E s := isTrue_plain h rfl
theorem t_call {M : Model} {f : Expr} {xs : List Expr} {ks : List Keyword} {p : Pos} {whole : Sem Value} {Q : Bool → Shared → Prop} (h : wpAny M A whole (fun v s₁ => wpAny M A (truthy v) Q E s₁) E s) : wpAny M A (isTrue (.Call f xs ks p) env whole) Q E s := isTrue_plain h rfl
theorem t_attr {M : Model} {f : Expr} {x : Str} {p : Pos} {whole : Sem Value} {Q : Bool → Shared → Prop} (h : wpAny M A whole (fun v s₁ => wpAny M A (truthy v) Q E s₁) E s) : wpAny M A (isTrue (.Attribute f x p) env whole) Q E s := isTrue_plain h rfl
theorem t_bin {M : Model} {x y : Expr} {op : Operator} {p : Pos} {whole : Sem Value} {Q : Bool → Shared → Prop} (h : wpAny M A whole (fun v s₁ => wpAny M A (truthy v) Q E s₁) E s) : wpAny M A (isTrue (.BinOp x op y p) env whole) Q E s := isTrue_plain h rfl
theorem t_const {M : Model} {c : Const} {k : Nat} {p : Pos} {whole : Sem Value} {Q : Bool → Shared → Prop} (h : wpAny M A whole (fun v s₁ => wpAny M A (truthy v) Q E s₁) E s) : wpAny M A (isTrue (.Constant c k p) env whole) Q E s := isTrue_plain h rfl
theorem while_st {test : Expr} {body orelse : List Stmt} {R : Result → Shared → Prop} {blk : Blk} {vs₀ : List (Option Value)} (k₀ : Nat) (J : Nat → List (Option Value) → List (Addr × O) → Prop) (S : St B ((blk, vs₀) :: fs) L₀ s) (h0 : J k₀ vs₀ L₀)
  (turn : ∀ k vs L s E, J k vs L → St B ((blk, vs) :: fs) L s → wpAny (model prog w) A (isTrue test env (eval test env)) (fun b s₂ =>
   (b = true → wpAny (model prog w) A (execs body env) (TurnQ (fun s₃ => ∃ k' vs' L', k' < k ∧ J k' vs' L' ∧ St B ((blk, vs') :: fs) L' s₃) R) E s₂) ∧
   (b = false → wpAny (model prog w) A (execs orelse env) (fun f s₃ => R (.ok f) s₃) E s₂)) E s) :
  codeAny (model prog w) A (.whileLoop test body orelse env) R s := by
 refine codeAny_whileLoop (fun k s => ∃ vs L, J k vs L ∧ St B ((blk, vs) :: fs) L s) ?_ k₀ ⟨vs₀, L₀, h0, S⟩
 intro k s hJ1
 refine packG ?_; intro TT
 obtain ⟨vs, L, hJ, S⟩ := hJ1
 refine wpAny_mono (turn k vs L s _ hJ S) (fun b s₂ h₂ => ?_) fun _ _ e => e
 cases b with
 | false => rw [if_neg (by decide)]; exact h₂.2 rfl
 | true =>
  rw [if_pos rfl]
  refine wpAny_mono (h₂.1 rfl) (fun f s₃ h₃ => ?_) fun _ _ e => e
  cases f with
  | next => obtain ⟨k', vs', L', hk, hJ, S⟩ := h₃; exact ⟨k', hk, vs', L', hJ, S⟩
  | cont => obtain ⟨k', vs', L', hk, hJ, S⟩ := h₃; exact ⟨k', hk, vs', L', hJ, S⟩
  | brk => exact h₃
  | ret v => exact h₃
theorem call_fr {R : Result → Shared → Prop} {a : Addr} {o : Obj} {fd : FuncData} {body : List Stmt} {args : Args} {names rest : List Str} {vals : List Value} (O : Ok B w) (S : St B fs L s) (hA : AOk A (n + 1) es) (hF : FrOk es fs)
  (ho : ∀ P, (KF P).lookup a = some o) (hdata : o.data = .func fd) (hcd : ∀ P, codeIn (KF P) fd.code fd.qualname = true) (hbody : fd.body = .stmts body)
  (hbind : bindArgs fd args = pure (names.zip vals)) (hlen : names.length = vals.length)
  (hcell : ∀ x ∈ fd.scope.names, x.2 ≠ .cell) (hloc : ∀ x ∈ names ++ rest, fd.scope.names.lookup x = some .local) (hnd : (names ++ rest).Nodup) (hk : fd.scope.kind = .function)
  (hgl : fd.globals = mainGlobals) (hbl : fd.builtins = builtinsNs)
  (h : ∀ (env : Env) (nd : (names ++ rest).Nodup) (kd : ∀ x ∈ names ++ rest, env.kindOf x = some .local) (fn : env.scope.kind = .function) s', EnvIs env fd.scope → (∀ vs, FrOk (env :: es) ((⟨env, names ++ rest, nd, kd, fn⟩, vs) :: fs)) →
   St B ((⟨env, names ++ rest, nd, kd, fn⟩, vals.map some ++ rest.map fun _ => none) :: fs) L s' → AOk (A.deeper env) n (env :: es) → ∀ E, wpAny (model prog w) (A.deeper env) (execs body env) (BodyQ R) E s')
  (hco : fd.scope.isCoroutine = false := by rfl) (hgen : fd.scope.isGenerator = false := by rfl) :
  codeAny (model prog w) A (.call (.ref a) args) R s := by
 refine call_gen O S hA (S.K O _ _ (ho _)) hdata (codeRec_of (S.K O) (hcd _)) hbody hcell hloc hnd hk hgl hbl (fun E => ?_) hco hgen
 rw [hbind]
 refine wpAny_pure ⟨vals, L, rfl, hlen, S, fun env nd kd fn s' hE _ hfr _ S' hA' => h env nd kd fn s' hE (fun vs e he => ?_) S' hA'⟩
 rcases List.mem_cons.mp he with rfl | he
 ·exact ⟨by rw [fn]; decide, _, List.mem_cons_self, hfr⟩
 ·refine packG ?_; intro TT
  obtain ⟨h1, f, hf, h2⟩ := hF e he
  exact ⟨h1, f, List.mem_cons_of_mem _ hf, h2⟩
theorem str_eqb (x y : Str) : (x.cps.toList == y.cps.toList) = decide (x = y) := by
 by_cases h : x = y
 ·subst h; simp
 ·rw [decide_eq_false h]
  cases q : x.cps.toList == y.cps.toList with
  | false => rfl
  | true =>
   rw [beq_iff_eq] at q
   obtain ⟨⟨a⟩⟩ := x; obtain ⟨⟨b⟩⟩ := y
   exact absurd (by simpa using q) h
theorem eqg_str {x y : Str} {t u : Tok} : MeetsSeq.EqGives (.str x t) (.str y u) (decide (x = y)) := by rw [← str_eqb]; exact SeqRoads2.EqGives.str x y t u
noncomputable def strIs (x : Str) (v : Value) : Bool := match v with | .str y _ => decide (y = x) | _ => false
theorem strIs_of {xs : List Str} {vs : List Value} (h : F2 StrV xs vs) (x : Str) (t : Tok) : ∀ y, y ∈ vs.toArray → MeetsSeq.EqGives y (.str x t) (strIs x y) := by
 intro y hy
 obtain ⟨z, _, ⟨u, rfl⟩⟩ := h.mem (v := y) (by simpa using hy)
 exact eqg_str
theorem strIs_at {xs : List Str} {vs : List Value} (h : F2 StrV xs vs) (x : Str) {m : Nat} (hm : m < vs.toArray.size) (hm' : m < xs.length) : strIs x vs.toArray[m] = decide (xs[m] = x) := by
 obtain ⟨v, e, ⟨u, hu⟩⟩ := h.get (i := m) (x := xs[m]) (by simp [hm'])
 have : vs.toArray[m] = v := by
  have := List.getElem?_eq_some_iff.mp e
  simpa using this.2
 rw [this, hu]; rfl
theorem F2.eraseIdx {α β : Type} {R : α → β → Prop} {xs : List α} {vs : List β} (h : F2 R xs vs) (j : Nat) : F2 R (xs.eraseIdx j) (vs.eraseIdx j) := by
 induction h generalizing j with
 | nil => exact .nil
 | cons r k ih => cases j with
  | zero => exact k
  | succ j => exact .cons r (ih j)
theorem l_remove {xs : List Str} {x : Str} {t : Tok} (u : Upd a z y L L') (S : St B fs L s) (hl : IsL s a vs) (hv : F2 StrV xs vs) (hx : x ∈ xs) (hz : xs.length ≤ 10000) (hy : ∀ o, lstR StrV (xs.erase x) o → y o) (h : ∀ s', St B fs L' s' → Q .none s') :
  wpAny (model prog w) A (call (.builtin "list.remove") [.ref a, .str x t]) Q E s := by
 refine packG ?_; intro TT
 obtain ⟨k, e⟩ := id hl
 have hlen := hv.len
 have hj : xs.idxOf x < xs.length := List.idxOf_lt_length_of_mem hx
 refine call_meets PySem.F.slot_list_remove hl.ty PySem.F.entry_list_remove (PySem.F.args_list_remove_2 _ _) (MeetsSeq.list_remove a vs.toArray k (.str x t) (strIs x) (strIs_of hv x t) (xs.idxOf x) (by simp; lia) ?_ (fun m hm hlt => ?_) (by rw [List.size_toArray]; exact line_le (by lia))) ⟨e, h _ ?_⟩
 ·rw [strIs_at hv x _ hj]; simp
 ·rw [strIs_at hv x hm (by lia)]
  have := List.not_of_lt_findIdx (xs := xs) (p := (· == x)) (i := m) (by simpa [List.idxOf] using hlt)
  simpa using this
 ·refine S.mapSeq u hl (vs' := vs.eraseIdx (xs.idxOf x)) (by simp) fun o ho => hy o ⟨_, ?_, ho⟩
  rw [List.erase_eq_eraseIdx_of_idxOf (by rfl)]
  exact hv.eraseIdx _
theorem l_remove_no {xs : List Str} {x : Str} {t : Tok} (hh : A.handled = none) (S : St B fs L s) (hl : IsL s a vs) (hv : F2 StrV xs vs) (hx : x ∉ xs) (h : ∀ h' tk e, Heap.NewExc s.heap h' e "ValueError" → E (.ref e) { s with heap := h', toks := tk }) :
  wpAny (model prog w) A (call (.builtin "list.remove") [.ref a, .str x t]) Q E s := by
 refine packG ?_; intro TT
 obtain ⟨k, e⟩ := id hl
 have hlen := hv.len
 refine call_meets PySem.F.slot_list_remove hl.ty PySem.F.entry_list_remove (PySem.F.args_list_remove_2 _ _) (MeetsSeq.list_remove_none a vs.toArray k (.str x t) (strIs x) (strIs_of hv x t) (fun m hm => ?_)) ⟨e, hh, h⟩
 have hm' : m < xs.length := by simpa [hlen] using hm
 rw [strIs_at hv x hm hm']
 simp only [decide_eq_false_iff_not]
 exact fun q => hx (q ▸ List.getElem_mem hm')
theorem l_index {xs : List Str} {x : Str} {t : Tok} (S : St B fs L s) (hl : IsL s a vs) (hv : F2 StrV xs vs) (hx : x ∈ xs) (hz : xs.length ≤ 10000) (h : ∀ t s', St B fs L s' → Q (.int (xs.idxOf x) t) s') :
  wpAny (model prog w) A (call (.builtin "list.index") [.ref a, .str x t]) Q E s := by
 refine packG ?_; intro TT
 obtain ⟨k, e⟩ := id hl
 have hlen := hv.len
 have hj : xs.idxOf x < xs.length := List.idxOf_lt_length_of_mem hx
 refine call_meets PySem.F.slot_list_index hl.ty PySem.F.entry_list_index (PySem.F.args_list_index_2 _ _) (MeetsSeq.list_index a vs.toArray k (.str x t) (strIs x) (strIs_of hv x t) (xs.idxOf x) (by simp; lia) (by lia) ?_ (fun m hm hlt => ?_)) ⟨e, h _ _ (S.toks rfl rfl rfl)⟩
 ·rw [strIs_at hv x _ hj]; simp
 ·rw [strIs_at hv x hm (by lia)]
  have := List.not_of_lt_findIdx (xs := xs) (p := (· == x)) (i := m) (by simpa [List.idxOf] using hlt)
  simpa using this
theorem any_strIs {xs : List Str} {vs : List Value} (h : F2 StrV xs vs) (x : Str) : vs.toArray.any (strIs x) = decide (x ∈ xs) := by
 rw [List.any_toArray]
 induction h with
 | nil => rfl
 | cons r k ih =>
  obtain ⟨u, rfl⟩ := r
  rw [List.any_cons, ih]
  simp only [strIs, List.mem_cons, Bool.decide_or]
  congr 1
  exact decide_eq_decide.mpr ⟨Eq.symm, Eq.symm⟩
theorem l_in {xs : List Str} {x : Str} {t : Tok} (S : St B fs L s) (hl : IsL s a vs) (hv : F2 StrV xs vs) (h : Q (.bool (decide (x ∈ xs))) s) : wpAny (model prog w) A (compareOp .In (.str x t) (.ref a)) Q E s := by
 refine packG ?_; intro TT
 obtain ⟨k, e⟩ := id hl
 show wpAny _ _ (do return .bool (← contains (.ref a) (.str x t))) Q E s
 refine wpAny_bind (contains_slot hl.ty PySem.F.slot_list_contains (call_meets PySem.F.slot_list_contains hl.ty PySem.F.entry_list_contains (PySem.F.args_list_contains_2 _ _) (MeetsSeq.list_contains a vs.toArray k (.str x t) (strIs x) (strIs_of hv x t)) ⟨e, ?_⟩))
 rw [any_strIs hv]
 exact wpAny_truthy_bool (wpAny_pure h)
theorem l_pop_at {i : Int} {t : Tok} {k : Nat} (u : Upd a z y L L') (S : St B fs L s) (hl : IsL s a vs) (hi : i = k) (hk : k < vs.length) (hz : vs.length ≤ 10000) (hv : vs[k]? = some v) (hy : ∀ o, lst (vs.eraseIdx k) o → y o) (h : ∀ s', St B fs L' s' → Q v s') :
  wpAny (model prog w) A (call (.builtin "list.pop") [.ref a, .int i t]) Q E s := by
 refine packG ?_; intro TT
 obtain ⟨n, e⟩ := id hl
 have h1 : Builtin.List.listFitsIndex i = true := by subst hi; unfold Builtin.List.listFitsIndex; simp; lia
 have h2 : seqIndex? i vs.toArray.size = some k := by subst hi; unfold seqIndex?; simp; lia
 have h3 : vs.toArray[k]? = some v := by simpa using hv
 have h4 : vs.toArray.size ≤ sizeLine := by rw [List.size_toArray]; exact line_le hz
 clear hi
 refine call_meets PySem.F.slot_list_pop hl.ty PySem.F.entry_list_pop (PySem.F.args_list_pop_2 _ _) (@MeetsSeq.list_pop_at a vs.toArray n i t k v h1 h2 h3 h4) ⟨e, h _ ?_⟩
 exact S.mapSeq u hl (by simp) hy
end
end
section
open PySem PySem.W PyProof.Rows PySem.Calls Builtin Builtin.ObjectAttr
theorem lk_ga : typeLookup (.type "list_iterator") "__getattribute__" = pure (some (.builtin "object.__getattribute__")) := by rw [typeLookup_type, builtinLookup_eq_fast]; kernel_rfl
theorem lk_gat : typeLookup (.type "list_iterator") "__getattr__" = pure none := by rw [typeLookup_type, builtinLookup_eq_fast]; kernel_rfl
theorem lk_next : typeLookup (.type "list_iterator") "__next__" = pure (some (.builtin "list_iterator.__next__")) := by rw [typeLookup_type, builtinLookup_eq_fast]; kernel_rfl
theorem ty_next : typeOf (.builtin "list_iterator.__next__") = pure (.type "wrapper_descriptor") := by show builtinType _ = _; rw [builtinType_eq_fast]; kernel_rfl
theorem lk_wget : typeLookup (.type "wrapper_descriptor") "__get__" = pure (some (.builtin "wrapper_descriptor.__get__")) := by rw [typeLookup_type, builtinLookup_eq_fast]; kernel_rfl
theorem lk_wset : typeLookup (.type "wrapper_descriptor") "__set__" = pure none := by rw [typeLookup_type, builtinLookup_eq_fast]; kernel_rfl
theorem lk_wdel : typeLookup (.type "wrapper_descriptor") "__delete__" = pure none := by rw [typeLookup_type, builtinLookup_eq_fast]; kernel_rfl
theorem slot_obga : Slot "list_iterator" "__getattribute__" "object.__getattribute__" :=
 .of (owner := "object") (n := "__getattribute__") (by rw [typeLookup_type, builtinLookup_eq_fast]; kernel_rfl) (by decide +kernel) (by decide +kernel) (by decide +kernel)
  (by first | exact .inl (by decide +kernel) | exact .inr (by decide +kernel)) (by rw [isSubtype_type]; kernel_rfl)
theorem slot_wget : Slot "wrapper_descriptor" "__get__" "wrapper_descriptor.__get__" :=
 .of (owner := "wrapper_descriptor") (n := "__get__") (by rw [typeLookup_type, builtinLookup_eq_fast]; kernel_rfl) (by decide +kernel) (by decide +kernel) (by decide +kernel)
  (by first | exact .inl (by decide +kernel) | exact .inr (by decide +kernel)) (by rw [isSubtype_type]; kernel_rfl)
theorem entry_wget : entryFor table "wrapper_descriptor.__get__" = some Builtin.«wrapper_descriptor.__get__» := entryFor_of_tree (by kernel_rfl)
theorem args_wget (a b c : Value) : argsOk "wrapper_descriptor.__get__" ⟨[a, b, c], []⟩ := by unfold argsOk; kernel_rfl
theorem args_obga (a b : Value) : argsOk "object.__getattribute__" ⟨[a, b], []⟩ := by unfold argsOk; kernel_rfl
section
variable {prog : Program} {w : World} {A : Around} {E : Value → Shared → Prop} {s : Shared} {it a : Addr} {i : Nat} {expr : Bool} {Q : Value → Shared → Prop}
theorem ga_next0 {h : Heap} {g : Array GenState} {d : Drawn} {t : Nat} {os : OsState} (hx : h.get? it = some { cls := .type "list_iterator", dict := none, data := .fields #[.ref a, .int i 0], slots := #[] })
  (hq : Q (.ref h.objs.size) ⟨h.push { cls := .type "method-wrapper", data := .fields #[.builtin "list_iterator.__next__", .ref it] }, g, d, t + 1, os⟩) :
  wpAny (model prog w) A (getAttr (.ref it) "__next__" expr) Q E ⟨h, g, d, t, os⟩ := by
 have hT : ∀ t, (⟨h, g, d, t, os⟩ : Shared).TypeIs (.ref it) "list_iterator" := fun _ => ⟨_, hx, rfl⟩
 have f1 := lk_ga
 have f2 := lk_gat
 have f3 := lk_next
 have f4 := ty_next
 have f5 := lk_wget
 have f6 := lk_wset
 have f7 := lk_wdel
 have f8 := slot_obga.bind (.ref it)
 unfold getAttr getAttrBy
 repeat (any_goals (first | assumption | exact hT _ | wp_step))
 rw [show (expr && onTheHeap (.builtin "object.__getattribute__")) = false by cases expr <;> rfl, if_neg (by decide)]
 unfold boundAndCalled
 repeat (any_goals (first | assumption | exact hT _ | wp_step))
 refine codeAny_call_builtin slot_obga.plain PySem.F.entry_object_getattribute (slot_obga.check _ _ _ _ _ _ _ _ (hT _) (args_obga _ _) ?_)
 unfold Builtin.«object.__getattribute__»
 have LT : Looks (model prog w) h (typeOf (.ref it)) (.type "list_iterator") := (Looks.ld hx).andThen .now
 have LS : ∀ n r, typeLookup (.type "wrapper_descriptor") n = pure r → Looks (model prog w) h (specialOf (.builtin "list_iterator.__next__") n) r := fun n r e => (Looks.of_pure f4).andThen (Looks.of_pure e)
 have LF : Looks (model prog w) h (find (.ref it) (.type "list_iterator") "__next__") (.bind (.builtin "wrapper_descriptor.__get__") (.builtin "list_iterator.__next__")) := by
  refine (Looks.of_pure f3).andThen ((LS _ _ f5).andThen ?_)
  have tk : Looks (model prog w) h (takesStores (.builtin "list_iterator.__next__")) false := by
   intro A Q E s k q
   refine wpAny_bind (LS _ _ f6 A _ E s k ?_)
   rw [if_neg (by decide)]
   exact wpAny_bind (LS _ _ f7 A _ E s k (wpAny_pure q))
  refine Looks.andThen (a := none) (tk.andThen .now) ?_
  refine Looks.andThen (a := none) ?_ (Looks.andThen (a := ()) ?_ (Looks.tag .now))
  ·refine Looks.andThen (a := none) ?_ .now
   intro A Q E s k q
   refine wpAny_bind (wpAny_loadPart (k _ _ hx) ?_)
   dsimp only
   unfold instanceDict
   refine wpAny_bind (wpAny_loadPart (k _ _ hx) ?_)
   exact wpAny_pure q
  ·exact Looks.of_pure (by unfold copiedAttributeGuard; rfl)
 refine wpAny_bind (wpAny_pure ?_)
 show wpAny _ _ (attrName (.str "__next__" t) >>= _) _ _ _
 refine wpAny_bind (wpAny_pure (wpAny_bind (LT.at (wpAny_bind (LF.at ?_)))))
 show wpAny _ _ (holding [Value.builtin "list_iterator.__next__"] (call (.builtin "wrapper_descriptor.__get__") [.builtin "list_iterator.__next__", .ref it, .type "list_iterator"]) >>= ret) _ _ _
 refine wpAny_bind (wpAny_holding ?_)
 refine wpAny_call (codeAny_call_builtin slot_wget.plain entry_wget (slot_wget.check _ _ _ _ _ _ _ _ (show Shared.TypeIs _ (.builtin "list_iterator.__next__") "wrapper_descriptor" from f4) (args_wget _ _ _) ?_))
 unfold Builtin.«wrapper_descriptor.__get__»
 have hsub : isSubtype (.type "list_iterator") (.type "list_iterator") = pure true := by rw [isSubtype_type]; kernel_rfl
 have LI : Looks (model prog w) h (isInstance (.ref it) (.type "list_iterator")) true := LT.andThen (Looks.of_pure hsub)
 repeat lk
 exact hq
noncomputable def liO (a : Addr) (i : Nat) : O := raw { cls := .type "list_iterator", dict := none, data := .fields #[.ref a, .int i 0], slots := #[] }
noncomputable def nxtO (it : Addr) : O := raw { cls := .type "method-wrapper", dict := none, data := .fields #[.builtin "list_iterator.__next__", .ref it], slots := #[] }
noncomputable def anyO : O := fun _ => True
variable {B : Bs} {fs : List Fm} {L L' : List (Addr × O)} {m : Addr} {vs : List Value} {v : Value} {env : Env} {pos : Pos}
theorem ga_next (S : St B fs L s) (hx : At s it (liO a i)) (h : ∀ m s', St B fs ((m, nxtO it) :: L) s' → Q (.ref m) s') : wpAny (model prog w) A (getAttr (.ref it) "__next__" expr) Q E s := by
 refine packG ?_; intro TT
 obtain ⟨o, e, rfl⟩ := hx
 obtain ⟨hp, g, d, t, os⟩ := s
 exact ga_next0 e (h _ _ (S.alloc (o := { cls := .type "method-wrapper", data := .fields #[.builtin "list_iterator.__next__", .ref it] }) (y := nxtO it) rfl rfl))
theorem mw_call {R : Result → Shared → Prop} (hm : At s m (nxtO it)) (h : codeAny (model prog w) A (.builtin "list_iterator.__next__" ⟨[.ref it], []⟩) R s) : codeAny (model prog w) A (.call (.ref m) ⟨[], []⟩) R s := by
 refine packG ?_; intro TT
 obtain ⟨o, e, rfl⟩ := hm
 obtain ⟨hp, g, d, t, os⟩ := s
 refine codeAny_of_tree ?_
 show wpAny _ _ (callAny (.ref m) _) _ _ _
 dsimp only at e
 refine nd_load e ?_
 have hc : checkBoundCall "list_iterator.__next__" ⟨[.ref it], []⟩ = pure () := by kernel_rfl
 have Lc : Looks (model prog w) hp (checkBoundCall "list_iterator.__next__" ⟨[.ref it], []⟩) () := Looks.of_pure hc
 repeat lk
 exact ⟨Code.quiet_builtin _ (by decide +kernel), h⟩
theorem cw_mw (hm : At s m (nxtO it)) (h : wpAny (model prog w) A (call (.ref m) []) Q E s) : wpAny (model prog w) A (callWith pos (.ref m) [] (backTo pos (starEach [] env)) []) Q E s := by
 refine packG ?_; intro TT
 obtain ⟨o, e, rfl⟩ := hm
 refine callWith_of (P := fun hh => hh.get? m = some { cls := .type "method-wrapper", dict := none, data := .fields #[.builtin "list_iterator.__next__", .ref it], slots := #[] }) rfl (fun hh X => ⟨.machine, .inr (.inl rfl), (Looks.ld (part := none) X).andThen .now⟩) (evalArgs_nil3 ⟨e, h⟩)
theorem mw_item {x y : O} (u : Upd it x y L L') (S : St B fs L s) (hm : At s m (nxtO it)) (hit : At s it (liO a i)) (hl : IsL s a vs) (hv : vs[i]? = some v) (hy : ∀ o, liO a (i + 1) o → y o) (h : ∀ s', St B fs L' s' → Q v s') :
  wpAny (model prog w) A (call (.ref m) []) Q E s := by
 refine w_call (mw_call hm (codeAny_builtin entry_listiter_next ?_))
 refine packG ?_; intro TT
 obtain ⟨o, ho, rfl⟩ := hit
 obtain ⟨k, hk⟩ := hl
 show wpAny _ _ (field (.ref it) 0 >>= _) _ _ s
 refine wpAny_bind (wpAny_field ho rfl (x := .ref a) rfl ?_)
 show wpAny _ _ (if (Value.ref a == Value.none) = true then _ else _) _ _ s
 rw [if_neg (show ¬ ((Value.ref a == Value.none) = true) from Bool.false_ne_true)]
 show wpAny _ _ (field (.ref it) 1 >>= _) _ _ s
 refine wpAny_bind (wpAny_field ho rfl (x := .int i 0) rfl ?_)
 show wpAny _ _ (seqItems? (.ref a) >>= _) _ _ s
 refine wpAny_bind (wpAny_seqItems hk rfl ?_)
 have hv' : vs.toArray[i]? = some v := by simpa using hv
 simp only [Int.toNat_natCast, hv']
 refine wpAny_bind (wpAny_setField ho rfl (by simp) (wpAny_pure (h _ ?_)))
 exact S.upd u (Heap.SameBut.update ..) (Heap.get?_update_self _ ho rfl) (hy _ (by show _ = _; simp [Obj.mapFields, rawInt]))
theorem mw_stop {x : O} (hh : A.handled = none) (u : Upd it x anyO L L') (S : St B fs L s) (hm : At s m (nxtO it)) (hit : At s it (liO a i)) (hl : IsL s a vs) (hv : vs[i]? = none)
  (h : ∀ s' h' e, St B fs L' s' → Heap.NewExc s'.heap h' e "StopIteration" → E (.ref e) { s' with heap := h' }) :
  wpAny (model prog w) A (call (.ref m) []) Q E s := by
 refine w_call (mw_call hm (codeAny_builtin entry_listiter_next ?_))
 refine packG ?_; intro TT
 obtain ⟨o, ho, rfl⟩ := hit
 obtain ⟨k, hk⟩ := hl
 show wpAny _ _ (field (.ref it) 0 >>= _) _ _ s
 refine wpAny_bind (wpAny_field ho rfl (x := .ref a) rfl ?_)
 show wpAny _ _ (if (Value.ref a == Value.none) = true then _ else _) _ _ s
 rw [if_neg (show ¬ ((Value.ref a == Value.none) = true) from Bool.false_ne_true)]
 show wpAny _ _ (field (.ref it) 1 >>= _) _ _ s
 refine wpAny_bind (wpAny_field ho rfl (x := .int i 0) rfl ?_)
 show wpAny _ _ (seqItems? (.ref a) >>= _) _ _ s
 refine wpAny_bind (wpAny_seqItems hk rfl ?_)
 have hv' : vs.toArray[i]? = none := by simpa using hv
 simp only [Int.toNat_natCast, hv']
 refine wpAny_bind (wpAny_rule (wpAny_bind (wpAny_setField ho rfl (by simp) ?_)))
 have S1 := S.upd (h' := s.heap.update it (Obj.mapFields (·.setIfInBounds 0 Value.none))) (t := s.toks) (d := s.drawn) u (Heap.SameBut.update ..) (Heap.get?_update_self _ ho rfl) trivial
 show wpAny _ _ (newExc (.type "StopIteration") [] >>= _) _ _ _
 refine wpAny_bind ?_
 simp only [newExc, newTuple]
 refine wpAny_bind (wpAny_newObj_type ?_ (by size_fits))
 refine wpAny_bind (m := firstArgMember _ _) (wpAny_of_eq (a := Value.none) (by first | rfl | (simp only [firstArgMember]; rfl)) ?_)
 refine wpAny_newObj_type ?_ (by size_fits)
 simp only [raiseNew]
 refine wpAny_bind (wpAny_handled ?_)
 rw [show (A.under (Code.builtin "list_iterator.__next__" { pos := [.ref it] })).handled = none from hh]
 refine wpAny_bind (wpAny_pure (wpAny_throw ?_))
 refine h ⟨s.heap.update it (Obj.mapFields (·.setIfInBounds 0 Value.none)), s.gens, s.drawn, s.toks, s.os⟩ _ _ S1 ⟨fun b o e => Heap.get?_push_of_some _ (Heap.get?_push_of_some _ e), Heap.get?_none_of_le (by rw [Heap.size_push]; exact Nat.le_succ _), ?_⟩
 exact ⟨_, _, Heap.get?_push_size _ rfl, rfl, rfl⟩
end
end
section
open PySem PySem.W PyProof.Rows PySem.Calls
theorem kind_iter : builtinKind "iter" = none := by decide +kernel
theorem plain_iter : plainId "iter" = true := by decide +kernel
theorem entry_iter : entryFor table "iter" = some Builtin.«iter» := entryFor_of_tree (by kernel_rfl)
theorem args_iter_1 (a : Value) : argsOk "iter" ⟨[a], []⟩ := by unfold argsOk; kernel_rfl
theorem args_iter_2 (a b : Value) : argsOk "iter" ⟨[a, b], []⟩ := by unfold argsOk; kernel_rfl
section
variable {prog : Program} {w : World} {B : Bs} {fs : List Fm} {L L' L₀ : List (Addr × O)} {s : Shared} {A : Around} {E : Value → Shared → Prop} {n : Nat} {es : List Env} {env : Env} {Q : Value → Shared → Prop}
 {a : Addr} {vs vs' : List Value} {v : Value} {pos : Pos} {z y : O}
theorem iter_list (S : St B fs L s) (hl : IsL s a vs) (h : ∀ it s', St B fs ((it, liO a 0) :: L) s' → Q (.ref it) s') : wpAny (model prog w) A (call (.builtin "iter") [.ref a]) Q E s := by
 refine Calls.call_function_entry kind_iter plain_iter entry_iter (args_iter_1 _) ?_
 unfold Builtin.«iter»
 refine wpAny_bind (wpAny_of_eq (a := [Value.ref a]) rfl ?_)
 refine wpAny_bind (wpAny_pyIter_list hl.at (wpAny_pure ⟨_, rfl, h _ _ (S.alloc (o := { cls := .type "list_iterator", data := .fields #[.ref a, .int 0 0] }) (y := liO a 0) rfl rfl)⟩))
section
variable {κ : Type} [DecidableEq κ] {knd : KeyKind prog w κ} {kvs : List (κ × Value)} {k : κ} {key : Value} {d : Addr}
noncomputable def setO (knd : KeyKind prog w κ) (M : List κ) : O := fun o => ∃ (S : κ → Bool) (n : Nat), (∀ k, S k = decide (k ∈ M)) ∧ n ≤ M.length ∧ ∃ es ep t, o.ExactSet ∧ o.data = .set es ep t ∧ ElemsOf knd es.toList ∧ (∀ k, S k = true ↔ ∃ e ∈ es.toList, knd.is k e.2 = true) ∧ es.size < scanBound ∧ t.fits es.size = true ∧ es.size = n
theorem setO_get {M : List κ} (h : At s a (setO knd M)) : ∃ S n, (∀ k, S k = decide (k ∈ M)) ∧ n ≤ M.length ∧ s.heap.SetOf knd a S n := by
 obtain ⟨o, e, S, n, h1, h2, es, ep, t, r⟩ := h
 exact ⟨S, n, h1, h2, o, es, ep, t, e, r⟩
theorem set_new (knd : KeyKind prog w κ) (S : St B fs L s) (h : ∀ a s', St B fs ((a, setO knd []) :: L) s' → Q (.ref a) s') : wpAny (model prog w) A (call (.type "set") []) Q E s :=
 call_set_0 fun led => h _ _ (S.alloc ⟨fun _ => false, 0, fun k => by simp, Nat.le_refl _, #[], 0, _, ⟨rfl, rfl, rfl⟩, rfl, fun e he => by simp at he, fun k => by simp, by decide, by rfl, rfl⟩ rfl)
theorem set_in {M : List κ} (S : St B fs L s) (ha : At s a (setO knd M)) (hk : knd.is k key = true) (hs : key.scannable = true) (h : ∀ s', St B fs L s' → Q (.bool (decide (k ∈ M))) s') : wpAny (model prog w) A (compareOp .In key (.ref a)) Q E s := by
 refine packG ?_; intro TT
 obtain ⟨S', n, h1, h2, hS⟩ := setO_get ha
 exact wpAny_inSet_of hk hs hS (by rw [h1]; exact h _ (S.toks rfl rfl rfl))
theorem gm_set_add {M : List κ} {pl : Sem Bool} {Q : Value × List Value → Shared → Prop} (ha : At s a (setO knd M)) (h : Q (.builtin "set.add", [.ref a]) s) : wpAny (model prog w) A (getMethod (.ref a) "add" pl) Q E s := by
 refine packG ?_; intro TT
 obtain ⟨S', n, h1, h2, hS⟩ := setO_get ha
 exact getMethod_set_add hS h
theorem set_add {M : List κ} (u : Upd a z (setO knd (k :: M)) L L') (S : St B fs L s) (ha : At s a (setO knd M)) (hk : knd.is k key = true) (hs : key.scannable = true) (hM : M.length < 4000) (h : ∀ s', St B fs L' s' → Q .none s') : wpAny (model prog w) A (call (.builtin "set.add") [.ref a, key]) Q E s := by
 refine packG ?_; intro TT
 obtain ⟨S', n, h1, h2, hS⟩ := setO_get ha
 refine call_set_add hk hs hS (by unfold scanBound; lia) fun h' hs' hS' => h _ ?_
 refine packG ?_; intro TT
 obtain ⟨o, es, ep, t, e, r⟩ := hS'
 refine S.upd u hs' e ⟨_, _, fun k' => ?_, ?_, es, ep, t, r⟩
 ·rw [h1]
  simp only [List.mem_cons, Bool.decide_or]
  exact Bool.or_comm _ _
 ·simp only [List.length_cons]; split <;> lia
theorem d_del {Q : Unit → Shared → Prop} (u : Upd d z y L L') (S : St B fs L s) (hd : s.heap.DictOf knd d kvs) (hk : knd.is k key = true) (hsz : kvs.length ≤ 10000) (hth : (valueAt kvs k).isSome = true) (hy : ∀ o, dicO knd (without kvs k) o → y o) (h : ∀ s', St B fs L' s' → Q () s') :
  wpAny (model prog w) A (delItem (.ref d) key) Q E s :=
 wpAny_delItem_slot hd.typeIs (by decide +kernel) PySem.F.slot_dict_delitem (call_meetsIn PySem.F.slot_dict_delitem hd.typeIs PySem.F.entry_dict_delitem (PySem.F.args_dict_delitem_2 _ _) (meets_dict_delitem_pairs knd d hk) ⟨kvs, hd, line_le hsz, hth, fun h' hd' hs' => h _ (by
  obtain ⟨o, e, i⟩ := Heap.dictOf_iff.mp hd'
  exact S.upd u hs' e (hy o i))⟩)
noncomputable def dicE (knd : KeyKind prog w κ) (kvs : List (κ × Value)) (ep : Nat) : O := fun o => ∃ es, o.ExactDict ∧ o.data = .dict es ep ∧ KeysOf knd es ∧ Pairs knd es.toList kvs ∧ (kvs.map (·.1)).Nodup
theorem dicE_of {o : Obj} (h : dicO knd kvs o) : ∃ ep, dicE knd kvs ep o := let ⟨es, ep, r⟩ := h; ⟨ep, es, r⟩
theorem dicE_to {ep : Nat} {o : Obj} (h : dicE knd kvs ep o) : dicO knd kvs o := let ⟨es, r⟩ := h; ⟨es, ep, r⟩
theorem St.dicAt {ep : Nat} (S : St B fs L s) (h : (d, dicE knd kvs ep) ∈ L) : s.heap.DictAt knd d kvs ep := by
 obtain ⟨o, e, es, r⟩ := S.get h
 exact ⟨o, es, e, r⟩
theorem St.spec {τ : Type} {Y : τ → O} {F : τ → List (Addr × O)} (S : St B fs L s) (u : ∀ t, Upd a z (Y t) L (F t)) (t₀ : τ) (h : ∀ o, z o → ∃ t, Y t o) : ∃ t, St B fs (F t) s := by
 obtain ⟨o, e, i⟩ := S.get (u t₀).mem
 obtain ⟨t, ht⟩ := h o i
 refine ⟨t, ⟨S.old, S.os, S.gens, S.fr, fun p hp => ?_, by rw [(u t).keys]; exact S.nd, by rw [(u t).keys]; exact S.new⟩⟩
 rcases (u t).of_mem S.ndL p hp with rfl | ⟨hp, _⟩
 ·exact ⟨o, e, ht⟩
 ·exact S.led p hp
noncomputable def kitO (d : Addr) (i n ep : Nat) : O := fun o => o.cls = .type "dict_keyiterator" ∧ o.data = .fields #[.ref d, .int i 0, .int n 0, .int ep 0]
noncomputable def vitO (d : Addr) (i n ep : Nat) : O := fun o => o.cls = .type "dict_valueiterator" ∧ o.data = .fields #[.ref d, .int i 0, .int n 0, .int ep 0]
noncomputable def vvwO (d : Addr) : O := fun o => o.cls = .type "dict_values" ∧ o.data = .fields #[.ref d]
theorem pi_dict {ep : Nat} (S : St B fs L s) (hm : (d == sysModules) = false) (hd : (d, dicE knd kvs ep) ∈ L) (h : ∀ it s', St B fs ([(it, kitO d 0 kvs.length ep)] ++ L) s' → Q (.ref it) s') : wpAny (model prog w) A (pyIter (.ref d)) Q E s :=
 wpAny_pyIter_dict hm (S.dicAt hd) (h _ _ (S.alloc ⟨rfl, rfl⟩))
theorem d_values (S : St B fs L s) (hm : (d == sysModules) = false) (hd : s.heap.DictOf knd d kvs) (h : ∀ vw s', St B fs ((vw, vvwO d) :: L) s' → Q (.ref vw) s') : wpAny (model prog w) A (call (.builtin "dict.values") [.ref d]) Q E s :=
 call_meetsIn PySem.F.slot_dict_values hd.typeIs PySem.F.entry_dict_values (PySem.F.args_dict_values_1 _) (meets_dict_values knd d hm) ⟨⟨_, hd⟩, h _ _ (S.alloc ⟨rfl, rfl⟩)⟩
theorem pi_values {ep : Nat} {vw : Addr} (S : St B fs L s) (hv : At s vw (vvwO d)) (hd : (d, dicE knd kvs ep) ∈ L) (h : ∀ it s', St B fs ([(it, vitO d 0 kvs.length ep)] ++ L) s' → Q (.ref it) s') : wpAny (model prog w) A (pyIter (.ref vw)) Q E s :=
 wpAny_pyIter_values hv (S.dicAt hd) (h _ _ (S.alloc ⟨rfl, rfl⟩))
theorem Itr.keys (x : Str) (px : Pos) (it d : Addr) (kvs : List (κ × Value)) (ep : Nat) : Itr prog w (.Name x px) it kvs.length (fun i => [(it, kitO d i kvs.length ep)]) [(d, dicE knd kvs ep)] (fun i v X => (∃ k u, kvs[i]? = some (k, u) ∧ knd.is k v = true) ∧ X = []) where
 item := fun {B fs L s A Q E} i hi S hsrc hQ => by
  have hit := S.at List.mem_cons_self
  refine wpAny_pyNext_dict_item hit (S.dicAt (List.mem_append_right _ (hsrc _ List.mem_cons_self))) (k := kvs[i].1) (v := kvs[i].2) (by simp [hi]) fun key h' hkey hit' hs' => ?_
  refine ⟨_, rfl, wpAny_pure (hQ _ [] _ ⟨⟨kvs[i].1, kvs[i].2, by simp [hi], hkey⟩, rfl⟩ ?_)⟩
  obtain ⟨o', ho', hc', hd'⟩ := hit'
  exact S.redo (J := [(it, kitO d (i + 1) kvs.length ep)]) rfl (fun b o hb e => hs'.extBut b o (fun q => hb (by simp [q])) e) (fun p hp => by simp at hp; subst hp; exact ⟨o', ho', hc', hd'⟩)
 done := fun {B fs L s A Q E} hh S hsrc hQ => by
  exact wpAny_pyNext_dict_end hh (S.at List.mem_cons_self) (S.dicAt (List.mem_append_right _ (hsrc _ List.mem_cons_self))) (by simp) fun h' he => hQ _ (S.drop fun b o hb e => he b o (fun q => hb (by simp [q])) e)
 self := fun {B fs L s A Q E} S hQ => wpAny_pyIter_keyiter (S.at List.mem_cons_self) hQ
theorem Itr.vals (x : Str) (px : Pos) (it d : Addr) (kvs : List (κ × Value)) (ep : Nat) : Itr prog w (.Name x px) it kvs.length (fun i => [(it, vitO d i kvs.length ep)]) [(d, dicE knd kvs ep)] (fun i v X => (∃ k, kvs[i]? = some (k, v)) ∧ X = []) where
 item := fun {B fs L s A Q E} i hi S hsrc hQ => by
  have hit := S.at List.mem_cons_self
  refine wpAny_pyNext_values_item hit (S.dicAt (List.mem_append_right _ (hsrc _ List.mem_cons_self))) (k := kvs[i].1) (v := kvs[i].2) (by simp [hi]) fun h' hit' hs' => ?_
  refine ⟨_, rfl, wpAny_pure (hQ _ [] _ ⟨⟨kvs[i].1, by simp [hi]⟩, rfl⟩ ?_)⟩
  obtain ⟨o', ho', hc', hd'⟩ := hit'
  exact S.redo (J := [(it, vitO d (i + 1) kvs.length ep)]) rfl (fun b o hb e => hs'.extBut b o (fun q => hb (by simp [q])) e) (fun p hp => by simp at hp; subst hp; exact ⟨o', ho', hc', hd'⟩)
 done := fun {B fs L s A Q E} hh S hsrc hQ => by
  exact wpAny_pyNext_values_end hh (S.at List.mem_cons_self) (S.dicAt (List.mem_append_right _ (hsrc _ List.mem_cons_self))) (by simp) fun h' he => hQ _ (S.drop fun b o hb e => he b o (fun q => hb (by simp [q])) e)
 self := fun {B fs L s A Q E} S hQ => wpAny_pyIter_valiter (S.at List.mem_cons_self) hQ
end
theorem xs_drop {e : Expr} {rest : List Stmt} {Q : Flow → Shared → Prop} (hk : env.scope.kind = .function) (h : wpAny (model prog w) A (eval e env) (fun _ s' => wpAny (model prog w) A (execs rest env) Q E s') E s)
  (hs : swapsWith e none pos.line env = pure false := by with_unfolding_all rfl) : wpAny (model prog w) A (execs (.Expr e pos :: rest) env) Q E s := by
 refine xs_cons ?_
 rw [exec_Expr env e pos (interactive_fn hk) hs]
 exact wpAny_bind (wpAny_standAt (wpAny_bind (wpAny_mono h (fun v s' h' => wpAny_dropValue (cont_next h')) fun _ _ e => e)))
theorem xs_del {o i : Expr} {p : Pos} {rest : List Stmt} {M : Model} {Q : Flow → Shared → Prop} (h : wpAny M A (eval o env) (fun ov s₁ => wpAny M A (eval i env) (fun iv s₂ => wpAny M A (delItem ov iv) (fun _ s₃ => wpAny M A (execs rest env) Q E s₃) E s₂) E s₁) E s) :
  wpAny M A (execs (.Delete [.Subscript o i p] pos :: rest) env) Q E s := by
 refine xs_cons (wpAny_Delete (wpAny_deleteEach_cons ?_))
 rw [arm_delete_Subscript]
 refine wpAny_bind (wpAny_mono h (fun ov s₁ h₁ => wpAny_bind (wpAny_holding (wpAny_mono h₁ (fun iv s₂ h₂ => wpAny_bind (wpAny_standAt (wpAny_bind (wpAny_holding (wpAny_mono h₂ (fun _ s₃ h₃ => ?_) fun _ _ e => e))))) fun _ _ e => e))) fun _ _ e => e)
 exact wpAny_release (wpAny_deleteEach_nil (cont_next h₃))
theorem u_neg {k : Int} {t : Tok} (S : St B fs L s) (h : ∀ t s', St B fs L s' → Q (.int (-k) t) s') : wpAny (model prog w) A (unaryOp .USub (.int k t)) Q E s := neg_int (h _ _ (S.toks rfl rfl rfl))
theorem sub_last {value slice : Expr} {t : Tok} {i : Int} (hi : i = -1) (hl : IsL s a (vs ++ [v])) (hz : vs.length ≤ 10000) (h : Q v s)
  (hs : subscripted slice false (.ref a) (.int i t) = operate [.ref a, .int i t] (getItem (.ref a) (.int i t)) := by with_unfolding_all rfl) : wpAny (model prog w) A (subscriptTail value slice (.ref a) (.int i t)) Q E s := by
 refine tail_any hl.ty slot_list_getitem.lookup ?_ hs
 have e : (i + ((vs ++ [v]).toArray.size : Int)).toNat = vs.length := by rw [hi]; simp; lia
 exact wpAny_getItem_list_neg hl.at (by lia) (by simp; lia) (by lia) (by rw [e]; simp) h
end
end
section
open PySem PySem.W PyProof.Rows PySem.Calls
section
variable {prog : Program} {w : World} {B : Bs} {fs : List Fm} {L L' L₀ : List (Addr × O)} {s : Shared} {A : Around} {E : Value → Shared → Prop} {env : Env} {sc scope : Scope} {cl : List (Str × Addr)} {names : List Str} {nn : names.Nodup}
 {elt tgt iter : Expr} {pos : Pos} {it : Addr} {n : Nat} {I : Nat → List (Addr × O)} {src : List (Addr × O)} {P : Nat → Value → List (Addr × O) → Prop}
theorem lc_e {Q : Value → Shared → Prop} (W : Itr prog w tgt it n I src P) (hh : A.handled = none) (S : St B fs (I 0 ++ L₀) s) (J : Nat → List Value → List (Addr × O) → Prop) (hsrc : ∀ i ys L, J i ys L → ∀ p ∈ src, p ∈ L) (h0 : J 0 [] L₀) (hz : ∀ i ys L, J i ys L → ys.length ≤ 10000)
  (step : ∀ D (cenv : Env) (nd : names.Nodup) (kd : ∀ x ∈ names, cenv.kindOf x = some .local) (fn : cenv.scope.kind = .function) i vs ys L v X s E, EnvIs cenv (relabel scope env) → cenv.cells = cl → vs.length = names.length → i < n → J i ys L → P i v X →
   St B ((⟨cenv, names, nd, kd, fn⟩, vs) :: fs) (X ++ (I (i + 1) ++ (D, lst ys) :: L)) s →
   wpAny (model prog w) A (assign tgt cenv v) (fun _ s₂ => wpAny (model prog w) A (eval elt cenv) (fun y s₃ => ∃ vs' L', vs'.length = names.length ∧ J (i + 1) (ys ++ [y]) L' ∧ St B ((⟨cenv, names, nd, kd, fn⟩, vs') :: fs) (I (i + 1) ++ (D, lst ys) :: L') s₃) E s₂) E s)
  (hend : ∀ D ys L s, J n ys L → St B fs ((D, lst ys) :: L) s → Q (.ref D) s) :
  wpAny (model prog w) A (newList []) (fun acc s₃ => ∃ L₃, St B fs L₃ s₃ ∧
   ∀ (cenv : Env) (nd : names.Nodup) (kd : ∀ x ∈ names, cenv.kindOf x = some .local) (fn : cenv.scope.kind = .function) s₄, EnvIs cenv (relabel scope env) → cenv.cells = cl → St B ((⟨cenv, names, nd, kd, fn⟩, names.map fun _ => none) :: fs) L₃ s₄ →
    codeAny (model prog w) A (.compStart (.ListComp elt [⟨tgt, iter, [], 0⟩] scope pos) 0 (.ref it) acc cenv) (CEnd B ⟨cenv, names, nd, kd, fn⟩ fs (Q acc)) s₄) E s :=
 lc_run (R := fun acc blk => CEnd B blk fs (Q acc)) W hh S J hsrc h0 hz step fun D blk vs ys L s hJ S => cend S fun s'' S'' => hend D ys L s'' hJ S''
theorem lci_e {c : Expr} {Q : Value → Shared → Prop} (W : Itr prog w tgt it n I src P) (hh : A.handled = none) (S : St B fs (I 0 ++ L₀) s) (J : Nat → List Value → List (Addr × O) → Prop) (hsrc : ∀ i ys L, J i ys L → ∀ p ∈ src, p ∈ L) (h0 : J 0 [] L₀) (hz : ∀ i ys L, J i ys L → ys.length ≤ 10000)
  (step : ∀ D (cenv : Env) (nd : names.Nodup) (kd : ∀ x ∈ names, cenv.kindOf x = some .local) (fn : cenv.scope.kind = .function) i vs ys L v X s E, EnvIs cenv (relabel scope env) → cenv.cells = cl → vs.length = names.length → i < n → J i ys L → P i v X →
   St B ((⟨cenv, names, nd, kd, fn⟩, vs) :: fs) (X ++ (I (i + 1) ++ (D, lst ys) :: L)) s →
   wpAny (model prog w) A (assign tgt cenv v) (fun _ s₂ => wpAny (model prog w) A (isTrue c cenv (eval c cenv)) (fun ok s₂ =>
    (ok = true → wpAny (model prog w) A (eval elt cenv) (fun y s₃ => ∃ vs' L', vs'.length = names.length ∧ J (i + 1) (ys ++ [y]) L' ∧ St B ((⟨cenv, names, nd, kd, fn⟩, vs') :: fs) (I (i + 1) ++ (D, lst ys) :: L') s₃) E s₂) ∧
    (ok = false → ∃ vs' L', vs'.length = names.length ∧ J (i + 1) ys L' ∧ St B ((⟨cenv, names, nd, kd, fn⟩, vs') :: fs) (I (i + 1) ++ (D, lst ys) :: L') s₂)) E s₂) E s)
  (hend : ∀ D ys L s, J n ys L → St B fs ((D, lst ys) :: L) s → Q (.ref D) s) :
  wpAny (model prog w) A (newList []) (fun acc s₃ => ∃ L₃, St B fs L₃ s₃ ∧
   ∀ (cenv : Env) (nd : names.Nodup) (kd : ∀ x ∈ names, cenv.kindOf x = some .local) (fn : cenv.scope.kind = .function) s₄, EnvIs cenv (relabel scope env) → cenv.cells = cl → St B ((⟨cenv, names, nd, kd, fn⟩, names.map fun _ => none) :: fs) L₃ s₄ →
    codeAny (model prog w) A (.compStart (.ListComp elt [⟨tgt, iter, [c], 0⟩] scope pos) 0 (.ref it) acc cenv) (CEnd B ⟨cenv, names, nd, kd, fn⟩ fs (Q acc)) s₄) E s :=
 lci_run (R := fun acc blk => CEnd B blk fs (Q acc)) W hh S J hsrc h0 hz step fun D blk vs ys L s hJ S => cend S fun s'' S'' => hend D ys L s'' hJ S''
variable {onames : List Str} {o : Blk} {ovs : List (Option Value)} {k : Nat}
theorem lc_u {Q : Shared → Prop} (W : Itr prog w tgt it n I src P) (hh : A.handled = none) (S : St B ((o, ovs) :: fs) (I 0 ++ L₀) s) (J : Nat → List Value → List (Addr × O) → Prop) (hsrc : ∀ i ys L, J i ys L → ∀ p ∈ src, p ∈ L) (h0 : J 0 [] L₀) (hz : ∀ i ys L, J i ys L → ys.length ≤ 10000)
  (step : ∀ D (cenv : Env) (nd : names.Nodup) (kd : ∀ x ∈ names, cenv.kindOf x = some .local) (fn : cenv.scope.kind = .function) i vs ys L v X s E, EnvIs cenv (relabel scope env) → cenv.cells = cl → vs.length = names.length → i < n → J i ys L → P i v X →
   St B ((⟨cenv, names, nd, kd, fn⟩, vs) :: (o, ovs) :: fs) (X ++ (I (i + 1) ++ (D, lst ys) :: L)) s →
   wpAny (model prog w) A (assign tgt cenv v) (fun _ s₂ => wpAny (model prog w) A (eval elt cenv) (fun y s₃ => ∃ vs' L', vs'.length = names.length ∧ J (i + 1) (ys ++ [y]) L' ∧ St B ((⟨cenv, names, nd, kd, fn⟩, vs') :: (o, ovs) :: fs) (I (i + 1) ++ (D, lst ys) :: L') s₃) E s₂) E s)
  (hend : ∀ D ys L s, J n ys L → St B ((o, ovs.set k (some (.ref D))) :: fs) ((D, lst ys) :: L) s → Q s) :
  wpAny (model prog w) A (newList []) (fun acc s₃ => ∃ L₃, St B ((o, ovs) :: fs) L₃ s₃ ∧
   ∀ (cenv : Env) (nd : names.Nodup) (kd : ∀ x ∈ names, cenv.kindOf x = some .local) (fn : cenv.scope.kind = .function) s₄, EnvIs cenv (relabel scope env) → cenv.cells = cl → St B ((⟨cenv, names, nd, kd, fn⟩, names.map fun _ => none) :: (o, ovs) :: fs) L₃ s₄ →
    codeAny (model prog w) A (.compStart (.ListComp elt [⟨tgt, iter, [], 0⟩] scope pos) 0 (.ref it) acc cenv) (UEnd B ⟨cenv, names, nd, kd, fn⟩ o ovs fs k Q acc) s₄) E s :=
 lc_run (fs := (o, ovs) :: fs) (R := fun acc blk => UEnd B blk o ovs fs k Q acc) W hh S J hsrc h0 hz step fun D blk vs ys L s hJ S => uend S fun s'' S'' => hend D ys L s'' hJ S''
theorem lci_u {c : Expr} {Q : Shared → Prop} (W : Itr prog w tgt it n I src P) (hh : A.handled = none) (S : St B ((o, ovs) :: fs) (I 0 ++ L₀) s) (J : Nat → List Value → List (Addr × O) → Prop) (hsrc : ∀ i ys L, J i ys L → ∀ p ∈ src, p ∈ L) (h0 : J 0 [] L₀) (hz : ∀ i ys L, J i ys L → ys.length ≤ 10000)
  (step : ∀ D (cenv : Env) (nd : names.Nodup) (kd : ∀ x ∈ names, cenv.kindOf x = some .local) (fn : cenv.scope.kind = .function) i vs ys L v X s E, EnvIs cenv (relabel scope env) → cenv.cells = cl → vs.length = names.length → i < n → J i ys L → P i v X →
   St B ((⟨cenv, names, nd, kd, fn⟩, vs) :: (o, ovs) :: fs) (X ++ (I (i + 1) ++ (D, lst ys) :: L)) s →
   wpAny (model prog w) A (assign tgt cenv v) (fun _ s₂ => wpAny (model prog w) A (isTrue c cenv (eval c cenv)) (fun ok s₂ =>
    (ok = true → wpAny (model prog w) A (eval elt cenv) (fun y s₃ => ∃ vs' L', vs'.length = names.length ∧ J (i + 1) (ys ++ [y]) L' ∧ St B ((⟨cenv, names, nd, kd, fn⟩, vs') :: (o, ovs) :: fs) (I (i + 1) ++ (D, lst ys) :: L') s₃) E s₂) ∧
    (ok = false → ∃ vs' L', vs'.length = names.length ∧ J (i + 1) ys L' ∧ St B ((⟨cenv, names, nd, kd, fn⟩, vs') :: (o, ovs) :: fs) (I (i + 1) ++ (D, lst ys) :: L') s₂)) E s₂) E s)
  (hend : ∀ D ys L s, J n ys L → St B ((o, ovs.set k (some (.ref D))) :: fs) ((D, lst ys) :: L) s → Q s) :
  wpAny (model prog w) A (newList []) (fun acc s₃ => ∃ L₃, St B ((o, ovs) :: fs) L₃ s₃ ∧
   ∀ (cenv : Env) (nd : names.Nodup) (kd : ∀ x ∈ names, cenv.kindOf x = some .local) (fn : cenv.scope.kind = .function) s₄, EnvIs cenv (relabel scope env) → cenv.cells = cl → St B ((⟨cenv, names, nd, kd, fn⟩, names.map fun _ => none) :: (o, ovs) :: fs) L₃ s₄ →
    codeAny (model prog w) A (.compStart (.ListComp elt [⟨tgt, iter, [c], 0⟩] scope pos) 0 (.ref it) acc cenv) (UEnd B ⟨cenv, names, nd, kd, fn⟩ o ovs fs k Q acc) s₄) E s :=
 lci_run (fs := (o, ovs) :: fs) (R := fun acc blk => UEnd B blk o ovs fs k Q acc) W hh S J hsrc h0 hz step fun D blk vs ys L s hJ S => uend S fun s'' S'' => hend D ys L s'' hJ S''
end
end
section
open PySem PySem.W PyProof.Rows PySem.Calls
section
variable {prog : Program} {w : World} {B : Bs} {fs : List Fm} {L L' L₀ : List (Addr × O)} {s : Shared} {A : Around} {E : Value → Shared → Prop} {n : Nat} {es : List Env} {env : Env}
 {a : Addr} {vs vs' : List Value} {v : Value} {pos : Pos} {z y : O} {rest : List Stmt} {Q : Flow → Shared → Prop}
theorem xs_swap2 {t₁ t₂ value : Expr} {x1 : Nat} {p : Pos} {n₁ n₂ : Str} (hh : A.handled = none)
  (h : wpAny (model prog w) A (eval value env) (fun v s₁ => ∃ a v₁ v₂ L₁ fs₁, v = .ref a ∧ IsT s₁ a [v₁, v₂] ∧ St B fs₁ L₁ s₁ ∧ ∀ s₂, St B fs₁ L₁ s₂ →
   wpAny (model prog w) A (storeName env n₂ v₂) (fun _ s₃ => wpAny (model prog w) A (storeName env n₁ v₁) (fun _ s₄ => wpAny (model prog w) A (execs rest env) Q E s₄) E s₃) E s₂) E s)
  (hs : swapsWithSole [.Tuple [t₁, t₂] x1 p] value pos.line env = pure false) (hw : swappedStores [.Tuple [t₁, t₂] x1 p] value env = pure (some [n₁, n₂])) :
  wpAny (model prog w) A (execs (.Assign [.Tuple [t₁, t₂] x1 p] value pos :: rest) env) Q E s := by
 refine xs_cons ?_
 rw [exec_Assign_arm]
 refine wpAny_bind (wpAny_standAt ?_)
 rw [hs]
 refine wpAny_bind (wpAny_pure ?_)
 rw [if_neg (by decide)]
 refine wpAny_bind (wpAny_mono h (fun v s₁ h₁ => ?_) fun _ _ x => x)
 obtain ⟨a, v₁, v₂, L₁, fs₁, rfl, hT, S, h₁⟩ := h₁
 rw [hw]
 refine wpAny_bind (wpAny_pure ?_)
 show wpAny _ _ (do rule "assign.swapped-stores"; let items ← unpackItems (.ref a) 2 none; assignInOrder ([n₁, n₂].reverse.map fun n => bindName env n) items.reverse; pure Flow.next) _ _ _
 refine wpAny_bind (wpAny_rule (wpAny_bind ?_))
 have hU := wpAny_unpackItems_tuple (prog := prog) (w := w) (A := A) (E := E) (items := #[v₁, v₂]) (Q := fun items s' => wpAny (model prog w) A (assignInOrder ([n₁, n₂].reverse.map fun n => bindName env n) items.reverse >>= fun _ => pure Flow.next) (Cont (model prog w) A rest env Q E) E s') hh hT.at
 refine hU fun h' hx => ?_
 have S' : St B fs₁ L₁ ⟨h', s₁.gens, s₁.drawn, s₁.toks, s₁.os⟩ := S.drop (I := []) (fun b o _ e => hx b o (Nat.ne_of_lt (Heap.lt_size e)) e)
 refine wpAny_bind ?_
 show wpAny _ _ (assignInOrder [bindName env n₂, bindName env n₁] [v₂, v₁]) _ _ _
 unfold assignInOrder
 refine wpAny_bind (wpAny_holding (wpAny_bindName (wpAny_mono (h₁ _ S') (fun _ s₃ h₃ => ?_) fun _ _ x => x)))
 unfold assignInOrder
 refine wpAny_bind (wpAny_holding (wpAny_bindName (wpAny_mono h₃ (fun _ s₄ h₄ => wpAny_pure (wpAny_pure (cont_next h₄))) fun _ _ x => x)))
theorem xs_swap3 {t₁ t₂ t₃ value : Expr} {x1 : Nat} {p : Pos} {n₁ n₂ n₃ : Str} (hh : A.handled = none)
  (h : wpAny (model prog w) A (eval value env) (fun v s₁ => ∃ a v₁ v₂ v₃ L₁ fs₁, v = .ref a ∧ IsT s₁ a [v₁, v₂, v₃] ∧ St B fs₁ L₁ s₁ ∧ ∀ s₂, St B fs₁ L₁ s₂ →
   wpAny (model prog w) A (storeName env n₃ v₃) (fun _ s₃ => wpAny (model prog w) A (storeName env n₂ v₂) (fun _ s₃ => wpAny (model prog w) A (storeName env n₁ v₁) (fun _ s₄ => wpAny (model prog w) A (execs rest env) Q E s₄) E s₃) E s₃) E s₂) E s)
  (hs : swapsWithSole [.Tuple [t₁, t₂, t₃] x1 p] value pos.line env = pure false) (hw : swappedStores [.Tuple [t₁, t₂, t₃] x1 p] value env = pure (some [n₁, n₂, n₃])) :
  wpAny (model prog w) A (execs (.Assign [.Tuple [t₁, t₂, t₃] x1 p] value pos :: rest) env) Q E s := by
 refine xs_cons ?_
 rw [exec_Assign_arm]
 refine wpAny_bind (wpAny_standAt ?_)
 rw [hs]
 refine wpAny_bind (wpAny_pure ?_)
 rw [if_neg (by decide)]
 refine wpAny_bind (wpAny_mono h (fun v s₁ h₁ => ?_) fun _ _ x => x)
 obtain ⟨a, v₁, v₂, v₃, L₁, fs₁, rfl, hT, S, h₁⟩ := h₁
 rw [hw]
 refine wpAny_bind (wpAny_pure ?_)
 show wpAny _ _ (do rule "assign.swapped-stores"; let items ← unpackItems (.ref a) 3 none; assignInOrder ([n₁, n₂, n₃].reverse.map fun n => bindName env n) items.reverse; pure Flow.next) _ _ _
 refine wpAny_bind (wpAny_rule (wpAny_bind ?_))
 have hU := wpAny_unpackItems_tuple (prog := prog) (w := w) (A := A) (E := E) (items := #[v₁, v₂, v₃]) (Q := fun items s' => wpAny (model prog w) A (assignInOrder ([n₁, n₂, n₃].reverse.map fun n => bindName env n) items.reverse >>= fun _ => pure Flow.next) (Cont (model prog w) A rest env Q E) E s') hh hT.at
 refine hU fun h' hx => ?_
 have S' : St B fs₁ L₁ ⟨h', s₁.gens, s₁.drawn, s₁.toks, s₁.os⟩ := S.drop (I := []) (fun b o _ e => hx b o (Nat.ne_of_lt (Heap.lt_size e)) e)
 refine wpAny_bind ?_
 show wpAny _ _ (assignInOrder [bindName env n₃, bindName env n₂, bindName env n₁] [v₃, v₂, v₁]) _ _ _
 unfold assignInOrder
 refine wpAny_bind (wpAny_holding (wpAny_bindName (wpAny_mono (h₁ _ S') (fun _ s₃ h₃ => ?_) fun _ _ x => x)))
 unfold assignInOrder
 refine wpAny_bind (wpAny_holding (wpAny_bindName (wpAny_mono h₃ (fun _ s₄ h₄ => ?_) fun _ _ x => x)))
 unfold assignInOrder
 refine wpAny_bind (wpAny_holding (wpAny_bindName (wpAny_mono h₄ (fun _ s₄ h₄ => wpAny_pure (wpAny_pure (cont_next h₄))) fun _ _ x => x)))
theorem xs_tup {t value : Expr} (h : wpAny (model prog w) A (eval value env) (fun v s₁ => wpAny (model prog w) A (assign t env v) (fun _ s₂ => wpAny (model prog w) A (execs rest env) Q E s₂) E s₁) E s)
  (hs : swapsWithSole [t] value pos.line env = pure false) (hw : swappedStores [t] value env = pure none) (he : (assignEach [t] env).map (·.2) = [assign t env]) :
  wpAny (model prog w) A (execs (.Assign [t] value pos :: rest) env) Q E s := by
 refine xs_cons (wpAny_Assign_stores (wpAny_mono h (fun v s₁ h₁ => ?_) fun _ _ x => x) hs hw)
 rw [he]
 exact wpAny_mono h₁ (fun _ _ h => cont_next h) fun _ _ x => x
end
end
section
open PySem PySem.W PyProof.Rows PySem.Calls
theorem seq_list_iadd : seqSlot? (.type "list") "__iadd__" = pure (some (.builtin "list.__iadd__")) := by kernel_rfl
theorem fin_list_iadd : fillsInplaceSlot (.type "list") "add" true = pure false := by kernel_rfl
theorem fns_list_add : fillsNumberSlot (.type "list") "add" = pure false := by kernel_rfl
theorem fns_tuple_add : fillsNumberSlot (.type "tuple") "add" = pure false := by kernel_rfl
theorem iadd_tup_meets (l : Addr) (items : Array Value) (n : Nat) (b : Addr) (items2 : Array Value) (n2 : Nat) (hs0 : ¬(!items.isEmpty && Builtin.List.listTooLong (items.size + items2.size)) = true) (hs1 : items.size ≤ sizeLine) (hs2 : items.size + items2.size ≤ sizeLine + 1) :
  Meets (Builtin.«list.__iadd__» ⟨[.ref l, .ref b], []⟩) (fun _ R s => s.heap.get? l = some { cls := .type "list", dict := none, data := .seq items n, slots := #[] } ∧ s.heap.get? b = some { cls := .type "tuple", dict := none, data := .seq items2 n2, slots := #[] } ∧ R (.ok (.ret (Value.ref l))) { s with heap := s.heap.update l (Obj.mapSeq fun x => x ++ items2), toks := s.toks }) :=
 .of_wp fun prog w A R s h => by
  obtain ⟨hp, g, d, tk, os⟩ := s; obtain ⟨hl, hb, h⟩ := h
  have f1 := AutoSeq1.idx_int; have f2 := AutoSeq1.sub_tuple_tuple; have f3 := AutoSeq1.sub_list_list; have f4 := AutoSeq1.sub_tuple_list; have f5 := AutoSeq1.sub_list_tuple
  have hz' : (items ++ items2).size ≤ sizeLine + 1 := by rw [Array.size_append]; exact hs2
  wp_walk using (wpAny_updateSeq hl rfl (hz := hs1) (_hz' := hz')), wpAny_loadPart' hl, wpAny_loadPart' hb
  exact ⟨_, rfl, h⟩
section
variable {prog : Program} {w : World} {B : Bs} {fs : List Fm} {L L' L₀ : List (Addr × O)} {s : Shared} {A : Around} {E : Value → Shared → Prop} {n : Nat} {es : List Env} {env : Env} {Q : Value → Shared → Prop}
 {a b : Addr} {vs us : List Value} {v : Value} {pos : Pos} {z y : O}
theorem l_iadd (u : Upd a z y L L') (S : St B fs L s) (hl : IsL s a vs) (ht : IsT s b us) (hz : vs.length + us.length ≤ 10000) (hy : ∀ o, lst (vs ++ us) o → y o) (h : ∀ s', St B fs L' s' → Q (.ref a) s') :
  wpAny (model prog w) A (inplaceOp .Add (.ref a) (.ref b)) Q E s := by
 obtain ⟨k, e⟩ := id hl
 obtain ⟨k2, e2⟩ := id ht
 unfold inplaceOp
 refine wpAny_holding ?_
 refine wpAny_bind (wpAny_typeOf hl.ty (wpAny_bind (wpAny_of_eq fin_list_iadd ?_)))
 rw [if_neg (by decide)]
 refine wpAny_bind ?_
 unfold binaryOp1
 refine wpAny_bind (wpAny_typeOf hl.ty (wpAny_bind (wpAny_typeOf ht.ty (wpAny_bind (wpAny_of_eq fns_list_add ?_)))))
 rw [if_neg (by decide)]
 refine wpAny_bind (wpAny_of_eq fns_tuple_add ?_)
 dsimp only [Bool.false_and, Bool.and_false, Bool.and_self]
 rw [if_neg (by decide)]
 refine wpAny_pure ?_
 dsimp only
 refine wpAny_bind (wpAny_of_eq seq_list_iadd ?_)
 dsimp only
 refine wpAny_bind (wpAny_rule ?_)
 refine (call_meets PySem.F.slot_list_iadd hl.ty PySem.F.entry_list_iadd (PySem.F.args_list_iadd_2 _ _) (iadd_tup_meets a vs.toArray k b us.toArray k2 (by
  have : Builtin.List.listTooLong (vs.toArray.size + us.toArray.size) = false := by unfold Builtin.List.listTooLong; have := line_le hz; simp; lia
  rw [this]; simp) (by rw [List.size_toArray]; exact line_le (by lia)) (by rw [List.size_toArray, List.size_toArray]; exact Nat.le_succ_of_le (line_le hz))) ⟨e, e2, ?_⟩)
 exact h _ (S.mapSeq u hl (by simp) hy)
end
end
section
open PySem PySem.W PyProof.Rows PySem.Calls
noncomputable def ascii (x : Str) : Prop := x.cps.all (· < 128) = true
noncomputable def sitO (x : Str) (t : Tok) (i : Nat) : O := fun o => o.cls = .type "str_ascii_iterator" ∧ o.data = .fields #[.str x t, .int i 0]
section
variable {prog : Program} {w : World} {B : Bs} {fs : List Fm} {L L' L₀ : List (Addr × O)} {s : Shared} {A : Around} {E : Value → Shared → Prop} {n : Nat} {es : List Env} {env : Env} {Q : Value → Shared → Prop}
 {a b : Addr} {vs us : List Value} {v : Value} {pos : Pos} {z y : O} {x x' : Str} {t t' : Tok}
theorem pi_str (ha : ascii x) (S : St B fs L s) (h : ∀ it s', St B fs ([(it, sitO x t 0)] ++ L) s' → Q (.ref it) s') : wpAny (model prog w) A (pyIter (.str x t)) Q E s :=
 wpAny_pyIter_ascii ha (h _ _ (S.alloc ⟨rfl, rfl⟩))
theorem Itr.str (nm : Str) (px : Pos) (it : Addr) (x : Str) (t : Tok) : Itr prog w (.Name nm px) it x.cps.size (fun i => [(it, sitO x t i)]) [] (fun i v X => (∃ c u, x.cps[i]? = some c ∧ v = .str ⟨#[c]⟩ u) ∧ X = []) where
 item := fun {B fs L s A Q E} i hi S hsrc hQ => by
  refine wpAny_pyNext_ascii_item (S.at List.mem_cons_self) (c := x.cps[i]) (by simp [hi]) fun h' hit' hs' => ?_
  refine ⟨_, rfl, wpAny_pure (hQ _ [] _ ⟨⟨x.cps[i], _, by simp [hi], rfl⟩, rfl⟩ ?_)⟩
  obtain ⟨o', ho', hc', hd'⟩ := hit'
  exact S.redo (J := [(it, sitO x t (i + 1))]) rfl (fun b o hb e => hs'.extBut b o (fun q => hb (by simp [q])) e) (fun p hp => by simp at hp; subst hp; exact ⟨o', ho', hc', hd'⟩)
 done := fun {B fs L s A Q E} hh S hsrc hQ => by
  exact wpAny_pyNext_ascii_end hh (S.at List.mem_cons_self) (by simp) fun h' he => hQ _ (S.drop fun b o hb e => he b o (fun q => hb (by simp [q])) e)
 self := fun {B fs L s A Q E} S hQ => wpAny_pyIter_striter_ascii (S.at List.mem_cons_self) hQ
theorem sub_str {value slice : Expr} {i : Int} {k c : Nat} {u : Tok} (hi : i = k) (hk : x.cps[k]? = some c) (hz : x.cps.size ≤ 10000) (S : St B fs L s) (h : ∀ t s', St B fs L s' → Q (.str ⟨#[c]⟩ t) s')
  (hs : subscripted slice false (.str x t) (.int i u) = operate [.str x t, .int i u] (getItem (.str x t) (.int i u)) := by with_unfolding_all rfl) : wpAny (model prog w) A (subscriptTail value slice (.str x t) (.int i u)) Q E s := by
 have hlt : k < x.cps.size := by
  rcases Nat.lt_or_ge k x.cps.size with h | h
  ·exact h
  ·rw [Array.getElem?_eq_none h] at hk; cases hk
 have h1 : (decide (i < -(2 ^ 63 : Int)) || decide (i ≥ 2 ^ 63)) = false := by simp; lia
 have h2 : (seqIndex? i x.length).bind (x.cps[·]?) = some c := by
  have : seqIndex? i x.length = some k := by subst hi; unfold seqIndex? Str.length; simp; lia
  rw [this]; exact hk
 exact tail_any (typeIs_str s x t) PySem.F.slot_str_getitem.lookup (P.getItem_str h1 h2 (h _ _ (S.toks rfl rfl rfl))) hs
theorem xs_aug {nm : Str} {p : Pos} {op : Operator} {value : Expr} {rest : List Stmt} {M : Model} {Q : Flow → Shared → Prop}
  (h : wpAny M A (loadName env nm) (fun old s₁ => wpAny M A (eval value env) (fun v s₂ => wpAny M A (inplaceOp op old v) (fun r s₃ => wpAny M A (storeName env nm r) (fun _ s₄ => wpAny M A (execs rest env) Q E s₄) E s₃) E s₂) E s₁) E s) :
  wpAny M A (execs (.AugAssign (.Name nm p) op value pos :: rest) env) Q E s := xs_cons (wpAny_AugAssign_Name h)
theorem s_add (hz : x.length + x'.length ≤ 10000) (S : St B fs L s) (h : ∀ t s', St B fs L s' → Q (.str (x ++ x') t) s') : wpAny (model prog w) A (binaryOp .Add (.str x t) (.str x' t')) Q E s := add_str (fun t' tk => h _ _ (S.toks rfl rfl rfl)) (line_le hz)
theorem s_iadd (hz : x.length + x'.length ≤ 10000) (S : St B fs L s) (h : ∀ t s', St B fs L s' → Q (.str (x ++ x') t) s') : wpAny (model prog w) A (inplaceOp .Add (.str x t) (.str x' t')) Q E s := iadd_str (fun t' tk => h _ _ (S.toks rfl rfl rfl)) (line_le hz)
theorem i_fdiv {i j : Int} (hj : j ≠ 0) (hp : Builtin.divisionGoesByPylong i j = false) (S : St B fs L s) (h : ∀ t s', St B fs L s' → Q (.int (i.fdiv j) t) s') : wpAny (model prog w) A (inplaceOp .FloorDiv (.int i t) (.int j t')) Q E s := ifloordiv_int hj (h _ _ (S.toks rfl rfl rfl)) (.inl hp)
theorem b_fdiv {i j : Int} (hj : j ≠ 0) (hp : Builtin.divisionGoesByPylong i j = false) (S : St B fs L s) (h : ∀ t s', St B fs L s' → Q (.int (i.fdiv j) t) s') : wpAny (model prog w) A (binaryOp .FloorDiv (.int i t) (.int j t')) Q E s := floordiv_int hj (h _ _ (S.toks rfl rfl rfl)) (.inl hp)
end
end
section
open PySem PySem.W PyProof.Rows PySem.Calls Builtin
theorem slot_cal_next : Slot "callable_iterator" "__next__" "callable_iterator.__next__" :=
 .of (owner := "callable_iterator") (n := "__next__") (by rw [typeLookup_type, builtinLookup_eq_fast]; kernel_rfl) (by decide +kernel) (by decide +kernel) (by decide +kernel)
  (by first | exact .inl (by decide +kernel) | exact .inr (by decide +kernel)) (by rw [isSubtype_type]; kernel_rfl)
theorem slot_cal_iter : Slot "callable_iterator" "__iter__" "callable_iterator.__iter__" :=
 .of (owner := "callable_iterator") (n := "__iter__") (by rw [typeLookup_type, builtinLookup_eq_fast]; kernel_rfl) (by decide +kernel) (by decide +kernel) (by decide +kernel)
  (by first | exact .inl (by decide +kernel) | exact .inr (by decide +kernel)) (by rw [isSubtype_type]; kernel_rfl)
theorem entry_cal_next : entryFor table "callable_iterator.__next__" = some Builtin.«callable_iterator.__next__» := entryFor_of_tree (by kernel_rfl)
theorem args_cal_next (a : Value) : argsOk "callable_iterator.__next__" ⟨[a], []⟩ := by unfold argsOk; kernel_rfl
theorem args_cal_iter (a : Value) : argsOk "callable_iterator.__iter__" ⟨[a], []⟩ := by unfold argsOk; kernel_rfl
theorem wp_borrowed {M : Model} {A : Around} {E : Value → Shared → Prop} {s : Shared} {f : Value} {pos : List Value} {Q : Value → Shared → Prop} (h : codeAny M A (.call f ⟨pos, []⟩) (Ret Q E) s) : wpAny M A (callBorrowed f pos) Q E s :=
 fun Γ p hΓ => by
  unfold callBorrowed
  have h1 := h _ p rfl (hΓ.enter (.call f ⟨pos, []⟩) none p (by intro x; cases x))
  show Sem.wp M Γ (Sem.call _ none false [borrowed] _) _ _ p s
  rw [Sem.wp]
  refine wpCode_mono (fun r s' h' => ?_) h1
  cases r with
  | error e => exact h'
  | ok f => cases f <;> first | exact h' | exact h'.elim
noncomputable def metO (f x : Addr) : O := raw (methodObj (.ref f) (.ref x))
noncomputable def calO (m : Addr) (t : Tok) : O := raw { cls := .type "callable_iterator", dict := none, data := .fields #[.ref m, .str "" t, .bool false], slots := #[] }
noncomputable def calE : O := raw { cls := .type "callable_iterator", dict := none, data := .fields #[.none, .none, .bool true], slots := #[] }
theorem entry_cal_iter : entryFor table "callable_iterator.__iter__" = some Builtin.«dict_keyiterator.__iter__» :=
 entryFor_alias (id' := "dict_keyiterator.__iter__") (by kernel_rfl) rfl (by decide +kernel) (by kernel_rfl)
theorem lk_met_call : typeLookup (.type "method") "__call__" = pure (some (.builtin "method.__call__")) := by rw [typeLookup_type, builtinLookup_eq_fast]; kernel_rfl
section
variable {prog : Program} {w : World} {B : Bs} {fs : List Fm} {L L' L₀ : List (Addr × O)} {s : Shared} {A : Around} {E : Value → Shared → Prop} {n : Nat} {es : List Env} {env : Env} 
 {x C dx a f m it : Addr} {v : Value} {names : List Str} {vals : List (Option Value)} {name : Str} {t : Tok}
theorem g_bound {expr : Bool} {Q : Value → Shared → Prop} (O : Ok B w) (S : St B fs L s) (hx : At s x (instO C dx)) (hd : At s dx (nsO names vals)) (hn : lookV names vals name = none)
  (hg : ∀ P, plainGet (KF P) C name = true) (hh : ∀ P, hasDictIn (KF P) C = true) (ha : ∀ P, findIn (KF P) (.ref C) name = some (some (.ref f))) (hf : ∀ P, isFn (KF P) (.ref f) = true)
  (hgf : ∀ P, specialIn (KF P) (.ref f) "__get__" = some (some (.builtin "function.__get__"))) (ht : ∀ P, takesIn (KF P) (.ref f) = some false) (hc : copiedNames.contains name = false)
  (h : ∀ q s', St B fs ((q, metO f x) :: L) s' → Q (.ref q) s') : wpAny (model prog w) A (getAttr (.ref x) name expr) Q E s := by
 refine packG ?_; intro TT
 obtain ⟨od, hod, hnd, I⟩ := At.inst hx hd
 refine get_bind (S.K O) I (plainGet_of (hg _)).1 (findObj_fn (hh _) (ha _) (hgf _) (ht _) hc ?_) (plainGet_of (hg _)).2 ?_
 ·rw [hnd.look]; rw [hn]
 ·refine wpAny_call (fn_get (s := { s with toks := s.toks + 1 }) (S.K O) (beq_iff_eq.mp (hf _)) (handed_on rfl ?_))
  exact h _ _ (S.alloc (o := methodObj (.ref f) (.ref x)) (y := metO f x) rfl rfl)
theorem iter_cal {Q : Value → Shared → Prop} (S : St B fs L s) (hm : At s m (metO f x)) (h : ∀ it s', St B fs ((it, calO m t) :: L) s' → Q (.ref it) s') : wpAny (model prog w) A (call (.builtin "iter") [.ref m, .str "" t]) Q E s := by
 refine packG ?_; intro TT
 obtain ⟨o, ho, rfl⟩ := hm
 refine Calls.call_function_entry kind_iter plain_iter entry_iter (args_iter_2 _ _) ?_
 unfold Builtin.«iter»
 refine wpAny_bind (wpAny_of_eq (a := [Value.ref m, .str "" t]) rfl ?_)
 dsimp only
 refine wpAny_bind (wpAny_specialOf (T := "method") ⟨_, ho, rfl⟩ lk_met_call ?_)
 rw [if_neg (by decide)]
 refine wpAny_bind (wpAny_rule ?_)
 unfold newFields
 refine wpAny_bind (wpAny_newObj_type (wpAny_pure ⟨_, rfl, h _ _ (S.alloc (o := { cls := .type "callable_iterator", data := .fields #[.ref m, .str "" t, .bool false] }) (y := calO m t) rfl rfl)⟩) (by size_fits))
theorem pi_cal {Q : Value → Shared → Prop} (hit : At s it (calO m t)) (h : Q (.ref it) s) : wpAny (model prog w) A (pyIter (.ref it)) Q E s := by
 refine packG ?_; intro TT
 obtain ⟨o, ho, rfl⟩ := hit
 have hT : s.TypeIs (.ref it) "callable_iterator" := ⟨_, ho, rfl⟩
 refine wpAny_pyIter_slot hT slot_cal_iter (wpAny_call_entry slot_cal_iter hT entry_cal_iter ?_ (args_cal_iter _))
 show wpAny _ _ (ret (.ref it)) _ _ s
 exact wpAny_pure ⟨_, rfl, "callable_iterator", _, hT, slot_cal_next.lookup, h⟩
theorem bx_met {M : Model} {Q : Bool → Shared → Prop} {fo : Obj} {fd : FuncData} (hm : At s m (metO f x)) (hf : s.heap.get? f = some fo) (hfd : fo.data = .func fd) (h : Q true s) : wpAny M A (borrowsExactly (.ref m)) Q E s := by
 obtain ⟨o, ho, rfl⟩ := hm
 unfold borrowsExactly
 refine wpAny_bind (wpAny_load ho ?_)
 dsimp only
 rw [if_pos (by rfl)]
 show wpAny _ _ (_ >>= _) _ _ _
 refine wpAny_bind (wpAny_load hf ?_)
 rw [hfd]
 exact wpAny_pure h
theorem cn_next {Q : Option Value → Shared → Prop} {fo : Obj} {fd : FuncData} (hh : A.handled = none) (O : Ok B w) (S : St B fs L s) (hm : At s m (metO f x)) (hit : At s it (calO m t)) (ho : ∀ P, (KF P).lookup f = some fo) (hfd : fo.data = .func fd)
  (h : codeAny (model prog w) A.in1 (.call (.ref f) ⟨[.ref x], []⟩) (fun r s' => ∃ ch u L₁, r = .ok (.ret (.str ch u)) ∧ St B fs ((it, calO m t) :: L₁) s' ∧ At s' m (metO f x) ∧ (ch ≠ "" → Q (some (.str ch u)) s') ∧
   (ch = "" → ∀ s'', St B fs ((it, calE) :: L₁) s'' → Q none s'')) s) : wpAny (model prog w) A (pyNext (.ref it)) Q E s := by
 obtain ⟨o, hi, rfl⟩ := hit
 have hT : s.TypeIs (.ref it) "callable_iterator" := ⟨_, hi, rfl⟩
 have hf0 := base_get O S ho
 unfold pyNext
 refine wpAny_bind (wpAny_attempt (wpAny_callSpecial?_slot (name := Str.ofString "__next__") hT slot_cal_next
  (wpAny_call_entry slot_cal_next hT entry_cal_next ?_ (args_cal_next _))))
 unfold Builtin.«callable_iterator.__next__»
 refine wpAny_bind (wpAny_of_eq (a := (Value.ref it, [])) rfl ?_)
 dsimp only
 refine wpAny_bind (wpAny_field hi rfl (x := .bool false) rfl ?_)
 rw [if_neg (by decide)]
 refine wpAny_bind (wpAny_field hi rfl (x := .ref m) rfl ?_)
 refine wpAny_bind (wpAny_attempt ?_)
 unfold callOutOfASlot
 refine wpAny_bind (bx_met hm hf0 hfd ?_)
 rw [if_pos rfl]
 refine packG ?_; intro TT
 obtain ⟨mo, hmo, rfl⟩ := hm
 refine wp_borrowed (method_call hmo (codeAny_mono h fun r s' => ?_))
 intro hJ1
 refine packG ?_; intro TT
 obtain ⟨ch, u, L₁, rfl, S', hm', h1, h2⟩ := hJ1
 clear hi hT hf0 S h hmo
 have hf0 := base_get O S' ho
 refine packG ?_; intro TT
 obtain ⟨_, hi, rfl⟩ := S'.at List.mem_cons_self
 show wpAny _ _ _ _ _ _
 dsimp only
 refine wpAny_bind (wpAny_field hi rfl (x := .bool false) rfl ?_)
 rw [if_neg (by decide)]
 refine wpAny_bind (wpAny_field hi rfl (x := .str "" t) rfl ?_)
 refine wpAny_bind (wpAny_holding (eqBool_str ?_))
 by_cases hc : ch = ""
 ·subst hc
  rw [if_neg (by decide)]
  refine wpAny_bind (wpAny_rule ?_)
  refine wpAny_bind ?_
  show wpAny _ _ (field (.ref it) 0 >>= _) _ _ _
  refine wpAny_bind (wpAny_field hi rfl (x := .ref m) rfl ?_)
  refine wpAny_bind ?_
  show wpAny _ _ (borrowsExactly (.ref m) >>= _) _ _ _
  refine wpAny_bind (bx_met hm' hf0 hfd ?_)
  rw [if_pos rfl]
  refine wpAny_pure ?_
  refine wpAny_bind (wpAny_setField hi rfl (by simp) ?_)
  have e1 := Heap.get?_update_self (Obj.mapFields (·.setIfInBounds 0 Value.none)) hi rfl
  refine wpAny_bind (wpAny_setField e1 rfl (by simp [Obj.mapFields]) ?_)
  have e2 := Heap.get?_update_self (Obj.mapFields (·.setIfInBounds 1 Value.none)) e1 rfl
  refine wpAny_setField e2 rfl (by simp [Obj.mapFields]) ?_
  have e3 := Heap.get?_update_self (Obj.mapFields (·.setIfInBounds 2 (Value.bool true))) e2 rfl
  have S3 := S'.upd (L' := (it, calE) :: L₁) (y := calE) (t := s'.toks) (d := s'.drawn) .here (((Heap.SameBut.update ..).trans (Heap.SameBut.update ..)).trans (Heap.SameBut.update ..)) e3 (by show _ = _; simp [Obj.mapFields])
  show wpAny _ _ (newExc (.type "StopIteration") [] >>= _) _ _ _
  refine wpAny_bind ?_
  simp only [newExc, newTuple]
  refine wpAny_bind (wpAny_newObj_type ?_ (by size_fits))
  refine wpAny_bind (m := firstArgMember _ _) (wpAny_of_eq (a := Value.none) (by first | rfl | (simp only [firstArgMember]; rfl)) ?_)
  refine wpAny_newObj_type ?_ (by size_fits)
  simp only [raiseNew]
  refine wpAny_bind (wpAny_handled ?_)
  rw [show A.in1.handled = none from hh]
  refine wpAny_bind (wpAny_pure (wpAny_throw ?_))
  refine wpAny_bind (wpAny_isInstance (T := "StopIteration") (b := true) ⟨_, Heap.get?_push_size _ rfl, rfl⟩ isSubtype_stop ?_)
  exact wpAny_pure (h2 rfl _ (S3.grow fun b o e => Heap.get?_push_of_some _ (Heap.get?_push_of_some _ e)))
 ·have hne : ((Str.ofString "") == ch) = false := by
   cases q : ((Str.ofString "") == ch) with
   | false => rfl
   | true => exact absurd (beq_iff_eq.mp q).symm hc
  rw [hne, if_pos (by rfl)]
  exact wpAny_pure ⟨_, rfl, wpAny_pure (h1 hc)⟩
theorem cn_ended {Q : Option Value → Shared → Prop} (hh : A.handled = none) (S : St B fs L s) (hit : At s it calE) (h : ∀ s', St B fs L s' → Q none s') : wpAny (model prog w) A (pyNext (.ref it)) Q E s := by
 obtain ⟨o, hi, rfl⟩ := hit
 have hT : s.TypeIs (.ref it) "callable_iterator" := ⟨_, hi, rfl⟩
 unfold pyNext
 refine wpAny_bind (wpAny_attempt (wpAny_callSpecial?_slot (name := Str.ofString "__next__") hT slot_cal_next
  (wpAny_call_entry slot_cal_next hT entry_cal_next ?_ (args_cal_next _))))
 unfold Builtin.«callable_iterator.__next__»
 refine wpAny_bind (wpAny_of_eq (a := (Value.ref it, [])) rfl ?_)
 dsimp only
 refine wpAny_bind (wpAny_field hi rfl (x := .bool true) rfl ?_)
 rw [if_pos (by rfl)]
 refine wpAny_bind (wpAny_rule (wpAny_bind ?_))
 show wpAny _ _ (newExc (.type "StopIteration") [] >>= _) _ _ _
 refine wpAny_bind ?_
 simp only [newExc, newTuple]
 refine wpAny_bind (wpAny_newObj_type ?_ (by size_fits))
 refine wpAny_bind (m := firstArgMember _ _) (wpAny_of_eq (a := Value.none) (by first | rfl | (simp only [firstArgMember]; rfl)) ?_)
 refine wpAny_newObj_type ?_ (by size_fits)
 simp only [raiseNew]
 refine wpAny_bind (wpAny_handled ?_)
 rw [show A.in1.handled = none from hh]
 refine wpAny_bind (wpAny_pure (wpAny_throw ?_))
 refine wpAny_bind (wpAny_isInstance (T := "StopIteration") (b := true) ⟨_, Heap.get?_push_size _ rfl, rfl⟩ isSubtype_stop ?_)
 exact wpAny_pure (h _ (S.grow fun b o e => Heap.get?_push_of_some _ (Heap.get?_push_of_some _ e)))
end
end
section
open PySem PySem.W PyProof.Rows PySem.Calls Builtin
inductive Pull {α : Type} (a : α) : List α → List α → Prop
 | here {l} : Pull a (a :: l) l
 | there {b l m} : Pull a l m → Pull a (b :: l) (b :: m)
theorem Pull.perm {α : Type} {a : α} {l m : List α} (h : Pull a l m) : l.Perm (a :: m) := by
 induction h with
 | here => exact .refl _
 | there _ ih => exact (ih.cons _).trans (.swap ..)
theorem pull {α : Type} {a : α} {l m m' : List α} (h : Pull a l m') (k : m'.Perm m) : l.Perm (a :: m) := h.perm.trans (k.cons _)
structure OkB (B : Bs) (w : World) : Prop extends Ok B w where
 bm : ∃ mg, B.h.Ns mainGlobals mg ∧ ∃ bm ob, mg "__builtins__" = some (.ref bm) ∧ bm ≠ builtinsNs ∧ bm ≠ mainGlobals ∧ B.h.get? bm = some ob ∧ ob.cls = .type "module" ∧ ob.dict = some builtinsNs ∧ ob.data = .plain
noncomputable def codO (q : Str) : O := fun o => ∃ vs t, o.data = .fields vs ∧ vs[1]? = some (.str q t)
noncomputable def tabE (P : Addr) : List (Addr × O) := [(P, raw (tabObj #[]))]
noncomputable def tabF (P : Addr) (q : Str) (pos : Pos) (c : Addr) : List (Addr × O) := [(P, raw (tabObj #[rawInt pos.line, rawInt pos.col, .ref c])), (c, codO q)]
theorem ite_if {M : Model} {A : Around} {env : Env} {E : Value → Shared → Prop} {s : Shared} {test body orelse : Expr} {pos : Pos} {Q : Value → Shared → Prop}
  (h : wpAny M A (isTrue test env (eval test env)) (fun b s₂ => (b = true → wpAny M A (eval body env) Q E s₂) ∧ (b = false → wpAny M A (eval orelse env) Q E s₂)) E s) :
  wpAny M A (eval (.IfExp test body orelse pos) env) Q E s := by
 rw [eval_IfExp]
 refine wpAny_bind (wpAny_mono h (fun b s₂ h₂ => ?_) fun _ _ x => x)
 cases b with
 | true => rw [if_pos rfl]; exact h₂.1 rfl
 | false => rw [if_neg (by decide)]; exact h₂.2 rfl
section
variable {prog : Program} {w : World} {B : Bs} {fs : List Fm} {L L' L₀ : List (Addr × O)} {s : Shared} {A : Around} {E : Value → Shared → Prop} {n : Nat} {es : List Env} {env : Env}
 {x C dx f m it P c c' : Addr} {v : Value} {vs : List Value} {names : List Str} {vals : List (Option Value)} {t : Tok} {sc : Scope}
theorem for_gen {tgt : Expr} {body : List Stmt} {R : Result → Shared → Prop} {blk : Blk} {vs₀ : List (Option Value)} (k₀ : Nat) (J : Nat → List (Option Value) → List (Addr × O) → Prop) (S : St B ((blk, vs₀) :: fs) L₀ s) (h0 : J k₀ vs₀ L₀)
  (turn : ∀ k vs L s E, J k vs L → St B ((blk, vs) :: fs) L s → wpAny (model prog w) A (pyNext (.ref it)) (fun r s₁ => match r with
   | none => R (.ok .next) s₁
   | some v => wpAny (model prog w) A (letOwnedTupleGo tgt (.ref it) v) (fun _ s₁' => wpAny (model prog w) A (assign tgt env v) (fun _ s₂ =>
     wpAny (model prog w) A (execs body env) (TurnQ (fun s₃ => ∃ k' vs' L', k' < k ∧ J k' vs' L' ∧ St B ((blk, vs') :: fs) L' s₃) R) E s₂) E s₁') E s₁) E s) :
  codeAny (model prog w) A (.forLoop tgt (.ref it) body [] env) R s := by
 refine codeAny_forLoop_any (fun k s => ∃ vs L, J k vs L ∧ St B ((blk, vs) :: fs) L s) ?_ k₀ ⟨vs₀, L₀, h0, S⟩
 intro k s hJ1
 refine packG ?_; intro TT
 obtain ⟨vs, L, hJ, S⟩ := hJ1
 refine wpAny_mono (turn k vs L s _ hJ S) (fun r s₁ h₁ => ?_) fun _ _ e => e
 cases r with
 | none => exact wpAny_execs_nil h₁
 | some v =>
  refine wpAny_mono h₁ (fun _ s₂ h₂ => wpAny_mono h₂ (fun _ s₃ h₃ => wpAny_mono h₃ (fun f s₄ h₄ => ?_) fun _ _ e => e) fun _ _ e => e) fun _ _ e => e
  cases f with
  | next => obtain ⟨k', vs', L', hk, hJ, S⟩ := h₄; exact ⟨k', hk, vs', L', hJ, S⟩
  | cont => obtain ⟨k', vs', L', hk, hJ, S⟩ := h₄; exact ⟨k', hk, vs', L', hJ, S⟩
  | brk => exact h₄
  | ret v => exact h₄
noncomputable def sliO (l u k : Value) : O := raw { cls := .type "slice", dict := none, data := .fields #[l, u, k], slots := #[] }
theorem e_slice {M : Model} {lower upper step : Option Expr} {p : Pos} {Q : Value → Shared → Prop}
  (h : wpAny M A (evalPart lower env) (fun l s₁ => wpAny M A (evalPart upper env) (fun u s₂ => wpAny M A (evalPart step env) (fun st s₃ => ∃ fs' L', St B fs' L' s₃ ∧ ∀ sl s', St B fs' ((sl, sliO l u st) :: L') s' → Q (.ref sl) s') E s₂) E s₁) E s) :
  wpAny M A (eval (.Slice lower upper step p) env) Q E s := by
 refine wpAny_Slice (wpAny_mono h (fun l s₁ h => wpAny_mono h (fun u s₂ h => wpAny_mono h (fun k s₃ h => ?_) fun _ _ x => x) fun _ _ x => x) fun _ _ x => x)
 refine packG ?_; intro TT
 obtain ⟨fs', L', S, h⟩ := h
 exact h _ _ (S.alloc (o := { cls := .type "slice", data := .fields #[l, u, k] }) (y := sliO l u k) rfl rfl)
theorem ep_none {M : Model} {Q : Value → Shared → Prop} (h : Q .none s) : wpAny M A (evalPart none env) Q E s := wpAny_pure h
theorem ep_some {M : Model} {e : Expr} {Q : Value → Shared → Prop} (h : wpAny M A (eval e env) Q E s) : wpAny M A (evalPart (some e) env) Q E s := h
theorem st_any {value slice : Expr} {o i : Value} {T id : String} {ops : List Value} {Q : Value → Shared → Prop} (hT : s.TypeIs o T)
  (hl : typeLookup (.type T) "__getitem__" = pure (some (.builtin id))) (h : wpAny (model prog w) A (getItem o i) Q E s)
  (hs : subscripted slice false o i = operate ops (getItem o i)) :
  wpAny (model prog w) A (subscriptTail value slice o i) Q E s := by
 unfold subscriptTail
 refine wpAny_bind ?_
 rw [getitemInPython_of_ne hT.not_modules]
 refine wpAny_bind (wpAny_specialOf hT hl ?_)
 have fin : wpAny (model prog w) A (subscripted slice false o i) (fun r s₃ => wpAny (model prog w) A (letTemporaryGo value o r >>= fun _ => pure r) Q E s₃) E s := by
  rw [hs]
  exact wpAny_operating (wpAny_mono h (fun r s₃ h₃ => wpAny_bind (wpAny_letTemporaryGo (wpAny_pure h₃))) fun _ _ x => x)
 first
  | exact wpAny_pure (wpAny_bind fin)
  | exact wpAny_bind (wpAny_pure (wpAny_bind fin))
  | exact wpAny_bind fin
theorem sub_slice {a : Addr} {value slice : Expr} {vl vu vk : Value} {lo hi st : Option Int} {sl : Addr} {ops : List Value} {Q : Value → Shared → Prop} (S : St B fs L s) (hl : IsL s a vs) (hsl : At s sl (sliO vl vu vk)) (pl : IsPart vl lo) (pu : IsPart vu hi) (pk : IsPart vk st) (h0 : st ≠ some 0) (hz : vs.length ≤ 10000)
  (h : ∀ D s', St B fs ((D, lst (slicePick vs.toArray lo hi st).toList) :: L) s' → Q (.ref D) s')
  (hs : subscripted slice false (.ref a) (.ref sl) = operate ops (getItem (.ref a) (.ref sl)) := by with_unfolding_all rfl) :
  wpAny (model prog w) A (subscriptTail value slice (.ref a) (.ref sl)) Q E s := by
 obtain ⟨o, ho, rfl⟩ := hsl
 refine st_any hl.ty list_getitem_lookup (wpAny_getItem_list_slice hl.at ⟨_, ho, rfl, rfl⟩ pl pu pk h0 ?_ (line_le (by simpa using hz))) hs
 exact h _ _ (S.alloc (o := { cls := .type "list", data := .seq (slicePick vs.toArray lo hi st) }) ⟨0, by simp⟩ rfl)
theorem F2.map_of {α β γ : Type} {R : β → γ → Prop} (g : α → β) {l : List α} {vs : List γ} (h : F2 (fun a v => R (g a) v) l vs) : F2 R (l.map g) vs := by
 induction h with
 | nil => exact .nil
 | cons r _ ih => exact .cons r ih
theorem t_list_str {x : Str} {t : Tok} {Q : Value → Shared → Prop} (hh : A.handled = none) (S : St B fs L s) (hz : x.cps.size ≤ 10000) (h : ∀ D s', St B fs ((D, lstR StrV (x.cps.toList.map fun c => (⟨#[c]⟩ : Str))) :: L) s' → Q (.ref D) s') :
  wpAny (model prog w) A (call (.type "list") [.str x t]) Q E s := by
 refine call_list_str hh x t (hn := line_le hz) fun h' tk acc' c' hk hS' hacc => ?_
 refine h _ _ ((S.grow hk).more hS' ⟨acc'.toList, ?_, c', by simp⟩ S.fresh.1 S.fresh.2.1 S.fresh.2.2)
 refine F2.map_of _ (F2.of (by simp [hacc.1]) fun i c v hc hv => ?_)
 refine packG ?_; intro TT
 obtain ⟨c2, u, hc2, rfl⟩ := hacc.2 i v (by simpa using hv)
 have : c2 = c := by
  rw [Array.getElem?_toList] at hc
  rw [hc] at hc2; cases hc2; rfl
 subst this
 exact ⟨u, rfl⟩
theorem mk_new {name qual : Str} {params : Arguments} {body : List Stmt} {scope : Scope} {clos : List (Str × Addr)} {pos : Pos} {firstLine : Nat} {Q : Value → Shared → Prop} (O : OkB B w) (S : St B fs (tabE P ++ L) s) (hE : EnvIs env sc) (hcd : env.code = .ref c) (hC : ∀ p, codeHdIn (KF p) c P = true) (hcl : closureFor scope env = pure clos)
  (h : ∀ f c' doc pm ctv s', St B fs ((f, raw (fnMade name qual params body scope clos doc pm c' ctv)) :: (tabF P qual pos c' ++ L)) s' → Q (.ref f) s') :
  wpAny (model prog w) A (makeFunction name qual params (.stmts body) scope env [] [] [] pos firstLine) Q E s := by
 refine packG ?_; intro TT
 obtain ⟨mg, hmg, bm, ob, h1, h2, h3, h4, h5, h6, h7⟩ := O.bm
 obtain ⟨_, hP, rfl⟩ := S.at (a := P) (z := raw (tabObj #[])) List.mem_cons_self
 have hPB : B.h.get? P = none := S.new P (List.mem_append_right _ (by simp [tabE]))
 have hneG : mainGlobals ≠ P := fun q => by obtain ⟨o, _, _, e, _⟩ := hmg; rw [q, hPB] at e; cases e
 have hneB : bm ≠ P := fun q => by rw [q, hPB] at h4; cases h4
 refine makeFunction_K (ps := #[]) hcl hE.g (hmg.keeps S.old) hcd (codeHd_of_K (S.K O.toOk) (hC _)) hP (by simp [TriplesOk]) rfl hneG ⟨bm, ob, h1, h2, h3, hneB, S.old _ _ h4, h5, h6, h7⟩ fun c' ctv doc h' tk hx hge hlt hrec htb => ?_
 refine packG ?_; intro TT
 obtain ⟨_, oc, vs, t, rfl', hoc, hd, hv⟩ := hrec
 cases rfl'
 have S1 : St B fs ((P, raw (tabObj #[rawInt pos.line, rawInt pos.col, .ref c'])) :: L) { s with heap := h', toks := tk } :=
  S.redo (J := [(P, raw (tabObj #[rawInt pos.line, rawInt pos.col, .ref c']))]) rfl (fun b o hb e => hx b o (fun q => hb (by simp [tabE, q])) e) (fun p hp => by simp at hp; subst hp; exact ⟨_, htb, by simp [raw]⟩)
 have hab := S.above hge
 have S2 := S1.more hoc (x := codO qual) ⟨vs, t, hd, hv⟩ hab.1 hab.2.1 (by simpa [tabE] using hab.2.2)
 have S3 := S2.perm (.swap _ _ _)
 exact h _ c' doc _ ctv _ (S3.alloc (o := fnMade name qual params body scope clos doc _ c' ctv) (y := raw _) rfl rfl)
theorem mk_hit {name qual : Str} {params : Arguments} {body : List Stmt} {scope : Scope} {clos : List (Str × Addr)} {pos : Pos} {firstLine : Nat} {Q : Value → Shared → Prop} (O : OkB B w) (S : St B fs (tabF P qual pos c' ++ L) s) (hE : EnvIs env sc) (hcd : env.code = .ref c) (hC : ∀ p, codeHdIn (KF p) c P = true) (hcl : closureFor scope env = pure clos)
  (h : ∀ f doc pm ctv s', St B fs ((f, raw (fnMade name qual params body scope clos doc pm c' ctv)) :: (tabF P qual pos c' ++ L)) s' → Q (.ref f) s') :
  wpAny (model prog w) A (makeFunction name qual params (.stmts body) scope env [] [] [] pos firstLine) Q E s := by
 refine packG ?_; intro TT
 obtain ⟨mg, hmg, bm, ob, h1, h2, h3, h4, h5, h6, h7⟩ := O.bm
 obtain ⟨_, hP, rfl⟩ := S.at (a := P) (z := raw (tabObj #[rawInt pos.line, rawInt pos.col, .ref c'])) List.mem_cons_self
 have hPB : B.h.get? P = none := S.new P (List.mem_append_right _ (by simp [tabF]))
 have hneB : bm ≠ P := fun q => by rw [q, hPB] at h4; cases h4
 refine makeFunction_hit (cv := .ref c') (ps := #[rawInt pos.line, rawInt pos.col, .ref c']) hcl hE.g (hmg.keeps S.old) hcd (codeHd_of_K (S.K O.toOk) (hC _)) hP (by simp [TriplesOk, rawInt]) (by simp [codeAmong, rawInt]) ⟨bm, ob, h1, h2, h3, hneB, S.old _ _ h4, h5, h6, h7⟩ fun ctv doc h' tk hk hsz => ?_
 have S1 := S.grow (t := tk) (d := s.drawn) hk
 exact h _ doc _ ctv _ (S1.alloc (o := fnMade name qual params body scope clos doc _ c' ctv) (y := raw _) rfl rfl)
theorem call_cq {R : Result → Shared → Prop} {a : Addr} {o : Obj} {fd : FuncData} {body : List Stmt} {vals : List Value} {binds : List (Str × Value)} (locs : List Str) (ls : List (Option Value)) (cnames : List Str) (cm : Str → Option Value) (O : Ok B w) (S : St B fs L s) (hA : AOk A (n + 1) es) (hF : FrOk es fs)
  (ho : ∀ P, (KF P).lookup a = some o) (hdata : o.data = .func fd) (hcd : ∀ P, codeIn (KF P) fd.code fd.qualname = true) (hbody : fd.body = .stmts body)
  (hbind : bindArgs fd ⟨vals, []⟩ = pure binds) (hclo : fd.closure = []) (hkind : ∀ x ∈ binds, fd.scope.names.lookup x.1 = some .local ∨ fd.scope.names.lookup x.1 = some .cell)
  (hcn : ((fd.scope.names.filter (fun x => x.2 == .cell)).map (·.1)).reverse = cnames) (hcd' : cnames.Nodup)
  (hck : ∀ x ∈ fd.scope.names, x.2 = .cell ↔ x.1 ∈ cnames)
  (hL : bindL (fun x => fd.scope.names.lookup x) binds (fun _ => none) = lookV locs ls) (hC : bindC (fun x => fd.scope.names.lookup x) binds (fun _ => none) = cm)
  (hloc : ∀ x ∈ locs, fd.scope.names.lookup x = some .local) (hnd : locs.Nodup) (hk : fd.scope.kind = .function)
  (hgl : fd.globals = mainGlobals) (hbl : fd.builtins = builtinsNs)
  (h : ∀ (env : Env) (cs : List (Str × Addr)) (nd : locs.Nodup) (kd : ∀ x ∈ locs, env.kindOf x = some .local) (fn : env.scope.kind = .function) s', EnvIs env fd.scope → env.cells = cs → cs.map (·.1) = cnames → env.frame = some env.locals → env.code = fd.code → env.qual = fd.qualname ++ ".<locals>." → (∀ vs, FrOk (env :: es) ((⟨env, locs, nd, kd, fn⟩, vs) :: fs)) →
   St B ((⟨env, locs, nd, kd, fn⟩, ls) :: fs) (cs.map (fun p => (p.2, celO (cm p.1))) ++ L) s' → AOk (A.deeper env) n (env :: es) → ∀ E, wpAny (model prog w) (A.deeper env) (execs body env) (BodyQ R) E s')
  (hco : fd.scope.isCoroutine = false := by rfl) (hgen : fd.scope.isGenerator = false := by rfl) :
  codeAny (model prog w) A (.call (.ref a) ⟨vals, []⟩) R s := by
 have hcs : (cellsFrom (s.heap.objs.size + 1) fd.scope.names []).map (·.1) = cnames := by rw [cellsFrom_names, hcn]; simp
 refine codeAny_call_cells hA.room (S.old _ _ (O.K _ _ (ho _))) hdata (O.lim.keeps S.old) ((codeRec_of O.K (hcd _)).keeps S.old) hbody hbind hclo (fun x hx => (hkind x hx).imp id fun hc => ⟨hc, ?_⟩) (fun s₁ X => ?_) hco hgen hk
 ·have hm : x.1 ∈ cnames := (hck (x.1, .cell) (mem_of_lookup hc)).mp rfl
  rw [← hcs] at hm
  obtain ⟨p, hp, e⟩ := List.mem_map.mp hm
  cases q : (cellsFrom (s.heap.objs.size + 1) fd.scope.names []).lookup x.1 with
  | some => rfl
  | none => rw [List.lookup_eq_none_iff] at q; have := q p hp; rw [e] at this; simp at this
 ·have e1 : bindL (callEnvC fd s.heap.objs.size a).kindOf binds (fun _ => none) = lookV locs ls := hL
  have e2 : bindC (callEnvC fd s.heap.objs.size a).kindOf binds (fun _ => none) = cm := hC
  rw [e1, e2] at X
  refine packG ?_; intro TT
  obtain ⟨⟨⟨h₁, tk, rfl⟩, hns, hkp, hfr⟩, hcl, hap, hab⟩ := X
  have F := S.above (Nat.le_refl _)
  have S1 : St B ((⟨callEnvC fd s.heap.objs.size a, locs, hnd, hloc, hk⟩, ls) :: fs) L { s with heap := h₁, toks := tk } := (S.grow hkp).moreF hns F.1 F.2.1 F.2.2
  have S2 := S1.cells (cs := cellsFrom (s.heap.objs.size + 1) fd.scope.names []) (cm := cm) hcl (by rw [hcs]; exact hcd') (by rw [List.nodup_iff_pairwise_ne, List.pairwise_map]; exact hap) (fun p hp => by
   have hlt : s.heap.objs.size < p.2 := hab p.1 p.2 hp
   have G := S.above (Nat.le_of_lt hlt)
   refine ⟨G.1, ?_, G.2.2⟩
   rw [List.map_cons, List.mem_cons]
   rintro (e | e)
   ·exact Nat.ne_of_gt hlt e
   ·exact G.2.1 e)
  exact h (callEnvC fd s.heap.objs.size a) _ hnd hloc hk _ ⟨rfl, hgl, hbl, hk⟩ rfl hcs rfl rfl rfl (fun vs e he => by
   rcases List.mem_cons.mp he with rfl | he
   ·exact ⟨by show fd.scope.kind ≠ _; rw [hk]; decide, _, List.mem_cons_self, rfl⟩
   ·refine packG ?_; intro TT
    obtain ⟨h1, f, hf, h2⟩ := hF e he
    exact ⟨h1, f, List.mem_cons_of_mem _ hf, h2⟩) S2 (hA.deeper _) _
end
end
section
open PySem PySem.W PyProof.Rows PySem.Calls Builtin
noncomputable def zipO (TI TO : Addr) : O := raw { cls := .type "zip", dict := none, data := .fields #[.none, .bool false, .bool false, .ref TI, .ref TO], slots := #[] }
noncomputable def parO (a b : Value) : O := raw { cls := .type "tuple", data := .seq #[a, b] }
noncomputable def anyP : O := fun o => ∃ a b : Value, o = { cls := .type "tuple", data := .seq #[a, b] }
structure Zp where
 z : Addr
 TI : Addr
 TO : Addr
 i1 : Addr
 i2 : Addr
noncomputable def zipI (p : Zp) (l1 l2 : Addr) (i : Nat) : List (Addr × O) := [(p.z, zipO p.TI p.TO), (p.TI, parO (.ref p.i1) (.ref p.i2)), (p.TO, anyP), (p.i1, litO l1 i), (p.i2, litO l2 i)]
section
variable {prog : Program} {w : World} {B : Bs} {fs : List Fm} {L L' L₀ : List (Addr × O)} {s : Shared} {A : Around} {E : Value → Shared → Prop} {n : Nat} {es : List Env} {env : Env} {Q : Value → Shared → Prop}
theorem zip_apart {p : Zp} {l1 l2 : Addr} {i : Nat} {s1 s2 : O} (S : St B fs (zipI p l1 l2 i ++ L) s) (h1 : (l1, s1) ∈ L) (h2 : (l2, s2) ∈ L) : ZipApart p.z p.TI p.TO p.i1 p.i2 l1 l2 := by
 have hn := S.ndL
 rw [List.map_append] at hn
 obtain ⟨ha, hb, hc⟩ := List.nodup_append.mp hn
 have m1 : l1 ∈ L.map (·.1) := List.mem_map_of_mem h1
 have m2 : l2 ∈ L.map (·.1) := List.mem_map_of_mem h2
 have k1 : ∀ x ∈ [p.z, p.TI, p.TO, p.i1, p.i2], x ≠ l1 := fun x hx => hc x hx l1 m1
 have k2 : ∀ x ∈ [p.z, p.TI, p.TO, p.i1, p.i2], x ≠ l2 := fun x hx => hc x hx l2 m2
 simp only [zipI, List.map_cons, List.map_nil, List.nodup_cons, List.mem_cons, List.not_mem_nil, or_false, not_or] at ha
 simp only [List.mem_cons, List.not_mem_nil, or_false, forall_eq_or_imp, forall_eq] at k1 k2
 obtain ⟨⟨a1, a2, a3, a4⟩, ⟨b1, b2, b3⟩, ⟨c1, c2⟩, d1, _⟩ := ha
 exact ⟨Ne.symm a1, Ne.symm a2, Ne.symm a3, Ne.symm a4, b1, b2, b3, c1, c2, d1, Ne.symm k1.1, Ne.symm k1.2.2.1, Ne.symm k1.2.2.2.1, Ne.symm k1.2.2.2.2, Ne.symm k2.1, Ne.symm k2.2.2.1, Ne.symm k2.2.2.2.1, Ne.symm k2.2.2.2.2⟩
theorem Itr.zip (elts : List Expr) (x1 : Nat) (pt : Pos) (p : Zp) (l1 l2 : Addr) {s1 s2 : O} {n : Nat} {P1 P2 : Nat → Value → Prop} (hs1 : Src lst s1 n P1) (hs2 : Src lst s2 n P2) : Itr prog w (.Tuple elts x1 pt) p.z n (zipI p l1 l2) [(l1, s1), (l2, s2)]
  (fun i v X => ∃ t x y, v = .ref t ∧ P1 i x ∧ P2 i y ∧ X = [(t, Mine.tup [x, y])]) where
 item := fun {B fs L s A Q E} i hi S hsrc hQ => by
  have D := zip_apart S (hsrc _ List.mem_cons_self) (hsrc _ (List.mem_cons_of_mem _ List.mem_cons_self))
  obtain ⟨_, hz, rfl⟩ := S.get (a := p.z) (x := zipO p.TI p.TO) (by simp [zipI])
  obtain ⟨_, hTI, rfl⟩ := S.get (a := p.TI) (x := parO (.ref p.i1) (.ref p.i2)) (by simp [zipI])
  obtain ⟨_, hTO, a, b, rfl⟩ := S.get (a := p.TO) (x := anyP) (by simp [zipI])
  have h1 := S.get (a := p.i1) (x := litO l1 i) (by simp [zipI])
  have h2 := S.get (a := p.i2) (x := litO l2 i) (by simp [zipI])
  obtain ⟨vs, hl1, hn1, hP1⟩ := hs1.lget S (List.mem_append_right _ (hsrc _ List.mem_cons_self))
  obtain ⟨us, hl2, hn2, hP2⟩ := hs2.lget S (List.mem_append_right _ (hsrc _ (List.mem_cons_of_mem _ List.mem_cons_self)))
  have hF := S.fresh
  have e1 : vs[i]? = some vs[i] := by simp [hn1, hi]
  have e2 : us[i]? = some us[i] := by simp [hn2, hi]
  refine wpAny_pyNext_zip_item D hz hTI hTO h1 h2 hl1.at hl2.at (x := vs[i]) (y := us[i]) (by simpa using e1) (by simpa using e2) fun h' hz' hTO' h1' h2' hT hsz hk => ?_
  refine ⟨_, rfl, wpAny_letOwnedTupleGo_zip hz' fun h₂ hz₂ hs₂ => hQ _ [(s.heap.objs.size, Mine.tup [vs[i], us[i]])] _ ⟨_, _, _, rfl, hP1 i _ e1, hP2 i _ e2, rfl⟩ ?_⟩
  replace hs₂ : Heap.SameBut p.z h' h₂ := hs₂
  have hse : s.heap.objs.size ≠ p.z := fun q => hF.2.2 (by rw [q]; simp [zipI])
  obtain ⟨o1, g1, c1, d1⟩ := h1'
  obtain ⟨o2, g2, c2, d2⟩ := h2'
  have S' : St B fs (zipI p l1 l2 (i + 1) ++ L) ⟨h₂, s.gens, s.drawn, s.toks, s.os⟩ := S.redo (J := zipI p l1 l2 (i + 1)) rfl (fun b o hb e' => by
    simp only [zipI, List.map_cons, List.map_nil, List.mem_cons, List.not_mem_nil, or_false, not_or] at hb
    exact hs₂.extBut b o hb.1 (hk b o hb.1 hb.2.2.1 hb.2.2.2.1 hb.2.2.2.2 e')) (fun q hq => by
   simp only [zipI, List.mem_cons, List.not_mem_nil, or_false] at hq
   rcases hq with rfl | rfl | rfl | rfl | rfl
   ·exact ⟨_, hz₂, rfl⟩
   ·exact ⟨_, hs₂.extBut _ _ D.TIz (hk _ _ D.TIz D.TITO D.TIi1 D.TIi2 hTI), rfl⟩
   ·exact ⟨_, hs₂.extBut _ _ D.TOz hTO', _, _, rfl⟩
   ·exact ⟨o1, hs₂.extBut _ _ D.i1z g1, c1, d1⟩
   ·exact ⟨o2, hs₂.extBut _ _ D.i2z g2, c2, d2⟩)
  exact S'.more (hs₂.extBut _ _ hse hT) ⟨0, by simp⟩ hF.1 hF.2.1 (by simpa [zipI] using hF.2.2)
 done := fun {B fs L s A Q E} hh S hsrc hQ => by
  have D := zip_apart S (hsrc _ List.mem_cons_self) (hsrc _ (List.mem_cons_of_mem _ List.mem_cons_self))
  obtain ⟨_, hz, rfl⟩ := S.get (a := p.z) (x := zipO p.TI p.TO) (by simp [zipI])
  obtain ⟨_, hTI, rfl⟩ := S.get (a := p.TI) (x := parO (.ref p.i1) (.ref p.i2)) (by simp [zipI])
  obtain ⟨_, hTO, a, b, rfl⟩ := S.get (a := p.TO) (x := anyP) (by simp [zipI])
  have h1 := S.get (a := p.i1) (x := litO l1 n) (by simp [zipI])
  have h2 := S.get (a := p.i2) (x := litO l2 n) (by simp [zipI])
  obtain ⟨vs, hl1, hn1, hP1⟩ := hs1.lget S (List.mem_append_right _ (hsrc _ List.mem_cons_self))
  obtain ⟨us, hl2, hn2, hP2⟩ := hs2.lget S (List.mem_append_right _ (hsrc _ (List.mem_cons_of_mem _ List.mem_cons_self)))
  exact wpAny_pyNext_zip_end hh D hz hTI hTO h1 h2 hl1.at hl2.at (.inl (by simp [hn1])) fun h' hk => hQ _ (S.drop fun b o hb e => by
    simp only [zipI, List.map_cons, List.map_nil, List.mem_cons, List.not_mem_nil, or_false, not_or] at hb
    exact hk b o hb.1 hb.2.2.1 hb.2.2.2.1 hb.2.2.2.2 e)
 self := fun {B fs L s A Q E} S hQ => by
  obtain ⟨_, hz, rfl⟩ := S.get (a := p.z) (x := zipO p.TI p.TO) (by simp [zipI])
  exact wpAny_pyIter_zip hz hQ
theorem t_zip {a b : Addr} {vs us : List Value} (S : St B fs L s) (hl1 : IsL s a vs) (hl2 : IsL s b us) (h : ∀ p s', St B fs (zipI p a b 0 ++ L) s' → Q (.ref p.z) s') : wpAny (model prog w) A (call (.type "zip") [.ref a, .ref b]) Q E s := by
 refine call_zip_2 hl1.at hl2.at fun h' hz hTI hTO h1 h2 hsz hk => h ⟨s.heap.objs.size + 4, s.heap.objs.size + 2, s.heap.objs.size + 3, s.heap.objs.size, s.heap.objs.size + 1⟩ _ ?_
 have S0 : St B fs L ⟨h', s.gens, s.drawn, s.toks, s.os⟩ := S.grow hk
 have F0 := S.above (Nat.le_refl _)
 have F1 := S.above (a := s.heap.objs.size + 1) (by lia)
 have F2 := S.above (a := s.heap.objs.size + 2) (by lia)
 have F3 := S.above (a := s.heap.objs.size + 3) (by lia)
 have F4 := S.above (a := s.heap.objs.size + 4) (by lia)
 refine packG ?_; intro TT
 obtain ⟨o1, g1, c1, d1⟩ := h1
 obtain ⟨o2, g2, c2, d2⟩ := h2
 have S1 := S0.more (x := litO b 0) g2 ⟨c2, d2⟩ F1.1 F1.2.1 F1.2.2
 have S2 := S1.more (x := litO a 0) g1 ⟨c1, d1⟩ F0.1 F0.2.1 (by simpa using F0.2.2)
 have S3 := S2.more (x := anyP) hTO ⟨_, _, rfl⟩ F3.1 F3.2.1 (by simpa using F3.2.2)
 have S4 := S3.more (x := parO (.ref s.heap.objs.size) (.ref (s.heap.objs.size + 1))) hTI rfl F2.1 F2.2.1 (by simpa using F2.2.2)
 exact S4.more (x := zipO (s.heap.objs.size + 2) (s.heap.objs.size + 3)) hz rfl F4.1 F4.2.1 (by simpa using F4.2.2)
theorem pi_zip {p : Zp} {l1 l2 : Addr} {i : Nat} (S : St B fs (zipI p l1 l2 i ++ L) s) (h : Q (.ref p.z) s) : wpAny (model prog w) A (pyIter (.ref p.z)) Q E s := by
 refine packG ?_; intro TT
 obtain ⟨_, hz, rfl⟩ := S.get (a := p.z) (x := zipO p.TI p.TO) (by simp [zipI])
 exact wpAny_pyIter_zip hz h
end
section
variable {prog : Program} {w : World} {B : Bs} {fs : List Fm} {L L' L₀ : List (Addr × O)} {s : Shared} {A : Around} {E : Value → Shared → Prop} {env : Env} {sc scope : Scope} {elt tgt iter : Expr} {pos : Pos}
theorem e_lcS {ifs : List Expr} {rest : List Comprehension} {Q : Value → Shared → Prop} (S0 : St B fs L s) (names : List Str) (cl : List (Str × Addr)) (hE : EnvIs env sc) (hclos : closureFor scope env = pure cl)
  (hcell : ∀ y ∈ scope.names, y.2 ≠ .cell) (hkind : scope.kind = .function) (hnames : ∀ x ∈ scope.names, x.2 = .local → scope.names.lookup x.1 = some .local) (hloc : ∀ x ∈ names, scope.names.lookup x = some .local) (hnd : names.Nodup)
  (h : wpAny (model prog w) A (eval iter env) (fun x s₁ => wpAny (model prog w) A (pyIter x) (fun it s₂ => wpAny (model prog w) A (newList []) (fun acc s₃ => ∃ L₃, St B fs L₃ s₃ ∧
   ∀ (cenv : Env) (nd : names.Nodup) (kd : ∀ x ∈ names, cenv.kindOf x = some .local) (fn : cenv.scope.kind = .function) s₄, EnvIs cenv (relabel scope env) → cenv.cells = cl → St B ((⟨cenv, names, nd, kd, fn⟩, names.map fun _ => none) :: fs) L₃ s₄ →
    codeAny (model prog w) A (.compStart (.ListComp elt (⟨tgt, iter, ifs, 0⟩ :: rest) scope pos) 0 it acc cenv) (CEnd B ⟨cenv, names, nd, kd, fn⟩ fs (Q acc)) s₄) E s₂) E s₁) E s)
  (hs : ∀ x, foldedSetIterable iter env x = pure x := by intro _; with_unfolding_all rfl) :
  wpAny (model prog w) A (eval (.ListComp elt (⟨tgt, iter, ifs, 0⟩ :: rest) scope pos) env) Q E s := e_lc names cl hE hclos hcell hkind hnames hloc hnd h hs
theorem xs_lcS {ifs : List Expr} {rest : List Comprehension} {Q : Flow → Shared → Prop} {stmts : List Stmt} {y : Str} {py spos : Pos} {onames : List Str} {ond : onames.Nodup} {okd : ∀ x ∈ onames, env.kindOf x = some .local} {ofn : env.scope.kind = .function} {ovs : List (Option Value)} (S0 : St B ((⟨env, onames, ond, okd, ofn⟩, ovs) :: fs) L s) (k : Nat)
  (names : List Str) (cl : List (Str × Addr)) (hE : EnvIs env sc) (hclos : closureFor scope env = pure cl)
  (hcell : ∀ y ∈ scope.names, y.2 ≠ .cell) (hkind : scope.kind = .function) (hnames : ∀ x ∈ scope.names, x.2 = .local → scope.names.lookup x.1 = some .local) (hloc : ∀ x ∈ names, scope.names.lookup x = some .local) (hnd : names.Nodup)
  (hsw : swapsWith (.ListComp elt (⟨tgt, iter, ifs, 0⟩ :: rest) scope pos) (some (.Name y py)) spos.line env = pure true) (hy : onames[k]? = some y) (hk : k < ovs.length)
  (h : wpAny (model prog w) A (eval iter env) (fun x s₁ => wpAny (model prog w) A (pyIter x) (fun it s₂ => wpAny (model prog w) A (newList []) (fun acc s₃ => ∃ L₃, St B ((⟨env, onames, ond, okd, ofn⟩, ovs) :: fs) L₃ s₃ ∧
   ∀ (cenv : Env) (nd : names.Nodup) (kd : ∀ x ∈ names, cenv.kindOf x = some .local) (fn : cenv.scope.kind = .function) s₄, EnvIs cenv (relabel scope env) → cenv.cells = cl → St B ((⟨cenv, names, nd, kd, fn⟩, names.map fun _ => none) :: (⟨env, onames, ond, okd, ofn⟩, ovs) :: fs) L₃ s₄ →
    codeAny (model prog w) A (.compStart (.ListComp elt (⟨tgt, iter, ifs, 0⟩ :: rest) scope pos) 0 it acc cenv) (UEnd B ⟨cenv, names, nd, kd, fn⟩ ⟨env, onames, ond, okd, ofn⟩ ovs fs k (wpAny (model prog w) A (execs stmts env) Q E) acc) s₄) E s₂) E s₁) E s)
  (hs : ∀ x, foldedSetIterable iter env x = pure x := by intro _; with_unfolding_all rfl) :
  wpAny (model prog w) A (execs (.Assign [.Name y py] (.ListComp elt (⟨tgt, iter, ifs, 0⟩ :: rest) scope pos) spos :: stmts) env) Q E s := xs_lc k names cl hE hclos hcell hkind hnames hloc hnd hsw hy hk h hs
end
end
section
open PySem PySem.W PyProof.Rows PySem.Calls Builtin
section
variable {prog : Program} {w : World} {B : Bs} {fs : List Fm} {L L' L₀ : List (Addr × O)} {s : Shared} {A : Around} {E : Value → Shared → Prop} {n : Nat} {es : List Env} {env : Env} {Q : Value → Shared → Prop} {b : Blk} {ls : List (Option Value)} {a D : Addr} {vs us : List Value} {v : Value} {x y z : O}
theorem St.newsAll (S : St B ((b, ls) :: fs) L s) : News nilHeap b.env.locals s.heap (others s.heap [b.env.locals]) := fun p hp => by
 have := mem_others.mp (show (p.1, p.2) ∈ _ from hp)
 exact ⟨this.1, fun e => this.2 (by simp [e]), nil_get _⟩
theorem St.stay (S : St B ((b, ls) :: fs) L s) {h' : Heap} (F' : Fr nilHeap b.env.locals h' (lookV b.names ls)) (N' : News nilHeap b.env.locals h' (others s.heap [b.env.locals])) {t : Nat} {d : Drawn} : St B ((b, ls) :: fs) L ⟨h', s.gens, d, t, s.os⟩ := by
 have keep : ∀ c o, s.heap.get? c = some o → c ≠ b.env.locals → h'.get? c = some o := fun c o e h1 => (N' (c, o) (mem_others.mpr ⟨e, by simp [h1]⟩)).1
 have hnd := S.nd
 simp only [List.map_cons, List.cons_append, List.nodup_cons] at hnd
 refine ⟨fun c o e => keep c o (S.old c o e) (fun q => ?_), S.os, S.gens, fun f hf => ?_, fun p hp => ?_, S.nd, S.new⟩
 ·have := S.new b.env.locals (by simp); rw [← q, e] at this; cases this
 ·rcases List.mem_cons.mp hf with rfl | hf
  ·exact F'.ns
  ·obtain ⟨o, es, ep, e, r⟩ := S.fr f (List.mem_cons_of_mem _ hf)
   exact ⟨o, es, ep, keep _ _ e (fun q => hnd.1 (q ▸ List.mem_append_left _ (List.mem_map_of_mem hf))), r⟩
 ·obtain ⟨o, e, i⟩ := S.led p hp
  exact ⟨o, keep _ _ e (fun q => S.ne List.mem_cons_self hp q.symm), i⟩
theorem St.made (S : St B ((b, ls) :: fs) L s) {h' : Heap} {o' : Obj} (F' : Fr nilHeap b.env.locals h' (lookV b.names ls)) (N' : News nilHeap b.env.locals h' ((D, o') :: others s.heap [b.env.locals])) (hD : s.heap.objs.size ≤ D) (hy : y o') {t : Nat} {d : Drawn} : St B ((b, ls) :: fs) ((D, y) :: L) ⟨h', s.gens, d, t, s.os⟩ := by
 have S1 := S.stay F' (fun p hp => N' p (List.mem_cons_of_mem _ hp)) (t := t) (d := d)
 have F := S.above hD
 exact S1.more (N' _ List.mem_cons_self).1 hy F.1 F.2.1 F.2.2
theorem flat_rep {α : Type} (x : α) (k : Nat) : (List.foldl (fun x1 x2 => x1 ++ x2) #[] (List.replicate k #[x])) = (List.replicate k x).toArray := by
 have : ∀ (k : Nat) (acc : Array α), List.foldl (fun x1 x2 => x1 ++ x2) acc (List.replicate k #[x]) = acc ++ (List.replicate k x).toArray := by
  intro k
  induction k with
  | zero => intro acc; simp
  | succ k ih =>
   intro acc
   rw [List.replicate_succ, List.foldl_cons, ih, List.replicate_succ]
   apply Array.ext'
   simp
 rw [this]; simp
theorem l_mul1 {k : Int} {u : Tok} {j : Nat} (S : St B ((b, ls) :: fs) L s) (hl : IsL s a [v]) (hk : k = j) (hj : j ≤ 1000) (h : ∀ D s', St B ((b, ls) :: fs) ((D, lst (List.replicate j v)) :: L) s' → Q (.ref D) s') :
  wpAny (model prog w) A (binaryOp .Mult (.ref a) (.int k u)) Q E s := by
 refine packG ?_; intro TT
 obtain ⟨m, hm⟩ := hl
 refine mul_list S.toFr S.newsAll hm (by lia) (by lia) (by simp; lia) fun h' F' N' => h _ _ (S.made F' N' (Nat.le_refl _) ⟨0, ?_⟩)
 have e : k.toNat = j := by lia
 simp only [List.isEmpty_toArray, List.isEmpty_cons, Bool.false_eq_true, if_false, e]
 rw [show [v].toArray = #[v] from rfl, flat_rep]
theorem l_set {k : Int} {j : Nat} {u : Tok} {Q : Unit → Shared → Prop} (up : Upd a z y L L') (S : St B fs L s) (hl : IsL s a vs) (hk : k = j) (hj : j < vs.length) (hz : vs.length ≤ 1000) (hy : ∀ o, lst (vs.set j v) o → y o) (h : ∀ s', St B fs L' s' → Q () s') :
  wpAny (model prog w) A (setItem (.ref a) (.int k u) v) Q E s := by
 refine packG ?_; intro TT
 obtain ⟨m, hm⟩ := id hl
 refine ki_setAt hm (by lia) (by lia) (by simp; lia) (h _ ?_)
 exact S.mapSeq up hl (by
  have : k.toNat = j := by lia
  rw [this]
  apply Array.toList_inj.mp
  simp) hy
theorem chain_t {M : Model} {l r₁ r₂ : Expr} {op₁ op₂ : CmpOp} {pos : Pos} {whole : Sem Value} {Q : Bool → Shared → Prop}
  (h : wpAny M A (eval l env) (fun a s₁ => wpAny M A (eval r₁ env) (fun b s₂ => wpAny M A (compareOp op₁ a b) (fun c s₃ => wpAny M A (truthy c) (fun t s₄ => (t = true → wpAny M A (eval r₂ env) (fun d s₅ => wpAny M A (compareOp op₂ b d) (fun e s₆ => wpAny M A (truthy e) Q E s₆) E s₅) E s₄) ∧ (t = false → Q false s₄)) E s₃) E s₂) E s₁) E s)
  (hm : lastMarks [op₁, op₂] [r₁, r₂] = false := by with_unfolding_all rfl) : wpAny M A (isTrue (.Compare l [op₁, op₂] [r₁, r₂] pos) env whole) Q E s := by
 refine isTrue_chain (wpAny_mono h (fun a s₁ h₁ => test_link (wpAny_mono h₁ (fun b s₂ h₂ => wpAny_mono h₂ (fun c s₃ h₃ => wpAny_mono h₃ (fun t s₄ h₄ => ?_) fun _ _ e => e) fun _ _ e => e) fun _ _ e => e)) fun _ _ e => e) hm
 cases t with
 | false => rw [if_neg (by decide)]; exact h₄.2 rfl
 | true => rw [if_pos rfl]; exact test_last (h₄.1 rfl)
theorem star_l {Q : List Value → Shared → Prop} (S : St B fs L s) (hl : IsL s a vs) (hz : vs.length ≤ 1000) (h : ∀ s', St B fs L s' → Q vs s') : StarOf (model prog w) A E (.ref a) Q s := by
 obtain ⟨k, hk⟩ := id hl
 have z : wpAny (model prog w) A (collect (.ref a)) Q E s := wpAny_collect_seq a (.inl rfl) hk rfl rfl (fun h' hh => h _ (S.grow hh)) (line_le (by simp; lia))
 unfold StarOf notIterableAtAll
 exact wpAny_bind (wpAny_specialOf hl.ty PySem.F.slot_list_iter.lookup (wpAny_pure ⟨rfl, z⟩))
theorem star_t {Q : List Value → Shared → Prop} (S : St B fs L s) (hl : IsT s a vs) (hz : vs.length ≤ 1000) (h : ∀ s', St B fs L s' → Q vs s') : StarOf (model prog w) A E (.ref a) Q s := by
 obtain ⟨k, hk⟩ := id hl
 have z : wpAny (model prog w) A (collect (.ref a)) Q E s := wpAny_collect_seq a (.inr rfl) hk rfl rfl (fun h' hh => h _ (S.grow hh)) (line_le (by simp; lia))
 unfold StarOf notIterableAtAll
 exact wpAny_bind (wpAny_specialOf hl.ty PySem.F.slot_tuple_iter.lookup (wpAny_pure ⟨rfl, z⟩))
theorem l_addl {c : Addr} (S : St B ((b, ls) :: fs) L s) (hl : IsL s a vs) (hr : IsL s c us) (hz : vs.length + us.length ≤ 1000) (h : ∀ D s', St B ((b, ls) :: fs) ((D, lst (vs ++ us)) :: L) s' → Q (.ref D) s') :
  wpAny (model prog w) A (binaryOp .Add (.ref a) (.ref c)) Q E s :=
 add_lists (hsz := line_le (by lia)) S.toFr S.newsAll hl.at hr.at fun h' F' N' => h _ _ (S.made F' N' (Nat.le_refl _) ⟨0, rfl⟩)
theorem cw_ms {q f c : Addr} {pos : Pos} {e : Expr} {rest : List Expr} (O : Ok B w) (hf : ∀ P, fnIn (KF P) f = true)
  (h : wpAny (model prog w) A (spliced (backTo pos (starEach (e :: rest) env))) (fun vs s₁ => At s₁ q (metO f c) ∧ (KF w.params).In s₁.heap ∧ codeAny (model prog w) A (.call (.ref f) ⟨.ref c :: vs, []⟩) (Ret Q E) s₁) E s)
  (he : starEach (e :: rest) env = (false, eval e env) :: starEach rest env := by with_unfolding_all rfl) (hst : (backTo pos (starEach rest env)).any (·.1) = true := by with_unfolding_all rfl) :
  wpAny (model prog w) A (callWith pos (.ref q) [] (backTo pos (starEach (e :: rest) env)) []) Q E s := by
 rw [he] at h ⊢
 refine ks_call (P := MethP (KF w.params) q f (.ref c)) (by show (false || (backTo pos (starEach rest env)).any (·.1)) = true; rw [hst]; rfl) (keeps_M (hf _)) (evalArgs_plain (wpAny_mono h (fun vs s₁ h₁ => ?_) fun _ _ e => e))
 refine packG ?_; intro TT
 obtain ⟨⟨o, ho, rfl⟩, hK, hc⟩ := h₁
 exact ⟨⟨ho, hK⟩, wpAny_call (method_call ho hc)⟩
theorem cw_m1s {q f c : Addr} {pos p : Pos} {e : Expr} (O : Ok B w) (hf : ∀ P, fnIn (KF P) f = true)
  (h : wpAny (model prog w) A (eval e env) (fun v s₁ => StarOf (model prog w) A E v (fun vs s₂ => At s₂ q (metO f c) ∧ (KF w.params).In s₂.heap ∧ codeAny (model prog w) A (.call (.ref f) ⟨.ref c :: vs, []⟩) (Ret Q E) s₂) s₁) E s)
  (he : starEach [.Starred e p] env = [(true, eval e env)] := by with_unfolding_all rfl) :
  wpAny (model prog w) A (callWith pos (.ref q) [] (backTo pos (starEach [.Starred e p] env)) []) Q E s := by
 rw [he]
 refine ks_call (P := MethP (KF w.params) q f (.ref c)) rfl (keeps_M (hf _)) (ks_lone (wpAny_mono h (fun v s₁ h₁ => ?_) fun _ _ e => e))
 unfold StarOf at h₁ ⊢
 refine wpAny_mono h₁ (fun b s₂ h₂ => ⟨h₂.1, wpAny_mono h₂.2 (fun vs s₃ h₃ => ?_) fun _ _ e => e⟩) fun _ _ e => e
 refine packG ?_; intro TT
 obtain ⟨⟨o, ho, rfl⟩, hK, hc⟩ := h₃
 exact ⟨⟨ho, hK⟩, wpAny_call (method_call ho hc)⟩
theorem ms_call {M : Model} {o : Expr} {name : Str} {apos pos : Pos} {args : List Expr}
  (h : wpAny M A (eval o env) (fun ov s₁ => wpAny M A (getAttr ov name true) (fun f s₂ => wpAny M A (callWith pos f [] (backTo pos (starEach args env)) []) Q E s₂) E s₁) E s)
  (hb : attributeBase o name env (eval o env) = eval o env := by with_unfolding_all rfl)
  (hf : methodCallForm (args.length + 0) (backTo pos (starEach args env)) [] = false := by with_unfolding_all rfl) :
  wpAny M A (eval (.Call (.Attribute o name apos) args [] pos) env) Q E s := by
 rw [arm_eval_Call, hb]
 refine wpAny_bind (wpAny_mono h (fun ov s₁ h₁ => wpAny_bind (wpAny_standAt ?_)) fun _ _ e => e)
 show wpAny M A (methodCall o name apos pos env ov (args.length + 0) (backTo pos (starEach args env)) []) Q E s₁
 unfold methodCall
 rw [hf]
 refine wpAny_bind (wpAny_holding ?_)
 show wpAny M A (do pure (← getAttr ov name true, [])) _ E s₁
 refine wpAny_bind (wpAny_mono h₁ (fun f s₂ h₂ => wpAny_pure ?_) fun _ _ e => e)
 exact wpAny_bind (wpAny_pure h₂)
end
end
section
open PySem PySem.W PyProof.Rows PySem.Calls Builtin
theorem intsAre {xs : List Int} {vs : List Value} (h : F2 IntV xs vs) : IntsAre vs xs := by
 induction h with
 | nil => exact .nil
 | cons r _ ih => obtain ⟨t, rfl⟩ := r; exact .cons _ _ ih
theorem bindL_nil {k : Str → Option NameKind} {m : Str → Option Value} : bindL k [] m = m := rfl
theorem bindC_nil {k : Str → Option NameKind} {m : Str → Option Value} : bindC k [] m = m := rfl
theorem bindL_loc {k : Str → Option NameKind} {n : Str} {v : Value} {r : List (Str × Value)} {m : Str → Option Value} (h : k n = some .local) : bindL k ((n, v) :: r) m = bindL k r (fun y => if y = n then some v else m y) := by rw [bindL, if_pos h]
theorem bindL_cel {k : Str → Option NameKind} {n : Str} {v : Value} {r : List (Str × Value)} {m : Str → Option Value} (h : k n = some .cell) : bindL k ((n, v) :: r) m = bindL k r m := by rw [bindL, if_neg (by rw [h]; decide)]
theorem bindC_loc {k : Str → Option NameKind} {n : Str} {v : Value} {r : List (Str × Value)} {m : Str → Option Value} (h : k n = some .local) : bindC k ((n, v) :: r) m = bindC k r m := by rw [bindC, if_pos h]
theorem bindC_cel {k : Str → Option NameKind} {n : Str} {v : Value} {r : List (Str × Value)} {m : Str → Option Value} (h : k n = some .cell) : bindC k ((n, v) :: r) m = bindC k r (fun y => if y = n then some v else m y) := by rw [bindC, if_neg (by rw [h]; decide)]
noncomputable def rngO (a b : Int) : O := fun o => ∃ t u v, o = { cls := .type "range", data := .fields #[.int a t, .int b u, .int 1 v] }
section
variable {prog : Program} {w : World} {B : Bs} {fs : List Fm} {L L' L₀ : List (Addr × O)} {s : Shared} {A : Around} {E : Value → Shared → Prop} {n : Nat} {es : List Env} {env : Env} {Q : Value → Shared → Prop} {b : Blk} {ls : List (Option Value)} {a D : Addr} {vs us : List Value} {v : Value} {x y z : O}
theorem l_max {ns : List Int} (hh : A.handled = none) (S : St B ((b, ls) :: fs) L s) (hl : IsL s a vs) (hv : F2 IntV ns vs) (hne : 0 < ns.length) (h : ∀ M t s', M ∈ ns → (∀ a ∈ ns, a ≤ M) → St B ((b, ls) :: fs) L s' → Q (.int M t) s') :
  wpAny (model prog w) A (call (.builtin "max") [.ref a]) Q E s :=
 max_list_N hh S.toFr S.newsAll hl.at (intsAre hv) hne fun h' M t tk F' N' h1 h2 => h M t _ h1 h2 (S.stay F' N')
theorem max2 {i j : Int} {t u : Tok} (hh : A.handled = none) (S : St B ((b, ls) :: fs) L s) (h : ∀ t s', St B ((b, ls) :: fs) L s' → Q (.int (if j > i then j else i) t) s') :
  wpAny (model prog w) A (call (.builtin "max") [.int i t, .int j u]) Q E s :=
 max_two_N hh S.toFr S.newsAll fun h' tk F' N' => h _ _ (S.stay F' N')
theorem t_rng1 {k : Int} {t : Tok} (S : St B fs L s) (h : ∀ r s', St B fs ((r, rngO 0 k) :: L) s' → Q (.ref r) s') : wpAny (model prog w) A (call (.type "range") [.int k t]) Q E s :=
 call_range_1 (h _ _ (S.alloc (o := { cls := .type "range", data := .fields #[.int 0 s.toks, .int k t, .int 1 (s.toks + 1)] }) ⟨_, _, _, rfl⟩ rfl))
theorem t_rng2 {j k : Int} {t u : Tok} (S : St B fs L s) (h : ∀ r s', St B fs ((r, rngO j k) :: L) s' → Q (.ref r) s') : wpAny (model prog w) A (call (.type "range") [.int j t, .int k u]) Q E s :=
 call_range_2 (h _ _ (S.alloc (o := { cls := .type "range", data := .fields #[.int j t, .int k u, .int 1 s.toks] }) ⟨_, _, _, rfl⟩ rfl))
theorem pi_rng {r : Addr} {j k : Int} (m : Nat) (hm : k = j + m) (hb : -1000 ≤ j ∧ j ≤ 1000 ∧ m ≤ 1000) (S : St B fs L s) (hr : At s r (rngO j k)) (h : ∀ it s', St B fs ([(it, ritO (j + (0 : Nat)) ((m : Int) - (0 : Nat)) 1)] ++ L) s' → Q (.ref it) s') : wpAny (model prog w) A (pyIter (.ref r)) Q E s := by
 refine packG ?_; intro TT
 obtain ⟨o, ho, t, u, v, rfl⟩ := hr
 refine wpAny_pyIter_range ho (small_one (by lia) (by lia) (by lia) (by lia)) ?_
 have e : Builtin.Range.rangeSize j k 1 = (m : Int) := by
  unfold Builtin.Range.rangeSize
  rw [if_pos (by lia)]
  by_cases h : j < k
  ·rw [if_pos h, Int.ediv_one]; lia
  ·rw [if_neg h]; lia
 rw [e]
 refine h _ _ (S.alloc (o := { cls := .type "range_iterator", data := .fields #[rawInt j, rawInt m, rawInt 1] }) (y := ritO (j + (0 : Nat)) ((m : Int) - (0 : Nat)) 1) ?_ rfl)
 show _ = _
 simp
end
end
section
open PySem PySem.W PyProof.Rows PySem.Calls Builtin
noncomputable def zipB (T TI TO : Addr) (fl : Bool) : O := raw { cls := .type "zip", dict := none, data := .fields #[rawInt T, .bool fl, .bool false, .ref TI, .ref TO], slots := #[] }
noncomputable def zipJ (p : Zp) (l1 l2 T : Addr) (fl : Bool) (i : Nat) : List (Addr × O) := [(p.z, zipB T p.TI p.TO fl), (p.TI, parO (.ref p.i1) (.ref p.i2)), (p.TO, anyP), (p.i1, litO l1 i), (p.i2, litO l2 i)]
theorem w_alive {M : Model} {A : Around} {E : Value → Shared → Prop} {s : Shared} {a : Addr} {o : Obj} {Q : Option Obj → Shared → Prop} (h : s.heap.get? a = some o) (hq : Q (some o) s) : wpAny M A (loadIfAlive a) Q E s := fun Γ p _ => by
 show Sem.wp M Γ (Sem.loadIfAlive a .pure) _ _ p s
 rw [Sem.wp, h]
 exact hq
section
variable {prog : Program} {w : World} {B : Bs} {fs : List Fm} {L L' L₀ : List (Addr × O)} {s : Shared} {A : Around} {E : Value → Shared → Prop} {n : Nat} {es : List Env} {env : Env} {Q : Option Value → Shared → Prop}
theorem zipJ_apart {p : Zp} {l1 l2 T : Addr} {fl : Bool} {i : Nat} {s1 s2 : O} (S : St B fs (zipJ p l1 l2 T fl i ++ L) s) (h1 : (l1, s1) ∈ L) (h2 : (l2, s2) ∈ L) : ZipApart p.z p.TI p.TO p.i1 p.i2 l1 l2 := by
 have hn := S.ndL
 rw [List.map_append] at hn
 obtain ⟨ha, hb, hc⟩ := List.nodup_append.mp hn
 have m1 : l1 ∈ L.map (·.1) := List.mem_map_of_mem h1
 have m2 : l2 ∈ L.map (·.1) := List.mem_map_of_mem h2
 have k1 : ∀ x ∈ [p.z, p.TI, p.TO, p.i1, p.i2], x ≠ l1 := fun x hx => hc x hx l1 m1
 have k2 : ∀ x ∈ [p.z, p.TI, p.TO, p.i1, p.i2], x ≠ l2 := fun x hx => hc x hx l2 m2
 simp only [zipJ, List.map_cons, List.map_nil, List.nodup_cons, List.mem_cons, List.not_mem_nil, or_false, not_or] at ha
 simp only [List.mem_cons, List.not_mem_nil, or_false, forall_eq_or_imp, forall_eq] at k1 k2
 obtain ⟨⟨a1, a2, a3, a4⟩, ⟨b1, b2, b3⟩, ⟨c1, c2⟩, d1, _⟩ := ha
 exact ⟨Ne.symm a1, Ne.symm a2, Ne.symm a3, Ne.symm a4, b1, b2, b3, c1, c2, d1, Ne.symm k1.1, Ne.symm k1.2.2.1, Ne.symm k1.2.2.2.1, Ne.symm k1.2.2.2.2, Ne.symm k2.1, Ne.symm k2.2.2.1, Ne.symm k2.2.2.2.1, Ne.symm k2.2.2.2.2⟩
theorem zip_first {p : Zp} {l1 l2 : Addr} {i : Nat} {s1 s2 : O} {P1 P2 : Nat → Value → Prop} (hs1 : Src lst s1 n P1) (hs2 : Src lst s2 n P2) (S : St B fs (zipI p l1 l2 i ++ L) s) (h1 : (l1, s1) ∈ L) (h2 : (l2, s2) ∈ L) (hi : i < n)
  (hQ : ∀ t x y s', P1 i x → P2 i y → St B fs ((t, tup [x, y]) :: (zipJ p l1 l2 t false (i + 1) ++ L)) s' → Q (some (.ref t)) s') : wpAny (model prog w) A (pyNext (.ref p.z)) Q E s := by
 have D := zip_apart S h1 h2
 refine packG ?_; intro TT
 obtain ⟨_, hz, rfl⟩ := S.get (a := p.z) (x := zipO p.TI p.TO) (by unfold zipI; repeat (first | exact List.mem_cons_self | apply List.mem_append_left | apply List.mem_cons_of_mem))
 obtain ⟨_, hTI, rfl⟩ := S.get (a := p.TI) (x := parO (.ref p.i1) (.ref p.i2)) (by unfold zipI; repeat (first | exact List.mem_cons_self | apply List.mem_append_left | apply List.mem_cons_of_mem))
 obtain ⟨_, hTO, a, b, rfl⟩ := S.get (a := p.TO) (x := anyP) (by unfold zipI; repeat (first | exact List.mem_cons_self | apply List.mem_append_left | apply List.mem_cons_of_mem))
 have g1 := S.get (a := p.i1) (x := litO l1 i) (by unfold zipI; repeat (first | exact List.mem_cons_self | apply List.mem_append_left | apply List.mem_cons_of_mem))
 have g2 := S.get (a := p.i2) (x := litO l2 i) (by unfold zipI; repeat (first | exact List.mem_cons_self | apply List.mem_append_left | apply List.mem_cons_of_mem))
 refine packG ?_; intro TT
 obtain ⟨vs, hl1, hn1, hP1⟩ := hs1.lget S (List.mem_append_right _ h1)
 obtain ⟨us, hl2, hn2, hP2⟩ := hs2.lget S (List.mem_append_right _ h2)
 have hF := S.fresh
 have e1 : vs[i]? = some vs[i] := by simp [hn1, hi]
 have e2 : us[i]? = some us[i] := by simp [hn2, hi]
 refine wpAny_pyNext_zip_item D hz hTI hTO g1 g2 hl1.at hl2.at (x := vs[i]) (y := us[i]) (by simp) (by simp) fun h' hz' hTO' h1' h2' hT hsz hk => ?_
 refine hQ _ vs[i] us[i] _ (hP1 i _ e1) (hP2 i _ e2) ?_
 refine packG ?_; intro TT
 obtain ⟨o1, g1, c1, d1⟩ := h1'
 obtain ⟨o2, g2, c2, d2⟩ := h2'
 have S' : St B fs (zipJ p l1 l2 s.heap.objs.size false (i + 1) ++ L) ⟨h', s.gens, s.drawn, s.toks, s.os⟩ := S.redo (J := zipJ p l1 l2 s.heap.objs.size false (i + 1)) rfl (fun b o hb e' => by
   simp only [zipI, List.map_cons, List.map_nil, List.mem_cons, List.not_mem_nil, or_false, not_or] at hb
   exact hk b o hb.1 hb.2.2.1 hb.2.2.2.1 hb.2.2.2.2 e') (fun q hq => by
  simp only [zipJ, List.mem_cons, List.not_mem_nil, or_false] at hq
  rcases hq with rfl | rfl | rfl | rfl | rfl
  ·exact ⟨_, hz', rfl⟩
  ·exact ⟨_, hk _ _ D.TIz D.TITO D.TIi1 D.TIi2 hTI, rfl⟩
  ·exact ⟨_, hTO', _, _, rfl⟩
  ·exact ⟨o1, g1, c1, d1⟩
  ·exact ⟨o2, g2, c2, d2⟩)
 exact S'.more hT ⟨0, by simp⟩ hF.1 hF.2.1 (by simpa [zipJ, zipI] using hF.2.2)
theorem zip_busy {p : Zp} {l1 l2 T : Addr} {fl : Bool} {i : Nat} {s1 s2 : O} {P1 P2 : Nat → Value → Prop} {zT : O} (hs1 : Src lst s1 n P1) (hs2 : Src lst s2 n P2) (S : St B fs (zipJ p l1 l2 T fl i ++ L) s) (h1 : (l1, s1) ∈ L) (h2 : (l2, s2) ∈ L) (hT : (T, zT) ∈ L) (hi : i < n)
  (hQ : ∀ t x y s', P1 i x → P2 i y → St B fs ((t, tup [x, y]) :: (zipJ p l1 l2 T true (i + 1) ++ L)) s' → Q (some (.ref t)) s') : wpAny (model prog w) A (pyNext (.ref p.z)) Q E s := by
 have D := zipJ_apart S h1 h2
 obtain ⟨_, hz, rfl⟩ := S.get (a := p.z) (x := zipB T p.TI p.TO fl) (by unfold zipJ; repeat (first | exact List.mem_cons_self | apply List.mem_append_left | apply List.mem_cons_of_mem))
 obtain ⟨_, hTI, rfl⟩ := S.get (a := p.TI) (x := parO (.ref p.i1) (.ref p.i2)) (by unfold zipJ; repeat (first | exact List.mem_cons_self | apply List.mem_append_left | apply List.mem_cons_of_mem))
 obtain ⟨oT, hoT, _⟩ := S.get (a := T) (x := zT) (List.mem_append_right _ hT)
 have hT' : s.TypeIs (.ref p.z) "zip" := ⟨_, hz, rfl⟩
 obtain ⟨vs, hl1, hn1, hP1⟩ := hs1.lget S (List.mem_append_right _ h1)
 obtain ⟨us, hl2, hn2, hP2⟩ := hs2.lget S (List.mem_append_right _ h2)
 have e1 : vs[i]? = some vs[i] := by simp [hn1, hi]
 have e2 : us[i]? = some us[i] := by simp [hn2, hi]
 unfold pyNext
 refine wpAny_bind (wpAny_attempt (wpAny_callSpecial?_slot (name := Str.ofString "__next__") hT' F.slot_zip_next
  (wpAny_call_entry F.slot_zip_next hT' F.entry_zip_next ?_ (F.args_zip_next_1 _))))
 show wpAny _ _ (field (.ref p.z) 2 >>= _) _ _ _
 refine wpAny_bind (wpAny_field hz rfl (x := .bool false) rfl ?_)
 show wpAny _ _ (field (.ref p.z) 3 >>= _) _ _ _
 refine wpAny_bind (wpAny_field hz rfl (x := .ref p.TI) rfl ?_)
 refine wpAny_bind (wpAny_seqItems hTI rfl ?_)
 show wpAny _ _ (Builtin.SmallTypes.ownedTupleIsFree (.ref p.z) >>= _) _ _ _
 refine wpAny_bind ?_
 refine wpAny_mono (Q := fun b s' => b = false ∧ St B fs (zipJ p l1 l2 T true i ++ L) s') ?_ (fun b s' hb => ?_) fun _ _ e => e
 ·unfold Builtin.SmallTypes.ownedTupleIsFree
  refine wpAny_bind (wpAny_field hz rfl (x := rawInt T) rfl ?_)
  show wpAny _ _ (loadIfAlive ((T : Int).toNat) >>= _) _ _ _
  rw [Int.toNat_natCast]
  refine wpAny_bind (w_alive hoT ?_)
  rw [if_neg (by simp)]
  refine wpAny_bind (wpAny_field hz rfl (x := .bool fl) rfl ?_)
  cases fl with
  | true =>
   rw [if_neg (by decide)]
   exact wpAny_pure ⟨rfl, S⟩
  | false =>
   rw [if_pos (by decide)]
   refine wpAny_bind (wpAny_setField hz rfl (by simp) (wpAny_pure ⟨rfl, ?_⟩))
   exact S.upd (a := p.z) (x := zipB T p.TI p.TO false) (y := zipB T p.TI p.TO true) .here (Heap.SameBut.update ..) (Heap.get?_update_self _ hz rfl) (by show _ = _; simp [Obj.mapFields])
 obtain ⟨rfl, S'⟩ := hb
 rw [if_neg (by decide)]
 clear hl1 hl2 hP1 hP2 e1 e2 S hz hTI hoT hT'
 have g1 := S'.get (a := p.i1) (x := litO l1 i) (by unfold zipJ; repeat (first | exact List.mem_cons_self | apply List.mem_append_left | apply List.mem_cons_of_mem))
 obtain ⟨vs, hl1, hn1, hP1⟩ := hs1.lget S' (List.mem_append_right _ h1)
 have e1 : vs[i]? = some vs[i] := by simp [hn1, hi]
 dsimp only
 rw [← Array.forIn_toList]
 simp only [List.forIn_cons, List.forIn_nil]
 refine wpAny_bind (wpAny_bind (wpAny_bind (wpAny_holding ?_)))
 show wpAny _ _ (Builtin.SmallTypes.nextOf (.ref p.i1) >>= _) _ _ _
 refine wpAny_bind (wpAny_nextOf_list_item g1 hl1.at (x := vs[i]) (by simp) fun h₁ i1' hs₁ => ?_)
 refine packG ?_; intro TT
 obtain ⟨o1, q1, c1, d1⟩ := i1'
 have S1 : St B fs ([(p.z, zipB T p.TI p.TO true), (p.TI, parO (.ref p.i1) (.ref p.i2)), (p.TO, anyP), (p.i1, litO l1 (i + 1)), (p.i2, litO l2 i)] ++ L) ⟨h₁, s'.gens, s'.drawn, s'.toks, s'.os⟩ :=
  S'.upd (a := p.i1) (x := litO l1 i) (y := litO l1 (i + 1)) (.there (.there (.there .here))) hs₁ q1 ⟨c1, d1⟩
 have g2 := S1.get (a := p.i2) (x := litO l2 i) (by simp)
 refine packG ?_; intro TT
 obtain ⟨us, hl2, hn2, hP2⟩ := hs2.lget S1 (List.mem_append_right _ h2)
 have e2 : us[i]? = some us[i] := by simp [hn2, hi]
 refine wpAny_pure (wpAny_pure ?_)
 refine wpAny_bind (wpAny_bind (wpAny_holding ?_))
 show wpAny _ _ (Builtin.SmallTypes.nextOf (.ref p.i2) >>= _) _ _ _
 refine wpAny_bind (wpAny_nextOf_list_item g2 hl2.at (x := us[i]) (by simp) fun h₂ i2' hs₂ => ?_)
 refine packG ?_; intro TT
 obtain ⟨o2, q2, c2, d2⟩ := i2'
 have S2 : St B fs (zipJ p l1 l2 T true (i + 1) ++ L) ⟨h₂, s'.gens, s'.drawn, s'.toks, s'.os⟩ :=
  S1.upd (a := p.i2) (x := litO l2 i) (y := litO l2 (i + 1)) (.there (.there (.there (.there .here)))) hs₂ q2 ⟨c2, d2⟩
 refine wpAny_pure (wpAny_pure ?_)
 refine wpAny_pure ?_
 refine wpAny_bind (n_tup S2 (line_le (by simp)) fun t s'' S'' => wpAny_pure ⟨_, rfl, wpAny_pure (hQ t _ _ _ (hP1 i _ e1) (hP2 i _ e2) S'')⟩)
theorem zip_bend {p : Zp} {l1 l2 T : Addr} {fl : Bool} {s1 s2 : O} {P1 P2 : Nat → Value → Prop} {zT : O} (hh : A.handled = none) (hs1 : Src lst s1 n P1) (hs2 : Src lst s2 n P2) (S : St B fs (zipJ p l1 l2 T fl n ++ L) s) (h1 : (l1, s1) ∈ L) (h2 : (l2, s2) ∈ L) (hT : (T, zT) ∈ L)
  (hQ : ∀ s', St B fs L s' → Q none s') : wpAny (model prog w) A (pyNext (.ref p.z)) Q E s := by
 obtain ⟨_, hz, rfl⟩ := S.get (a := p.z) (x := zipB T p.TI p.TO fl) (by unfold zipJ; repeat (first | exact List.mem_cons_self | apply List.mem_append_left | apply List.mem_cons_of_mem))
 obtain ⟨_, hTI, rfl⟩ := S.get (a := p.TI) (x := parO (.ref p.i1) (.ref p.i2)) (by unfold zipJ; repeat (first | exact List.mem_cons_self | apply List.mem_append_left | apply List.mem_cons_of_mem))
 obtain ⟨oT, hoT, _⟩ := S.get (a := T) (x := zT) (List.mem_append_right _ hT)
 have hT' : s.TypeIs (.ref p.z) "zip" := ⟨_, hz, rfl⟩
 unfold pyNext
 refine wpAny_bind (wpAny_attempt (wpAny_callSpecial?_slot (name := Str.ofString "__next__") hT' F.slot_zip_next
  (wpAny_call_entry F.slot_zip_next hT' F.entry_zip_next ?_ (F.args_zip_next_1 _))))
 show wpAny _ _ (field (.ref p.z) 2 >>= _) _ _ _
 refine wpAny_bind (wpAny_field hz rfl (x := .bool false) rfl ?_)
 show wpAny _ _ (field (.ref p.z) 3 >>= _) _ _ _
 refine wpAny_bind (wpAny_field hz rfl (x := .ref p.TI) rfl ?_)
 refine wpAny_bind (wpAny_seqItems hTI rfl ?_)
 show wpAny _ _ (Builtin.SmallTypes.ownedTupleIsFree (.ref p.z) >>= _) _ _ _
 refine wpAny_bind ?_
 refine wpAny_mono (Q := fun b s' => b = false ∧ St B fs (zipJ p l1 l2 T true n ++ L) s') ?_ (fun b s' hb => ?_) fun _ _ e => e
 ·unfold Builtin.SmallTypes.ownedTupleIsFree
  refine wpAny_bind (wpAny_field hz rfl (x := rawInt T) rfl ?_)
  show wpAny _ _ (loadIfAlive ((T : Int).toNat) >>= _) _ _ _
  rw [Int.toNat_natCast]
  refine wpAny_bind (w_alive hoT ?_)
  rw [if_neg (by simp)]
  refine wpAny_bind (wpAny_field hz rfl (x := .bool fl) rfl ?_)
  cases fl with
  | true =>
   rw [if_neg (by decide)]
   exact wpAny_pure ⟨rfl, S⟩
  | false =>
   rw [if_pos (by decide)]
   refine wpAny_bind (wpAny_setField hz rfl (by simp) (wpAny_pure ⟨rfl, ?_⟩))
   exact S.upd (a := p.z) (x := zipB T p.TI p.TO false) (y := zipB T p.TI p.TO true) .here (Heap.SameBut.update ..) (Heap.get?_update_self _ hz rfl) (by show _ = _; simp [Obj.mapFields])
 obtain ⟨rfl, S'⟩ := hb
 rw [if_neg (by decide)]
 have g1 := S'.get (a := p.i1) (x := litO l1 n) (by unfold zipJ; repeat (first | exact List.mem_cons_self | apply List.mem_append_left | apply List.mem_cons_of_mem))
 obtain ⟨vs, hl1, hn1, hP1⟩ := hs1.lget S' (List.mem_append_right _ h1)
 dsimp only
 rw [← Array.forIn_toList]
 simp only [List.forIn_cons, List.forIn_nil]
 refine wpAny_bind (wpAny_bind (wpAny_bind (wpAny_holding ?_)))
 show wpAny _ _ (Builtin.SmallTypes.nextOf (.ref p.i1) >>= _) _ _ _
 refine wpAny_bind (wpAny_nextOf_list_end hh g1 hl1.at (by simp [hn1]) fun h₁ e hs₁ he => ?_)
 refine packG ?_; intro TT
 obtain ⟨oe, hoe, hce⟩ := he
 refine wpAny_bind (wpAny_isInstance (T := "StopIteration") (b := true) ⟨oe, hoe, hce⟩ isSubtype_stop ?_)
 exact wpAny_pure (hQ _ (S'.drop (t := s'.toks) (d := s'.drawn) fun b o hb e' => hs₁ b o (fun q => hb (by simp [zipJ, q])) e'))
noncomputable def Tups (P1 P2 : Nat → Value → Prop) (ts : List Addr) (X : List (Addr × O)) : Prop := ∀ (j : Nat) (t : Addr), ts[j]? = some t → ∃ x y, P1 j x ∧ P2 j y ∧ (t, tup [x, y]) ∈ X
theorem Tups.snoc {P1 P2 : Nat → Value → Prop} {ts : List Addr} {X : List (Addr × O)} {t : Addr} {x y : Value} (h : Tups P1 P2 ts X) (h1 : P1 ts.length x) (h2 : P2 ts.length y) : Tups P1 P2 (ts ++ [t]) ((t, tup [x, y]) :: X) := by
 intro j t' hj
 by_cases e : j < ts.length
 ·rw [List.getElem?_append_left e] at hj
  obtain ⟨x', y', a, b, c⟩ := h j t' hj
  exact ⟨x', y', a, b, List.mem_cons_of_mem _ c⟩
 ·have hj' := (List.getElem?_eq_some_iff.mp hj).1
  simp only [List.length_append, List.length_singleton] at hj'
  have : j = ts.length := by lia
  subst this
  rw [List.getElem?_append_right (Nat.le_refl _)] at hj
  simp at hj
  subst hj
  exact ⟨x, y, h1, h2, List.mem_cons_self⟩
theorem ext_loop {p : Zp} {l1 l2 acc : Addr} {s1 s2 : O} {P1 P2 : Nat → Value → Prop} {R : Result → Shared → Prop} {res : Value} (hh : A.handled = none) (hs1 : Src lst s1 n P1) (hs2 : Src lst s2 n P2) (h1 : (l1, s1) ∈ L) (h2 : (l2, s2) ∈ L) (hn : n ≤ 1000)
  (hR : ∀ (ts : List Addr) (X : List (Addr × Mine.O)) s', ts.length = n → Tups P1 P2 ts X → St B fs ((acc, lst (ts.map .ref)) :: (X ++ L)) s' → R (.ok (.ret res)) s') :
  ∀ (k i : Nat) (s : Shared) (T : Addr) (fl : Bool) (ts : List Addr) (X : List (Addr × Mine.O)) (zT : Mine.O), n - i = k → i ≤ n → ts.length = i → Tups P1 P2 ts X → (T, zT) ∈ X → St B fs (zipJ p l1 l2 T fl i ++ ((acc, lst (ts.map .ref)) :: (X ++ L))) s →
  codeAny (model prog w) A (.builtin "list.extend.loop" ⟨[.ref acc, .ref p.z, res], []⟩) R s := by
 intro k
 induction k with
 | zero =>
  intro i s T fl ts X zT hk hi hl hX hT S
  have hin : i = n := by lia
  subst hin
  refine codeAny_builtin F.entry_extend_loop ?_
  rw [Around.under_plainId F.plain_extend_loop _]
  show wpAny _ A.in1 (pyNext (.ref p.z) >>= _) _ _ s
  refine wpAny_bind (zip_bend (A := A.in1) hh hs1 hs2 S (List.mem_cons_of_mem _ (List.mem_append_right _ h1)) (List.mem_cons_of_mem _ (List.mem_append_right _ h2)) (List.mem_cons_of_mem _ (List.mem_append_left _ hT)) fun s' S' => ?_)
  exact wpAny_pure (hR ts X s' hl hX S')
 | succ k ih =>
  intro i s T fl ts X zT hk hi hl hX hT S
  refine codeAny_builtin F.entry_extend_loop ?_
  rw [Around.under_plainId F.plain_extend_loop _]
  show wpAny _ A.in1 (pyNext (.ref p.z) >>= _) _ _ s
  refine wpAny_bind (zip_busy (A := A.in1) hs1 hs2 S (List.mem_cons_of_mem _ (List.mem_append_right _ h1)) (List.mem_cons_of_mem _ (List.mem_append_right _ h2)) (List.mem_cons_of_mem _ (List.mem_append_left _ hT)) (by lia) fun t x y s' hx hy S' => ?_)
  have hacc : IsL s' acc (ts.map .ref) := S'.isL (List.mem_cons_of_mem _ (List.mem_append_right _ List.mem_cons_self))
  refine packG ?_; intro TT
  obtain ⟨c, hc⟩ := id hacc
  show wpAny _ A.in1 (updateSeq acc (·.push (.ref t)) >>= _) _ _ _
  refine wpAny_bind (wpAny_updateSeq hc rfl (wpAny_pure ⟨plainId_quiet F.plain_extend_loop _, ?_⟩) (line_le (by simp; lia)) (Nat.le_trans (line_le (n := 1001) (by lia)) (Nat.le_succ _) |> Nat.le_trans (by simp; lia)))
  have S2 := S'.mapSeq (t := s'.toks) (d := s'.drawn) (vs' := (ts ++ [t]).map .ref) (y := lst ((ts ++ [t]).map .ref)) (L' := (t, tup [x, y]) :: (zipJ p l1 l2 T true (i + 1) ++ ((acc, lst ((ts ++ [t]).map .ref)) :: (X ++ L)))) (.there ((Upd.here).left _)) hacc (f := (·.push (.ref t))) (by simp) (fun o h => h)
  refine ih (i + 1) _ T true (ts ++ [t]) ((t, tup [x, y]) :: X) zT (by lia) (by lia) (by simp [hl]) (hX.snoc (hl ▸ hx) (hl ▸ hy)) (List.mem_cons_of_mem _ hT) (S2.perm ?_)
  have := List.perm_append_comm_assoc [((t, tup [x, y]) : Addr × Mine.O)] (zipJ p l1 l2 T true (i + 1) ++ [(acc, lst ((ts ++ [t]).map .ref))]) (X ++ L)
  simpa using this
theorem zip_no_len : typeLookup (.type "zip") "__len__" = pure none := by rw [typeLookup_type, builtinLookup_eq_fast]; kernel_rfl
theorem zip_no_hint : typeLookup (.type "zip") "__length_hint__" = pure none := by rw [typeLookup_type, builtinLookup_eq_fast]; kernel_rfl
theorem collect_zip {p : Zp} {l1 l2 : Addr} {s1 s2 : O} {P1 P2 : Nat → Value → Prop} {Q : List Value → Shared → Prop} (hh : A.handled = none) (hs1 : Src lst s1 n P1) (hs2 : Src lst s2 n P2) (S : St B fs (zipI p l1 l2 0 ++ L) s) (h1 : (l1, s1) ∈ L) (h2 : (l2, s2) ∈ L) (hn0 : 0 < n) (hn : n ≤ 1000)
  (hQ : ∀ (ts : List Addr) (X : List (Addr × Mine.O)) s', ts.length = n → Tups P1 P2 ts X → St B fs (X ++ L) s' → Q (ts.map .ref) s') : wpAny (model prog w) A (collect (.ref p.z)) Q E s := by
 unfold collect
 refine wpAny_bind (wpAny_runValue (codeAny_builtin F.entry_proto_collect ?_))
 rw [Around.under_plainId F.plain_proto_collect _]
 show wpAny _ A.in1 (newList [] >>= fun l => again (.builtin "list.__iadd__" ⟨[l, .ref p.z], []⟩)) _ _ s
 refine wpAny_bind (n_list S (line_le (by simp)) ?_)
 clear S; intro acc s S
 refine wpAny_pure ⟨plainId_quiet F.plain_list_iadd _, codeAny_builtin F.entry_list_iadd ?_⟩
 rw [Around.under_plainId F.plain_list_iadd _]
 show wpAny _ A.in1 (Builtin.List.listExtendWith (.ref acc) (.ref p.z) (.ref acc)) _ _ _
 obtain ⟨_, hz, rfl⟩ := S.get (a := p.z) (x := zipO p.TI p.TO) (by unfold zipI; repeat (first | exact List.mem_cons_self | apply List.mem_append_left | apply List.mem_cons_of_mem))
 have hT' : s.TypeIs (.ref p.z) "zip" := ⟨_, hz, rfl⟩
 have hne : acc ≠ p.z := fun e => by
  have := S.ndL
  simp only [List.map_cons, List.nodup_cons] at this
  exact this.1 (by simp [zipI, e])
 unfold Builtin.List.listExtendWith
 refine wpAny_bind (wpAny_typeOf hT' ?_)
 have e1 : Builtin.List.listSameRef (.ref acc) (.ref p.z) = false := by simp [Builtin.List.listSameRef, hne]
 have e2 : (Value.type "zip" == Value.type "list") = false := by decide
 have e3 : (Value.type "zip" == Value.type "tuple") = false := by decide
 simp only [e1, e2, e3, Bool.or_false, Bool.false_eq_true, if_false]
 refine wpAny_bind (wpAny_pyIter_zip hz ?_)
 refine wpAny_bind (wpAny_holding ?_)
 unfold Builtin.List.listLengthHint
 refine wpAny_bind (wpAny_specialOf hT' zip_no_len ?_)
 show wpAny _ A.in1 (specialOf (Value.ref p.z) (Str.ofString "__length_hint__") >>= _) _ _ _
 refine wpAny_bind (wpAny_specialOf hT' zip_no_hint ?_)
 refine wpAny_pure ?_
 show wpAny _ A.in1 (rule "list.extend.makes-room" >>= fun _ => Builtin.List.listTouch (.ref acc) >>= fun _ =>
  again (.builtin "list.extend.loop" ⟨[.ref acc, .ref p.z, .ref acc], []⟩)) _ _ _
 refine wpAny_bind (wpAny_rule ?_)
 refine wpAny_bind ?_
 show wpAny _ A.in1 (updateSeq acc (·.push .none) >>= fun _ => updateSeq acc (·.pop)) _ _ _
 have hacc : IsL s acc [] := S.isL List.mem_cons_self
 refine packG ?_; intro TT
 obtain ⟨c, hc⟩ := id hacc
 refine wpAny_bind (wpAny_updateSeq hc rfl ?_)
 have Sa := S.mapSeq (t := s.toks) (d := s.drawn) (vs' := [.none]) (y := lst [.none]) .here hacc (f := (·.push .none)) (by simp) (fun o h => h)
 have hacc2 := Sa.isL List.mem_cons_self
 refine packG ?_; intro TT
 obtain ⟨c2, hc2⟩ := id hacc2
 refine wpAny_updateSeq hc2 rfl ?_
 have Sb := Sa.mapSeq (t := s.toks) (d := s.drawn) (vs' := []) (y := lst []) .here hacc2 (f := (·.pop)) (by simp) (fun o h => h)
 refine wpAny_pure ⟨plainId_quiet F.plain_extend_loop _, ?_⟩
 replace Sb := Sb.perm (L' := zipI p l1 l2 0 ++ ((acc, lst []) :: L)) List.perm_middle.symm
 refine codeAny_builtin F.entry_extend_loop ?_
 rw [Around.under_plainId F.plain_extend_loop _]
 show wpAny _ A.in1 (pyNext (.ref p.z) >>= _) _ _ _
 refine wpAny_bind (zip_first (A := A.in1) hs1 hs2 Sb (List.mem_cons_of_mem _ h1) (List.mem_cons_of_mem _ h2) hn0 fun t x y s' hx hy S' => ?_)
 have hacc3 : IsL s' acc [] := S'.isL (List.mem_cons_of_mem _ (List.mem_append_right _ List.mem_cons_self))
 refine packG ?_; intro TT
 obtain ⟨c3, hc3⟩ := id hacc3
 show wpAny _ A.in1 (updateSeq acc (·.push (.ref t)) >>= _) _ _ _
 refine wpAny_bind (wpAny_updateSeq hc3 rfl (wpAny_pure ⟨plainId_quiet F.plain_extend_loop _, ?_⟩))
 have S2 := S'.mapSeq (t := s'.toks) (d := s'.drawn) (vs' := [.ref t]) (y := lst [.ref t]) (L' := (t, tup [x, y]) :: (zipJ p l1 l2 t false (0 + 1) ++ ((acc, lst [.ref t]) :: L))) (.there ((Upd.here).left _)) hacc3 (f := (·.push (.ref t))) (by simp) (fun o h => h)
 refine ext_loop (L := L) (p := p) (l1 := l1) (l2 := l2) (acc := acc) hh hs1 hs2 h1 h2 hn (fun ts X s' hl hX S' => ?_) (n - 1) 1 _ t false [t] [(t, tup [x, y])] (tup [x, y]) rfl (by lia) rfl ?_ List.mem_cons_self (S2.perm ?_)
 ·have hac : IsL s' acc (ts.map .ref) := S'.isL List.mem_cons_self
  refine packG ?_; intro TT
  obtain ⟨c4, hc4⟩ := id hac
  show wpAny _ A (load acc >>= _) _ _ s'
  refine wpAny_bind (wpAny_load hc4 ?_)
  refine wpAny_pure ?_
  exact hQ ts X s' hl hX (S'.less (List.sublist_cons_self _ _))
 ·intro j t' hj
  cases j with
  | zero => simp at hj; subst hj; exact ⟨x, y, hx, hy, List.mem_cons_self⟩
  | succ j => simp at hj
 ·have := List.perm_append_comm_assoc [((t, tup [x, y]) : Addr × Mine.O)] (zipJ p l1 l2 t false 1 ++ [(acc, lst [.ref t])]) L
  simpa using this
end
end
section
open PySem PySem.W PyProof.Rows PySem.Calls Builtin
section
variable {prog : Program} {w : World} {B : Bs} {fs : List Fm} {L L' L₀ : List (Addr × O)} {s : Shared} {A : Around} {E : Value → Shared → Prop} {n : Nat} {es : List Env} {env : Env} {b : Blk} {ls : List (Option Value)} {a : Addr} {vs : List Value} {P : PySem.Fin → Shared → Prop}
theorem key_sort {f : Value} {kz : List Int} (S : St B ((b, ls) :: fs) ((a, lst vs) :: L) s) (hlen : kz.length = vs.length) (h64 : vs.length < 64)
  (turn : ∀ (i : Nat) v k s' (L2 : List (Addr × O)) E', vs[i]? = some v → kz[i]? = some k → St B ((b, ls) :: fs) (L2 ++ L) s' → wpAny (model prog w) A (call f [v]) (fun r s'' => ∃ t, r = .int k t ∧ St B ((b, ls) :: fs) (L2 ++ L) s'') E' s')
  (h : ∀ (ps : List (Int × Value)) s', ps.Perm (kz.zip vs) → ps.Pairwise (fun p q => p.1 ≤ q.1) → St B ((b, ls) :: fs) ((a, lst (ps.map Prod.snd)) :: L) s' → P (.done (.ret .none)) s') :
  wpAny (model prog w) A (ksk_tree a f false) P E s := by
 have ha : IsL s a vs := S.isL List.mem_cons_self
 obtain ⟨c, hc⟩ := id ha
 unfold ksk_tree
 refine wpAny_bind (listItems_at hc rfl ?_)
 refine wpAny_bind (listUpdate_at hc rfl ?_ (line_le (by simp; lia)) (Nat.zero_le _))
 refine packG ?_; intro TT
 obtain ⟨e1, ho1⟩ : ∃ e1, (s.heap.update a (Obj.mapSeq fun _ => (#[] : Array Value))).get? a = some (seqObj "list" #[] e1) := ⟨_, get?_update_seq hc fun _ => #[]⟩
 have S1 := S.upd (y := raw (seqObj "list" #[] e1)) (t := s.toks) (d := s.drawn) .here (Heap.SameBut.update ..) ho1 rfl
 refine wpAny_bind (seqEpoch_at ho1 rfl ?_)
 refine wpAny_bind (n_tup S1 (line_le (by simp; lia)) ?_)
 clear S S1; intro hd s S
 refine wpAny_bind (n_list S (line_le (by simp)) ?_)
 clear S; intro kS s S
 refine wpAny_holding ?_
 unfold ksk_rest
 refine wpAny_bind (wpAny_rule ?_)
 rw [List.forIn_toArray]
 refine wpAny_bind (ksk_fold (fun i s' => St B ((b, ls) :: fs) ([(kS, lstR IntV (kz.take i)), (hd, tup vs), (a, raw (seqObj "list" #[] e1))] ++ L) s') vs 0 s
  (by simpa using S.weak (a := kS) (y := lstR IntV []) .here (fun o h => ⟨[], .nil, h⟩)) ?step ?done)
 case step =>
  intro j x s' hx S'
  simp only [Nat.zero_add] at S' ⊢
  have hj : j < vs.length := (List.getElem?_eq_some_iff.mp hx).1
  refine packG ?_; intro TT
  obtain ⟨k, hkj⟩ : ∃ k, kz[j]? = some k := ⟨_, List.getElem?_eq_getElem (by lia)⟩
  refine wpAny_bind (wpAny_attempt (wpAny_mono (turn j x k s' _ _ hx hkj S') (fun v s'' he => ?_) fun _ _ e => e))
  refine packG ?_; intro TT
  obtain ⟨t, rfl, S2⟩ := he
  obtain ⟨kv, hkv, hK⟩ := S2.isLR (a := kS) (R := IntV) (xs := kz.take j) List.mem_cons_self
  obtain ⟨kc, hkc⟩ := id hK
  have hkl := hkv.len
  rw [List.length_take] at hkl
  refine wpAny_bind (listUpdate_at hkc rfl ?_ (line_le (by simp; lia)) (Nat.le_trans (by simp; lia) (Nat.le_succ_of_le (line_le (n := 100) (by lia)))))
  refine wpAny_pure ⟨rfl, ?_⟩
  refine S2.mapSeq (vs' := kv ++ [.int k t]) .here hK (by simp) (fun o h => ⟨_, ?_, h⟩)
  rw [List.take_add_one, hkj]
  exact hkv.append (.cons ⟨t, rfl⟩ .nil)
 case done =>
  intro s' S'
  rw [Nat.zero_add, List.take_of_length_le (by lia)] at S'
  refine packG ?_; intro TT
  obtain ⟨kv, hkv, kc, hK⟩ := S'.isLR (a := kS) (R := IntV) (xs := kz) List.mem_cons_self
  obtain ⟨_, hA, rfl⟩ := S'.at (a := a) (z := raw (seqObj "list" #[] e1)) (by simp)
  have hnd := S'.nd
  have hka : kS ≠ a := fun e => by
   have := S'.ndL
   simp [e] at this
  have hkL : kS ≠ b.env.locals := fun e => S'.ne (f := (b, ls)) (p := (kS, lstR IntV kz)) List.mem_cons_self List.mem_cons_self e.symm
  have haL : a ≠ b.env.locals := fun e => S'.ne (f := (b, ls)) (p := (a, raw (seqObj "list" #[] e1))) List.mem_cons_self (by simp) e.symm
  refine wpAny_bind (listItems_at hK rfl ?_)
  have N : News nilHeap b.env.locals s'.heap (others s'.heap [b.env.locals, kS, a] ++ [(kS, seqObj "list" kv.toArray kc), (a, seqObj "list" #[] e1)]) := fun p hp => by
   rcases List.mem_append.mp hp with hp | hp
   ·have := mem_others.mp (show (p.1, p.2) ∈ _ from hp)
    exact ⟨this.1, fun e => this.2 (by simp [e]), nil_get _⟩
   ·simp only [List.mem_cons, List.not_mem_nil, or_false] at hp
    rcases hp with rfl | rfl
    ·exact ⟨hK, hkL, nil_get _⟩
    ·exact ⟨hA, haL, nil_get _⟩
  refine ksk_end_ (b := false) (keys := kv.toArray) S'.toFr N hka (fun p hp e => (mem_others.mp (show (p.1, p.2) ∈ _ from hp)).2 (by simp [e])) (fun p hp e => (mem_others.mp (show (p.1, p.2) ∈ _ from hp)).2 (by simp [e]))
   (by simpa using intsAre hkv) hlen h64 fun h' tk out co F' N' hout => ?_
  refine packG ?_; intro TT
  obtain ⟨ps, hp1, hp2, hp3⟩ := hout
  refine h ps _ hp1 (by simpa using hp3) ?_
  have keep : ∀ x o, s'.heap.get? x = some o → x ≠ b.env.locals → x ≠ kS → x ≠ a → h'.get? x = some o := fun x o e h1 h2 h3 => (N' (x, o) (List.mem_cons_of_mem _ (mem_others.mpr ⟨e, by simp [h1, h2, h3]⟩))).1
  have hao := (N' _ List.mem_cons_self).1
  have hnd2 := S'.ndL
  simp only [List.cons_append, List.nil_append, List.map_cons, List.nodup_cons, List.mem_cons, not_or] at hnd2
  have hnF := hnd
  simp only [List.map_cons, List.cons_append, List.nodup_cons] at hnF
  refine ⟨fun x o e => keep x o (S'.old x o e) (fun q => ?_) (fun q => ?_) (fun q => ?_), S'.os, S'.gens, fun g hg => ?_, fun p hp => ?_, ?_, fun x hx => ?_⟩
  ·have := S'.new b.env.locals (by simp); rw [← q, e] at this; cases this
  ·have := S'.new kS (by simp); rw [← q, e] at this; cases this
  ·have := S'.new a (by simp); rw [← q, e] at this; cases this
  ·rcases List.mem_cons.mp hg with rfl | hg
   ·exact F'.ns
   ·refine packG ?_; intro TT
    obtain ⟨o, es, ep, e, r⟩ := S'.fr g (List.mem_cons_of_mem _ hg)
    refine ⟨o, es, ep, keep _ _ e (fun q => hnF.1 (q ▸ List.mem_append_left _ (List.mem_map_of_mem hg))) (fun q => ?_) (fun q => ?_), r⟩
    ·exact S'.ne (f := g) (p := (kS, lstR IntV kz)) (List.mem_cons_of_mem _ hg) List.mem_cons_self q
    ·exact S'.ne (f := g) (p := (a, raw (seqObj "list" #[] e1))) (List.mem_cons_of_mem _ hg) (by simp) q
  ·rcases List.mem_cons.mp hp with rfl | hp
   ·exact ⟨_, hao, co, by rw [← hp2]⟩
   ·refine packG ?_; intro TT
    obtain ⟨o, e, i⟩ := S'.led p (by simp [hp])
    have hpm : p.1 ∈ L.map (·.1) := List.mem_map_of_mem hp
    refine ⟨o, keep _ _ e (fun q => S'.ne (f := (b, ls)) (p := p) List.mem_cons_self (by simp [hp]) q.symm) (fun q => ?_) (fun q => ?_), i⟩
    ·exact hnd2.1.2.2 (q ▸ hpm)
    ·exact hnd2.2.2.1 (q ▸ hpm)
  ·have := S'.nd
   rw [List.nodup_append] at this ⊢
   refine ⟨this.1, ?_, fun x hx y hy => this.2.2 x hx y ?_⟩
   ·simp only [List.map_cons, List.nodup_cons]
    exact ⟨hnd2.2.2.1, hnd2.2.2.2⟩
   ·simp only [List.map_cons, List.mem_cons] at hy
    simp only [List.cons_append, List.nil_append, List.map_cons, List.mem_cons]
    rcases hy with hy | hy
    ·exact .inr (.inr (.inl hy))
    ·exact .inr (.inr (.inr hy))
  ·refine S'.new x ?_
   rcases List.mem_append.mp hx with hx | hx
   ·exact List.mem_append_left _ hx
   ·refine List.mem_append_right _ ?_
    simp only [List.map_cons, List.mem_cons] at hx
    simp only [List.cons_append, List.nil_append, List.map_cons, List.mem_cons]
    rcases hx with hx | hx
    ·exact .inr (.inr (.inl hx))
    ·exact .inr (.inr (.inr hx))
theorem call_lam {R : Result → Shared → Prop} {a : Addr} {o : Obj} {fd : FuncData} {body : Expr} {args : Args} {names : List Str} {vals : List Value} (O : Ok B w) (S : St B fs L s) (hA : AOk A (n + 1) es)
  (ho : s.heap.get? a = some o) (hdata : o.data = .func fd) (hcd : s.heap.CodeRec fd.code fd.qualname) (hbody : fd.body = .expr body) (hbind : bindArgs fd args = pure (names.zip vals)) (hlen : names.length = vals.length)
  (hcell : ∀ x ∈ fd.scope.names, x.2 ≠ .cell) (hloc : ∀ x ∈ names, fd.scope.names.lookup x = some .local) (hnd : names.Nodup) (hk : fd.scope.kind = .function)
  (hgl : fd.globals = mainGlobals) (hbl : fd.builtins = builtinsNs)
  (h : ∀ (env : Env) (nd : names.Nodup) (kd : ∀ x ∈ names, env.kindOf x = some .local) (fn : env.scope.kind = .function) s', EnvIs env fd.scope → env.cells = fd.closure →
    St B ((⟨env, names, nd, kd, fn⟩, vals.map some) :: fs) L s' → AOk (A.deeper env) n (env :: es) → ∀ E, wpAny (model prog w) (A.deeper env) (eval body env) (fun v s' => R (.ok (.ret v)) s') E s')
  (hco : fd.scope.isCoroutine = false := by rfl) (hgen : fd.scope.isGenerator = false := by rfl) :
  codeAny (model prog w) A (.call (.ref a) args) R s := by
 refine kla_callFunE hA.room ho hdata hco hgen hbody hcd ?_
 rw [hbind]
 refine wpAny_pure ?_
 refine wpAny_newFunctionEnv hcell (fun x hx => hloc _ (List.of_mem_zip hx).1) (fun h₀ hns hsb => ?_) hk
 have hk₀ : ∀ b o, s.heap.get? b = some o → h₀.get? b = some o := fun b o e => hsb.extBut b o (Nat.ne_of_lt (Heap.lt_size e)) (Heap.get?_push_of_some _ e)
 refine ⟨(O.lim.keeps S.old).keeps hk₀, kla_codeExpr ?_⟩
 rw [bind_lookV names vals [] (by simpa using hnd) hlen, List.append_nil, List.map_nil, List.append_nil] at hns
 have F := S.above (Nat.le_refl _)
 exact h (callEnv fd s.heap.objs.size a) hnd hloc hk _ ⟨rfl, hgl, hbl, hk⟩ rfl ((S.grow hk₀).moreF hns F.1 F.2.1 F.2.2) (hA.deeper _) _
end
section
variable {prog : Program} {w : World} {B : Bs} {fs : List Fm} {L L₂ T : List (Addr × O)} {s : Shared} {A : Around} {E : Value → Shared → Prop} {n : Nat} {es : List Env} {env : Env} {P c : Addr} {sc : Scope}
theorem lam_new {name qual : Str} {params : Arguments} {body : Expr} {scope : Scope} {clos : List (Str × Addr)} {pos : Pos} {firstLine : Nat} {Q : Value → Shared → Prop} (O : OkB B w) (S : St B fs (tabE P ++ L) s) (hE : EnvIs env sc) (hcd : env.code = .ref c) (hC : ∀ p, codeHdIn (KF p) c P = true) (hcl : closureFor scope env = pure clos)
  (h : ∀ f c' pm ctv s', St B fs ((f, raw (kla_obj name qual params body scope clos pm c' ctv)) :: (tabF P qual pos c' ++ L)) s' → Q (.ref f) s') :
  wpAny (model prog w) A (makeFunction name qual params (.expr body) scope env [] [] [] pos firstLine) Q E s := by
 refine packG ?_; intro TT
 obtain ⟨mg, hmg, bm, ob, h1, h2, h3, h4, h5, h6, h7⟩ := O.bm
 obtain ⟨_, hP, rfl⟩ := S.at (a := P) (z := raw (tabObj #[])) List.mem_cons_self
 have hPB : B.h.get? P = none := S.new P (List.mem_append_right _ (by simp [tabE]))
 have hneG : mainGlobals ≠ P := fun q => by obtain ⟨o, _, _, e, _⟩ := hmg; rw [q, hPB] at e; cases e
 have hneB : bm ≠ P := fun q => by rw [q, hPB] at h4; cases h4
 refine kla_makeFunction (ps := #[]) hcl hE.g (hmg.keeps S.old) hcd (codeHd_of_K (S.K O.toOk) (hC _)) hP (by simp [TriplesOk]) rfl hneG ⟨bm, ob, h1, h2, h3, hneB, S.old _ _ h4, h5, h6, h7⟩ fun c' ctv h' tk hx hge hlt hrec htb => ?_
 refine packG ?_; intro TT
 obtain ⟨_, oc, vs, t, rfl', hoc, hd, hv⟩ := hrec
 cases rfl'
 have S1 : St B fs ((P, raw (tabObj #[rawInt pos.line, rawInt pos.col, .ref c'])) :: L) { s with heap := h', toks := tk } :=
  S.redo (J := [(P, raw (tabObj #[rawInt pos.line, rawInt pos.col, .ref c']))]) rfl (fun b o hb e => hx b o (fun q => hb (by simp [tabE, q])) e) (fun p hp => by simp at hp; subst hp; exact ⟨_, htb, by simp [raw]⟩)
 have hab := S.above hge
 have S2 := S1.more hoc (x := codO qual) ⟨vs, t, hd, hv⟩ hab.1 hab.2.1 (by simpa [tabE] using hab.2.2)
 have S3 := S2.perm (.swap _ _ _)
 exact h _ c' _ ctv _ (S3.alloc (o := kla_obj name qual params body scope clos _ c' ctv) (y := raw _) rfl rfl)
theorem lam_hit {name qual : Str} {params : Arguments} {body : Expr} {scope : Scope} {clos : List (Str × Addr)} {pos : Pos} {firstLine : Nat} {c' : Addr} {Q : Value → Shared → Prop} (O : OkB B w) (S : St B fs (tabF P qual pos c' ++ L) s) (hE : EnvIs env sc) (hcd : env.code = .ref c) (hC : ∀ p, codeHdIn (KF p) c P = true) (hcl : closureFor scope env = pure clos)
  (h : ∀ f pm ctv s', St B fs ((f, raw (kla_obj name qual params body scope clos pm c' ctv)) :: (tabF P qual pos c' ++ L)) s' → Q (.ref f) s') :
  wpAny (model prog w) A (makeFunction name qual params (.expr body) scope env [] [] [] pos firstLine) Q E s := by
 refine packG ?_; intro TT
 obtain ⟨mg, hmg, bm, ob, h1, h2, h3, h4, h5, h6, h7⟩ := O.bm
 obtain ⟨_, hP, rfl⟩ := S.at (a := P) (z := raw (tabObj #[rawInt pos.line, rawInt pos.col, .ref c'])) List.mem_cons_self
 have hPB : B.h.get? P = none := S.new P (List.mem_append_right _ (by simp [tabF]))
 have hneB : bm ≠ P := fun q => by rw [q, hPB] at h4; cases h4
 refine kla_makeFunctionHit (cv := .ref c') (ps := #[rawInt pos.line, rawInt pos.col, .ref c']) hcl hE.g (hmg.keeps S.old) hcd (codeHd_of_K (S.K O.toOk) (hC _)) hP (by simp [TriplesOk, rawInt]) (by simp [codeAmong, rawInt]) ⟨bm, ob, h1, h2, h3, hneB, S.old _ _ h4, h5, h6, h7⟩ fun ctv h' tk hk hsz => ?_
 have S1 := S.grow (t := tk) (d := s.drawn) hk
 exact h _ _ ctv _ (S1.alloc (o := kla_obj name qual params body scope clos _ c' ctv) (y := raw _) rfl rfl)
theorem lam_any {name qual : Str} {params : Arguments} {body : Expr} {scope : Scope} {clos : List (Str × Addr)} {pos : Pos} {firstLine : Nat} {Q : Value → Shared → Prop} (O : OkB B w) (S : St B fs L s) (hT : T = tabE P ∨ ∃ c0, T = tabF P qual pos c0) (hp : L.Perm (T ++ L₂)) (hE : EnvIs env sc) (hcd : env.code = .ref c) (hC : ∀ p, codeHdIn (KF p) c P = true) (hcl : closureFor scope env = pure clos)
  (h : ∀ f c' pm ctv s', St B fs ((f, raw (kla_obj name qual params body scope clos pm c' ctv)) :: (tabF P qual pos c' ++ L₂)) s' → Q (.ref f) s') :
  wpAny (model prog w) A (makeFunction name qual params (.expr body) scope env [] [] [] pos firstLine) Q E s := by
 replace S := S.perm hp
 rcases hT with rfl | ⟨c0, rfl⟩
 ·exact lam_new O S hE hcd hC hcl fun f c' pm ctv s' S' => h f c' pm ctv s' S'
 ·exact lam_hit O S hE hcd hC hcl fun f pm ctv s' S' => h f c0 pm ctv s' S'
end
section
variable {prog : Program} {w : World} {B : Bs} {fs : List Fm} {L : List (Addr × O)} {s : Shared} {A : Around} {E : Value → Shared → Prop} {n : Nat} {es : List Env} {env : Env} {b : Blk} {ls : List (Option Value)}
theorem sort_zip {p : Zp} {l1 l2 q : Addr} {s1 s2 : O} {P1 P2 : Nat → Value → Prop} {Q : Value → Shared → Prop} (hh : A.handled = none) (hs1 : Src lst s1 n P1) (hs2 : Src lst s2 n P2) (S : St B ((b, ls) :: fs) (zipI p l1 l2 0 ++ L) s) (h1 : (l1, s1) ∈ L) (h2 : (l2, s2) ∈ L) (hn0 : 0 < n) (hn : n < 64)
  (key : ∀ (ts : List Addr) (X : List (Addr × O)), ts.length = n → Tups P1 P2 ts X → ∃ kz : List Int, kz.length = n ∧ (∀ (i : Nat) (t : Addr) (k : Int) s' (L2 : List (Addr × O)) E', ts[i]? = some t → kz[i]? = some k → St B ((b, ls) :: fs) (L2 ++ (X ++ L)) s' →
    wpAny (model prog w) A.in1.in1 (call (.ref q) [.ref t]) (fun r s'' => ∃ tt, r = .int k tt ∧ St B ((b, ls) :: fs) (L2 ++ (X ++ L)) s'') E' s') ∧
   ∀ (ps : List (Int × Value)) D s', ps.Perm (kz.zip (ts.map .ref)) → ps.Pairwise (fun p q => p.1 ≤ q.1) → St B ((b, ls) :: fs) ((D, lst (ps.map Prod.snd)) :: (X ++ L)) s' → Q (.ref D) s') :
  wpAny (model prog w) A (call (.builtin "sorted") [.ref p.z] [(Str.ofString "key", .ref q)]) Q E s := by
 refine call_function_entry_kw kind_sorted plain_sorted entry_sorted (ksk_s1 _ _) ?_
 unfold Builtin.«sorted»
 refine wpAny_bind (m := checkCount "sorted" 1 1 _) (wpAny_pure ?_)
 refine wpAny_bind (collect_zip (A := A.in1) hh hs1 hs2 S h1 h2 hn0 (by lia) fun ts X s' hl hX S' => ?_)
 refine packG ?_; intro TT
 obtain ⟨kz, hkl, turn, fin⟩ := key ts X hl hX
 refine wpAny_bind (n_list S' (line_le (by simp; lia)) fun D s'' S'' => ?_)
 have hD : s''.TypeIs (.ref D) "list" := (S''.isL List.mem_cons_self).ty
 refine wpAny_bind (wpAny_holding (wpAny_call_entry_kw slot_list_sort hD entry_list_sort ?_ (ksk_l1 _ _)))
 rw [ksk_t1]
 refine key_sort (kz := kz) S'' (by simp; lia) (by simp; lia) (fun i v k s' L2 E' hv hk S' => ?_) fun ps s' hp1 hp2 S' => ⟨_, rfl, wpAny_pure ⟨_, rfl, fin ps D s' hp1 hp2 S'⟩⟩
 rw [List.getElem?_map] at hv
 refine packG ?_; intro TT
 obtain ⟨t, ht, rfl⟩ := Option.map_eq_some_iff.mp hv
 exact turn i t k s' L2 E' ht hk S'
end
end
section
open PySem PySem.W PyProof.Rows PySem.Calls Builtin
theorem AOk.c64 {A : Around} {n : Nat} {es : List Env} (h : AOk A n es) : A.units + 64 < cLine := by have := h.units; show _ < 9900; lia
noncomputable def okS (x : Str) : Prop := PyData.strOk x = true
theorem strsAre' {xs : List Str} {vs : List Value} (h : F2 StrV xs vs) : StrsAre vs xs := by
 induction h with
 | nil => exact .nil
 | cons r _ ih => obtain ⟨t, rfl⟩ := r; exact .cons _ _ ih
theorem ofStrsAre : ∀ {vs : List Value} {xs : List Str}, StrsAre vs xs → F2 StrV xs vs
 | _, _, .nil => .nil
 | _, _, .cons x t r => .cons ⟨t, rfl⟩ (ofStrsAre r)
theorem carried_strs {xs : List Str} {vs : List Value} (h : F2 StrV xs vs) : CarriedAll vs (xs.map PyData.str) := by
 induction h with
 | nil => exact .nil
 | cons r _ ih => obtain ⟨t, rfl⟩ := r; exact .cons (.str _ _) ih
theorem eqvAll_strs : ∀ xs ys : List Str, PyData.eqvAll (xs.map PyData.str) (ys.map PyData.str) = decide (xs = ys)
 | [], [] => by simp [PyData.eqvAll]
 | [], _ :: _ => by simp [PyData.eqvAll]
 | _ :: _, [] => by simp [PyData.eqvAll]
 | a :: r, b :: t => by
  simp only [List.map_cons, PyData.eqvAll, PyData.eqv, eqvAll_strs r t]
  by_cases h : a = b <;> by_cases h' : r = t <;> simp [h, h']
theorem eqvAll_bools : ∀ xs ys : List Bool, PyData.eqvAll (xs.map PyData.bool) (ys.map PyData.bool) = decide (xs = ys)
 | [], [] => by simp [PyData.eqvAll]
 | [], _ :: _ => by simp [PyData.eqvAll]
 | _ :: _, [] => by simp [PyData.eqvAll]
 | a :: r, b :: t => by
  simp only [List.map_cons, PyData.eqvAll, PyData.eqv, eqvAll_bools r t]
  by_cases h : a = b <;> by_cases h' : r = t <;> simp [h, h']
theorem canLay_strs {xs : List Str} (h : ∀ x ∈ xs, okS x) : PyData.canLayAll0 (xs.map PyData.str) = true := by
 rw [canLayAll_strs', List.all_eq_true]
 exact h
theorem shaped_strs {xs : List Str} (h : ∀ x ∈ xs, okS x) : SeqAt.shaped (.list (xs.map PyData.str)) = true := by
 simp [SeqAt.shaped, PyData.canLay0, PyData.depth, canLay_strs h, depthAll_strs']
theorem canLay_bools : ∀ xs : List Bool, PyData.canLayAll0 (xs.map PyData.bool) = true
 | [] => rfl
 | _ :: r => by simp [PyData.canLayAll0, PyData.canLay0, canLay_bools r]
theorem depth_bools : ∀ xs : List Bool, PyData.depthAll (xs.map PyData.bool) = 0
 | [] => rfl
 | _ :: r => by simp [PyData.depthAll, PyData.depth, depth_bools r]
section
variable {prog : Program} {w : World} {B : Bs} {fs : List Fm} {L L' L₀ : List (Addr × O)} {s : Shared} {A : Around} {E : Value → Shared → Prop} {n : Nat} {es : List Env} {env : Env} {Q : Value → Shared → Prop} {b : Blk} {ls : List (Option Value)} {a c D : Addr} {vs us : List Value} {v : Value} {x y z : O}
theorem Itr.listT (elts : List Expr) (x1 : Nat) (pt : Pos) (it a : Addr) {src : O} {n : Nat} {P : Nat → Value → Prop} (hs : Src lst src n P) : Itr prog w (.Tuple elts x1 pt) it n (fun i => [(it, litO a i)]) [(a, src)] (fun i v X => P i v ∧ X = []) where
 item := fun {B fs L s A Q E} i hi S hsrc hQ => by
  obtain ⟨o, ho, hc, hd⟩ := S.get List.mem_cons_self
  obtain ⟨vs, hl, rfl, hP⟩ := hs.lget S (List.mem_append_right _ (hsrc _ List.mem_cons_self))
  refine wpAny_pyNext_list_item ⟨o, ho, hc, hd⟩ hl.at (x := vs[i]) (by simp [hi]) fun h' hit' hs' => ?_
  obtain ⟨o', ho', hc', hd'⟩ := hit'
  have S' : St B fs ([(it, litO a (i + 1))] ++ L) { s with heap := h' } := S.redo (J := [(it, litO a (i + 1))]) rfl (fun b o hb e => hs'.extBut b o (fun q => hb (by simp [q])) e) (fun p hp => by simp at hp; subst hp; exact ⟨o', ho', hc', hd'⟩)
  refine ⟨_, rfl, ?_⟩
  have fin : Q vs[i] { s with heap := h' } := hQ _ [] _ ⟨hP i _ (by simp [hi]), rfl⟩ S'
  unfold letOwnedTupleGo
  cases hv : vs[i] with
  | ref r =>
   rw [hv] at fin
   refine wpAny_bind (wpAny_load ho' ?_)
   rw [hc', hd']
   exact wpAny_pure fin
  | _ => rw [hv] at fin; exact wpAny_pure fin
 done := fun {B fs L s A Q E} hh S hsrc hQ => by
  obtain ⟨o, ho, hc, hd⟩ := S.get List.mem_cons_self
  obtain ⟨vs, hl, rfl, hP⟩ := hs.lget S (List.mem_append_right _ (hsrc _ List.mem_cons_self))
  exact wpAny_pyNext_list_end hh ⟨o, ho, hc, hd⟩ hl.at (by simp) fun h' he => hQ _ (S.drop fun b o hb e => he b o (fun q => hb (by simp [q])) e)
 self := fun {B fs L s A Q E} S hQ => by
  obtain ⟨o, ho, hc, hd⟩ := S.get List.mem_cons_self
  exact wpAny_pyIter_listiter (i := 0) ⟨o, ho, hc, hd⟩ hQ
theorem t_list (S : St B fs L s) (hl : IsL s a vs) (hz : vs.length ≤ 1000) (h : ∀ D s', St B fs ((D, lst vs) :: L) s' → Q (.ref D) s') : wpAny (model prog w) A (call (.type "list") [.ref a]) Q E s := by
 refine packG ?_; intro TT
 obtain ⟨k, hk⟩ := id hl
 refine call_list_seq a (.inl rfl) hk rfl rfl (fun h' c' hh hS' => ?_) (line_le (by simp; lia))
 exact h _ _ ((S.grow hh).more hS' ⟨c', rfl⟩ S.fresh.1 S.fresh.2.1 S.fresh.2.2)
theorem s_sort {xs : List Str} (S : St B ((b, ls) :: fs) L s) (hl : IsL s a vs) (hv : F2 StrV xs vs) (hz : xs.length < 64) (h : ∀ D ys s', ys.Perm xs → sortedS ys = true → St B ((b, ls) :: fs) ((D, lstR StrV ys) :: L) s' → Q (.ref D) s') :
  wpAny (model prog w) A (call (.builtin "sorted") [.ref a]) Q E s := by
 refine sorted_N_str S.toFr S.newsAll hl.at (strsAre' hv) (by have := hv.len; lia) fun h' vs' ss' e F' N' h1 h2 h3 => ?_
 exact h _ ss' _ h2 h3 (S.made F' N' (Nat.le_succ _) ⟨vs', ofStrsAre h1, e, rfl⟩)
theorem ne_strs {xs ys : List Str} (hu : A.units + 64 < cLine) (h1 : IsL s a vs) (h2 : IsL s c us) (hx : F2 StrV xs vs) (hy : F2 StrV ys us) (ox : ∀ x ∈ xs, okS x) (oy : ∀ y ∈ ys, okS y) (h : Q (.bool (!decide (xs = ys))) s) : wpAny (model prog w) A (compareOp .NotEq (.ref a) (.ref c)) Q E s :=
 ne_dataH (reads_newData h1.at (carried_strs hx)) (reads_newData h2.at (carried_strs hy)) (shaped_strs ox) (shaped_strs oy) hu (by rw [PyData.eqv, eqvAll_strs]; exact h)
theorem ne_ints {xs ys : List Int} (hu : A.units + 64 < cLine) (h1 : IsL s a vs) (h2 : IsL s c us) (hx : F2 IntV xs vs) (hy : F2 IntV ys us) (h : Q (.bool (!decide (xs = ys))) s) : wpAny (model prog w) A (compareOp .NotEq (.ref a) (.ref c)) Q E s :=
 ke_ne_ints h1.at h2.at (intsAre hx) (intsAre hy) hu h
theorem eq_bools {xs ys : List Bool} (hu : A.units + 64 < cLine) (h1 : IsL s a (xs.map .bool)) (h2 : IsL s c (ys.map .bool)) (h : Q (.bool (decide (xs = ys))) s) : wpAny (model prog w) A (compareOp .Eq (.ref a) (.ref c)) Q E s := by
 have cr : ∀ l : List Bool, CarriedAll (l.map .bool) (l.map PyData.bool) := fun l => by
  induction l with
  | nil => exact .nil
  | cons x l ih => exact .cons (.bool x) ih
 have sh : ∀ l : List Bool, SeqAt.shaped (.list (l.map PyData.bool)) = true := fun l => by simp [SeqAt.shaped, PyData.canLay0, PyData.depth, canLay_bools, depth_bools]
 exact eq_dataH (reads_newData h1.at (cr xs)) (reads_newData h2.at (cr ys)) (sh xs) (sh ys) hu (by rw [PyData.eqv, eqvAll_bools]; exact h)
theorem ne_pair {t1 t2 e1 e2 : Addr} {xs ys : List Str} {us' : List Value} (hu : A.units + 64 < cLine) (ht : IsT s t1 [.ref a, .ref c]) (h1 : IsL s a vs) (h2 : IsL s c us) (hx : F2 StrV xs vs) (hy : F2 StrV ys us) (ox : ∀ x ∈ xs, okS x) (oy : ∀ y ∈ ys, okS y)
  (ht2 : IsT s t2 [.ref e1, .ref e2]) (g1 : IsL s e1 []) (g2 : IsL s e2 []) (h : Q (.bool (!(decide (xs = []) && decide (ys = [])))) s) : wpAny (model prog w) A (compareOp .NotEq (.ref t1) (.ref t2)) Q E s := by
 refine packG ?_; intro TT
 obtain ⟨k1, q1⟩ := ht
 obtain ⟨k2, q2⟩ := ht2
 have r1 : Reads s.heap (.ref t1) (.tuple [.list (xs.map PyData.str), .list (ys.map PyData.str)]) _ := reads_tuple_at q1 rfl rfl (.cons (reads_newData h1.at (carried_strs hx)) (.cons (reads_newData h2.at (carried_strs hy)) .nil))
 have r2 : Reads s.heap (.ref t2) (.tuple [.list (([] : List Str).map PyData.str), .list (([] : List Str).map PyData.str)]) _ := reads_tuple_at q2 rfl rfl (.cons (reads_newData g1.at (carried_strs .nil)) (.cons (reads_newData g2.at (carried_strs .nil)) .nil))
 refine ne_dataH r1 r2 ?_ (by decide) hu ?_
 ·simp [SeqAt.shaped, PyData.canLay0, PyData.canLayAll0, PyData.depth, PyData.depthAll, canLay_strs ox, canLay_strs oy, depthAll_strs']
 ·simp only [PyData.eqv, PyData.eqvAll, eqvAll_strs, Bool.and_true]
  exact h
end
end
section
open PySem PySem.W PyProof.Rows PySem.Calls Builtin
theorem FrOk.cons {es : List Env} {fs : List Fm} (h : FrOk es fs) (f : Fm) : FrOk es (f :: fs) := fun e he => by
 obtain ⟨h1, g, hg, h2⟩ := h e he
 exact ⟨h1, g, List.mem_cons_of_mem _ hg, h2⟩
theorem perm_map_inv {α β : Type} (f : α → β) {ps : List β} {qs : List β} (h : ps.Perm qs) : ∀ {l : List α}, qs = l.map f → ∃ l' : List α, l'.Perm l ∧ ps = l'.map f := by
 induction h with
 | nil => intro l e; exact ⟨[], by simpa using e, rfl⟩
 | cons x h ih =>
  intro l e
  cases l with
  | nil => simp at e
  | cons a l =>
   simp only [List.map_cons, List.cons.injEq] at e
   obtain ⟨rfl, e⟩ := e
   obtain ⟨l', h1, rfl⟩ := ih e
   exact ⟨a :: l', h1.cons a, rfl⟩
 | swap x y l0 =>
  intro l e
  match l, e with
  | [], e => simp at e
  | [_], e => simp at e
  | a :: b :: l, e =>
   simp only [List.map_cons, List.cons.injEq] at e
   obtain ⟨rfl, rfl, rfl⟩ := e
   exact ⟨b :: a :: l, .swap .., rfl⟩
 | trans _ _ ih1 ih2 =>
  intro l e
  obtain ⟨l1, h1, rfl⟩ := ih2 e
  obtain ⟨l2, h2, rfl⟩ := ih1 rfl
  exact ⟨l2, h2.trans h1, rfl⟩
theorem risingS_pw : ∀ (p : Str) (l : List Str), risingS p l = true → (p :: l).Pairwise (fun a b => a.cps.toList ≤ b.cps.toList)
 | p, [], _ => by simp
 | p, x :: r, h => by
  rw [risingS, Bool.and_eq_true, Bool.not_eq_true', ltCps_eq] at h
  have h1 : p.cps.toList ≤ x.cps.toList := List.not_lt.mp (of_decide_eq_false h.1)
  have h2 := risingS_pw x r h.2
  rw [List.pairwise_cons]
  refine ⟨fun b hb => ?_, h2⟩
  rcases List.mem_cons.mp hb with rfl | hb
  ·exact h1
  ·exact List.le_trans h1 ((List.pairwise_cons.mp h2).1 b hb)
theorem sortedS_pw : ∀ {l : List Str}, sortedS l = true → l.Pairwise (fun a b => a.cps.toList ≤ b.cps.toList)
 | [], _ => .nil
 | x :: r, h => risingS_pw x r h
theorem sorted_uniq {xs ys : List Str} (hp : xs.Perm ys) (h1 : sortedS xs = true) (h2 : sortedS ys = true) : xs = ys := by
 have w1 := sortedS_pw h1
 have w2 := sortedS_pw h2
 clear h1 h2
 induction xs generalizing ys with
 | nil => exact hp.symm.eq_nil.symm
 | cons x xs ih =>
  cases ys with
  | nil => exact absurd hp.length_eq (by simp)
  | cons y ys =>
   rw [List.pairwise_cons] at w1 w2
   have hxy : x = y := by
    have a : x.cps.toList ≤ y.cps.toList := by
     rcases List.mem_cons.mp (hp.symm.subset List.mem_cons_self) with h | h
     ·rw [h]; exact List.le_refl _
     ·exact w1.1 y h
    have b : y.cps.toList ≤ x.cps.toList := by
     rcases List.mem_cons.mp (hp.subset List.mem_cons_self) with h | h
     ·rw [h]; exact List.le_refl _
     ·exact w2.1 x h
    have := List.le_antisymm a b
    obtain ⟨⟨x⟩⟩ := x; obtain ⟨⟨y⟩⟩ := y
    simpa using this
   subst hxy
   rw [ih ((List.perm_cons x).mp hp) w1.2 w2.2]
section
variable {prog : Program} {w : World} {B : Bs} {fs : List Fm} {L L' L₀ : List (Addr × O)} {s : Shared} {A : Around} {E : Value → Shared → Prop} {n : Nat} {es : List Env} {env : Env} {Q : Value → Shared → Prop} {b : Blk} {ls : List (Option Value)} {a c D : Addr} {vs us : List Value} {v : Value} {x y z : O}
theorem sub_tup {value slice : Expr} {k : Int} {t : Tok} {j : Nat} (hl : IsT s a vs) (hk : k = j) (hx : vs[j]? = some v) (hz : vs.length ≤ 1000) (h : Q v s)
  (hs : subscripted slice false (.ref a) (.int k t) = operate [.ref a, .int k t] (getItem (.ref a) (.int k t)) := by with_unfolding_all rfl) : wpAny (model prog w) A (subscriptTail value slice (.ref a) (.int k t)) Q E s := by
 have hj := (List.getElem?_eq_some_iff.mp hx).1
 refine st_any hl.ty PySem.F.slot_tuple_getitem.lookup (getItem_tuple (j := j) (x := v) hl.at (by lia) (by lia) ?_ (by simpa using hx) h) hs
 have h0 : ¬ ((j : Int) < 0) := by lia
 subst hk
 simp [seqIndex?, h0, hj]
theorem e_callkw {M : Model} {func : Expr} {args : List Expr} {kws : List Keyword} {pos : Pos}
  (h : wpAny M A (eval func env) (fun f s₁ => wpAny M A (callWith pos f [] (backTo pos (starEach args env)) (backToKw pos (keywordEach kws env))) Q E s₁) E s)
  (he : eval (.Call func args kws pos) env = (do callWith pos (← eval func env) [] (backTo pos (starEach args env)) (backToKw pos (keywordEach kws env))) := by with_unfolding_all rfl) :
  wpAny M A (eval (.Call func args kws pos) env) Q E s := by rw [he]; exact wpAny_bind h
end
end
section
open PySem PySem.W PyProof.Rows PySem.Calls Builtin
section
variable {prog : Program} {w : World} {B : Bs} {fs : List Fm} {L L' L₀ : List (Addr × O)} {s : Shared} {A : Around} {E : Value → Shared → Prop} {n : Nat} {es : List Env} {env : Env} {Q : Value → Shared → Prop} {x : Str} {t : Tok}
theorem t_enumS (ha : ascii x) (S : St B fs L s) (h : ∀ e it s', St B fs ([(e, enuO it (0 : Nat)), (it, sitO x t 0)] ++ L) s' → Q (.ref e) s') : wpAny (model prog w) A (call (.type "enumerate") [.str x t]) Q E s := by
 refine call_enumerate_str fun h' he hit hz hk => h (s.heap.objs.size + 1) s.heap.objs.size _ ?_
 have hF := S.fresh
 refine packG ?_; intro TT
 obtain ⟨o, ho, hc, hd⟩ := hit
 have S0 : St B fs L ⟨h', s.gens, s.drawn, s.toks, s.os⟩ := S.drop (I := []) (fun b o _ e => hk b o e)
 have hsi : strIterType x = "str_ascii_iterator" := by
  unfold strIterType
  exact if_pos ha
 have S1 := S0.more ho (x := sitO x t 0) ⟨by rw [hc, hsi], hd⟩ hF.1 hF.2.1 hF.2.2
 have hA := S.above (Nat.le_succ s.heap.objs.size)
 exact S1.more he (x := enuO s.heap.objs.size (0 : Nat)) ⟨.none, rfl⟩ hA.1 hA.2.1 (by
  have := hA.2.2
  simp only [List.map_cons, List.mem_cons, not_or]
  exact ⟨Nat.succ_ne_self _, this⟩)
structure ItrH (prog : Program) (w : World) (tgt : Expr) (it : Addr) (n : Nat) (I : Nat → List (Addr × O)) (src : List (Addr × O)) (P : Nat → Value → List (Addr × O) → Prop) : Prop where
 item : ∀ {B fs L s A} {Q : Value → Shared → Prop} {E : Value → Shared → Prop} i, A.handled = none → i < n → St B fs (I i ++ L) s → (∀ p ∈ src, p ∈ L) → (∀ v X s', P i v X → St B fs (X ++ (I (i + 1) ++ L)) s' → Q v s') →
  wpAny (model prog w) A (pyNext (.ref it)) (fun r s₁ => ∃ v, r = some v ∧ wpAny (model prog w) A (letOwnedTupleGo tgt (.ref it) v) (fun _ s₂ => Q v s₂) E s₁) E s
 done : ∀ {B fs L s A} {Q : Option Value → Shared → Prop} {E : Value → Shared → Prop}, A.handled = none → St B fs (I n ++ L) s → (∀ p ∈ src, p ∈ L) → (∀ s', St B fs L s' → Q none s') → wpAny (model prog w) A (pyNext (.ref it)) Q E s
 self : ∀ {B fs L s A} {Q : Value → Shared → Prop} {E : Value → Shared → Prop}, St B fs (I 0 ++ L) s → Q (.ref it) s → wpAny (model prog w) A (pyIter (.ref it)) Q E s
theorem comp_loopH {e tgt : Expr} {acc : Value} {Bd : (Shared → Prop) → (Value → Shared → Prop) → Shared → Prop} {it : Addr} {n : Nat} {I : Nat → List (Addr × O)} {src : List (Addr × O)} {P : Nat → Value → List (Addr × O) → Prop} (W : ItrH prog w tgt it n I src P)
  {B : Bs} {fs : List Fm} {L₀ : List (Addr × O)} {s : Shared} {A : Around} {R : Result → Shared → Prop} {blk : Blk} {vs₀ : List (Option Value)} {env : Env} {d : Nat}
  (hturn : Turns prog w A e d it acc env tgt Bd)
  (hh : A.handled = none) (J : Nat → List (Option Value) → List (Addr × O) → Prop) (hsrc : ∀ i vs L, J i vs L → ∀ p ∈ src, p ∈ L)
  (S : St B ((blk, vs₀) :: fs) (I 0 ++ L₀) s) (h0 : J 0 vs₀ L₀)
  (step : ∀ i vs L v X s E, i < n → J i vs L → P i v X → St B ((blk, vs) :: fs) (X ++ (I (i + 1) ++ L)) s →
   wpAny (model prog w) A (assign tgt env v) (fun _ s₂ => Bd (fun s₃ => ∃ vs' L', J (i + 1) vs' L' ∧ St B ((blk, vs') :: fs) (I (i + 1) ++ L') s₃) E s₂) E s)
  (hend : ∀ vs L s, J n vs L → St B ((blk, vs) :: fs) L s → R (.ok .next) s)
  (hmono : ∀ (K K' : Shared → Prop) E s, (∀ s, K s → K' s) → Bd K E s → Bd K' E s)
  (hden : (model prog w).den (.compLoop e d (.ref it) acc env) = (compTurn e d (.ref it) acc env).onRaise (fun x => do noteFrame x env; theTreesLotGoes x))
  (hund : A.under (.compLoop e d (.ref it) acc env) = A) (hq : (Code.compLoop e d (.ref it) acc env).quiet = true) :
  codeAny (model prog w) A (.compLoop e d (.ref it) acc env) R s := by
 refine codeAny_loop hq (fun k s' => ∃ i vs L, k = n + 1 - i ∧ i ≤ n ∧ J i vs L ∧ St B ((blk, vs) :: fs) (I i ++ L) s') ?_ (n + 1) ⟨0, vs₀, L₀, rfl, Nat.zero_le _, h0, S⟩
 intro k s' hJ1
 obtain ⟨i, vs, L, rfl, hi, hJ, S'⟩ := hJ1
 rw [hden, hund]
 refine wpAny_noted (hturn _ _ _ ?_)
 by_cases hlt : i < n
 ·refine wpAny_mono (W.item (A := A) (Q := fun v s₁ => wpAny (model prog w) A (assign tgt env v) (fun _ s₂ => Bd (fun s₃ => ∃ vs' L', J (i + 1) vs' L' ∧ St B ((blk, vs') :: fs) (I (i + 1) ++ L') s₃) (notedBy (model prog w) A env fun e s' => R (.error e) s') s₂) (notedBy (model prog w) A env fun e s' => R (.error e) s') s₁) i hh hlt S' (hsrc i vs L hJ) fun v X s₁ hP S₁ => step i vs L v X s₁ _ hlt hJ hP S₁) (fun r s₁ h₁ => ?_) fun _ _ e => e
  refine packG ?_; intro TT
  obtain ⟨v, rfl, h₁⟩ := h₁
  refine wpAny_mono h₁ (fun _ s₂ h₂ => wpAny_mono h₂ (fun _ s₃ h₃ => hmono _ _ _ _ (fun s₄ h₄ => ?_) h₃) fun _ _ e => e) fun _ _ e => e
  refine packG ?_; intro TT
  obtain ⟨vs', L', hJ', S₄⟩ := h₄
  exact And.intro rfl ⟨n + 1 - (i + 1), by lia, i + 1, vs', L', rfl, hlt, hJ', S₄⟩
 ·have : i = n := by lia
  subst this
  exact W.done hh S' (hsrc i vs L hJ) fun s₁ S₁ => hend vs L s₁ hJ S₁
theorem ItrH.enumS (elts : List Expr) (x1 : Nat) (pt : Pos) (e it : Addr) (x : Str) (t : Tok) : ItrH prog w (.Tuple elts x1 pt) e x.cps.size (fun i => [(e, enuO it i), (it, sitO x t i)]) []
  (fun i v X => ∃ t tk c u, v = .ref t ∧ x.cps[i]? = some c ∧ X = [(t, Mine.tup [.int i tk, .str ⟨#[c]⟩ u])]) where
 item := fun {B fs L s A Q E} i hh hi S hsrc hQ => by
  obtain ⟨_, he, old, rfl⟩ := S.get List.mem_cons_self
  obtain ⟨o, ho, hc, hd⟩ := S.get (List.mem_cons_of_mem _ List.mem_cons_self)
  have hne : e ≠ it := by have := S.ndL; simp at this; exact this.1.1
  have hF := S.fresh
  refine wpAny_pyNext_enum_itemD (Draws.strAscii (A := A.in1) hh it x t) he ⟨o, ho, hc, hd⟩ hi hne (by simp [hne]) fun y h' tk hy heo hit' htu hz hk => ?_
  obtain ⟨c, u, hcx, rfl⟩ := hy
  refine ⟨_, rfl, wpAny_letOwnedTupleGo_enum heo fun h₂ he₂ hs₂ => hQ _ [(s.heap.objs.size, Mine.tup [.int i tk, .str ⟨#[c]⟩ u])] _ ⟨_, _, _, _, rfl, hcx, rfl⟩ ?_⟩
  obtain ⟨o', ho', hc', hd'⟩ := hit'
  replace hs₂ : Heap.SameBut e h' h₂ := hs₂
  have hse : s.heap.objs.size ≠ e := fun q => hF.2.2 (by rw [q]; simp)
  have S' : St B fs ([(e, enuO it (i + 1 : Nat)), (it, sitO x t (i + 1))] ++ L) ⟨h₂, s.gens, s.drawn, tk + 1, s.os⟩ := S.redo (J := [(e, enuO it (i + 1 : Nat)), (it, sitO x t (i + 1))]) rfl (fun b o hb e' => by
    simp at hb
    exact hs₂.extBut b o hb.1 (hk b o hb.1 hb.2 e')) (fun p hp => by
   simp at hp
   rcases hp with rfl | rfl
   ·exact ⟨_, he₂, _, rfl⟩
   ·exact ⟨o', hs₂.extBut _ _ (Ne.symm hne) ho', hc', hd'⟩)
  exact S'.more (hs₂.extBut _ _ hse htu) ⟨0, by simp⟩ hF.1 hF.2.1 (by simpa using hF.2.2)
 done := fun {B fs L s A Q E} hh S hsrc hQ => by
  obtain ⟨_, he, old, rfl⟩ := S.get List.mem_cons_self
  obtain ⟨o, ho, hc, hd⟩ := S.get (List.mem_cons_of_mem _ List.mem_cons_self)
  exact wpAny_pyNext_enum_endD (Draws.strAscii (A := A.in1) hh it x t) he ⟨o, ho, hc, hd⟩ fun h' he' => hQ _ (S.drop fun b o hb e => he' b o (fun q => hb (by simp [q])) e)
 self := fun {B fs L s A Q E} S hQ => by
  obtain ⟨_, he, old, rfl⟩ := S.get List.mem_cons_self
  exact wpAny_pyIter_enum he hQ
noncomputable def Bd2 (prog : Program) (w : World) (A : Around) (e iter2 : Expr) (acc : Value) (env : Env) (K : Shared → Prop) (E : Value → Shared → Prop) (s : Shared) : Prop :=
 wpAny (model prog w) A (eval iter2 env) (fun x s₁ => wpAny (model prog w) A (pyIter x) (fun it2 s₂ => codeAny (model prog w) A (.compStart e 1 it2 acc env) (fun r s₃ => match r with | .ok _ => K s₃ | .error _ => False) s₂) E s₁) E s
theorem Bd2_mono {A : Around} {e iter2 : Expr} {acc : Value} {env : Env} (K K' : Shared → Prop) (E : Value → Shared → Prop) (s : Shared) (h : ∀ s, K s → K' s) (hb : Bd2 prog w A e iter2 acc env K E s) : Bd2 prog w A e iter2 acc env K' E s :=
 wpAny_mono hb (fun _ _ h₁ => wpAny_mono h₁ (fun _ s h₂ => codeAny_mono h₂ fun r s hr => by cases r with | ok _ => exact h _ hr | error _ => exact hr) fun _ _ e => e) fun _ _ e => e
theorem turns_2 {A : Around} {elt t1 i1 t2 i2 : Expr} {scope : Scope} {pos : Pos} {it : Addr} {acc : Value} {env : Env} (hs : ∀ x, foldedSetIterable i2 env x = pure x) :
  Turns prog w A (.ListComp elt [⟨t1, i1, [], 0⟩, ⟨t2, i2, [], 0⟩] scope pos) 0 it acc env t1 (Bd2 prog w A (.ListComp elt [⟨t1, i1, [], 0⟩, ⟨t2, i2, [], 0⟩] scope pos) i2 acc env) := by
 intro Q E s h
 have e0 : compTurn (.ListComp elt [⟨t1, i1, [], 0⟩, ⟨t2, i2, [], 0⟩] scope pos) 0 (.ref it) acc env = (standAt i1.pos >>= fun _ => pyNext (.ref it) >>= fun r => match r with
   | none => pure (.done .next)
   | some v => letOwnedTupleGo t1 (.ref it) v >>= fun _ => assign t1 env v >>= fun _ =>
    eval i2 env >>= fun x => standAt i2.pos >>= fun _ => foldedSetIterable i2 env x >>= fun x => holding [x] (pyIter x) >>= fun it2 => runOwn (.compStart (.ListComp elt [⟨t1, i1, [], 0⟩, ⟨t2, i2, [], 0⟩] scope pos) 1 it2 acc env) env >>= fun _ =>
     again (.compLoop (.ListComp elt [⟨t1, i1, [], 0⟩, ⟨t2, i2, [], 0⟩] scope pos) 0 (.ref it) acc env)) := by rfl
 rw [e0]
 refine wpAny_bind (wpAny_standAt (wpAny_bind (wpAny_mono h (fun r s₁ h₁ => ?_) fun _ _ h' => h')))
 cases r with
 | none => exact wpAny_pure h₁
 | some v =>
  refine wpAny_bind (wpAny_mono h₁ (fun _ s₂ h₂ => wpAny_bind (wpAny_mono h₂ (fun _ s₃ h₃ => ?_) fun _ _ h' => h')) fun _ _ h' => h')
  refine wpAny_bind (wpAny_mono h₃ (fun x s₄ h₄ => wpAny_bind (wpAny_standAt ?_)) fun _ _ h' => h')
  rw [hs]
  refine wpAny_bind (wpAny_pure (wpAny_bind (wpAny_holding (wpAny_mono h₄ (fun it2 s₅ h₅ => ?_) fun _ _ h' => h'))))
  refine wpAny_bind (wpAny_runOwn (codeAny_mono h₅ fun r s₆ hr => ?_))
  cases r with
  | ok f => exact wpAny_pure hr
  | error _ => exact hr.elim
theorem turns_21 {A : Around} {elt t1 i1 t2 i2 : Expr} {scope : Scope} {pos : Pos} {it : Addr} {acc : Value} {env : Env} :
  Turns prog w A (.ListComp elt [⟨t1, i1, [], 0⟩, ⟨t2, i2, [], 0⟩] scope pos) 1 it acc env t2 (BdL prog w A elt acc env) := by
 intro Q E s h
 have e0 : compTurn (.ListComp elt [⟨t1, i1, [], 0⟩, ⟨t2, i2, [], 0⟩] scope pos) 1 (.ref it) acc env = (standAt i2.pos >>= fun _ => pyNext (.ref it) >>= fun r => match r with
   | none => pure (.done .next)
   | some v => letOwnedTupleGo t2 (.ref it) v >>= fun _ => assign t2 env v >>= fun _ =>
    (eval elt env >>= fun x => call (.builtin "list.append") [acc, x] >>= fun _ => pure ()) >>= fun _ =>
     again (.compLoop (.ListComp elt [⟨t1, i1, [], 0⟩, ⟨t2, i2, [], 0⟩] scope pos) 1 (.ref it) acc env)) := by rfl
 rw [e0]
 refine wpAny_bind (wpAny_standAt (wpAny_bind (wpAny_mono h (fun r s₁ h₁ => ?_) fun _ _ h' => h')))
 cases r with
 | none => exact wpAny_pure h₁
 | some v =>
  refine wpAny_bind (wpAny_mono h₁ (fun _ s₂ h₂ => wpAny_bind (wpAny_mono h₂ (fun _ s₃ h₃ => ?_) fun _ _ h' => h')) fun _ _ h' => h')
  exact wpAny_bind (wpAny_bind (wpAny_mono h₃ (fun x s₄ h₄ => wpAny_bind (wpAny_mono h₄ (fun _ s₅ h₅ => wpAny_pure (wpAny_pure h₅)) fun _ _ h' => h')) fun _ _ h' => h'))
theorem start_21 {A : Around} {elt t1 i1 t2 i2 : Expr} {scope : Scope} {pos : Pos} {it : Value} {acc : Value} {env : Env} {R : Result → Shared → Prop}
  (h0 : codeAny (model prog w) A (.compLoop (.ListComp elt [⟨t1, i1, [], 0⟩, ⟨t2, i2, [], 0⟩] scope pos) 1 it acc env) R s)
  (h : wpAny (model prog w) A (pyIter it) (fun it' s' => codeAny (model prog w) A (.compLoop (.ListComp elt [⟨t1, i1, [], 0⟩, ⟨t2, i2, [], 0⟩] scope pos) 1 it' acc env) R s')
   (notedBy (model prog w) A env fun x s' => R (.error x) s') s) :
  codeAny (model prog w) A (.compStart (.ListComp elt [⟨t1, i1, [], 0⟩, ⟨t2, i2, [], 0⟩] scope pos) 1 it acc env) R s := by
 refine codeAny_of_tree ?_
 show wpAny _ _ ((compStart (.ListComp elt [⟨t1, i1, [], 0⟩, ⟨t2, i2, [], 0⟩] scope pos) 1 it acc env).onRaise (fun x => do noteFrame x env; standAt theWindowsPlace)) _ _ s
 refine wpAny_notedAt ?_
 unfold compStart
 show wpAny _ _ (ask >>= _) _ _ s
 refine wpAny_bind (wpAny_askSetting (wpAny_ite ?_))
 split
 ·exact wpAny_pure (And.intro rfl h0)
 ·refine wpAny_bind (wpAny_rule ?_)
  show wpAny _ _ (standAt i2.pos >>= _) _ _ s
  exact wpAny_bind (wpAny_standAt (wpAny_bind (wpAny_mono h (fun it' s' h' => wpAny_pure (And.intro rfl h')) fun _ _ x => x)))
end
end
section
open PySem PySem.W PyProof.Rows PySem.Calls Builtin
theorem F2.ofAll {α : Type} {R : α → Value → Prop} : ∀ {vs : List Value}, (∀ v ∈ vs, ∃ x, R x v) → ∃ xs, F2 R xs vs
 | [], _ => ⟨[], .nil⟩
 | v :: vs, h => by
  obtain ⟨x, hx⟩ := h v List.mem_cons_self
  obtain ⟨xs, hxs⟩ := F2.ofAll (vs := vs) fun y hy => h y (List.mem_cons_of_mem _ hy)
  exact ⟨x :: xs, .cons hx hxs⟩
theorem pick_ints {ns : List Int} {vs : List Value} (h : F2 IntV ns vs) (lo hi st : Option Int) : ∃ ms, F2 IntV ms (slicePick vs.toArray lo hi st).toList := by
 refine F2.ofAll fun v hv => ?_
 unfold slicePick at hv
 simp only [List.mem_filterMap] at hv
 obtain ⟨i, _, hi⟩ := hv
 have hi' : vs[i]? = some v := by simpa using hi
 obtain ⟨x, _, hx⟩ := h.tge hi'
 exact ⟨x, hx⟩
section
variable {prog : Program} {w : World} {B : Bs} {fs : List Fm} {L L' L₀ : List (Addr × O)} {s : Shared} {A : Around} {E : Value → Shared → Prop} {n : Nat} {es : List Env} {env : Env} {Q : Value → Shared → Prop} {x : Str} {t : Tok} {b : Blk} {ls : List (Option Value)} {a : Addr} {vs : List Value}
theorem l_sum {ns : List Int} (hh : A.handled = none) (S : St B ((b, ls) :: fs) L s) (hl : IsL s a vs) (hv : F2 IntV ns vs) (h : ∀ t s', St B ((b, ls) :: fs) L s' → Q (.int ns.sum t) s') : wpAny (model prog w) A (call (.builtin "sum") [.ref a]) Q E s :=
 LSm.sum_ints S.toFr S.newsAll hh hl.at (intsAre hv) fun h' tk t' F' N' => h t' _ (S.stay F' N')
theorem b_pow {i j : Int} {t u : Tok} (hn : 0 ≤ j) (hsz : (Builtin.Int.intBits i : Int) * j ≤ 2 ^ 27) (S : St B fs L s) (h : ∀ t s', St B fs L s' → Q (.int (i ^ j.toNat) t) s') : wpAny (model prog w) A (binaryOp .Pow (.int i t) (.int j u)) Q E s := pow_int hn hsz (h _ _ (S.toks rfl rfl rfl))
theorem sub_sslice {value slice : Expr} {j : Int} {u : Tok} {sl : Addr} {ops : List Value} (S : St B fs L s) (hsl : At s sl (sliO .none (.int j u) .none)) (hz : x.length ≤ 1000)
  (h : ∀ t s', St B fs L s' → Q (.str (Txt.slice x none (some j)) t) s')
  (hs : subscripted slice false (.str x t) (.ref sl) = operate ops (getItem (.str x t) (.ref sl)) := by with_unfolding_all rfl) :
  wpAny (model prog w) A (subscriptTail value slice (.str x t) (.ref sl)) Q E s := by
 obtain ⟨o, ho, rfl⟩ := hsl
 refine st_any (typeIs_str s x t) PySem.F.slot_str_getitem.lookup (wpAny_getItem_str_slice (l := none) (u := some (j, u)) (st := none) ⟨_, ho, rfl, rfl⟩ rfl
  (post_val_or_str ⟨Nat.le_trans (Txt.slice_le x _ _) (line_le (by lia)), fun t' k => ?_⟩)) hs
 exact h _ _ (S.toks rfl rfl rfl)
end
end
section
open PySem PySem.W PyProof.Rows PySem.Calls Builtin
section
variable {prog : Program} {w : World} {B : Bs} {fs : List Fm} {L L' L₀ : List (Addr × O)} {s : Shared} {A : Around} {E : Value → Shared → Prop} {env : Env} {sc scope : Scope} {kx vx tgt iter : Expr} {pos : Pos} {κ : Type} [DecidableEq κ] {knd : KeyKind prog w κ} {kvs : List (κ × Value)} {k : κ} {key v : Value} {d : Addr}
theorem n_dict (knd : KeyKind prog w κ) {Q : Value → Shared → Prop} (S : St B fs L s) (h : ∀ d s', St B fs ((d, dicO knd []) :: L) s' → Q (.ref d) s') : wpAny (model prog w) A newDict Q E s := by
 simp only [newDict, newObj]
 exact wpAny_bind (wpAny_alloc (wpAny_pure (h _ _ (S.alloc ⟨#[], 0, ⟨rfl, rfl, rfl⟩, rfl, fun _ he => by simp at he, Pairs.nil, List.nodup_nil⟩))))
theorem d_set' {x y : O} {Q : Unit → Shared → Prop} (u : Upd d x y L L') (S : St B fs L s) (hd : s.heap.DictOf knd d kvs) (hk : knd.is k key = true) (hsz : kvs.length ≤ sizeLine) (hy : ∀ o, dicO knd (stored kvs k v) o → y o) (h : ∀ s', St B fs L' s' → Q () s') :
  wpAny (model prog w) A (dictSet d key v) Q E s :=
 wpAny_dictSet_pairs hk hd (fun h' hd' hs' => h _ (by
  obtain ⟨o, e, i⟩ := Heap.dictOf_iff.mp hd'
  exact S.upd u hs' e (hy o i))) hsz
theorem xs_dcS {ifs : List Expr} {rest : List Comprehension} {Q : Flow → Shared → Prop} {stmts : List Stmt} {y : Str} {py spos : Pos} {onames : List Str} {ond : onames.Nodup} {okd : ∀ x ∈ onames, env.kindOf x = some .local} {ofn : env.scope.kind = .function} {ovs : List (Option Value)} (S0 : St B ((⟨env, onames, ond, okd, ofn⟩, ovs) :: fs) L s) (k : Nat)
  (names : List Str) (cl : List (Str × Addr)) (hE : EnvIs env sc) (hclos : closureFor scope env = pure cl)
  (hcell : ∀ y ∈ scope.names, y.2 ≠ .cell) (hkind : scope.kind = .function) (hnames : ∀ x ∈ scope.names, x.2 = .local → scope.names.lookup x.1 = some .local) (hloc : ∀ x ∈ names, scope.names.lookup x = some .local) (hnd : names.Nodup)
  (hsw : swapsWith (.DictComp kx vx (⟨tgt, iter, ifs, 0⟩ :: rest) scope pos) (some (.Name y py)) spos.line env = pure true) (hy : onames[k]? = some y) (hk : k < ovs.length)
  (h : wpAny (model prog w) A (eval iter env) (fun x s₁ => wpAny (model prog w) A (pyIter x) (fun it s₂ => wpAny (model prog w) A newDict (fun acc s₃ => ∃ L₃, St B ((⟨env, onames, ond, okd, ofn⟩, ovs) :: fs) L₃ s₃ ∧
   ∀ (cenv : Env) (nd : names.Nodup) (kd : ∀ x ∈ names, cenv.kindOf x = some .local) (fn : cenv.scope.kind = .function) s₄, EnvIs cenv (relabel scope env) → cenv.cells = cl → St B ((⟨cenv, names, nd, kd, fn⟩, names.map fun _ => none) :: (⟨env, onames, ond, okd, ofn⟩, ovs) :: fs) L₃ s₄ →
    codeAny (model prog w) A (.compStart (.DictComp kx vx (⟨tgt, iter, ifs, 0⟩ :: rest) scope pos) 0 it acc cenv) (UEnd B ⟨cenv, names, nd, kd, fn⟩ ⟨env, onames, ond, okd, ofn⟩ ovs fs k (wpAny (model prog w) A (execs stmts env) Q E) acc) s₄) E s₂) E s₁) E s)
  (hs : ∀ x, foldedSetIterable iter env x = pure x := by intro _; with_unfolding_all rfl) :
  wpAny (model prog w) A (execs (.Assign [.Name y py] (.DictComp kx vx (⟨tgt, iter, ifs, 0⟩ :: rest) scope pos) spos :: stmts) env) Q E s := by
 refine xs_cons ?_
 rw [exec_Assign_Name_used _ _ _ _ hsw]
 refine wpAny_bind (wpAny_standAt (wpAny_bind ?_))
 show wpAny _ A (do let _ ← comprehension (.DictComp kx vx (⟨tgt, iter, ifs, 0⟩ :: rest) scope pos) scope env _ newDict false (eval iter env) (some (assign (.Name y py) env))) _ _ s
 exact wpAny_bind (wpAny_mono (comp_use (Q := wpAny (model prog w) A (execs stmts env) Q E) names hE k rfl hs hclos hcell hkind hnames hloc hnd hy hk h) (fun _ s' hq => wpAny_pure (wpAny_pure (cont_next hq))) fun _ _ e => e)
variable {cl : List (Str × Addr)} {names : List Str} {it : Addr} {n : Nat} {I : Nat → List (Addr × O)} {src : List (Addr × O)} {P : Nat → Value → List (Addr × O) → Prop} {o : Blk} {ovs : List (Option Value)} {p : Nat}
theorem dc_u {Q : Shared → Prop} (knd : KeyKind prog w κ) (W : Itr prog w tgt it n I src P) (hh : A.handled = none) (S : St B ((o, ovs) :: fs) (I 0 ++ L₀) s) (J : Nat → List (κ × Value) → List (Addr × O) → Prop) (hsrc : ∀ i ys L, J i ys L → ∀ p ∈ src, p ∈ L) (h0 : J 0 [] L₀) (hz : ∀ i ys L, J i ys L → ys.length ≤ 10000)
  (step : ∀ D (cenv : Env) (nd : names.Nodup) (kd : ∀ x ∈ names, cenv.kindOf x = some .local) (fn : cenv.scope.kind = .function) i vs kvs L v X s E, EnvIs cenv (relabel scope env) → cenv.cells = cl → vs.length = names.length → i < n → J i kvs L → P i v X →
   St B ((⟨cenv, names, nd, kd, fn⟩, vs) :: (o, ovs) :: fs) (X ++ (I (i + 1) ++ (D, dicO knd kvs) :: L)) s →
   wpAny (model prog w) A (assign tgt cenv v) (fun _ s₂ => wpAny (model prog w) A (eval kx cenv) (fun kv s₃ => wpAny (model prog w) A (eval vx cenv) (fun y s₄ => ∃ k vs' L', knd.is k kv = true ∧ vs'.length = names.length ∧ J (i + 1) (stored kvs k y) L' ∧ St B ((⟨cenv, names, nd, kd, fn⟩, vs') :: (o, ovs) :: fs) (I (i + 1) ++ (D, dicO knd kvs) :: L') s₄) E s₃) E s₂) E s)
  (hend : ∀ D kvs L s, J n kvs L → St B ((o, ovs.set p (some (.ref D))) :: fs) ((D, dicO knd kvs) :: L) s → Q s) :
  wpAny (model prog w) A newDict (fun acc s₃ => ∃ L₃, St B ((o, ovs) :: fs) L₃ s₃ ∧
   ∀ (cenv : Env) (nd : names.Nodup) (kd : ∀ x ∈ names, cenv.kindOf x = some .local) (fn : cenv.scope.kind = .function) s₄, EnvIs cenv (relabel scope env) → cenv.cells = cl → St B ((⟨cenv, names, nd, kd, fn⟩, names.map fun _ => none) :: (o, ovs) :: fs) L₃ s₄ →
    codeAny (model prog w) A (.compStart (.DictComp kx vx [⟨tgt, iter, [], 0⟩] scope pos) 0 (.ref it) acc cenv) (UEnd B ⟨cenv, names, nd, kd, fn⟩ o ovs fs p Q acc) s₄) E s := by
 refine n_dict knd S fun D s₃ S₃ => ⟨I 0 ++ (D, dicO knd []) :: L₀, S₃.perm List.perm_middle.symm, fun cenv nd kd fn s₄ hE hcl S₄ => ?_⟩
 have run : codeAny (model prog w) A (.compLoop (.DictComp kx vx [⟨tgt, iter, [], 0⟩] scope pos) 0 (.ref it) (.ref D) cenv) (UEnd B ⟨cenv, names, nd, kd, fn⟩ o ovs fs p Q (.ref D)) s₄ := by
  refine comp_loop W turns_D hh (fun i vs L => ∃ kvs L', L = (D, dicO knd kvs) :: L' ∧ vs.length = names.length ∧ J i kvs L') ?_ S₄ ⟨[], L₀, rfl, by simp, h0⟩ ?_ ?_ BdD_mono rfl rfl rfl
  ·intro i vs _ hJ1 p hp
   refine packG ?_; intro TT
   obtain ⟨ys, L', rfl, _, hJ⟩ := hJ1
   exact List.mem_cons_of_mem _ (hsrc i ys L' hJ p hp)
  ·intro i vs _ v X s E hi hJ1 hP S
   refine packG ?_; intro TT
   obtain ⟨kvs, L', rfl, hvl, hJ⟩ := hJ1
   refine wpAny_mono (step D cenv nd kd fn i vs kvs L' v X s E hE hcl hvl hi hJ hP S) (fun _ s₂ h₂ => wpAny_mono h₂ (fun kv s₃ h₃ => wpAny_mono h₃ (fun y s₄ h₄ => ?_) fun _ _ e => e) fun _ _ e => e) fun _ _ e => e
   refine packG ?_; intro TT
   obtain ⟨k, vs', L'', hk, hvl', hJ', S'⟩ := h₄
   exact d_set' (knd := knd) (k := k) (y := dicO knd (stored kvs k y)) (Upd.here.left _) S' (S'.dic (List.mem_append_right _ List.mem_cons_self)) hk (line_le (hz i kvs L' hJ)) (fun _ h => h) fun s₅ S₅ => ⟨vs', (D, dicO knd (stored kvs k y)) :: L'', ⟨stored kvs k y, L'', rfl, hvl', hJ'⟩, S₅⟩
  ·intro vs _ s hJ1 S
   refine packG ?_; intro TT
   obtain ⟨kvs, L', rfl, hvl, hJ⟩ := hJ1
   exact uend S fun s'' S'' => hend D kvs L' s'' hJ S''
 exact codeAny_compStart_dict run (W.self S₄ run)
end
end
section
open PySem PySem.W PyProof.Rows PySem.Calls
section
variable {prog : Program} {w : World} {B : Bs} {fs : List Fm} {s : Shared} {A : Around} {E : Value → Shared → Prop} {env : Env}
theorem for_itrP {ι : Type} {tgt : Expr} {it : Addr} {n : Nat} {I : Nat → List (Addr × O)} {src : List (Addr × O)} {P : Nat → Value → List (Addr × O) → Prop} (W : Itr prog w tgt it n I src P)
  {R : Result → Shared → Prop} {blk : Blk} {vs₀ : List (Option Value)} {L₀ : List (Addr × O)} {body : List Stmt}
  (hh : A.handled = none) (V : Nat → ι → List (Option Value)) (G : Nat → ι → List (Addr × O)) (H : Nat → ι → Prop) (hsrc : ∀ i x, H i x → ∀ p ∈ src, p ∈ G i x) (x₀ : ι)
  (S : St B ((blk, vs₀) :: fs) (I 0 ++ L₀) s) (h0 : H 0 x₀)
  (step : ∀ i x v X s E, i < n → H i x → P i v X → St B ((blk, V i x) :: fs) (X ++ (I (i + 1) ++ G i x)) s →
   wpAny (model prog w) A (assign tgt env v) (fun _ s₂ => wpAny (model prog w) A (execs body env) (TurnQ (fun s₃ => ∃ x', H (i + 1) x' ∧ St B ((blk, V (i + 1) x') :: fs) (I (i + 1) ++ G (i + 1) x') s₃) R) E s₂) E s)
  (hend : ∀ x s, H n x → St B ((blk, V n x) :: fs) (G n x) s → R (.ok .next) s) (hV : V 0 x₀ = vs₀ := by rfl) (hG : G 0 x₀ = L₀ := by rfl) :
  codeAny (model prog w) A (.forLoop tgt (.ref it) body [] env) R s := by
 refine for_itr W hh (fun i vs L => ∃ x, V i x = vs ∧ G i x = L ∧ H i x) (fun i vs L hJ => ?_) S ⟨x₀, hV, hG, h0⟩ (fun i vs L v X s E hi hJ hP S => ?_) (fun vs L s hJ S => ?_)
 ·obtain ⟨x, rfl, rfl, hx⟩ := hJ
  exact hsrc i x hx
 ·obtain ⟨x, rfl, rfl, hx⟩ := hJ
  refine wpAny_mono (step i x v X s E hi hx hP S) (fun _ s₂ h₂ => wpAny_mono h₂ (fun f s₃ h₃ => ?_) fun _ _ e => e) fun _ _ e => e
  cases f with
  | next => obtain ⟨x', hx', S'⟩ := h₃; exact ⟨_, _, ⟨x', rfl, rfl, hx'⟩, S'⟩
  | cont => obtain ⟨x', hx', S'⟩ := h₃; exact ⟨_, _, ⟨x', rfl, rfl, hx'⟩, S'⟩
  | brk => exact h₃
  | ret v => exact h₃
 ·obtain ⟨x, rfl, rfl, hx⟩ := hJ
  exact hend x s hx S
end
end
section
open PySem PySem.W PyProof.Rows PySem.Calls
inductive A3 (P1 P2 P3 : Prop) : Prop where
 | intro (h1 : P1) (h2 : P2) (h3 : P3)
inductive A4 (P1 P2 P3 P4 : Prop) : Prop where
 | intro (h1 : P1) (h2 : P2) (h3 : P3) (h4 : P4)
inductive A5 (P1 P2 P3 P4 P5 : Prop) : Prop where
 | intro (h1 : P1) (h2 : P2) (h3 : P3) (h4 : P4) (h5 : P5)
inductive A6 (P1 P2 P3 P4 P5 P6 : Prop) : Prop where
 | intro (h1 : P1) (h2 : P2) (h3 : P3) (h4 : P4) (h5 : P5) (h6 : P6)
inductive A7 (P1 P2 P3 P4 P5 P6 P7 : Prop) : Prop where
 | intro (h1 : P1) (h2 : P2) (h3 : P3) (h4 : P4) (h5 : P5) (h6 : P6) (h7 : P7)
theorem one_src {q : Addr × O} {G : List (Addr × O)} (h : q ∈ G) : ∀ p ∈ [q], p ∈ G := fun p hp => by rw [List.mem_singleton.mp hp]; exact h
theorem no_src {G : List (Addr × O)} : ∀ p ∈ ([] : List (Addr × O)), p ∈ G := fun p hp => nomatch hp
section
variable {prog : Program} {w : World} {B : Bs} {fs : List Fm} {s : Shared} {A : Around} {E : Value → Shared → Prop} {env : Env}
theorem for_itrK {ι : Type} {tgt : Expr} {it : Addr} {n : Nat} {I : Nat → List (Addr × O)} {src : List (Addr × O)} {P : Nat → Value → List (Addr × O) → Prop} (W : Itr prog w tgt it n I src P)
  {R : Result → Shared → Prop} {blk : Blk} {body : List Stmt}
  (hh : A.handled = none) (V : Nat → ι → List (Option Value)) (G : Nat → ι → List (Addr × O)) (H : Nat → ι → Prop) (hsrc : ∀ i x, H i x → ∀ p ∈ src, p ∈ G i x) (x₀ : ι)
  (S : St B ((blk, V 0 x₀) :: fs) (I 0 ++ G 0 x₀) s) (h0 : H 0 x₀)
  (step : ∀ i x v X s E K, (∀ x' s', H (i + 1) x' → St B ((blk, V (i + 1) x') :: fs) (I (i + 1) ++ G (i + 1) x') s' → K s') → i < n → H i x → P i v X → St B ((blk, V i x) :: fs) (X ++ (I (i + 1) ++ G i x)) s →
   wpAny (model prog w) A (assign tgt env v) (fun _ s₂ => wpAny (model prog w) A (execs body env) (TurnQ K R) E s₂) E s)
  (hend : ∀ x s, H n x → St B ((blk, V n x) :: fs) (G n x) s → R (.ok .next) s) :
  codeAny (model prog w) A (.forLoop tgt (.ref it) body [] env) R s :=
 for_itrP W hh V G H hsrc x₀ S h0 (fun i x v X s E hi hx hP S => step i x v X s E _ (fun x' _ hx' S' => ⟨x', hx', S'⟩) hi hx hP S) hend
theorem while_K {ι : Type} {test : Expr} {body orelse : List Stmt} {R : Result → Shared → Prop} {blk : Blk} (k₀ : Nat) (V : Nat → ι → List (Option Value)) (G : Nat → ι → List (Addr × O)) (H : Nat → ι → Prop) (x₀ : ι)
  (S : St B ((blk, V k₀ x₀) :: fs) (G k₀ x₀) s) (h0 : H k₀ x₀)
  (turn : ∀ k x s E K, (∀ k' x' s', k' < k → H k' x' → St B ((blk, V k' x') :: fs) (G k' x') s' → K s') → H k x → St B ((blk, V k x) :: fs) (G k x) s → wpAny (model prog w) A (isTrue test env (eval test env)) (fun b s₂ =>
   (b = true → wpAny (model prog w) A (execs body env) (TurnQ K R) E s₂) ∧
   (b = false → wpAny (model prog w) A (execs orelse env) (fun f s₃ => R (.ok f) s₃) E s₂)) E s) :
  codeAny (model prog w) A (.whileLoop test body orelse env) R s := by
 refine while_st k₀ (fun k vs L => ∃ x, V k x = vs ∧ G k x = L ∧ H k x) S ⟨x₀, rfl, rfl, h0⟩ fun k vs L s E hJ S => ?_
 obtain ⟨x, rfl, rfl, hx⟩ := hJ
 exact turn k x s E _ (fun k' x' s' hk h S' => ⟨k', _, _, hk, ⟨x', rfl, rfl, h⟩, S'⟩) hx S
theorem gen_K {ι : Type} {tgt : Expr} {it : Addr} {body : List Stmt} {R : Result → Shared → Prop} {blk : Blk} (k₀ : Nat) (V : Nat → ι → List (Option Value)) (G : Nat → ι → List (Addr × O)) (H : Nat → ι → Prop) (x₀ : ι)
  (S : St B ((blk, V k₀ x₀) :: fs) (G k₀ x₀) s) (h0 : H k₀ x₀)
  (turn : ∀ k x s E K, (∀ k' x' s', k' < k → H k' x' → St B ((blk, V k' x') :: fs) (G k' x') s' → K s') → H k x → St B ((blk, V k x) :: fs) (G k x) s → wpAny (model prog w) A (pyNext (.ref it)) (fun r s₁ => match r with
   | none => R (.ok .next) s₁
   | some v => wpAny (model prog w) A (letOwnedTupleGo tgt (.ref it) v) (fun _ s₁' => wpAny (model prog w) A (assign tgt env v) (fun _ s₂ =>
     wpAny (model prog w) A (execs body env) (TurnQ K R) E s₂) E s₁') E s₁) E s) :
  codeAny (model prog w) A (.forLoop tgt (.ref it) body [] env) R s := by
 refine for_gen k₀ (fun k vs L => ∃ x, V k x = vs ∧ G k x = L ∧ H k x) S ⟨x₀, rfl, rfl, h0⟩ fun k vs L s E hJ S => ?_
 obtain ⟨x, rfl, rfl, hx⟩ := hJ
 exact turn k x s E _ (fun k' x' s' hk h S' => ⟨k', _, _, hk, ⟨x', rfl, rfl, h⟩, S'⟩) hx S
theorem for2 {T1 T2 : Type} {tgt : Expr} {it : Addr} {n : Nat} {I : Nat → List (Addr × O)} {src : List (Addr × O)} {P : Nat → Value → List (Addr × O) → Prop} (W : Itr prog w tgt it n I src P)
  {R : Result → Shared → Prop} {blk : Blk} {body : List Stmt}
  (hh : A.handled = none) (V : Nat → T1 → T2 → List (Option Value)) (G : Nat → T1 → T2 → List (Addr × O)) (H : Nat → T1 → T2 → Prop) (hsrc : ∀ i x1 x2, H i x1 x2 → ∀ p ∈ src, p ∈ G i x1 x2) (z1 : T1) (z2 : T2)
  (S : St B ((blk, V 0 z1 z2) :: fs) (I 0 ++ G 0 z1 z2) s) (h0 : H 0 z1 z2)
  (step : ∀ i x1 x2 v X s E K, (∀ y1 y2 s', H (i + 1) y1 y2 → St B ((blk, V (i + 1) y1 y2) :: fs) (I (i + 1) ++ G (i + 1) y1 y2) s' → K s') → i < n → H i x1 x2 → P i v X → St B ((blk, V i x1 x2) :: fs) (X ++ (I (i + 1) ++ G i x1 x2)) s →
   wpAny (model prog w) A (assign tgt env v) (fun _ s₂ => wpAny (model prog w) A (execs body env) (TurnQ K R) E s₂) E s)
  (hend : ∀ x1 x2 s, H n x1 x2 → St B ((blk, V n x1 x2) :: fs) (G n x1 x2) s → R (.ok .next) s) :
  codeAny (model prog w) A (.forLoop tgt (.ref it) body [] env) R s :=
 for_itrK W hh (fun i x => V i x.1 x.2) (fun i x => G i x.1 x.2) (fun i x => H i x.1 x.2) (fun i x => hsrc i x.1 x.2) (z1, z2) S h0 (fun i x v X s E K fin => step i x.1 x.2 v X s E K (fun y1 y2 => fin (y1, y2))) (fun x => hend x.1 x.2)
theorem for3 {T1 T2 T3 : Type} {tgt : Expr} {it : Addr} {n : Nat} {I : Nat → List (Addr × O)} {src : List (Addr × O)} {P : Nat → Value → List (Addr × O) → Prop} (W : Itr prog w tgt it n I src P)
  {R : Result → Shared → Prop} {blk : Blk} {body : List Stmt}
  (hh : A.handled = none) (V : Nat → T1 → T2 → T3 → List (Option Value)) (G : Nat → T1 → T2 → T3 → List (Addr × O)) (H : Nat → T1 → T2 → T3 → Prop) (hsrc : ∀ i x1 x2 x3, H i x1 x2 x3 → ∀ p ∈ src, p ∈ G i x1 x2 x3) (z1 : T1) (z2 : T2) (z3 : T3)
  (S : St B ((blk, V 0 z1 z2 z3) :: fs) (I 0 ++ G 0 z1 z2 z3) s) (h0 : H 0 z1 z2 z3)
  (step : ∀ i x1 x2 x3 v X s E K, (∀ y1 y2 y3 s', H (i + 1) y1 y2 y3 → St B ((blk, V (i + 1) y1 y2 y3) :: fs) (I (i + 1) ++ G (i + 1) y1 y2 y3) s' → K s') → i < n → H i x1 x2 x3 → P i v X → St B ((blk, V i x1 x2 x3) :: fs) (X ++ (I (i + 1) ++ G i x1 x2 x3)) s →
   wpAny (model prog w) A (assign tgt env v) (fun _ s₂ => wpAny (model prog w) A (execs body env) (TurnQ K R) E s₂) E s)
  (hend : ∀ x1 x2 x3 s, H n x1 x2 x3 → St B ((blk, V n x1 x2 x3) :: fs) (G n x1 x2 x3) s → R (.ok .next) s) :
  codeAny (model prog w) A (.forLoop tgt (.ref it) body [] env) R s :=
 for_itrK W hh (fun i x => V i x.1 x.2.1 x.2.2) (fun i x => G i x.1 x.2.1 x.2.2) (fun i x => H i x.1 x.2.1 x.2.2) (fun i x => hsrc i x.1 x.2.1 x.2.2) (z1, z2, z3) S h0 (fun i x v X s E K fin => step i x.1 x.2.1 x.2.2 v X s E K (fun y1 y2 y3 => fin (y1, y2, y3))) (fun x => hend x.1 x.2.1 x.2.2)
theorem for4 {T1 T2 T3 T4 : Type} {tgt : Expr} {it : Addr} {n : Nat} {I : Nat → List (Addr × O)} {src : List (Addr × O)} {P : Nat → Value → List (Addr × O) → Prop} (W : Itr prog w tgt it n I src P)
  {R : Result → Shared → Prop} {blk : Blk} {body : List Stmt}
  (hh : A.handled = none) (V : Nat → T1 → T2 → T3 → T4 → List (Option Value)) (G : Nat → T1 → T2 → T3 → T4 → List (Addr × O)) (H : Nat → T1 → T2 → T3 → T4 → Prop) (hsrc : ∀ i x1 x2 x3 x4, H i x1 x2 x3 x4 → ∀ p ∈ src, p ∈ G i x1 x2 x3 x4) (z1 : T1) (z2 : T2) (z3 : T3) (z4 : T4)
  (S : St B ((blk, V 0 z1 z2 z3 z4) :: fs) (I 0 ++ G 0 z1 z2 z3 z4) s) (h0 : H 0 z1 z2 z3 z4)
  (step : ∀ i x1 x2 x3 x4 v X s E K, (∀ y1 y2 y3 y4 s', H (i + 1) y1 y2 y3 y4 → St B ((blk, V (i + 1) y1 y2 y3 y4) :: fs) (I (i + 1) ++ G (i + 1) y1 y2 y3 y4) s' → K s') → i < n → H i x1 x2 x3 x4 → P i v X → St B ((blk, V i x1 x2 x3 x4) :: fs) (X ++ (I (i + 1) ++ G i x1 x2 x3 x4)) s →
   wpAny (model prog w) A (assign tgt env v) (fun _ s₂ => wpAny (model prog w) A (execs body env) (TurnQ K R) E s₂) E s)
  (hend : ∀ x1 x2 x3 x4 s, H n x1 x2 x3 x4 → St B ((blk, V n x1 x2 x3 x4) :: fs) (G n x1 x2 x3 x4) s → R (.ok .next) s) :
  codeAny (model prog w) A (.forLoop tgt (.ref it) body [] env) R s :=
 for_itrK W hh (fun i x => V i x.1 x.2.1 x.2.2.1 x.2.2.2) (fun i x => G i x.1 x.2.1 x.2.2.1 x.2.2.2) (fun i x => H i x.1 x.2.1 x.2.2.1 x.2.2.2) (fun i x => hsrc i x.1 x.2.1 x.2.2.1 x.2.2.2) (z1, z2, z3, z4) S h0 (fun i x v X s E K fin => step i x.1 x.2.1 x.2.2.1 x.2.2.2 v X s E K (fun y1 y2 y3 y4 => fin (y1, y2, y3, y4))) (fun x => hend x.1 x.2.1 x.2.2.1 x.2.2.2)
theorem for5 {T1 T2 T3 T4 T5 : Type} {tgt : Expr} {it : Addr} {n : Nat} {I : Nat → List (Addr × O)} {src : List (Addr × O)} {P : Nat → Value → List (Addr × O) → Prop} (W : Itr prog w tgt it n I src P)
  {R : Result → Shared → Prop} {blk : Blk} {body : List Stmt}
  (hh : A.handled = none) (V : Nat → T1 → T2 → T3 → T4 → T5 → List (Option Value)) (G : Nat → T1 → T2 → T3 → T4 → T5 → List (Addr × O)) (H : Nat → T1 → T2 → T3 → T4 → T5 → Prop) (hsrc : ∀ i x1 x2 x3 x4 x5, H i x1 x2 x3 x4 x5 → ∀ p ∈ src, p ∈ G i x1 x2 x3 x4 x5) (z1 : T1) (z2 : T2) (z3 : T3) (z4 : T4) (z5 : T5)
  (S : St B ((blk, V 0 z1 z2 z3 z4 z5) :: fs) (I 0 ++ G 0 z1 z2 z3 z4 z5) s) (h0 : H 0 z1 z2 z3 z4 z5)
  (step : ∀ i x1 x2 x3 x4 x5 v X s E K, (∀ y1 y2 y3 y4 y5 s', H (i + 1) y1 y2 y3 y4 y5 → St B ((blk, V (i + 1) y1 y2 y3 y4 y5) :: fs) (I (i + 1) ++ G (i + 1) y1 y2 y3 y4 y5) s' → K s') → i < n → H i x1 x2 x3 x4 x5 → P i v X → St B ((blk, V i x1 x2 x3 x4 x5) :: fs) (X ++ (I (i + 1) ++ G i x1 x2 x3 x4 x5)) s →
   wpAny (model prog w) A (assign tgt env v) (fun _ s₂ => wpAny (model prog w) A (execs body env) (TurnQ K R) E s₂) E s)
  (hend : ∀ x1 x2 x3 x4 x5 s, H n x1 x2 x3 x4 x5 → St B ((blk, V n x1 x2 x3 x4 x5) :: fs) (G n x1 x2 x3 x4 x5) s → R (.ok .next) s) :
  codeAny (model prog w) A (.forLoop tgt (.ref it) body [] env) R s :=
 for_itrK W hh (fun i x => V i x.1 x.2.1 x.2.2.1 x.2.2.2.1 x.2.2.2.2) (fun i x => G i x.1 x.2.1 x.2.2.1 x.2.2.2.1 x.2.2.2.2) (fun i x => H i x.1 x.2.1 x.2.2.1 x.2.2.2.1 x.2.2.2.2) (fun i x => hsrc i x.1 x.2.1 x.2.2.1 x.2.2.2.1 x.2.2.2.2) (z1, z2, z3, z4, z5) S h0 (fun i x v X s E K fin => step i x.1 x.2.1 x.2.2.1 x.2.2.2.1 x.2.2.2.2 v X s E K (fun y1 y2 y3 y4 y5 => fin (y1, y2, y3, y4, y5))) (fun x => hend x.1 x.2.1 x.2.2.1 x.2.2.2.1 x.2.2.2.2)
theorem for6 {T1 T2 T3 T4 T5 T6 : Type} {tgt : Expr} {it : Addr} {n : Nat} {I : Nat → List (Addr × O)} {src : List (Addr × O)} {P : Nat → Value → List (Addr × O) → Prop} (W : Itr prog w tgt it n I src P)
  {R : Result → Shared → Prop} {blk : Blk} {body : List Stmt}
  (hh : A.handled = none) (V : Nat → T1 → T2 → T3 → T4 → T5 → T6 → List (Option Value)) (G : Nat → T1 → T2 → T3 → T4 → T5 → T6 → List (Addr × O)) (H : Nat → T1 → T2 → T3 → T4 → T5 → T6 → Prop) (hsrc : ∀ i x1 x2 x3 x4 x5 x6, H i x1 x2 x3 x4 x5 x6 → ∀ p ∈ src, p ∈ G i x1 x2 x3 x4 x5 x6) (z1 : T1) (z2 : T2) (z3 : T3) (z4 : T4) (z5 : T5) (z6 : T6)
  (S : St B ((blk, V 0 z1 z2 z3 z4 z5 z6) :: fs) (I 0 ++ G 0 z1 z2 z3 z4 z5 z6) s) (h0 : H 0 z1 z2 z3 z4 z5 z6)
  (step : ∀ i x1 x2 x3 x4 x5 x6 v X s E K, (∀ y1 y2 y3 y4 y5 y6 s', H (i + 1) y1 y2 y3 y4 y5 y6 → St B ((blk, V (i + 1) y1 y2 y3 y4 y5 y6) :: fs) (I (i + 1) ++ G (i + 1) y1 y2 y3 y4 y5 y6) s' → K s') → i < n → H i x1 x2 x3 x4 x5 x6 → P i v X → St B ((blk, V i x1 x2 x3 x4 x5 x6) :: fs) (X ++ (I (i + 1) ++ G i x1 x2 x3 x4 x5 x6)) s →
   wpAny (model prog w) A (assign tgt env v) (fun _ s₂ => wpAny (model prog w) A (execs body env) (TurnQ K R) E s₂) E s)
  (hend : ∀ x1 x2 x3 x4 x5 x6 s, H n x1 x2 x3 x4 x5 x6 → St B ((blk, V n x1 x2 x3 x4 x5 x6) :: fs) (G n x1 x2 x3 x4 x5 x6) s → R (.ok .next) s) :
  codeAny (model prog w) A (.forLoop tgt (.ref it) body [] env) R s :=
 for_itrK W hh (fun i x => V i x.1 x.2.1 x.2.2.1 x.2.2.2.1 x.2.2.2.2.1 x.2.2.2.2.2) (fun i x => G i x.1 x.2.1 x.2.2.1 x.2.2.2.1 x.2.2.2.2.1 x.2.2.2.2.2) (fun i x => H i x.1 x.2.1 x.2.2.1 x.2.2.2.1 x.2.2.2.2.1 x.2.2.2.2.2) (fun i x => hsrc i x.1 x.2.1 x.2.2.1 x.2.2.2.1 x.2.2.2.2.1 x.2.2.2.2.2) (z1, z2, z3, z4, z5, z6) S h0 (fun i x v X s E K fin => step i x.1 x.2.1 x.2.2.1 x.2.2.2.1 x.2.2.2.2.1 x.2.2.2.2.2 v X s E K (fun y1 y2 y3 y4 y5 y6 => fin (y1, y2, y3, y4, y5, y6))) (fun x => hend x.1 x.2.1 x.2.2.1 x.2.2.2.1 x.2.2.2.2.1 x.2.2.2.2.2)
theorem for7 {T1 T2 T3 T4 T5 T6 T7 : Type} {tgt : Expr} {it : Addr} {n : Nat} {I : Nat → List (Addr × O)} {src : List (Addr × O)} {P : Nat → Value → List (Addr × O) → Prop} (W : Itr prog w tgt it n I src P)
  {R : Result → Shared → Prop} {blk : Blk} {body : List Stmt}
  (hh : A.handled = none) (V : Nat → T1 → T2 → T3 → T4 → T5 → T6 → T7 → List (Option Value)) (G : Nat → T1 → T2 → T3 → T4 → T5 → T6 → T7 → List (Addr × O)) (H : Nat → T1 → T2 → T3 → T4 → T5 → T6 → T7 → Prop) (hsrc : ∀ i x1 x2 x3 x4 x5 x6 x7, H i x1 x2 x3 x4 x5 x6 x7 → ∀ p ∈ src, p ∈ G i x1 x2 x3 x4 x5 x6 x7) (z1 : T1) (z2 : T2) (z3 : T3) (z4 : T4) (z5 : T5) (z6 : T6) (z7 : T7)
  (S : St B ((blk, V 0 z1 z2 z3 z4 z5 z6 z7) :: fs) (I 0 ++ G 0 z1 z2 z3 z4 z5 z6 z7) s) (h0 : H 0 z1 z2 z3 z4 z5 z6 z7)
  (step : ∀ i x1 x2 x3 x4 x5 x6 x7 v X s E K, (∀ y1 y2 y3 y4 y5 y6 y7 s', H (i + 1) y1 y2 y3 y4 y5 y6 y7 → St B ((blk, V (i + 1) y1 y2 y3 y4 y5 y6 y7) :: fs) (I (i + 1) ++ G (i + 1) y1 y2 y3 y4 y5 y6 y7) s' → K s') → i < n → H i x1 x2 x3 x4 x5 x6 x7 → P i v X → St B ((blk, V i x1 x2 x3 x4 x5 x6 x7) :: fs) (X ++ (I (i + 1) ++ G i x1 x2 x3 x4 x5 x6 x7)) s →
   wpAny (model prog w) A (assign tgt env v) (fun _ s₂ => wpAny (model prog w) A (execs body env) (TurnQ K R) E s₂) E s)
  (hend : ∀ x1 x2 x3 x4 x5 x6 x7 s, H n x1 x2 x3 x4 x5 x6 x7 → St B ((blk, V n x1 x2 x3 x4 x5 x6 x7) :: fs) (G n x1 x2 x3 x4 x5 x6 x7) s → R (.ok .next) s) :
  codeAny (model prog w) A (.forLoop tgt (.ref it) body [] env) R s :=
 for_itrK W hh (fun i x => V i x.1 x.2.1 x.2.2.1 x.2.2.2.1 x.2.2.2.2.1 x.2.2.2.2.2.1 x.2.2.2.2.2.2) (fun i x => G i x.1 x.2.1 x.2.2.1 x.2.2.2.1 x.2.2.2.2.1 x.2.2.2.2.2.1 x.2.2.2.2.2.2) (fun i x => H i x.1 x.2.1 x.2.2.1 x.2.2.2.1 x.2.2.2.2.1 x.2.2.2.2.2.1 x.2.2.2.2.2.2) (fun i x => hsrc i x.1 x.2.1 x.2.2.1 x.2.2.2.1 x.2.2.2.2.1 x.2.2.2.2.2.1 x.2.2.2.2.2.2) (z1, z2, z3, z4, z5, z6, z7) S h0 (fun i x v X s E K fin => step i x.1 x.2.1 x.2.2.1 x.2.2.2.1 x.2.2.2.2.1 x.2.2.2.2.2.1 x.2.2.2.2.2.2 v X s E K (fun y1 y2 y3 y4 y5 y6 y7 => fin (y1, y2, y3, y4, y5, y6, y7))) (fun x => hend x.1 x.2.1 x.2.2.1 x.2.2.2.1 x.2.2.2.2.1 x.2.2.2.2.2.1 x.2.2.2.2.2.2)
theorem for10 {T1 T2 T3 T4 T5 T6 T7 T8 T9 T10 : Type} {tgt : Expr} {it : Addr} {n : Nat} {I : Nat → List (Addr × O)} {src : List (Addr × O)} {P : Nat → Value → List (Addr × O) → Prop} (W : Itr prog w tgt it n I src P)
  {R : Result → Shared → Prop} {blk : Blk} {body : List Stmt}
  (hh : A.handled = none) (V : Nat → T1 → T2 → T3 → T4 → T5 → T6 → T7 → T8 → T9 → T10 → List (Option Value)) (G : Nat → T1 → T2 → T3 → T4 → T5 → T6 → T7 → T8 → T9 → T10 → List (Addr × O)) (H : Nat → T1 → T2 → T3 → T4 → T5 → T6 → T7 → T8 → T9 → T10 → Prop) (hsrc : ∀ i x1 x2 x3 x4 x5 x6 x7 x8 x9 x10, H i x1 x2 x3 x4 x5 x6 x7 x8 x9 x10 → ∀ p ∈ src, p ∈ G i x1 x2 x3 x4 x5 x6 x7 x8 x9 x10) (z1 : T1) (z2 : T2) (z3 : T3) (z4 : T4) (z5 : T5) (z6 : T6) (z7 : T7) (z8 : T8) (z9 : T9) (z10 : T10)
  (S : St B ((blk, V 0 z1 z2 z3 z4 z5 z6 z7 z8 z9 z10) :: fs) (I 0 ++ G 0 z1 z2 z3 z4 z5 z6 z7 z8 z9 z10) s) (h0 : H 0 z1 z2 z3 z4 z5 z6 z7 z8 z9 z10)
  (step : ∀ i x1 x2 x3 x4 x5 x6 x7 x8 x9 x10 v X s E K, (∀ y1 y2 y3 y4 y5 y6 y7 y8 y9 y10 s', H (i + 1) y1 y2 y3 y4 y5 y6 y7 y8 y9 y10 → St B ((blk, V (i + 1) y1 y2 y3 y4 y5 y6 y7 y8 y9 y10) :: fs) (I (i + 1) ++ G (i + 1) y1 y2 y3 y4 y5 y6 y7 y8 y9 y10) s' → K s') → i < n → H i x1 x2 x3 x4 x5 x6 x7 x8 x9 x10 → P i v X → St B ((blk, V i x1 x2 x3 x4 x5 x6 x7 x8 x9 x10) :: fs) (X ++ (I (i + 1) ++ G i x1 x2 x3 x4 x5 x6 x7 x8 x9 x10)) s →
   wpAny (model prog w) A (assign tgt env v) (fun _ s₂ => wpAny (model prog w) A (execs body env) (TurnQ K R) E s₂) E s)
  (hend : ∀ x1 x2 x3 x4 x5 x6 x7 x8 x9 x10 s, H n x1 x2 x3 x4 x5 x6 x7 x8 x9 x10 → St B ((blk, V n x1 x2 x3 x4 x5 x6 x7 x8 x9 x10) :: fs) (G n x1 x2 x3 x4 x5 x6 x7 x8 x9 x10) s → R (.ok .next) s) :
  codeAny (model prog w) A (.forLoop tgt (.ref it) body [] env) R s :=
 for_itrK W hh (fun i x => V i x.1 x.2.1 x.2.2.1 x.2.2.2.1 x.2.2.2.2.1 x.2.2.2.2.2.1 x.2.2.2.2.2.2.1 x.2.2.2.2.2.2.2.1 x.2.2.2.2.2.2.2.2.1 x.2.2.2.2.2.2.2.2.2) (fun i x => G i x.1 x.2.1 x.2.2.1 x.2.2.2.1 x.2.2.2.2.1 x.2.2.2.2.2.1 x.2.2.2.2.2.2.1 x.2.2.2.2.2.2.2.1 x.2.2.2.2.2.2.2.2.1 x.2.2.2.2.2.2.2.2.2) (fun i x => H i x.1 x.2.1 x.2.2.1 x.2.2.2.1 x.2.2.2.2.1 x.2.2.2.2.2.1 x.2.2.2.2.2.2.1 x.2.2.2.2.2.2.2.1 x.2.2.2.2.2.2.2.2.1 x.2.2.2.2.2.2.2.2.2) (fun i x => hsrc i x.1 x.2.1 x.2.2.1 x.2.2.2.1 x.2.2.2.2.1 x.2.2.2.2.2.1 x.2.2.2.2.2.2.1 x.2.2.2.2.2.2.2.1 x.2.2.2.2.2.2.2.2.1 x.2.2.2.2.2.2.2.2.2) (z1, z2, z3, z4, z5, z6, z7, z8, z9, z10) S h0 (fun i x v X s E K fin => step i x.1 x.2.1 x.2.2.1 x.2.2.2.1 x.2.2.2.2.1 x.2.2.2.2.2.1 x.2.2.2.2.2.2.1 x.2.2.2.2.2.2.2.1 x.2.2.2.2.2.2.2.2.1 x.2.2.2.2.2.2.2.2.2 v X s E K (fun y1 y2 y3 y4 y5 y6 y7 y8 y9 y10 => fin (y1, y2, y3, y4, y5, y6, y7, y8, y9, y10))) (fun x => hend x.1 x.2.1 x.2.2.1 x.2.2.2.1 x.2.2.2.2.1 x.2.2.2.2.2.1 x.2.2.2.2.2.2.1 x.2.2.2.2.2.2.2.1 x.2.2.2.2.2.2.2.2.1 x.2.2.2.2.2.2.2.2.2)
theorem whi4 {T1 T2 T3 T4 : Type} {test : Expr} {body orelse : List Stmt} {R : Result → Shared → Prop} {blk : Blk} (k₀ : Nat) (V : Nat → T1 → T2 → T3 → T4 → List (Option Value)) (G : Nat → T1 → T2 → T3 → T4 → List (Addr × O)) (H : Nat → T1 → T2 → T3 → T4 → Prop) (z1 : T1) (z2 : T2) (z3 : T3) (z4 : T4)
  (S : St B ((blk, V k₀ z1 z2 z3 z4) :: fs) (G k₀ z1 z2 z3 z4) s) (h0 : H k₀ z1 z2 z3 z4)
  (turn : ∀ k x1 x2 x3 x4 s E K, (∀ k' y1 y2 y3 y4 s', k' < k → H k' y1 y2 y3 y4 → St B ((blk, V k' y1 y2 y3 y4) :: fs) (G k' y1 y2 y3 y4) s' → K s') → H k x1 x2 x3 x4 → St B ((blk, V k x1 x2 x3 x4) :: fs) (G k x1 x2 x3 x4) s → wpAny (model prog w) A (isTrue test env (eval test env)) (fun b s₂ =>
   (b = true → wpAny (model prog w) A (execs body env) (TurnQ K R) E s₂) ∧
   (b = false → wpAny (model prog w) A (execs orelse env) (fun f s₃ => R (.ok f) s₃) E s₂)) E s) :
  codeAny (model prog w) A (.whileLoop test body orelse env) R s :=
 while_K k₀ (fun i x => V i x.1 x.2.1 x.2.2.1 x.2.2.2) (fun i x => G i x.1 x.2.1 x.2.2.1 x.2.2.2) (fun i x => H i x.1 x.2.1 x.2.2.1 x.2.2.2) (z1, z2, z3, z4) S h0 (fun k x s E K fin => turn k x.1 x.2.1 x.2.2.1 x.2.2.2 s E K (fun k' y1 y2 y3 y4 => fin k' (y1, y2, y3, y4)))
theorem whi5 {T1 T2 T3 T4 T5 : Type} {test : Expr} {body orelse : List Stmt} {R : Result → Shared → Prop} {blk : Blk} (k₀ : Nat) (V : Nat → T1 → T2 → T3 → T4 → T5 → List (Option Value)) (G : Nat → T1 → T2 → T3 → T4 → T5 → List (Addr × O)) (H : Nat → T1 → T2 → T3 → T4 → T5 → Prop) (z1 : T1) (z2 : T2) (z3 : T3) (z4 : T4) (z5 : T5)
  (S : St B ((blk, V k₀ z1 z2 z3 z4 z5) :: fs) (G k₀ z1 z2 z3 z4 z5) s) (h0 : H k₀ z1 z2 z3 z4 z5)
  (turn : ∀ k x1 x2 x3 x4 x5 s E K, (∀ k' y1 y2 y3 y4 y5 s', k' < k → H k' y1 y2 y3 y4 y5 → St B ((blk, V k' y1 y2 y3 y4 y5) :: fs) (G k' y1 y2 y3 y4 y5) s' → K s') → H k x1 x2 x3 x4 x5 → St B ((blk, V k x1 x2 x3 x4 x5) :: fs) (G k x1 x2 x3 x4 x5) s → wpAny (model prog w) A (isTrue test env (eval test env)) (fun b s₂ =>
   (b = true → wpAny (model prog w) A (execs body env) (TurnQ K R) E s₂) ∧
   (b = false → wpAny (model prog w) A (execs orelse env) (fun f s₃ => R (.ok f) s₃) E s₂)) E s) :
  codeAny (model prog w) A (.whileLoop test body orelse env) R s :=
 while_K k₀ (fun i x => V i x.1 x.2.1 x.2.2.1 x.2.2.2.1 x.2.2.2.2) (fun i x => G i x.1 x.2.1 x.2.2.1 x.2.2.2.1 x.2.2.2.2) (fun i x => H i x.1 x.2.1 x.2.2.1 x.2.2.2.1 x.2.2.2.2) (z1, z2, z3, z4, z5) S h0 (fun k x s E K fin => turn k x.1 x.2.1 x.2.2.1 x.2.2.2.1 x.2.2.2.2 s E K (fun k' y1 y2 y3 y4 y5 => fin k' (y1, y2, y3, y4, y5)))
theorem whi3 {T1 T2 T3 : Type} {test : Expr} {body orelse : List Stmt} {R : Result → Shared → Prop} {blk : Blk} (k₀ : Nat) (V : Nat → T1 → T2 → T3 → List (Option Value)) (G : Nat → T1 → T2 → T3 → List (Addr × O)) (H : Nat → T1 → T2 → T3 → Prop) (z1 : T1) (z2 : T2) (z3 : T3)
  (S : St B ((blk, V k₀ z1 z2 z3) :: fs) (G k₀ z1 z2 z3) s) (h0 : H k₀ z1 z2 z3)
  (turn : ∀ k x1 x2 x3 s E K, (∀ k' y1 y2 y3 s', k' < k → H k' y1 y2 y3 → St B ((blk, V k' y1 y2 y3) :: fs) (G k' y1 y2 y3) s' → K s') → H k x1 x2 x3 → St B ((blk, V k x1 x2 x3) :: fs) (G k x1 x2 x3) s → wpAny (model prog w) A (isTrue test env (eval test env)) (fun b s₂ =>
   (b = true → wpAny (model prog w) A (execs body env) (TurnQ K R) E s₂) ∧
   (b = false → wpAny (model prog w) A (execs orelse env) (fun f s₃ => R (.ok f) s₃) E s₂)) E s) :
  codeAny (model prog w) A (.whileLoop test body orelse env) R s :=
 while_K k₀ (fun i x => V i x.1 x.2.1 x.2.2) (fun i x => G i x.1 x.2.1 x.2.2) (fun i x => H i x.1 x.2.1 x.2.2) (z1, z2, z3) S h0 (fun k x s E K fin => turn k x.1 x.2.1 x.2.2 s E K (fun k' y1 y2 y3 => fin k' (y1, y2, y3)))
theorem whi9 {T1 T2 T3 T4 T5 T6 T7 T8 T9 : Type} {test : Expr} {body orelse : List Stmt} {R : Result → Shared → Prop} {blk : Blk} (k₀ : Nat) (V : Nat → T1 → T2 → T3 → T4 → T5 → T6 → T7 → T8 → T9 → List (Option Value)) (G : Nat → T1 → T2 → T3 → T4 → T5 → T6 → T7 → T8 → T9 → List (Addr × O)) (H : Nat → T1 → T2 → T3 → T4 → T5 → T6 → T7 → T8 → T9 → Prop) (z1 : T1) (z2 : T2) (z3 : T3) (z4 : T4) (z5 : T5) (z6 : T6) (z7 : T7) (z8 : T8) (z9 : T9)
  (S : St B ((blk, V k₀ z1 z2 z3 z4 z5 z6 z7 z8 z9) :: fs) (G k₀ z1 z2 z3 z4 z5 z6 z7 z8 z9) s) (h0 : H k₀ z1 z2 z3 z4 z5 z6 z7 z8 z9)
  (turn : ∀ k x1 x2 x3 x4 x5 x6 x7 x8 x9 s E K, (∀ k' y1 y2 y3 y4 y5 y6 y7 y8 y9 s', k' < k → H k' y1 y2 y3 y4 y5 y6 y7 y8 y9 → St B ((blk, V k' y1 y2 y3 y4 y5 y6 y7 y8 y9) :: fs) (G k' y1 y2 y3 y4 y5 y6 y7 y8 y9) s' → K s') → H k x1 x2 x3 x4 x5 x6 x7 x8 x9 → St B ((blk, V k x1 x2 x3 x4 x5 x6 x7 x8 x9) :: fs) (G k x1 x2 x3 x4 x5 x6 x7 x8 x9) s → wpAny (model prog w) A (isTrue test env (eval test env)) (fun b s₂ =>
   (b = true → wpAny (model prog w) A (execs body env) (TurnQ K R) E s₂) ∧
   (b = false → wpAny (model prog w) A (execs orelse env) (fun f s₃ => R (.ok f) s₃) E s₂)) E s) :
  codeAny (model prog w) A (.whileLoop test body orelse env) R s :=
 while_K k₀ (fun i x => V i x.1 x.2.1 x.2.2.1 x.2.2.2.1 x.2.2.2.2.1 x.2.2.2.2.2.1 x.2.2.2.2.2.2.1 x.2.2.2.2.2.2.2.1 x.2.2.2.2.2.2.2.2) (fun i x => G i x.1 x.2.1 x.2.2.1 x.2.2.2.1 x.2.2.2.2.1 x.2.2.2.2.2.1 x.2.2.2.2.2.2.1 x.2.2.2.2.2.2.2.1 x.2.2.2.2.2.2.2.2) (fun i x => H i x.1 x.2.1 x.2.2.1 x.2.2.2.1 x.2.2.2.2.1 x.2.2.2.2.2.1 x.2.2.2.2.2.2.1 x.2.2.2.2.2.2.2.1 x.2.2.2.2.2.2.2.2) (z1, z2, z3, z4, z5, z6, z7, z8, z9) S h0 (fun k x s E K fin => turn k x.1 x.2.1 x.2.2.1 x.2.2.2.1 x.2.2.2.2.1 x.2.2.2.2.2.1 x.2.2.2.2.2.2.1 x.2.2.2.2.2.2.2.1 x.2.2.2.2.2.2.2.2 s E K (fun k' y1 y2 y3 y4 y5 y6 y7 y8 y9 => fin k' (y1, y2, y3, y4, y5, y6, y7, y8, y9)))
theorem whi8 {T1 T2 T3 T4 T5 T6 T7 T8 : Type} {test : Expr} {body orelse : List Stmt} {R : Result → Shared → Prop} {blk : Blk} (k₀ : Nat) (V : Nat → T1 → T2 → T3 → T4 → T5 → T6 → T7 → T8 → List (Option Value)) (G : Nat → T1 → T2 → T3 → T4 → T5 → T6 → T7 → T8 → List (Addr × O)) (H : Nat → T1 → T2 → T3 → T4 → T5 → T6 → T7 → T8 → Prop) (z1 : T1) (z2 : T2) (z3 : T3) (z4 : T4) (z5 : T5) (z6 : T6) (z7 : T7) (z8 : T8)
  (S : St B ((blk, V k₀ z1 z2 z3 z4 z5 z6 z7 z8) :: fs) (G k₀ z1 z2 z3 z4 z5 z6 z7 z8) s) (h0 : H k₀ z1 z2 z3 z4 z5 z6 z7 z8)
  (turn : ∀ k x1 x2 x3 x4 x5 x6 x7 x8 s E K, (∀ k' y1 y2 y3 y4 y5 y6 y7 y8 s', k' < k → H k' y1 y2 y3 y4 y5 y6 y7 y8 → St B ((blk, V k' y1 y2 y3 y4 y5 y6 y7 y8) :: fs) (G k' y1 y2 y3 y4 y5 y6 y7 y8) s' → K s') → H k x1 x2 x3 x4 x5 x6 x7 x8 → St B ((blk, V k x1 x2 x3 x4 x5 x6 x7 x8) :: fs) (G k x1 x2 x3 x4 x5 x6 x7 x8) s → wpAny (model prog w) A (isTrue test env (eval test env)) (fun b s₂ =>
   (b = true → wpAny (model prog w) A (execs body env) (TurnQ K R) E s₂) ∧
   (b = false → wpAny (model prog w) A (execs orelse env) (fun f s₃ => R (.ok f) s₃) E s₂)) E s) :
  codeAny (model prog w) A (.whileLoop test body orelse env) R s :=
 while_K k₀ (fun i x => V i x.1 x.2.1 x.2.2.1 x.2.2.2.1 x.2.2.2.2.1 x.2.2.2.2.2.1 x.2.2.2.2.2.2.1 x.2.2.2.2.2.2.2) (fun i x => G i x.1 x.2.1 x.2.2.1 x.2.2.2.1 x.2.2.2.2.1 x.2.2.2.2.2.1 x.2.2.2.2.2.2.1 x.2.2.2.2.2.2.2) (fun i x => H i x.1 x.2.1 x.2.2.1 x.2.2.2.1 x.2.2.2.2.1 x.2.2.2.2.2.1 x.2.2.2.2.2.2.1 x.2.2.2.2.2.2.2) (z1, z2, z3, z4, z5, z6, z7, z8) S h0 (fun k x s E K fin => turn k x.1 x.2.1 x.2.2.1 x.2.2.2.1 x.2.2.2.2.1 x.2.2.2.2.2.1 x.2.2.2.2.2.2.1 x.2.2.2.2.2.2.2 s E K (fun k' y1 y2 y3 y4 y5 y6 y7 y8 => fin k' (y1, y2, y3, y4, y5, y6, y7, y8)))
theorem gen4 {T1 T2 T3 T4 : Type} {tgt : Expr} {it : Addr} {body : List Stmt} {R : Result → Shared → Prop} {blk : Blk} (k₀ : Nat) (V : Nat → T1 → T2 → T3 → T4 → List (Option Value)) (G : Nat → T1 → T2 → T3 → T4 → List (Addr × O)) (H : Nat → T1 → T2 → T3 → T4 → Prop) (z1 : T1) (z2 : T2) (z3 : T3) (z4 : T4)
  (S : St B ((blk, V k₀ z1 z2 z3 z4) :: fs) (G k₀ z1 z2 z3 z4) s) (h0 : H k₀ z1 z2 z3 z4)
  (turn : ∀ k x1 x2 x3 x4 s E K, (∀ k' y1 y2 y3 y4 s', k' < k → H k' y1 y2 y3 y4 → St B ((blk, V k' y1 y2 y3 y4) :: fs) (G k' y1 y2 y3 y4) s' → K s') → H k x1 x2 x3 x4 → St B ((blk, V k x1 x2 x3 x4) :: fs) (G k x1 x2 x3 x4) s → wpAny (model prog w) A (pyNext (.ref it)) (fun r s₁ => match r with
   | none => R (.ok .next) s₁
   | some v => wpAny (model prog w) A (letOwnedTupleGo tgt (.ref it) v) (fun _ s₁' => wpAny (model prog w) A (assign tgt env v) (fun _ s₂ =>
     wpAny (model prog w) A (execs body env) (TurnQ K R) E s₂) E s₁') E s₁) E s) :
  codeAny (model prog w) A (.forLoop tgt (.ref it) body [] env) R s :=
 gen_K k₀ (fun i x => V i x.1 x.2.1 x.2.2.1 x.2.2.2) (fun i x => G i x.1 x.2.1 x.2.2.1 x.2.2.2) (fun i x => H i x.1 x.2.1 x.2.2.1 x.2.2.2) (z1, z2, z3, z4) S h0 (fun k x s E K fin => turn k x.1 x.2.1 x.2.2.1 x.2.2.2 s E K (fun k' y1 y2 y3 y4 => fin k' (y1, y2, y3, y4)))
theorem gen5 {T1 T2 T3 T4 T5 : Type} {tgt : Expr} {it : Addr} {body : List Stmt} {R : Result → Shared → Prop} {blk : Blk} (k₀ : Nat) (V : Nat → T1 → T2 → T3 → T4 → T5 → List (Option Value)) (G : Nat → T1 → T2 → T3 → T4 → T5 → List (Addr × O)) (H : Nat → T1 → T2 → T3 → T4 → T5 → Prop) (z1 : T1) (z2 : T2) (z3 : T3) (z4 : T4) (z5 : T5)
  (S : St B ((blk, V k₀ z1 z2 z3 z4 z5) :: fs) (G k₀ z1 z2 z3 z4 z5) s) (h0 : H k₀ z1 z2 z3 z4 z5)
  (turn : ∀ k x1 x2 x3 x4 x5 s E K, (∀ k' y1 y2 y3 y4 y5 s', k' < k → H k' y1 y2 y3 y4 y5 → St B ((blk, V k' y1 y2 y3 y4 y5) :: fs) (G k' y1 y2 y3 y4 y5) s' → K s') → H k x1 x2 x3 x4 x5 → St B ((blk, V k x1 x2 x3 x4 x5) :: fs) (G k x1 x2 x3 x4 x5) s → wpAny (model prog w) A (pyNext (.ref it)) (fun r s₁ => match r with
   | none => R (.ok .next) s₁
   | some v => wpAny (model prog w) A (letOwnedTupleGo tgt (.ref it) v) (fun _ s₁' => wpAny (model prog w) A (assign tgt env v) (fun _ s₂ =>
     wpAny (model prog w) A (execs body env) (TurnQ K R) E s₂) E s₁') E s₁) E s) :
  codeAny (model prog w) A (.forLoop tgt (.ref it) body [] env) R s :=
 gen_K k₀ (fun i x => V i x.1 x.2.1 x.2.2.1 x.2.2.2.1 x.2.2.2.2) (fun i x => G i x.1 x.2.1 x.2.2.1 x.2.2.2.1 x.2.2.2.2) (fun i x => H i x.1 x.2.1 x.2.2.1 x.2.2.2.1 x.2.2.2.2) (z1, z2, z3, z4, z5) S h0 (fun k x s E K fin => turn k x.1 x.2.1 x.2.2.1 x.2.2.2.1 x.2.2.2.2 s E K (fun k' y1 y2 y3 y4 y5 => fin k' (y1, y2, y3, y4, y5)))
end
end
section
open PySem PySem.W PyProof.Rows
universe u
noncomputable def worst {α : Type u} (h : Nonempty α) (P : α → Prop) : α := @Classical.epsilon α h fun x => ¬ P x
theorem worst_all {α : Type u} {h : Nonempty α} {P : α → Prop} (q : P (worst h P)) (x : α) : P x :=
 Classical.byContradiction fun hx => @Classical.epsilon_spec α (fun x => ¬ P x) ⟨x, hx⟩ q
theorem worst_of {α : Type u} {h : Nonempty α} {Q : α → Prop} {c : α} (e : c = worst h Q) (q : Q c) (x : α) : Q x := worst_all (e ▸ q) x
theorem ne1 : Nonempty World := ⟨⟨fun _ _ => 0, { strHash := fun _ => 0, shareClass := fun _ => 0, mergeTok := id, idOf := fun _ => 0, idOfShared := fun _ _ => 0, followText := fun _ => true, idOfImm := fun _ => 0 }⟩⟩
theorem ne2 : Nonempty Bs := ⟨⟨{}, {}⟩⟩
theorem ne3 : Nonempty Shared := ⟨{}⟩
theorem ne4 : Nonempty Around := ⟨{}⟩
theorem ne5 {α β : Type} (a : Nonempty α) (b : Nonempty β) : Nonempty (α × β) := a.elim fun x => b.elim fun y => ⟨(x, y)⟩
section
set_option genSizeOf false
set_option genInjectivity false
structure KK where
 prog : Program
 w : World
 κ : Type
 inst : DecidableEq κ
 knd : @PySem.KeyKind prog w κ inst
end
noncomputable def kk0 : KK := ⟨default, Classical.choice ne1, Str, inferInstance, PySem.strKind _ _⟩
theorem ne7 : Nonempty kk0.κ := ⟨(Str.ofString "" : Str)⟩
theorem ne8 {τ : KK → Type} (h : Nonempty (τ kk0)) : Nonempty (Sigma τ) := h.elim fun x => ⟨⟨kk0, x⟩⟩
end
section
open PySem PySem.W PyProof.Rows PySem.Calls
noncomputable abbrev tabs2 : List (Addr × Addr) := [(244, 242), (203, 199)]
theorem join (spec : ∀ {prog : Program} {w : World} {B : Bs} {s : Shared} {sa : Addr} {vs : List Value} {ns : List Int} {R : Result → Shared → Prop}, OkB B w → St B [] (tabE 242 ++ (tabE 199 ++ [])) s →
  (∀ s' : Shared, (∀ a o, B.h.get? a = some o → s'.heap.get? a = some o) → s'.heap.IsList sa vs.toArray) → IntsAre vs ns → vs.length ≤ 63 →
  (∀ c1 c2 q1 q2 p1 p2 s', St B [] (tabF 242 q1 p1 c1 ++ (tabF 199 q2 p2 c2 ++ [])) s' → R (.ok (.ret (.bool true))) s') →
  codeAny (model prog w) callerA (.call (.ref 250) ⟨[.ref sa], []⟩) R s) : PySem.Challenge.rw_oc0201_01.Holds := by
 refine head ?_
 intro w s₀ s₁ mg mb G Y fa o pm cd doc dV kV ho hd' hcd hD hmg hg args vals as hpre hlay hrd hwl hlo
 have X := km_in_of Y
 have hT8 := km_tabs_of Y
 clear Y
 refine Ground.open G ?_
 intro T TB D TE TW
 have hT9 : TabsAt tabs2 s₁.heap := List.forall_mem_cons.mpr ⟨⟨codeHd_of_K (c := 244) (P := 242) X (by kernel_rfl), hT8 242 (by simp)⟩, List.forall_mem_cons.mpr ⟨⟨codeHd_of_K (c := 203) (P := 199) X (by kernel_rfl), hT8 199 (by simp)⟩, fun _ h => nomatch h⟩⟩
 have e1 := mg_of X T.g (n := Str.ofString "law") (v := .ref 250) (by kernel_rfl)
 have e2 : mg (Str.ofString "law") = some (.ref fa) := hmg
 rw [e1] at e2
 cases e2
 clear ho hd' hcd hD hmg G e1
 wrow_args hpre hlay hrd hwl hlo
 rename_i ns _ _ _ _ _ _ _ sa vs _ hL _ _ _ hI _ hlen _
 have hlv : vs.length ≤ 63 := by
  have := IntsAre.length hI; lia
 refine enter_call ?_
 refine kn_post hT9 (fun _ _ => rfl) ?_
 have hbm : ∃ mg, (ghostOf s₁.heap tabs2).Ns mainGlobals mg ∧ ∃ bm ob, mg "__builtins__" = some (.ref bm) ∧ bm ≠ builtinsNs ∧ bm ≠ mainGlobals ∧ (ghostOf s₁.heap tabs2).get? bm = some ob ∧ ob.cls = .type "module" ∧ ob.dict = some builtinsNs ∧ ob.data = .plain := by
  refine packG ?_; intro TT
  obtain ⟨bm, ob, a1, a2, a3, a4, a5, a6⟩ := (ghost_top hT9 T).bmain
  refine ⟨mg, ghost_ns hT9 T.g, bm, ob, a1, a2, fun e => ?_, a3, a4, a5, a6⟩
  refine packG ?_; intro TT
  obtain ⟨o', es, ep, h1, h2, _⟩ := ghost_ns hT9 T.g
  rw [← e, a3] at h1
  cases h1
  rw [a6] at h2
  cases h2
 have OB : OkB ⟨ghostOf s₁.heap tabs2, s₁.os⟩ w := ⟨⟨ghost_K hT9 X (by kernel_rfl), ⟨mg, mb, ghost_ns hT9 T.g, ghost_ns hT9 T.b, T.builtins⟩, (ghost_top hT9 T).nolimit⟩, hbm⟩
 have hS : St ⟨ghostOf s₁.heap tabs2, s₁.os⟩ [] (tabE 242 ++ (tabE 199 ++ [])) s₁ := by
  refine ⟨fun b o e => of_hideAll _ e, rfl, hg, fun f hf => (nomatch hf), fun p hp => ?_, by decide, fun a ha => ?_⟩
  ·simp only [tabE, List.cons_append, List.nil_append, List.mem_cons, List.not_mem_nil, or_false] at hp
   rcases hp with rfl | rfl
   ·exact ⟨_, hT8 242 (by simp), rfl⟩
   ·exact ⟨_, hT8 199 (by simp), rfl⟩
  ·refine hideAll_none _ ?_
   simpa [tabE, tabs2] using ha
 refine spec OB hS (fun s' hk => ?_) hI hlv fun c1 c2 q1 q2 p1 p2 s' S => ?_
 ·refine packG ?_; intro TT
  obtain ⟨o', h1, h2⟩ := ghost_list hT9 hL
  exact ⟨o', hk _ _ h1, h2⟩
 ·refine ⟨⟨.inl ⟨.bool true, .bool true, [], rfl, fun _ => rfl, .bool _, ?_, fun _ => ⟨List.nodup_nil, by simp⟩⟩, S.old, S.os, S.gens⟩, ?_⟩
  ·wrow_post
  ·refine packG ?_; intro TT
   obtain ⟨_, e1, rfl⟩ := S.get (a := 242) List.mem_cons_self
   obtain ⟨_, e2, rfl⟩ := S.get (a := 199) (List.mem_cons_of_mem _ (List.mem_cons_of_mem _ List.mem_cons_self))
   exact ⟨⟨_, e1⟩, ⟨_, e2⟩, trivial⟩
end
section
open PySem PySem.W PyProof.Rows PySem.Calls
local macro_rules | `(tactic| wtm_at $s:str) => match word s.getString with
 | [] => Lean.Macro.throwUnsupported
 | l => pure (par l)
section
section
variable {prog : Program} {w : World} {B : Bs} {fs : List Fm} {L L' : List (Addr × O)} {s : Shared} {A : Around} {E : Value → Shared → Prop} {n : Nat} {es : List Env}
theorem three_spec {x y : Int} {tx ty : Tok} {R : Result → Shared → Prop} (O : Ok B w) (S : St B fs L s) (hA : AOk A (n + 1) es)
  (hR : ∀ t s', St B fs L s' → R (.ok (.ret (.int (b2i (decide (y < x)) - b2i (decide (x < y))) t))) s') :
  codeAny (model prog w) A (.call (.ref 35) ⟨[.int x tx, .int y ty], []⟩) R s := by
 refine call_def (a := 35) (names := ["x", "y"]) (rest := []) (vals := [.int x tx, .int y ty]) O S hA (fun _ => rfl) rfl (fun _ => by kernel_rfl) rfl rfl rfl (by decide +kernel) (by decide +kernel) (by decide +kernel) rfl rfl rfl ?_
 clear S hA; intro env nd kd fn s hE S hA E
 wtm_at "go"
 exact hR _ _ S.pop
end
end
section
noncomputable def Spans (L : List (Addr × O)) (sa : Addr) (sp : List (Int × Int)) : Prop := ∃ ts : List Addr, (sa, lst (ts.map .ref)) ∈ L ∧ ts.length = sp.length ∧ ∀ (i : Nat) (t : Addr) (p : Int × Int), ts[i]? = some t → sp[i]? = some p → (t, tupR IntV [p.1, p.2]) ∈ L
noncomputable def ApartTo (sp : List (Int × Int)) (ds : List Int) (k j : Nat) : Prop := ∀ (k' j' : Nat) (p q : Int × Int) (dk dj : Int), (k' < k ∨ k' = k ∧ j' < j) → sp[k']? = some p → sp[j']? = some q → ds[k']? = some dk → ds[j']? = some dj → dj = dk → p.1 < q.1 → q.2 < p.2 → False
section
variable {prog : Program} {w : World} {B : Bs} {fs : List Fm} {L L' : List (Addr × O)} {s : Shared} {A : Around} {E : Value → Shared → Prop} {n : Nat} {es : List Env}
end
noncomputable section
namespace apart_spec_w
def Pw (prog : Program) (w : World) (B : Bs) (fs : List Fm) (L : List (Addr × O)) (s : Shared) (A : Around) (n : Nat) (es : List Env) (sa da : Addr) (sp : List (Int × Int)) (ds : List Int) (R : Result → Shared → Prop) : Prop := ∀ (O : Ok B w) (S : St B fs L s) (hA : AOk A (n + 1) es) (hs : Spans L sa sp) (hd : (da, lstR IntV ds) ∈ L) (hl : ds.length = sp.length) (hsz : sp.length < 100) (hR : ∀ b s', (b = true ↔ ApartTo sp ds sp.length 0) → St B fs L s' → R (.ok (.ret (.bool b))) s'),
  codeAny (model prog w) A (.call (.ref 240) ⟨[.ref sa, .ref da], []⟩) R s
def Hw (x : Program × World × Bs × (List Fm) × (List (Addr × O)) × Shared × Around × Nat × (List Env) × Addr × Addr × (List (Int × Int)) × (List Int) × (Result → Shared → Prop)) : Prop := Pw x.1 x.2.1 x.2.2.1 x.2.2.2.1 x.2.2.2.2.1 x.2.2.2.2.2.1 x.2.2.2.2.2.2.1 x.2.2.2.2.2.2.2.1 x.2.2.2.2.2.2.2.2.1 x.2.2.2.2.2.2.2.2.2.1 x.2.2.2.2.2.2.2.2.2.2.1 x.2.2.2.2.2.2.2.2.2.2.2.1 x.2.2.2.2.2.2.2.2.2.2.2.2.1 x.2.2.2.2.2.2.2.2.2.2.2.2.2
@[irreducible] def cw := worst (by repeat (first | refine ne5 ?_ ?_ | exact ne1 | exact ne2 | exact ne3 | exact ne4 | exact inferInstance | exact ne7 | exact ⟨⟨0, 0, 0, 0, 0, 0, 0, 0⟩⟩)) Hw
def prog := cw.1
def w := cw.2.1
def B := cw.2.2.1
def fs := cw.2.2.2.1
def L := cw.2.2.2.2.1
def s := cw.2.2.2.2.2.1
def A := cw.2.2.2.2.2.2.1
def n := cw.2.2.2.2.2.2.2.1
def es := cw.2.2.2.2.2.2.2.2.1
def sa := cw.2.2.2.2.2.2.2.2.2.1
def da := cw.2.2.2.2.2.2.2.2.2.2.1
def sp := cw.2.2.2.2.2.2.2.2.2.2.2.1
def ds := cw.2.2.2.2.2.2.2.2.2.2.2.2.1
def R := cw.2.2.2.2.2.2.2.2.2.2.2.2.2
theorem run : Pw prog w B fs L s A n es sa da sp ds R := by
 intro O S hA hs hd hl hsz hR
 refine call_def (a := 240) (names := ["spans", "dealt"]) (rest := ["k", "start", "end", "j", "low", "high"]) (vals := [.ref sa, .ref da]) O S hA (fun _ => rfl) rfl (fun _ => by kernel_rfl) rfl rfl rfl (by decide +kernel) (by decide +kernel) (by decide +kernel) rfl rfl rfl ?_
 clear S; (try clear LL); (try clear LL); clear hA; intro env nd kd fn s hE S hA E
 wtm_at "pk"
 obtain ⟨ts, hs, htl, hts⟩ := hs
 dsimp only at hE
 wtm_at "us"
 dsimp only [List.map, List.append, List.cons_append, List.nil_append] at S
 wtm_at "go"
 refine t_enum S (S.isL (by wtm_at "mem")) ?_
 clear S; intro e it s S
 refine pi_enum S (by wtm_at "mem") ?_
 let V1 := fun (_ : Nat) (a b c d e f : Option Value) => [some (Value.ref sa), some (.ref da), a, b, c, d, e, f]
 let G1 := fun (_ : Nat) (_ _ _ _ _ _ : Option Value) => L
 refine for6 (Itr.enum _ _ _ e it sa (Src.lst (ts.map .ref))) hA.hand V1 G1 (fun i _ _ _ _ _ _ => ApartTo sp ds i 0)
  (fun _ _ _ _ _ _ _ _ => one_src hs) _ _ _ _ _ _ S (by rintro k' j' p q dk dj (h | h) <;> lia) ?_ ?_
 ·clear S; intro i c₁ c₂ c₃ c₄ c₅ c₆ v X s E K1 fin1 hi hap hJ2 S
  wtm_at "pq"
  wtm_at "pk"
  obtain ⟨t, tk, x, rfl, hx, rfl⟩ := hJ2
  wtm_at "ps"
  refine as_tup2 hA.hand S (S.isT (by wtm_at "mem")) ?_
  clear S; intro s S
  wtm_at "go"
  simp only [List.getElem?_map, Option.map_eq_some_iff] at hx
  wtm_at "pk"
  obtain ⟨ta, hta, rfl⟩ := hx
  have hi' : i < sp.length := by simpa [htl] using hi
  wtm_at "pk"
  obtain ⟨vs, hvs, hT⟩ := S.isTR (List.mem_append_right _ (List.mem_append_right _ (hts i ta sp[i] hta (by simp [hi']))))
  obtain ⟨_, _, rfl, ⟨t1, rfl⟩, ⟨t2, rfl⟩⟩ := hvs.two
  refine as_tup2 hA.hand S hT ?_
  clear S; (try clear LL); (try clear LL); clear hT; intro s S
  wtm_at "go"
  refine t_enum S (S.isL (by wtm_at "mem")) ?_
  clear S; intro e' it' s S
  refine pi_enum S (by wtm_at "mem") ?_
  let V2 := fun (_ : Nat) (a b c : Option Value) => [some (Value.ref sa), some (.ref da), some (.int i tk), some (.int sp[i].1 t1), some (.int sp[i].2 t2), a, b, c]
  let G2 := fun (_ : Nat) (_ _ _ : Option Value) => (t, Mine.tup [.int i tk, .ref ta]) :: (e, enuO it (i + 1 : Nat)) :: (it, litO sa (i + 1)) :: L
  refine for3 (Itr.enum _ _ _ e' it' sa (Src.lst (ts.map .ref))) hA.hand V2 G2 (fun j _ _ _ => ApartTo sp ds i j)
   (fun _ _ _ _ _ => one_src (by wtm_at "mem")) _ _ _ S hap ?_ ?_
  ·clear S; (try clear LL); (try clear LL); clear hap; intro j c₁ c₂ c₃ v X s E K2 fin2 hj hap hJ2 S
   wtm_at "pq"
   wtm_at "pk"
   obtain ⟨t', tk', x, rfl, hx, rfl⟩ := hJ2
   wtm_at "ps"
   refine as_tup2 hA.hand S (S.isT (by wtm_at "mem")) ?_
   clear S; intro s S
   wtm_at "go"
   simp only [List.getElem?_map, Option.map_eq_some_iff] at hx
   wtm_at "pk"
   obtain ⟨ta', hta', rfl⟩ := hx
   have hj' : j < sp.length := by simpa [htl] using hj
   wtm_at "pk"
   obtain ⟨vs, hvs, hT⟩ := S.isTR (by have := hts j ta' sp[j] hta' (by simp [hj']); wtm_at "mem")
   obtain ⟨_, _, rfl, ⟨t3, rfl⟩, ⟨t4, rfl⟩⟩ := hvs.two
   refine as_tup2 hA.hand S hT ?_
   clear S; (try clear LL); (try clear LL); clear hT; intro s S
   wtm_at "go"
   wtm_at "if"
   have hdi : ds[i]? = some ds[i] := by simp [hl, hi']
   have hdj : ds[j]? = some ds[j] := by simp [hl, hj']
   refine cutB (ds[j] = ds[i] ∧ sp[i].1 < sp[j].1 ∧ sp[j].2 < sp[i].2) S ?_ ?_
   ·wtm_at "pk"
    obtain ⟨dv, hdv, hD⟩ := S.isLR (a := da) (by wtm_at "mem")
    obtain ⟨_, hvi, ⟨t5, rfl⟩⟩ := hdv.get hdi
    obtain ⟨_, hvj, ⟨t6, rfl⟩⟩ := hdv.get hdj
    wtm_at "go"
    refine sub_list hD (by lia) (by simpa using hvj) ?_ (by have := hdv.len; lia)
    wtm_at "go"
    refine sub_list hD (by lia) (by simpa using hvi) ?_ (by have := hdv.len; lia)
    wtm_at "go"
    refine ⟨fun h1 => ?_, fun h1 => ⟨by simp at h1; simp [h1], S⟩⟩
    wtm_at "go"
    refine ⟨fun h2 => ?_, fun h2 => ⟨by simp at h1 h2; simp; lia, S⟩⟩
    wtm_at "go"
    refine ⟨fun h3 => ?_, fun h3 => ⟨by simp at h1 h2 h3; simp; lia, S⟩⟩
    wtm_at "go"
    exact ⟨by simp at h1 h2 h3; simp [h1, h2, h3], S⟩
   ·clear S; intro b s hb S
    refine ⟨fun h => ?_, fun h => ?_⟩
    ·wtm_at "go"
     refine hR _ _ ⟨fun h => by simp at h, fun h' => ?_⟩ (S.pop.less ?_)
     ·have := hb.mp h
      exact absurd (h' i j sp[i] sp[j] ds[i] ds[j] (.inl hi') (by simp [hi']) (by simp [hj']) hdi hdj this.1 this.2.1 this.2.2) id
     ·wtm_at "sub"
    ·have hn := iff_no hb h
     wtm_at "go"
     refine fin2 _ _ _ _ ?_ (S.less (by wtm_at "ung"; wtm_at "sub"))
     intro k' j' p q dk dj hkj h1 h2 h3 h4 h5 h6 h7
     rcases hkj with hk | ⟨rfl, hj1⟩
     ·exact hap k' j' p q dk dj (.inl hk) h1 h2 h3 h4 h5 h6 h7
     ·rcases Nat.lt_or_ge j' j with hj2 | hj2
      ·exact hap k' j' p q dk dj (.inr ⟨rfl, hj2⟩) h1 h2 h3 h4 h5 h6 h7
      ·have : j' = j := by lia
       subst this
       simp_all
  ·clear S; (try clear LL); (try clear LL); clear hap; intro c₁ c₂ c₃ s hap S
   wtm_at "ps"
   wtm_at "go"
   refine fin1 _ _ _ _ _ _ _ ?_ (S.less (by wtm_at "ung"; wtm_at "sub"))
   intro k' j' p q dk dj hkj h1 h2 h3 h4 h5 h6 h7
   have : j' < sp.length := (List.getElem?_eq_some_iff.mp h2).1
   refine hap k' j' p q dk dj ?_ h1 h2 h3 h4 h5 h6 h7
   simp [htl]; lia
 ·clear S; intro c₁ c₂ c₃ c₄ c₅ c₆ s hap S
  wtm_at "ps"
  wtm_at "go"
  exact hR _ _ ⟨fun _ => by simpa [htl] using hap, fun _ => rfl⟩ S.pop
end apart_spec_w
end
theorem apart_spec {prog : Program} {w : World} {B : Bs} {fs : List Fm} {L : List (Addr × O)} {s : Shared} {A : Around} {n : Nat} {es : List Env} {sa da : Addr} {sp : List (Int × Int)} {ds : List Int} {R : Result → Shared → Prop} : apart_spec_w.Pw prog w B fs L s A n es sa da sp ds R := worst_of (Q := apart_spec_w.Hw) (by with_unfolding_all rfl) apart_spec_w.run ⟨prog, w, B, fs, L, s, A, n, es, sa, da, sp, ds, R⟩
section
end
end
section
structure Nod (κ : Type) where
 key : κ
 np : Int
 suc : List κ
structure NA where
 i : Addr
 di : Addr
 su : Addr
section
variable {prog : Program} {w : World} {B : Bs} {fs : List Fm} {L L' : List (Addr × O)} {s : Shared} {A : Around} {E : Value → Shared → Prop} {n : Nat} {es : List Env} {κ : Type} [DecidableEq κ] {x dx : Addr} {v : Value} {sl sl' : List (Option Value)}
 {b : Blk} {ls : List (Option Value)} {names : List Str} {vals : List (Option Value)} {expr : Bool}
theorem K54_set (P : Params) : findIn (KF P) (.ref 54) "__setattr__" = some (some (.builtin "object.__setattr__")) := by kernel_rfl
theorem K54_over (P : Params) : plainOver (KF P) 54 = true := by kernel_rfl
theorem K54_cls (P : Params) : (clsIn (KF P) 54).isSome = true := by kernel_rfl
theorem set_node {Q : Unit → Shared → Prop} (O : Ok B w) (S : St B ((b, ls) :: fs) L s) {z y : Mine.O} (u : Upd x z y L L') (hx : At s x (slotO 54 dx sl)) (hd : At s dx (nsO names vals))
  (e : (sl.toArray ++ Array.replicate (0 + 1 - sl.toArray.size) none).setIfInBounds 0 (some v) = sl'.toArray) (hy : ∀ o, slotO 54 dx sl' o → y o) (h : ∀ s', St B ((b, ls) :: fs) L' s' → Q () s') : wpAny (model prog w) A (setAttr (.ref x) "node" v) Q E s :=
 s_slot (p := 55) 0 O S u hx hy hd K54_set K54_over (fun _ => by kernel_rfl) (fun _ => by kernel_rfl) (fun _ => by kernel_rfl) (by decide) e h
theorem set_np {Q : Unit → Shared → Prop} (O : Ok B w) (S : St B ((b, ls) :: fs) L s) {z y : Mine.O} (u : Upd x z y L L') (hx : At s x (slotO 54 dx sl)) (hd : At s dx (nsO names vals))
  (e : (sl.toArray ++ Array.replicate (1 + 1 - sl.toArray.size) none).setIfInBounds 1 (some v) = sl'.toArray) (hy : ∀ o, slotO 54 dx sl' o → y o) (h : ∀ s', St B ((b, ls) :: fs) L' s' → Q () s') : wpAny (model prog w) A (setAttr (.ref x) "npredecessors" v) Q E s :=
 s_slot (p := 56) 1 O S u hx hy hd K54_set K54_over (fun _ => by kernel_rfl) (fun _ => by kernel_rfl) (fun _ => by kernel_rfl) (by decide) e h
theorem set_suc {Q : Unit → Shared → Prop} (O : Ok B w) (S : St B ((b, ls) :: fs) L s) {z y : Mine.O} (u : Upd x z y L L') (hx : At s x (slotO 54 dx sl)) (hd : At s dx (nsO names vals))
  (e : (sl.toArray ++ Array.replicate (2 + 1 - sl.toArray.size) none).setIfInBounds 2 (some v) = sl'.toArray) (hy : ∀ o, slotO 54 dx sl' o → y o) (h : ∀ s', St B ((b, ls) :: fs) L' s' → Q () s') : wpAny (model prog w) A (setAttr (.ref x) "successors" v) Q E s :=
 s_slot (p := 57) 2 O S u hx hy hd K54_set K54_over (fun _ => by kernel_rfl) (fun _ => by kernel_rfl) (fun _ => by kernel_rfl) (by decide) e h
theorem get_node {Q : Value → Shared → Prop} (O : Ok B w) (S : St B fs L s) (hx : At s x (slotO 54 dx sl)) (hd : At s dx (nsO names vals)) (hk : sl[0]? = some (some v)) (hv : handedIn v = true) (h : ∀ s', St B fs L s' → Q v s') : wpAny (model prog w) A (getAttr (.ref x) "node" expr) Q E s :=
 g_slot (p := 55) 0 O S hx hd (fun _ => by kernel_rfl) K54_cls (fun _ => by kernel_rfl) (fun _ => by kernel_rfl) (fun _ => by kernel_rfl) (fun _ => by kernel_rfl) hk hv h
theorem get_np {Q : Value → Shared → Prop} (O : Ok B w) (S : St B fs L s) (hx : At s x (slotO 54 dx sl)) (hd : At s dx (nsO names vals)) (hk : sl[1]? = some (some v)) (hv : handedIn v = true) (h : ∀ s', St B fs L s' → Q v s') : wpAny (model prog w) A (getAttr (.ref x) "npredecessors" expr) Q E s :=
 g_slot (p := 56) 1 O S hx hd (fun _ => by kernel_rfl) K54_cls (fun _ => by kernel_rfl) (fun _ => by kernel_rfl) (fun _ => by kernel_rfl) (fun _ => by kernel_rfl) hk hv h
theorem get_suc {Q : Value → Shared → Prop} (O : Ok B w) (S : St B fs L s) (hx : At s x (slotO 54 dx sl)) (hd : At s dx (nsO names vals)) (hk : sl[2]? = some (some v)) (hv : handedIn v = true) (h : ∀ s', St B fs L s' → Q v s') : wpAny (model prog w) A (getAttr (.ref x) "successors" expr) Q E s :=
 g_slot (p := 57) 2 O S hx hd (fun _ => by kernel_rfl) K54_cls (fun _ => by kernel_rfl) (fun _ => by kernel_rfl) (fun _ => by kernel_rfl) (fun _ => by kernel_rfl) hk hv h
theorem info_init {R : Result → Shared → Prop} (O : Ok B w) (S : St B fs ((x, instO 54 dx) :: (dx, nsO [] []) :: L) s) (hA : AOk A (n + 1) es)
  (hR : ∀ su tok s', St B fs ((x, slotO 54 dx [some v, some (.int 0 tok), some (.ref su)]) :: (dx, nsO [] []) :: (su, lst []) :: L) s' → R (.ok (.ret .none)) s') :
  codeAny (model prog w) A (.call (.ref 50) ⟨[.ref x, v], []⟩) R s := by
 refine call_def (a := 50) (names := ["self", "node"]) (rest := []) (vals := [.ref x, v]) O S hA (fun _ => rfl) rfl (fun _ => by kernel_rfl) rfl rfl rfl (by decide +kernel) (by decide +kernel) (by decide +kernel) rfl rfl rfl ?_
 clear S; (try clear LL); (try clear LL); clear hA; intro env nd kd fn s hE S hA E
 dsimp only at hE
 wtm_at "us"
 dsimp only [List.map, List.append, List.cons_append, List.nil_append] at S
 wtm_at "go"
 refine set_node (sl := []) (sl' := [some v]) O S .here (S.at List.mem_cons_self) (S.at (by wtm_at "mem")) rfl (fun _ h => h) ?_
 clear S; intro s S
 wtm_at "go"
 refine set_np (sl := [some v]) (sl' := [some v, some (.int 0 tok)]) O S .here (S.at List.mem_cons_self) (S.at (by wtm_at "mem")) rfl (fun _ h => h) ?_
 clear S; intro s S
 wtm_at "go"
 refine n_list S (by decide) ?_
 clear S; intro su s S
 wtm_at "go"
 refine set_suc (sl := [some v, some (.int 0 tok)]) (sl' := [some v, some (.int 0 tok), some (.ref su)]) O S (.there .here) (S.at (by wtm_at "mem")) (S.at (by wtm_at "mem")) rfl (fun _ h => h) ?_
 clear S; intro s S
 wtm_at "go"
 exact hR su tok _ (S.pop.perm ((List.Perm.swap ..).trans (.cons _ (.swap ..))))
end
section
variable {prog : Program} {w : World} {κ : Type} [DecidableEq κ] (knd : KeyKind prog w κ)
noncomputable def keyV (k : κ) (v : Value) : Prop := knd.is k v = true
noncomputable def nodO (p : NA) (nd : Nod κ) : O := fun o => ∃ kv t, knd.is nd.key kv = true ∧ slotO 54 p.di [some kv, some (.int nd.np t), some (.ref p.su)] o
noncomputable def nodL (q : NA × Nod κ) : List (Addr × O) := [(q.1.i, nodO knd q.1 q.2), (q.1.di, nsO [] []), (q.1.su, lstR (keyV knd) q.2.suc)]
noncomputable def srtNames : List Str := ["_node2info", "_ready_nodes", "_npassedout", "_nfinished"]
noncomputable def srtN (m : Addr) (rv : Value) (pa fi : Int) : O := fun o => ∃ t u, nsO srtNames [some (.ref m), some rv, some (.int pa t), some (.int fi u)] o
noncomputable def kvsOf (ns : List (NA × Nod κ)) : List (κ × Value) := ns.map fun q => (q.2.key, .ref q.1.i)
noncomputable def srtL (x dx m : Addr) (rv : Value) (pa fi : Int) (ns : List (NA × Nod κ)) : List (Addr × O) :=
 (x, instO 151 dx) :: (dx, srtN m rv pa fi) :: (m, dicO knd (kvsOf ns)) :: ns.flatMap (nodL knd)
end
end
section
theorem Upd.flat {α : Type} {f : α → List (Addr × O)} {a : Addr} {x y : O} {q q' : α} : ∀ {ns : List α} {j : Nat}, ns[j]? = some q → Upd a x y (f q) (f q') → Upd a x y (ns.flatMap f) ((ns.set j q').flatMap f)
 | [], _, h, _ => by simp at h
 | c :: ns, 0, h, u => by simp at h; subst h; simp only [List.flatMap_cons, List.set_cons_zero]; exact u.right _
 | c :: ns, j + 1, h, u => by simp only [List.flatMap_cons, List.set_cons_succ]; exact (Upd.flat (by simpa using h) u).left _
theorem mem_flat {α : Type} {f : α → List (Addr × O)} {ns : List α} {j : Nat} {q : α} {p : Addr × O} (h : ns[j]? = some q) (hm : p ∈ f q) : p ∈ ns.flatMap f := List.mem_flatMap.mpr ⟨q, List.mem_of_getElem? h, hm⟩
section
variable {prog : Program} {w : World} {B : Bs} {fs : List Fm} {L L' : List (Addr × O)} {s : Shared} {A : Around} {E : Value → Shared → Prop} {n : Nat} {es : List Env} {κ : Type} [DecidableEq κ] {x dx m : Addr} {v rv : Value} {pa fi : Int} {expr : Bool}
 {b : Blk} {ls : List (Option Value)}
theorem K151_get (P : Params) (name : Str) : plainGet (KF P) 151 name = true := by kernel_rfl
theorem K151_dict (P : Params) : hasDictIn (KF P) 151 = true := by kernel_rfl
theorem K151_set (P : Params) : findIn (KF P) (.ref 151) "__setattr__" = some (some (.builtin "object.__setattr__")) := by kernel_rfl
theorem K151_over (P : Params) : plainOver (KF P) 151 = true := by kernel_rfl
theorem srt_nodup : srtNames.Nodup := by decide +kernel
theorem get_n2i {Q : Value → Shared → Prop} (O : Ok B w) (S : St B fs L s) (hx : At s x (instO 151 dx)) (hd : At s dx (srtN m rv pa fi)) (h : ∀ s', St B fs L s' → Q (.ref m) s') : wpAny (model prog w) A (getAttr (.ref x) "_node2info" expr) Q E s := by
 obtain ⟨o, e, t, u, i⟩ := hd
 exact g_own 0 O S hx ⟨o, e, i⟩ srt_nodup rfl rfl (fun P => K151_get P _) K151_dict (fun _ => by kernel_rfl) rfl h
theorem get_rdy {Q : Value → Shared → Prop} (O : Ok B w) (S : St B fs L s) (hx : At s x (instO 151 dx)) (hd : At s dx (srtN m rv pa fi)) (hv : handedIn rv = true) (h : ∀ s', St B fs L s' → Q rv s') : wpAny (model prog w) A (getAttr (.ref x) "_ready_nodes" expr) Q E s := by
 obtain ⟨o, e, t, u, i⟩ := hd
 exact g_own 1 O S hx ⟨o, e, i⟩ srt_nodup rfl rfl (fun P => K151_get P _) K151_dict (fun _ => by kernel_rfl) hv h
theorem get_pa {Q : Value → Shared → Prop} (O : Ok B w) (S : St B fs L s) (hx : At s x (instO 151 dx)) (hd : At s dx (srtN m rv pa fi)) (h : ∀ t s', St B fs L s' → Q (.int pa t) s') : wpAny (model prog w) A (getAttr (.ref x) "_npassedout" expr) Q E s := by
 obtain ⟨o, e, t, u, i⟩ := hd
 exact g_own 2 O S hx ⟨o, e, i⟩ srt_nodup rfl rfl (fun P => K151_get P _) K151_dict (fun _ => by kernel_rfl) rfl (h t)
theorem get_fi {Q : Value → Shared → Prop} (O : Ok B w) (S : St B fs L s) (hx : At s x (instO 151 dx)) (hd : At s dx (srtN m rv pa fi)) (h : ∀ t s', St B fs L s' → Q (.int fi t) s') : wpAny (model prog w) A (getAttr (.ref x) "_nfinished" expr) Q E s := by
 obtain ⟨o, e, t, u, i⟩ := hd
 exact g_own 3 O S hx ⟨o, e, i⟩ srt_nodup rfl rfl (fun P => K151_get P _) K151_dict (fun _ => by kernel_rfl) rfl (h u)
theorem set_rdy {Q : Unit → Shared → Prop} (O : Ok B w) (S : St B fs L s) (hx : At s x (instO 151 dx)) {z : Mine.O} (u : Upd dx z (srtN m v pa fi) L L') (hd : At s dx (srtN m rv pa fi)) (h : ∀ s', St B fs L' s' → Q () s') : wpAny (model prog w) A (setAttr (.ref x) "_ready_nodes" v) Q E s := by
 obtain ⟨o, e, t, t', i⟩ := hd
 exact s_own 1 O S hx u ⟨o, e, i⟩ (fun o h => ⟨t, t', h⟩) srt_nodup rfl (by simp) (by simp) K151_set K151_over (fun _ => by kernel_rfl) K151_dict h
theorem set_pa {tk : Tok} {pa' : Int} {Q : Unit → Shared → Prop} (O : Ok B w) (S : St B fs L s) (hx : At s x (instO 151 dx)) {z : Mine.O} (u : Upd dx z (srtN m rv pa' fi) L L') (hd : At s dx (srtN m rv pa fi)) (h : ∀ s', St B fs L' s' → Q () s') : wpAny (model prog w) A (setAttr (.ref x) "_npassedout" (.int pa' tk)) Q E s := by
 obtain ⟨o, e, t, t', i⟩ := hd
 exact s_own 2 O S hx u ⟨o, e, i⟩ (fun o h => ⟨_, t', h⟩) srt_nodup rfl (by simp) (by simp) K151_set K151_over (fun _ => by kernel_rfl) K151_dict h
theorem set_fi {tk : Tok} {fi' : Int} {Q : Unit → Shared → Prop} (O : Ok B w) (S : St B fs L s) (hx : At s x (instO 151 dx)) {z : Mine.O} (u : Upd dx z (srtN m rv pa fi') L L') (hd : At s dx (srtN m rv pa fi)) (h : ∀ s', St B fs L' s' → Q () s') : wpAny (model prog w) A (setAttr (.ref x) "_nfinished" (.int fi' tk)) Q E s := by
 obtain ⟨o, e, t, t', i⟩ := hd
 exact s_own 3 O S hx u ⟨o, e, i⟩ (fun o h => ⟨t, _, h⟩) srt_nodup rfl (by simp) (by simp) K151_set K151_over (fun _ => by kernel_rfl) K151_dict h
theorem srt_meth {name : Str} {pl : Sem Bool} {Q : Value × List Value → Shared → Prop} {f : Addr} (O : Ok B w) (S : St B fs L s) (hx : At s x (instO 151 dx)) (hd : At s dx (srtN m rv pa fi))
  (hn : name ∉ srtNames) (hf : ∀ P, findIn (KF P) (.ref 151) name = some (some (.ref f))) (ht : ∀ P, isFn (KF P) (.ref f) = true) (h : Q (.ref f, [.ref x]) s) : wpAny (model prog w) A (getMethod (.ref x) name pl) Q E s := by
 obtain ⟨o, e, t, t', i⟩ := hd
 exact m_cls O S hx ⟨o, e, i⟩ (lookV_notin hn) (fun P => K151_get P _) hf ht h
theorem sorter_init {R : Result → Shared → Prop} (knd : KeyKind prog w κ) (O : Ok B w) (S : St B fs ((x, instO 151 dx) :: (dx, nsO srtNames [none, none, none, none]) :: L) s) (hA : AOk A (n + 1) es)
  (hR : ∀ m s', (m == sysModules) = false → St B fs (srtL knd x dx m .none 0 0 [] ++ L) s' → R (.ok (.ret .none)) s') :
  codeAny (model prog w) A (.call (.ref 87) ⟨[.ref x], []⟩) R s := by
 refine call_dflt (a := 87) (names := ["self", "graph"]) (rest := ["node", "predecessors"]) (vals := [.ref x, .none]) O S hA (fun _ => rfl) rfl (fun _ => by kernel_rfl) rfl (fun _ => by kernel_rfl) rfl (by decide +kernel) (by decide +kernel) (by decide +kernel) rfl rfl rfl ?_
 clear S; (try clear LL); (try clear LL); clear hA; intro env nd kd fn s hE S hA E
 dsimp only at hE
 wtm_at "us"
 dsimp only [List.map, List.append, List.cons_append, List.nil_append] at S
 wtm_at "go"
 refine d_new knd O S ?_
 clear S; intro m s hm S
 wtm_at "go"
 refine s_own 0 O S (S.at (by wtm_at "mem")) (y := nsO srtNames [some (.ref m), none, none, none]) (.there (.there .here)) (S.at (by wtm_at "mem")) (fun _ h => h) srt_nodup rfl (by simp) (by simp) K151_set K151_over (fun _ => by kernel_rfl) K151_dict ?_
 clear S; intro s S
 wtm_at "go"
 refine s_own 1 O S (S.at (by wtm_at "mem")) (y := nsO srtNames [some (.ref m), some .none, none, none]) (.there (.there .here)) (S.at (by wtm_at "mem")) (fun _ h => h) srt_nodup rfl (by simp) (by simp) K151_set K151_over (fun _ => by kernel_rfl) K151_dict ?_
 clear S; intro s S
 wtm_at "go"
 refine s_own 2 O S (S.at (by wtm_at "mem")) (y := nsO srtNames [some (.ref m), some .none, some (.int 0 tok), none]) (.there (.there .here)) (S.at (by wtm_at "mem")) (fun _ h => h) srt_nodup rfl (by simp) (by simp) K151_set K151_over (fun _ => by kernel_rfl) K151_dict ?_
 clear S; intro s S
 wtm_at "go"
 refine s_own 3 O S (S.at (by wtm_at "mem")) (y := srtN m .none 0 0) (.there (.there .here)) (S.at (by wtm_at "mem")) (fun _ h => ⟨_, _, h⟩) srt_nodup rfl (by simp) (by simp) K151_set K151_over (fun _ => by kernel_rfl) K151_dict ?_
 clear S; intro s S
 wtm_at "if"
 wtm_at "go"
 exact hR m _ hm (S.pop.perm ((List.Perm.swap ..).trans (.cons _ (.swap ..))))
end
end
section
section
variable {prog : Program} {w : World} {B : Bs} {fs : List Fm} {L L' : List (Addr × O)} {s : Shared} {A : Around} {E : Value → Shared → Prop} {n : Nat} {es : List Env} {κ : Type} [DecidableEq κ] {x dx m : Addr} {v rv key : Value} {pa fi : Int} {k : κ} {knd : KeyKind prog w κ} {ns : List (NA × Nod κ)}
noncomputable def touchN (nds : List (Nod κ)) (k : κ) : List (Nod κ) := if nds.any (fun nd => nd.key = k) then nds else nds ++ [⟨k, 0, []⟩]
theorem perm_mid {α : Type} (a b c d : List α) : (a ++ (b ++ (c ++ d))).Perm (b ++ ((c ++ a) ++ d)) := by
 have h : (a ++ (b ++ c) ++ d).Perm ((b ++ c) ++ a ++ d) := (List.perm_append_comm).append_right d
 simpa using h
theorem valueAt_kvsOf (ns : List (NA × Nod κ)) (k : κ) : valueAt (kvsOf ns) k = (ns.find? fun q => q.2.key = k).map fun q => .ref q.1.i := by
 induction ns with
 | nil => rfl
 | cons q ns ih =>
  unfold valueAt kvsOf at ih ⊢
  rw [List.map_cons, List.find?_cons, List.find?_cons]
  by_cases h : q.2.key = k
  ·simp [h]
  ·simp only [h, decide_false]
   exact ih
theorem valueAt_at {ns : List (NA × Nod κ)} {j : Nat} {q : NA × Nod κ} (hn : (ns.map (·.2.key)).Nodup) (h : ns[j]? = some q) : valueAt (kvsOf ns) q.2.key = some (.ref q.1.i) := by
 rw [valueAt_kvsOf]
 induction ns generalizing j with
 | nil => simp at h
 | cons c ns ih =>
  rw [List.find?_cons]
  rw [List.map_cons, List.nodup_cons] at hn
  cases j with
  | zero => simp at h; subst h; simp
  | succ j =>
   simp at h
   have : c.2.key ≠ q.2.key := fun e => hn.1 (e ▸ List.mem_map_of_mem (f := fun q => q.2.key) (List.mem_of_getElem? h))
   simp only [this, decide_false]
   exact ih hn.2 h
end
noncomputable section
namespace getinfo_spec_w
def Pw (prog : Program) (w : World) (B : Bs) (fs : List Fm) (L : List (Addr × O)) (s : Shared) (A : Around) (n : Nat) (es : List Env) (κ : Type) [inst : DecidableEq κ] (x dx m : Addr) (rv key : Value) (pa fi : Int) (k : κ) (knd : KeyKind prog w κ) (ns : List (NA × Nod κ)) (R : Result → Shared → Prop) : Prop := ∀ (O : Ok B w) (S : St B fs (srtL knd x dx m rv pa fi ns ++ L) s) (hA : AOk A (n + 3) es) (hm : (m == sysModules) = false) (hk : knd.is k key = true) (hz : ns.length < 1000) (hR : ∀ (ns' : List (NA × Nod κ)) (j : Nat) (p : NA) (nd : Nod κ) s', ns'.map (·.2) = touchN (ns.map (·.2)) k → ns'[j]? = some (p, nd) → nd.key = k → St B fs (srtL knd x dx m rv pa fi ns' ++ L) s' → R (.ok (.ret (.ref p.i))) s'),
  codeAny (model prog w) A (.call (.ref 94) ⟨[.ref x, key], []⟩) R s
def Hw (x : (z : KK) × (Bs × (List Fm) × (List (Addr × O)) × Shared × Around × Nat × (List Env) × Addr × Addr × Addr × Value × Value × Int × Int × z.κ × (List (NA × Nod z.κ)) × (Result → Shared → Prop))) : Prop := @Pw x.1.prog x.1.w x.2.1 x.2.2.1 x.2.2.2.1 x.2.2.2.2.1 x.2.2.2.2.2.1 x.2.2.2.2.2.2.1 x.2.2.2.2.2.2.2.1 x.1.κ x.1.inst x.2.2.2.2.2.2.2.2.1 x.2.2.2.2.2.2.2.2.2.1 x.2.2.2.2.2.2.2.2.2.2.1 x.2.2.2.2.2.2.2.2.2.2.2.1 x.2.2.2.2.2.2.2.2.2.2.2.2.1 x.2.2.2.2.2.2.2.2.2.2.2.2.2.1 x.2.2.2.2.2.2.2.2.2.2.2.2.2.2.1 x.2.2.2.2.2.2.2.2.2.2.2.2.2.2.2.1 x.1.knd x.2.2.2.2.2.2.2.2.2.2.2.2.2.2.2.2.1 x.2.2.2.2.2.2.2.2.2.2.2.2.2.2.2.2.2
@[irreducible] def cw := worst (ne8 (by repeat (first | refine ne5 ?_ ?_ | exact ne1 | exact ne2 | exact ne3 | exact ne4 | exact inferInstance | exact ne7 | exact ⟨⟨0, 0, 0, 0, 0, 0, 0, 0⟩⟩))) Hw
def prog := cw.1.prog
def w := cw.1.w
def B := cw.2.1
def fs := cw.2.2.1
def L := cw.2.2.2.1
def s := cw.2.2.2.2.1
def A := cw.2.2.2.2.2.1
def n := cw.2.2.2.2.2.2.1
def es := cw.2.2.2.2.2.2.2.1
def κ := cw.1.κ
def inst : DecidableEq κ := cw.1.inst
def x := cw.2.2.2.2.2.2.2.2.1
def dx := cw.2.2.2.2.2.2.2.2.2.1
def m := cw.2.2.2.2.2.2.2.2.2.2.1
def rv := cw.2.2.2.2.2.2.2.2.2.2.2.1
def key := cw.2.2.2.2.2.2.2.2.2.2.2.2.1
def pa := cw.2.2.2.2.2.2.2.2.2.2.2.2.2.1
def fi := cw.2.2.2.2.2.2.2.2.2.2.2.2.2.2.1
def k : κ := cw.2.2.2.2.2.2.2.2.2.2.2.2.2.2.2.1
def knd : @PySem.KeyKind prog w κ inst := cw.1.knd
def ns : List (NA × Nod κ) := cw.2.2.2.2.2.2.2.2.2.2.2.2.2.2.2.2.1
def R := cw.2.2.2.2.2.2.2.2.2.2.2.2.2.2.2.2.2
theorem run : @Pw prog w B fs L s A n es κ inst x dx m rv key pa fi k knd ns R := by
 letI := inst
 intro O S hA hm hk hz hR
 refine call_def (a := 94) (names := ["self", "node"]) (rest := ["result"]) (vals := [.ref x, key]) O S hA (fun _ => rfl) rfl (fun _ => by kernel_rfl) rfl rfl rfl (by decide +kernel) (by decide +kernel) (by decide +kernel) rfl rfl rfl ?_
 clear S; (try clear LL); (try clear LL); clear hA; intro env nd kd fn s hE S hA E
 dsimp only at hE
 wtm_at "us"
 dsimp only [List.map, List.append, List.cons_append, List.nil_append] at S
 wtm_at "if"
 wtm_at "go"
 refine get_n2i O S (S.at (by wtm_at "srt")) (S.at (by wtm_at "srt")) ?_
 clear S; intro s S
 have hd := S.dic (d := m) (knd := knd) (kvs := kvsOf ns) (by wtm_at "srt")
 refine gm_dict hd PySem.F.slot_dict_get PySem.F.type_dict_get ?_
 wtm_at "go"
 refine d_get S hd hm hk ?_
 clear S; (try clear LL); (try clear LL); clear hd; intro s S
 cases q : (ns.find? fun q => q.2.key = k) with
 | some q0 =>
  have qe := q
  rw [List.find?_eq_some_iff_getElem] at q
  obtain ⟨hqk, j, hj, hq, _⟩ := q
  rw [valueAt_kvsOf, qe]
  dsimp only [Option.map, Option.getD]
  wtm_at "go"
  refine hR ns j q0.1 q0.2 _ ?_ (by simp [hj, hq]) (by simpa using hqk) S.pop
  unfold touchN
  rw [if_pos]
  rw [List.any_map, List.any_eq_true]
  exact ⟨q0, hq ▸ List.getElem_mem hj, by simpa using hqk⟩
 | none =>
  rw [valueAt_kvsOf, q]
  dsimp only [Option.map, Option.getD]
  wtm_at "go"
  refine cw_K O (fun _ => by kernel_rfl) ?_
  wtm_at "go"
  refine ⟨S.K O, w_call ?_⟩
  refine mk_inst [] O S (fun _ => by kernel_rfl) (fun _ => by kernel_rfl) (fun _ => by kernel_rfl) (fI := 50) ?_
  clear S; intro i di s S
  refine info_init O S hA.under_type ?_
  clear S; intro su t s S
  refine ⟨rfl, ret_ok ?_⟩
  wtm_at "go"
  refine get_n2i O S (S.at (by wtm_at "srt")) (S.at (by wtm_at "srt")) ?_
  clear S; intro s S
  wtm_at "go"
  have hd := S.dic (d := m) (knd := knd) (kvs := kvsOf ns) (by wtm_at "srt")
  refine d_set (y := dicO knd (kvsOf (ns ++ [(⟨i, di, su⟩, ⟨k, 0, []⟩)]))) (.there (.there (.there (.there (.there .here))))) S hd hk (by rw [kvsOf, List.length_map]; exact Nat.le_trans (Nat.le_of_lt hz) (by decide)) (fun o h => ?_) ?_
  ·have hn : (kvsOf ns).any (fun kv => kv.1 = k) = false := by
    rw [List.find?_eq_none] at q
    rw [kvsOf, List.any_map, List.any_eq_false]
    exact fun z hz => by simpa using q z hz
   unfold stored at h
   rw [hn] at h
   simpa [kvsOf] using h
  clear S; (try clear LL); (try clear LL); clear hd; intro s S
  wtm_at "go"
  refine hR (ns ++ [(⟨i, di, su⟩, ⟨k, 0, []⟩)]) ns.length ⟨i, di, su⟩ ⟨k, 0, []⟩ _ ?_ (by simp) rfl ?_
  ·unfold touchN
   rw [if_neg]
   ·simp
   ·rw [List.any_map, List.any_eq_true]
    rintro ⟨z, hz, h⟩
    rw [List.find?_eq_none] at q
    exact q z hz (by simpa using h)
  ·have S := S.pop
   have S1 := S.weak (y := nodO knd ⟨i, di, su⟩ ⟨k, 0, []⟩) .here fun o h => ⟨_, _, hk, h⟩
   have S2 := S1.weak (a := su) (y := lstR (keyV knd) []) (.there (.there .here)) fun o h => ⟨[], .nil, h⟩
   refine S2.perm ?_
   have := perm_mid (nodL knd (⟨i, di, su⟩, ⟨k, 0, []⟩)) [(x, instO 151 dx), (dx, srtN m rv pa fi), (m, dicO knd (kvsOf (ns ++ [(⟨i, di, su⟩, ⟨k, 0, []⟩)])))] (ns.flatMap (nodL knd)) L
   simpa [srtL, nodL] using this
end getinfo_spec_w
end
theorem getinfo_spec {prog : Program} {w : World} {B : Bs} {fs : List Fm} {L : List (Addr × O)} {s : Shared} {A : Around} {n : Nat} {es : List Env} {κ : Type} [inst : DecidableEq κ] {x dx m : Addr} {rv key : Value} {pa fi : Int} {k : κ} {knd : KeyKind prog w κ} {ns : List (NA × Nod κ)} {R : Result → Shared → Prop} : @getinfo_spec_w.Pw prog w B fs L s A n es κ inst x dx m rv key pa fi k knd ns R := worst_of (Q := getinfo_spec_w.Hw) (by with_unfolding_all rfl) getinfo_spec_w.run ⟨⟨prog, w, κ, inst, knd⟩, B, fs, L, s, A, n, es, x, dx, m, rv, key, pa, fi, k, ns, R⟩
section
end
end
section
section
variable {prog : Program} {w : World} {B : Bs} {fs : List Fm} {L L' : List (Addr × O)} {s : Shared} {A : Around} {E : Value → Shared → Prop} {n : Nat} {es : List Env} {κ : Type} [DecidableEq κ] {x dx m : Addr} {v rv key : Value} {pa fi : Int} {k : κ} {knd : KeyKind prog w κ} {ns : List (NA × Nod κ)}
noncomputable def onKey (k : κ) (f : Nod κ → Nod κ) (nds : List (Nod κ)) : List (Nod κ) := nds.map fun nd => if nd.key = k then f nd else nd
noncomputable def bumpN (nds : List (Nod κ)) (k : κ) (c : Int) : List (Nod κ) := onKey k (fun nd => { nd with np := nd.np + c }) nds
noncomputable def pushN (nds : List (Nod κ)) (p k : κ) : List (Nod κ) := onKey p (fun nd => { nd with suc := nd.suc ++ [k] }) nds
noncomputable def addN (nds : List (Nod κ)) (k : κ) (ps : List κ) : List (Nod κ) := ps.foldl (fun ns p => pushN (touchN ns p) p k) (bumpN (touchN nds k) k ps.length)
noncomputable def bnd (c : Nat) (nds : List (Nod κ)) : Prop := nds.length ≤ c ∧ ∀ nd ∈ nds, nd.suc.length ≤ c
theorem bnd_touch {c : Nat} {nds : List (Nod κ)} (h : bnd c nds) (k : κ) : bnd (c + 1) (touchN nds k) := by
 unfold touchN
 split
 ·exact ⟨by have := h.1; lia, fun nd hn => by have := h.2 nd hn; lia⟩
 ·refine ⟨by have := h.1; simp; lia, fun nd hn => ?_⟩
  rcases List.mem_append.mp hn with hn | hn
  ·have := h.2 nd hn; lia
  ·simp at hn; subst hn; simp
theorem bnd_bump {c : Nat} {nds : List (Nod κ)} (h : bnd c nds) (k : κ) (i : Int) : bnd c (bumpN nds k i) := by
 refine ⟨by simpa [bumpN, onKey] using h.1, fun nd hn => ?_⟩
 obtain ⟨z, hz, rfl⟩ := List.mem_map.mp hn
 dsimp only
 split <;> exact h.2 z hz
theorem bnd_push {c : Nat} {nds : List (Nod κ)} (h : bnd c nds) (p k : κ) : bnd (c + 1) (pushN nds p k) := by
 refine ⟨by have := h.1; simp [pushN, onKey]; lia, fun nd hn => ?_⟩
 obtain ⟨z, hz, rfl⟩ := List.mem_map.mp hn
 have := h.2 z hz
 dsimp only
 split
 ·simp; lia
 ·lia
theorem set_onKey {ns : List (NA × Nod κ)} {j : Nat} {p : NA} {nd : Nod κ} (f : Nod κ → Nod κ) (hn : (ns.map (·.2.key)).Nodup) (h : ns[j]? = some (p, nd)) : (ns.set j (p, f nd)).map (·.2) = onKey nd.key f (ns.map (·.2)) := by
 induction ns generalizing j with
 | nil => simp at h
 | cons c ns ih =>
  rw [List.map_cons, List.nodup_cons] at hn
  cases j with
  | zero =>
   simp at h; subst h
   simp only [List.set_cons_zero, List.map_cons, onKey, if_true]
   congr 1
   have : ∀ z ∈ ns.map (·.2), z.key ≠ nd.key := by
    intro z hz e
    obtain ⟨q, hq, rfl⟩ := List.mem_map.mp hz
    exact hn.1 (by rw [← e]; exact List.mem_map_of_mem (f := fun q => q.2.key) hq)
   symm
   rw [List.map_congr_left (g := id) (fun z hz => by simp [this z hz])]
   simp
  | succ j =>
   simp at h
   have : c.2.key ≠ nd.key := fun e => hn.1 (e ▸ List.mem_map_of_mem (f := fun q => q.2.key) (List.mem_of_getElem? h))
   simp only [List.set_cons_succ, List.map_cons, onKey, if_neg this]
   congr 1
   exact ih hn.2 h
theorem St.keys (S : St B fs (srtL knd x dx m rv pa fi ns ++ L) s) : (ns.map (·.2.key)).Nodup := by
 have hd := S.dic (d := m) (knd := knd) (kvs := kvsOf ns) (by unfold srtL; wtm_at "mem")
 obtain ⟨o, es, ep, ho, _, _, _, _, hn⟩ := hd
 rw [kvsOf, List.map_map] at hn
 exact hn
theorem Upd.nod {a : Addr} {z y : O} {j : Nat} {q q' : NA × Nod κ} (h : ns[j]? = some q) (u : Upd a z y (nodL knd q) (nodL knd q')) (hk : q'.1.i = q.1.i ∧ q'.2.key = q.2.key) :
  Upd a z y (srtL knd x dx m rv pa fi ns ++ L) (srtL knd x dx m rv pa fi (ns.set j q') ++ L) := by
 have : kvsOf (ns.set j q') = kvsOf ns := by
  unfold kvsOf
  rw [List.map_set, hk.1, hk.2]
  apply List.ext_getElem?
  intro i
  rw [List.getElem?_set]
  split
  ·rename_i e; subst e
   rw [List.getElem?_map, h]
   have : j < ns.length := (List.getElem?_eq_some_iff.mp h).1
   simp [this]
  ·rfl
 unfold srtL
 rw [this]
 exact .there (.there (.there ((Upd.flat h u).right L)))
theorem mem_nod {p : Addr × O} {j : Nat} {q : NA × Nod κ} (h : ns[j]? = some q) (hm : p ∈ nodL knd q) : p ∈ srtL knd x dx m rv pa fi ns ++ L := by
 unfold srtL
 exact List.mem_append_left _ (List.mem_cons_of_mem _ (List.mem_cons_of_mem _ (List.mem_cons_of_mem _ (mem_flat h hm))))
theorem St.srtIn {p : Addr × Mine.O} (S : St B fs (p :: (srtL knd x dx m rv pa fi ns ++ L)) s) : St B fs (srtL knd x dx m rv pa fi ns ++ p :: L) s := S.perm List.perm_middle.symm
theorem St.srtOut {p : Addr × Mine.O} (S : St B fs (srtL knd x dx m rv pa fi ns ++ p :: L) s) : St B fs (p :: (srtL knd x dx m rv pa fi ns ++ L)) s := S.perm List.perm_middle
end
noncomputable section
namespace add_spec_w
def Pw (prog : Program) (w : World) (B : Bs) (fs : List Fm) (L : List (Addr × O)) (s : Shared) (A : Around) (n : Nat) (es : List Env) (κ : Type) [inst : DecidableEq κ] (x dx m : Addr) (key : Value) (pa fi : Int) (k : κ) (knd : KeyKind prog w κ) (ns : List (NA × Nod κ)) (R : Result → Shared → Prop) (ps : List κ) (pvs : List Value) (c : Nat) : Prop := ∀ (O : Ok B w) (S : St B fs (srtL knd x dx m .none pa fi ns ++ L) s) (hA : AOk A (n + 4) es) (hm : (m == sysModules) = false) (hk : knd.is k key = true) (hps : F2 (keyV knd) ps pvs) (hb : bnd c (ns.map (·.2))) (hc : c + 2 * ps.length + 2 < 1000) (hR : ∀ (ns' : List (NA × Nod κ)) s', ns'.map (·.2) = addN (ns.map (·.2)) k ps → St B fs (srtL knd x dx m .none pa fi ns' ++ L) s' → R (.ok (.ret .none)) s'),
  codeAny (model prog w) A (.call (.ref 101) ⟨.ref x :: key :: pvs, []⟩) R s
def Hw (x : (z : KK) × (Bs × (List Fm) × (List (Addr × O)) × Shared × Around × Nat × (List Env) × Addr × Addr × Addr × Value × Int × Int × z.κ × (List (NA × Nod z.κ)) × (Result → Shared → Prop) × (List z.κ) × (List Value) × Nat)) : Prop := @Pw x.1.prog x.1.w x.2.1 x.2.2.1 x.2.2.2.1 x.2.2.2.2.1 x.2.2.2.2.2.1 x.2.2.2.2.2.2.1 x.2.2.2.2.2.2.2.1 x.1.κ x.1.inst x.2.2.2.2.2.2.2.2.1 x.2.2.2.2.2.2.2.2.2.1 x.2.2.2.2.2.2.2.2.2.2.1 x.2.2.2.2.2.2.2.2.2.2.2.1 x.2.2.2.2.2.2.2.2.2.2.2.2.1 x.2.2.2.2.2.2.2.2.2.2.2.2.2.1 x.2.2.2.2.2.2.2.2.2.2.2.2.2.2.1 x.1.knd x.2.2.2.2.2.2.2.2.2.2.2.2.2.2.2.1 x.2.2.2.2.2.2.2.2.2.2.2.2.2.2.2.2.1 x.2.2.2.2.2.2.2.2.2.2.2.2.2.2.2.2.2.1 x.2.2.2.2.2.2.2.2.2.2.2.2.2.2.2.2.2.2.1 x.2.2.2.2.2.2.2.2.2.2.2.2.2.2.2.2.2.2.2
@[irreducible] def cw := worst (ne8 (by repeat (first | refine ne5 ?_ ?_ | exact ne1 | exact ne2 | exact ne3 | exact ne4 | exact inferInstance | exact ne7 | exact ⟨⟨0, 0, 0, 0, 0, 0, 0, 0⟩⟩))) Hw
def prog := cw.1.prog
def w := cw.1.w
def B := cw.2.1
def fs := cw.2.2.1
def L := cw.2.2.2.1
def s := cw.2.2.2.2.1
def A := cw.2.2.2.2.2.1
def n := cw.2.2.2.2.2.2.1
def es := cw.2.2.2.2.2.2.2.1
def κ := cw.1.κ
def inst : DecidableEq κ := cw.1.inst
def x := cw.2.2.2.2.2.2.2.2.1
def dx := cw.2.2.2.2.2.2.2.2.2.1
def m := cw.2.2.2.2.2.2.2.2.2.2.1
def key := cw.2.2.2.2.2.2.2.2.2.2.2.1
def pa := cw.2.2.2.2.2.2.2.2.2.2.2.2.1
def fi := cw.2.2.2.2.2.2.2.2.2.2.2.2.2.1
def k : κ := cw.2.2.2.2.2.2.2.2.2.2.2.2.2.2.1
def knd : @PySem.KeyKind prog w κ inst := cw.1.knd
def ns : List (NA × Nod κ) := cw.2.2.2.2.2.2.2.2.2.2.2.2.2.2.2.1
def R := cw.2.2.2.2.2.2.2.2.2.2.2.2.2.2.2.2.1
def ps : List κ := cw.2.2.2.2.2.2.2.2.2.2.2.2.2.2.2.2.2.1
def pvs := cw.2.2.2.2.2.2.2.2.2.2.2.2.2.2.2.2.2.2.1
def c := cw.2.2.2.2.2.2.2.2.2.2.2.2.2.2.2.2.2.2.2
theorem run : @Pw prog w B fs L s A n es κ inst x dx m key pa fi k knd ns R ps pvs c := by
 letI := inst
 intro O S hA hm hk hps hb hc hR
 refine call_gen (a := 101) (names := ["self", "node", "predecessors"]) (rest := ["nodeinfo", "pred", "pred_info"]) O S hA (S.K O _ _ rfl) rfl (codeRec_of (S.K O) (by kernel_rfl)) rfl (by decide +kernel) (by decide +kernel) (by decide +kernel) rfl rfl rfl ?_
 intro E
 refine w_eq (t' := newTuple pvs >>= fun t => pure [(Str.ofString "self", .ref x), (Str.ofString "node", key), (Str.ofString "predecessors", t)]) (by clear hps hR; cases pvs <;> kernel_rfl) ?_
 refine wpAny_bind (n_tup S (line_le (by have := hps.len; lia)) ?_)
 clear S; intro pt s S
 refine wpAny_pure ⟨[.ref x, key, .ref pt], _, rfl, rfl, S, ?_⟩
 clear S; (try clear LL); (try clear LL); clear hA; intro env nd kd fn s hE _h1 _h2 _h3 S hA E; clear _h1 _h2 _h3
 dsimp only at hE
 wtm_at "us"
 dsimp only [List.map, List.append, List.cons_append, List.nil_append] at S
 replace S := (S.weak (y := tupR (keyV knd) ps) .here (fun o h => ⟨pvs, hps, h⟩)).perm List.perm_middle.symm
 wtm_at "if"
 wtm_at "go"
 refine get_rdy O S (S.at (by wtm_at "srt")) (S.at (by wtm_at "srt")) rfl ?_
 clear S; intro s S
 wtm_at "go"
 refine srt_meth (f := 94) O S (S.at (by wtm_at "srt")) (S.at (by wtm_at "srt")) (by decide +kernel) (fun _ => by kernel_rfl) (fun _ => by kernel_rfl) ?_
 refine cw_K O (fun _ => by kernel_rfl) ?_
 wtm_at "go"
 refine ⟨S.K O, w_call ?_⟩
 refine getinfo_spec O S hA hm hk (by have := hb.1; rw [List.length_map] at this; lia) ?_
 clear S; intro ns1 j p nd' s hns1 hj hkey S
 refine ret_ok ?_
 have hb1 : bnd (c + 1) (ns1.map (·.2)) := hns1 ▸ bnd_touch hb k
 wtm_at "go"
 wtm_at "pk"
 obtain ⟨o, ho, kv, t, hkv, hsl⟩ := S.at (mem_nod hj List.mem_cons_self)
 refine get_np O S ⟨o, ho, hsl⟩ (S.at (mem_nod hj (by wtm_at "nod"))) rfl rfl ?_
 clear S; (try clear LL); (try clear LL); clear ho; intro s S
 wtm_at "go"
 wtm_at "pk"
 obtain ⟨pvs', hpv, hT⟩ := S.isTR (a := pt) (by wtm_at "mem")
 refine len_tup hT S (by have := hpv.len; lia) ?_
 clear S; (try clear LL); (try clear LL); clear hT; intro t' s S
 wtm_at "go"
 wtm_at "pk"
 obtain ⟨o, ho, kv, t1, hkv, hsl⟩ := S.at (mem_nod hj List.mem_cons_self)
 have hset := set_onKey (fun nd => { nd with np := nd.np + ps.length }) S.keys hj
 refine set_np O S (Upd.nod (q' := (p, { nd' with np := nd'.np + ps.length })) hj .here ⟨rfl, rfl⟩) ⟨o, ho, hsl⟩ (S.at (mem_nod hj (by wtm_at "nod"))) (sl' := [some kv, some (.int (nd'.np + pvs'.length) tok), some (.ref p.su)]) rfl (fun o h => ⟨kv, tok, hkv, by rw [hpv.len] at h; exact h⟩) ?_
 clear S; (try clear LL); (try clear LL); clear ho; intro s S
 have hns2 : (ns1.set j (p, { nd' with np := nd'.np + ps.length })).map (·.2) = bumpN (touchN (ns.map (·.2)) k) k ps.length := by
  rw [hset, hns1, hkey]; rfl
 have hb2 : bnd (c + 1) ((ns1.set j (p, { nd' with np := nd'.np + ps.length })).map (·.2)) := by rw [hns2]; exact bnd_bump (bnd_touch hb k) _ _
 wtm_at "us"
 generalize ns1.set j (p, { nd' with np := nd'.np + ps.length }) = ns2 at S hns2 hb2
 wtm_at "go"
 wtm_at "pk"
 obtain ⟨pvs'', hpv', hT⟩ := S.isTR (a := pt) (by wtm_at "mem")
 refine pi_tup S hT ?_
 clear S; (try clear LL); (try clear LL); clear hT; intro it s S
 wtm_at "un"
 let V1 := fun (_ : Nat) (_ : List (NA × Nod κ)) (a b : Option Value) => [some (Value.ref x), some key, some (.ref pt), some (.ref p.i), a, b]
 let G1 := fun (_ : Nat) (ns3 : List (NA × Nod κ)) (_ _ : Option Value) => srtL knd x dx m .none pa fi ns3 ++ (pt, tupR (keyV knd) ps) :: L
 refine for3 (Itr.tup _ _ it pt (Src.tupR (keyV knd) ps)) hA.hand V1 G1 (fun i ns3 _ _ => bnd (c + 1 + 2 * i) (ns3.map (·.2)) ∧
   ns3.map (·.2) = (ps.take i).foldl (fun ns p => pushN (touchN ns p) p k) (bumpN (touchN (ns.map (·.2)) k) k ps.length))
  (fun _ _ _ _ _ => one_src (by wtm_at "mem")) ns2 _ _ S ⟨hb2, by simpa using hns2⟩ ?_ ?_
 ·clear S; intro i ns3 a b v X s E K1 fin1 hi hH hJ2 S
  wtm_at "pq"
  wtm_at "pk"
  obtain ⟨⟨pk, hpk, hpv⟩, rfl⟩ := hJ2
  obtain ⟨hb3, hn3⟩ := hH
  wtm_at "ps"
  replace S := S.srtIn
  wtm_at "go"
  refine srt_meth (f := 94) O S (S.at (by wtm_at "srt")) (S.at (by wtm_at "srt")) (by decide +kernel) (fun _ => by kernel_rfl) (fun _ => by kernel_rfl) ?_
  refine cw_K O (fun _ => by kernel_rfl) ?_
  wtm_at "go"
  refine ⟨S.K O, w_call ?_⟩
  refine getinfo_spec O S hA hm hpv (by have := hb3.1; rw [List.length_map] at this; lia) ?_
  clear S; intro ns4 j4 p4 nd4 s hns4 hj4 hkey4 S
  refine ret_ok ?_
  have hb4 : bnd (c + 1 + 2 * i + 1) (ns4.map (·.2)) := hns4 ▸ bnd_touch hb3 pk
  wtm_at "go"
  wtm_at "pk"
  obtain ⟨o, ho, kv, t, hkv, hsl⟩ := S.at (mem_nod hj4 List.mem_cons_self)
  refine get_suc O S ⟨o, ho, hsl⟩ (S.at (mem_nod hj4 (by wtm_at "nod"))) rfl rfl ?_
  clear S; (try clear LL); (try clear LL); clear ho; intro s S
  wtm_at "pk"
  obtain ⟨sv, hsv, hSu⟩ := S.isLR (a := p4.su) (mem_nod hj4 (by wtm_at "nod"))
  refine gm_list hSu PySem.F.slot_list_append PySem.F.type_list_append ?_
  wtm_at "go"
  refine l_append (Upd.nod (q' := (p4, { nd4 with suc := nd4.suc ++ [k] })) hj4 (.there (.there .here)) ⟨rfl, rfl⟩) S hSu (fun o h => ⟨_, hsv.append (.cons hk .nil), h⟩) (line_le (by
   have := hb4.2 nd4 (List.mem_map_of_mem (f := fun q => q.2) (List.mem_of_getElem? hj4)); have := hsv.len; lia)) ?_
  have hset4 := set_onKey (fun nd => { nd with suc := nd.suc ++ [k] }) S.keys hj4
  clear S; (try clear LL); (try clear LL); clear hSu; intro s S
  refine ⟨rfl, ?_⟩
  wtm_at "go"
  refine fin1 _ _ _ _ ⟨?_, ?_⟩ S.srtOut
  ·rw [hset4, hkey4]; exact bnd_push hb4 pk k
  ·rw [hset4, hkey4, hns4, hn3, List.take_add_one, hpk]
   simp only [Option.toList_some, List.foldl_append, List.foldl_cons, List.foldl_nil]
   rfl
 ·clear S; intro ns3 a b s hH S
  wtm_at "pk"
  obtain ⟨hb3, hn3⟩ := hH
  wtm_at "ps"
  wtm_at "go"
  exact hR ns3 _ (by rw [hn3, List.take_length]; rfl) (S.pop.srtOut.less (List.sublist_cons_self ..))
end add_spec_w
end
theorem add_spec {prog : Program} {w : World} {B : Bs} {fs : List Fm} {L : List (Addr × O)} {s : Shared} {A : Around} {n : Nat} {es : List Env} {κ : Type} [inst : DecidableEq κ] {x dx m : Addr} {key : Value} {pa fi : Int} {k : κ} {knd : KeyKind prog w κ} {ns : List (NA × Nod κ)} {R : Result → Shared → Prop} {ps : List κ} {pvs : List Value} {c : Nat} : @add_spec_w.Pw prog w B fs L s A n es κ inst x dx m key pa fi k knd ns R ps pvs c := worst_of (Q := add_spec_w.Hw) (by with_unfolding_all rfl) add_spec_w.run ⟨⟨prog, w, κ, inst, knd⟩, B, fs, L, s, A, n, es, x, dx, m, key, pa, fi, k, ns, R, ps, pvs, c⟩
section
end
end
section
section
variable {prog : Program} {w : World} {B : Bs} {fs : List Fm} {L L' : List (Addr × O)} {s : Shared} {A : Around} {E : Value → Shared → Prop} {n : Nat} {es : List Env} {κ : Type} [DecidableEq κ] {x dx m r : Addr} {v rv key : Value} {pa fi : Int} {k : κ} {knd : KeyKind prog w κ} {ns : List (NA × Nod κ)} {rd : List κ}
noncomputable def outN (nds : List (Nod κ)) (rd : List κ) : List (Nod κ) := rd.foldl (fun ns k => onKey k (fun nd => { nd with np := -1 }) ns) nds
theorem keys_onKey (k : κ) (f : Nod κ → Nod κ) (hf : ∀ nd, (f nd).key = nd.key) (nds : List (Nod κ)) : (onKey k f nds).map (·.key) = nds.map (·.key) := by
 unfold onKey
 rw [List.map_map]
 apply List.map_congr_left
 intro nd _
 simp only [Function.comp]
 split
 ·exact hf nd
 ·rfl
theorem keys_outN (nds : List (Nod κ)) (rd : List κ) : (outN nds rd).map (·.key) = nds.map (·.key) := by
 unfold outN
 induction rd generalizing nds with
 | nil => rfl
 | cons k rd ih => rw [List.foldl_cons, ih, keys_onKey k (fun nd => { nd with np := -1 }) (fun _ => rfl)]
theorem nod_of_key {ns : List (NA × Nod κ)} {k : κ} (h : k ∈ (ns.map (·.2)).map (·.key)) : ∃ (j : Nat) (p : NA) (nd : Nod κ), ns[j]? = some (p, nd) ∧ nd.key = k := by
 obtain ⟨nd, hnd, rfl⟩ := List.mem_map.mp h
 obtain ⟨q, hq, rfl⟩ := List.mem_map.mp hnd
 obtain ⟨j, hj, e⟩ := List.getElem_of_mem hq
 exact ⟨j, q.1, q.2, by simp [hj, e], rfl⟩
theorem Upd.srt {rv' : Value} {pa' fi' : Int} : Upd dx (srtN m rv pa fi) (srtN m rv' pa' fi') (srtL knd x dx m rv pa fi ns ++ L) (srtL knd x dx m rv' pa' fi' ns ++ L) := .there .here
end
noncomputable section
namespace ready_spec_w
def Pw (prog : Program) (w : World) (B : Bs) (fs : List Fm) (L : List (Addr × O)) (s : Shared) (A : Around) (n : Nat) (es : List Env) (κ : Type) [inst : DecidableEq κ] (x dx m r : Addr) (pa fi : Int) (knd : KeyKind prog w κ) (ns : List (NA × Nod κ)) (rd : List κ) (R : Result → Shared → Prop) : Prop := ∀ (O : Ok B w) (S : St B fs (srtL knd x dx m (.ref r) pa fi ns ++ (r, lstR (keyV knd) rd) :: L) s) (hA : AOk A (n + 1) es) (hm : (m == sysModules) = false) (hpre : ∀ k ∈ rd, k ∈ (ns.map (·.2)).map (·.key)) (hz : rd.length < 1000) (hR : ∀ t (ns' : List (NA × Nod κ)) s', ns'.map (·.2) = outN (ns.map (·.2)) rd → St B fs (srtL knd x dx m (.ref r) (pa + rd.length) fi ns' ++ (r, lstR (keyV knd) []) :: (t, tupR (keyV knd) rd) :: L) s' → R (.ok (.ret (.ref t))) s'),
  codeAny (model prog w) A (.call (.ref 113) ⟨[.ref x], []⟩) R s
def Hw (x : (z : KK) × (Bs × (List Fm) × (List (Addr × O)) × Shared × Around × Nat × (List Env) × Addr × Addr × Addr × Addr × Int × Int × (List (NA × Nod z.κ)) × (List z.κ) × (Result → Shared → Prop))) : Prop := @Pw x.1.prog x.1.w x.2.1 x.2.2.1 x.2.2.2.1 x.2.2.2.2.1 x.2.2.2.2.2.1 x.2.2.2.2.2.2.1 x.2.2.2.2.2.2.2.1 x.1.κ x.1.inst x.2.2.2.2.2.2.2.2.1 x.2.2.2.2.2.2.2.2.2.1 x.2.2.2.2.2.2.2.2.2.2.1 x.2.2.2.2.2.2.2.2.2.2.2.1 x.2.2.2.2.2.2.2.2.2.2.2.2.1 x.2.2.2.2.2.2.2.2.2.2.2.2.2.1 x.1.knd x.2.2.2.2.2.2.2.2.2.2.2.2.2.2.1 x.2.2.2.2.2.2.2.2.2.2.2.2.2.2.2.1 x.2.2.2.2.2.2.2.2.2.2.2.2.2.2.2.2
@[irreducible] def cw := worst (ne8 (by repeat (first | refine ne5 ?_ ?_ | exact ne1 | exact ne2 | exact ne3 | exact ne4 | exact inferInstance | exact ne7 | exact ⟨⟨0, 0, 0, 0, 0, 0, 0, 0⟩⟩))) Hw
def prog := cw.1.prog
def w := cw.1.w
def B := cw.2.1
def fs := cw.2.2.1
def L := cw.2.2.2.1
def s := cw.2.2.2.2.1
def A := cw.2.2.2.2.2.1
def n := cw.2.2.2.2.2.2.1
def es := cw.2.2.2.2.2.2.2.1
def κ := cw.1.κ
def inst : DecidableEq κ := cw.1.inst
def x := cw.2.2.2.2.2.2.2.2.1
def dx := cw.2.2.2.2.2.2.2.2.2.1
def m := cw.2.2.2.2.2.2.2.2.2.2.1
def r := cw.2.2.2.2.2.2.2.2.2.2.2.1
def pa := cw.2.2.2.2.2.2.2.2.2.2.2.2.1
def fi := cw.2.2.2.2.2.2.2.2.2.2.2.2.2.1
def knd : @PySem.KeyKind prog w κ inst := cw.1.knd
def ns : List (NA × Nod κ) := cw.2.2.2.2.2.2.2.2.2.2.2.2.2.2.1
def rd : List κ := cw.2.2.2.2.2.2.2.2.2.2.2.2.2.2.2.1
def R := cw.2.2.2.2.2.2.2.2.2.2.2.2.2.2.2.2
theorem run : @Pw prog w B fs L s A n es κ inst x dx m r pa fi knd ns rd R := by
 letI := inst
 intro O S hA hm hpre hz hR
 refine call_def (a := 113) (names := ["self"]) (rest := ["result", "n2i", "node"]) (vals := [.ref x]) O S hA (fun _ => rfl) rfl (fun _ => by kernel_rfl) rfl rfl rfl (by decide +kernel) (by decide +kernel) (by decide +kernel) rfl rfl rfl ?_
 clear S; (try clear LL); (try clear LL); clear hA; intro env nd kd fn s hE S hA E
 dsimp only at hE
 wtm_at "us"
 dsimp only [List.map, List.append, List.cons_append, List.nil_append] at S
 wtm_at "if"
 wtm_at "go"
 refine get_rdy O S (S.at (by wtm_at "srt")) (S.at (by wtm_at "srt")) rfl ?_
 clear S; intro s S
 wtm_at "go"
 refine get_rdy O S (S.at (by wtm_at "srt")) (S.at (by wtm_at "srt")) rfl ?_
 clear S; intro s S
 wtm_at "go"
 wtm_at "pk"
 obtain ⟨rvs, hrv, hl⟩ := S.isLR (a := r) (by wtm_at "mem")
 refine t_tuple hl S (by have := hrv.len; lia) ?_
 clear S; (try clear LL); (try clear LL); clear hl; intro t s S
 replace S := (S.weak (y := tupR (keyV knd) rd) .here (fun o h => ⟨_, hrv, h⟩)).srtIn
 wtm_at "go"
 refine get_n2i O S (S.at (by wtm_at "srt")) (S.at (by wtm_at "srt")) ?_
 clear S; intro s S
 wtm_at "go"
 wtm_at "pk"
 obtain ⟨tvs, htv, hT⟩ := S.isTR (a := t) (by wtm_at "mem")
 refine pi_tup S hT ?_
 clear S; (try clear LL); (try clear LL); clear hT; intro it s S
 let V1 := fun (_ : Nat) (_ : List (NA × Nod κ)) (a : Option Value) => [some (Value.ref x), some (.ref t), some (.ref m), a]
 let G1 := fun (_ : Nat) (ns3 : List (NA × Nod κ)) (_ : Option Value) => srtL knd x dx m (.ref r) pa fi ns3 ++ (t, tupR (keyV knd) rd) :: (r, lstR (keyV knd) rd) :: L
 refine for2 (Itr.tup _ _ it t (Src.tupR (keyV knd) rd)) hA.hand V1 G1 (fun i ns3 _ => ns3.map (·.2) = outN (ns.map (·.2)) (rd.take i))
  (fun _ _ _ _ => one_src (by wtm_at "mem")) ns _ S rfl ?_ ?_
 ·clear S; intro i ns3 a v X s E K1 fin1 hi hn3 hJ2 S
  wtm_at "pq"
  wtm_at "pk"
  obtain ⟨⟨pk, hpk, hpv⟩, rfl⟩ := hJ2
  wtm_at "ps"
  replace S := S.srtIn
  wtm_at "go"
  wtm_at "pk"
  obtain ⟨j, p, nd', hj, hkey⟩ := nod_of_key (ns := ns3) (k := pk) (by rw [hn3, keys_outN]; exact hpre pk (List.mem_of_getElem? hpk))
  have hd := S.dic (d := m) (knd := knd) (kvs := kvsOf ns3) (by wtm_at "srt")
  refine sub_dict S hd hpv (v := .ref p.i) (by rw [← hkey]; exact valueAt_at S.keys hj) ?_
  clear S; (try clear LL); (try clear LL); clear hd; intro s S
  have hset := set_onKey (fun nd => { nd with np := -1 }) S.keys hj
  wtm_at "pk"
  obtain ⟨o, ho, kv, t1, hkv, hsl⟩ := S.at (mem_nod hj List.mem_cons_self)
  refine set_np O S (Upd.nod (q' := (p, { nd' with np := -1 })) hj .here ⟨rfl, rfl⟩) ⟨o, ho, hsl⟩ (S.at (mem_nod hj (by wtm_at "nod"))) (sl' := [some kv, some (.int (-1) 217), some (.ref p.su)]) rfl (fun o h => ⟨kv, _, hkv, h⟩) ?_
  clear S; (try clear LL); (try clear LL); clear ho; intro s S
  wtm_at "go"
  refine fin1 _ _ _ ?_ S.srtOut
  rw [hset, hkey, hn3, List.take_add_one, hpk]
  simp only [outN, Option.toList_some, List.foldl_append, List.foldl_cons, List.foldl_nil]
 ·clear S; intro ns3 a s hn3 S
  wtm_at "ps"
  wtm_at "go"
  refine get_rdy O S (S.at (by wtm_at "srt")) (S.at (by wtm_at "srt")) rfl ?_
  clear S; intro s S
  wtm_at "pk"
  obtain ⟨rvs, hrv, hl⟩ := S.isLR (a := r) (by wtm_at "mem")
  refine gm_list hl PySem.F.slot_list_clear PySem.F.type_list_clear ?_
  wtm_at "go"
  refine l_clear (y := lstR (keyV knd) []) ((Upd.there .here).left _) S hl (by have := hrv.len; lia) (fun o h => ⟨[], .nil, h⟩) ?_
  clear S; (try clear LL); (try clear LL); clear hl; intro s S
  refine ⟨rfl, ?_⟩
  wtm_at "go"
  refine get_pa O S (S.at (by wtm_at "srt")) (S.at (by wtm_at "srt")) ?_
  clear S; intro t2 s S
  wtm_at "go"
  wtm_at "pk"
  obtain ⟨tvs, htv, hT⟩ := S.isTR (a := t) (by wtm_at "mem")
  refine len_tup hT S (by have := htv.len; lia) ?_
  clear S; (try clear LL); (try clear LL); clear hT; intro t3 s S
  wtm_at "go"
  rw [htv.len]
  refine set_pa O S (S.at (by wtm_at "srt")) Upd.srt (S.at (by wtm_at "srt")) ?_
  clear S; intro s S
  wtm_at "go"
  exact hR t ns3 _ (by rw [hn3, List.take_length]) (S.pop.perm ((List.Perm.swap ..).append_left _))
end ready_spec_w
end
theorem ready_spec {prog : Program} {w : World} {B : Bs} {fs : List Fm} {L : List (Addr × O)} {s : Shared} {A : Around} {n : Nat} {es : List Env} {κ : Type} [inst : DecidableEq κ] {x dx m r : Addr} {pa fi : Int} {knd : KeyKind prog w κ} {ns : List (NA × Nod κ)} {rd : List κ} {R : Result → Shared → Prop} : @ready_spec_w.Pw prog w B fs L s A n es κ inst x dx m r pa fi knd ns rd R := worst_of (Q := ready_spec_w.Hw) (by with_unfolding_all rfl) ready_spec_w.run ⟨⟨prog, w, κ, inst, knd⟩, B, fs, L, s, A, n, es, x, dx, m, r, pa, fi, ns, rd, R⟩
section
variable {prog : Program} {w : World} {B : Bs} {fs : List Fm} {L L' : List (Addr × O)} {s : Shared} {A : Around} {E : Value → Shared → Prop} {n : Nat} {es : List Env} {κ : Type} [DecidableEq κ] {x dx m r : Addr} {v rv key : Value} {pa fi : Int} {k : κ} {knd : KeyKind prog w κ} {ns : List (NA × Nod κ)} {rd : List κ}
end
noncomputable section
namespace active_spec_w
def Pw (prog : Program) (w : World) (B : Bs) (fs : List Fm) (L : List (Addr × O)) (s : Shared) (A : Around) (n : Nat) (es : List Env) (κ : Type) [inst : DecidableEq κ] (x dx m r : Addr) (pa fi : Int) (knd : KeyKind prog w κ) (ns : List (NA × Nod κ)) (rd : List κ) (R : Result → Shared → Prop) : Prop := ∀ (O : Ok B w) (S : St B fs (srtL knd x dx m (.ref r) pa fi ns ++ (r, lstR (keyV knd) rd) :: L) s) (hA : AOk A (n + 1) es) (hz : rd.length < 1000) (hR : ∀ s', St B fs (srtL knd x dx m (.ref r) pa fi ns ++ (r, lstR (keyV knd) rd) :: L) s' → R (.ok (.ret (.bool (decide (fi < pa) || !rd.isEmpty)))) s'),
  codeAny (model prog w) A (.call (.ref 120) ⟨[.ref x], []⟩) R s
def Hw (x : (z : KK) × (Bs × (List Fm) × (List (Addr × O)) × Shared × Around × Nat × (List Env) × Addr × Addr × Addr × Addr × Int × Int × (List (NA × Nod z.κ)) × (List z.κ) × (Result → Shared → Prop))) : Prop := @Pw x.1.prog x.1.w x.2.1 x.2.2.1 x.2.2.2.1 x.2.2.2.2.1 x.2.2.2.2.2.1 x.2.2.2.2.2.2.1 x.2.2.2.2.2.2.2.1 x.1.κ x.1.inst x.2.2.2.2.2.2.2.2.1 x.2.2.2.2.2.2.2.2.2.1 x.2.2.2.2.2.2.2.2.2.2.1 x.2.2.2.2.2.2.2.2.2.2.2.1 x.2.2.2.2.2.2.2.2.2.2.2.2.1 x.2.2.2.2.2.2.2.2.2.2.2.2.2.1 x.1.knd x.2.2.2.2.2.2.2.2.2.2.2.2.2.2.1 x.2.2.2.2.2.2.2.2.2.2.2.2.2.2.2.1 x.2.2.2.2.2.2.2.2.2.2.2.2.2.2.2.2
@[irreducible] def cw := worst (ne8 (by repeat (first | refine ne5 ?_ ?_ | exact ne1 | exact ne2 | exact ne3 | exact ne4 | exact inferInstance | exact ne7 | exact ⟨⟨0, 0, 0, 0, 0, 0, 0, 0⟩⟩))) Hw
def prog := cw.1.prog
def w := cw.1.w
def B := cw.2.1
def fs := cw.2.2.1
def L := cw.2.2.2.1
def s := cw.2.2.2.2.1
def A := cw.2.2.2.2.2.1
def n := cw.2.2.2.2.2.2.1
def es := cw.2.2.2.2.2.2.2.1
def κ := cw.1.κ
def inst : DecidableEq κ := cw.1.inst
def x := cw.2.2.2.2.2.2.2.2.1
def dx := cw.2.2.2.2.2.2.2.2.2.1
def m := cw.2.2.2.2.2.2.2.2.2.2.1
def r := cw.2.2.2.2.2.2.2.2.2.2.2.1
def pa := cw.2.2.2.2.2.2.2.2.2.2.2.2.1
def fi := cw.2.2.2.2.2.2.2.2.2.2.2.2.2.1
def knd : @PySem.KeyKind prog w κ inst := cw.1.knd
def ns : List (NA × Nod κ) := cw.2.2.2.2.2.2.2.2.2.2.2.2.2.2.1
def rd : List κ := cw.2.2.2.2.2.2.2.2.2.2.2.2.2.2.2.1
def R := cw.2.2.2.2.2.2.2.2.2.2.2.2.2.2.2.2
theorem run : @Pw prog w B fs L s A n es κ inst x dx m r pa fi knd ns rd R := by
 letI := inst
 intro O S hA hz hR
 refine call_def (a := 120) (names := ["self"]) (rest := []) (vals := [.ref x]) O S hA (fun _ => rfl) rfl (fun _ => by kernel_rfl) rfl rfl rfl (by decide +kernel) (by decide +kernel) (by decide +kernel) rfl rfl rfl ?_
 clear S; (try clear LL); (try clear LL); clear hA; intro env nd kd fn s hE S hA E
 dsimp only at hE
 wtm_at "us"
 dsimp only [List.map, List.append, List.cons_append, List.nil_append] at S
 wtm_at "if"
 wtm_at "go"
 refine get_rdy O S (S.at (by wtm_at "srt")) (S.at (by wtm_at "srt")) rfl ?_
 clear S; intro s S
 wtm_at "go"
 refine get_fi O S (S.at (by wtm_at "srt")) (S.at (by wtm_at "srt")) ?_
 clear S; intro t1 s S
 wtm_at "go"
 refine get_pa O S (S.at (by wtm_at "srt")) (S.at (by wtm_at "srt")) ?_
 clear S; intro t2 s S
 wtm_at "go"
 split
 ·rename_i h
  wtm_at "go"
  have := hR _ S.pop
  rw [h] at this ⊢
  exact this
 ·rename_i h
  wtm_at "go"
  refine get_rdy O S (S.at (by wtm_at "srt")) (S.at (by wtm_at "srt")) rfl ?_
  clear S; intro s S
  wtm_at "go"
  wtm_at "pk"
  obtain ⟨rvs, hrv, hl⟩ := S.isLR (a := r) (by wtm_at "mem")
  refine t_bool hl S (by have := hrv.len; lia) ?_
  clear S; (try clear LL); (try clear LL); clear hl; intro s S
  wtm_at "go"
  have := hR _ S.pop
  rw [Bool.not_eq_true] at h
  rw [h] at this
  have e : rvs.isEmpty = rd.isEmpty := by
   have := hrv.len
   generalize rd = q at this ⊢; cases rvs <;> cases q <;> first | rfl | simp at this
  rw [e]
  simpa using this
end active_spec_w
end
theorem active_spec {prog : Program} {w : World} {B : Bs} {fs : List Fm} {L : List (Addr × O)} {s : Shared} {A : Around} {n : Nat} {es : List Env} {κ : Type} [inst : DecidableEq κ] {x dx m r : Addr} {pa fi : Int} {knd : KeyKind prog w κ} {ns : List (NA × Nod κ)} {rd : List κ} {R : Result → Shared → Prop} : @active_spec_w.Pw prog w B fs L s A n es κ inst x dx m r pa fi knd ns rd R := worst_of (Q := active_spec_w.Hw) (by with_unfolding_all rfl) active_spec_w.run ⟨⟨prog, w, κ, inst, knd⟩, B, fs, L, s, A, n, es, x, dx, m, r, pa, fi, ns, rd, R⟩
section
variable {prog : Program} {w : World} {B : Bs} {fs : List Fm} {L L' : List (Addr × O)} {s : Shared} {A : Around} {E : Value → Shared → Prop} {n : Nat} {es : List Env} {κ : Type} [DecidableEq κ] {x dx m r : Addr} {v rv key : Value} {pa fi : Int} {k : κ} {knd : KeyKind prog w κ} {ns : List (NA × Nod κ)} {rd : List κ}
noncomputable def doneN (nds : List (Nod κ)) (rd : List κ) (k : κ) : List (Nod κ) × List κ :=
 ((nds.find? fun nd => nd.key = k).elim [] (·.suc)).foldl (fun (st : List (Nod κ) × List κ) q =>
  let nds' := onKey q (fun nd => { nd with np := nd.np - 1 }) st.1
  (nds', if (nds'.find? fun nd => nd.key = q).any (fun nd => nd.np = 0) then st.2 ++ [q] else st.2)) (onKey k (fun nd => { nd with np := -2 }) nds, rd)
end
end
section
section
variable {κ : Type} [DecidableEq κ]
noncomputable def doneStep (st : List (Nod κ) × List κ) (q : κ) : List (Nod κ) × List κ :=
 (onKey q (fun nd => { nd with np := nd.np - 1 }) st.1, if ((onKey q (fun nd => { nd with np := nd.np - 1 }) st.1).find? fun nd => nd.key = q).any (fun nd => nd.np = 0) then st.2 ++ [q] else st.2)
noncomputable def done1 (st : List (Nod κ) × List κ) (k : κ) : List (Nod κ) × List κ :=
 ((st.1.find? fun nd => nd.key = k).elim [] (·.suc)).foldl doneStep (onKey k (fun nd => { nd with np := -2 }) st.1, st.2)
noncomputable def doneAll (st : List (Nod κ) × List κ) (ks : List κ) : List (Nod κ) × List κ := ks.foldl done1 st
noncomputable def doneOk : List (Nod κ) × List κ → List κ → Prop
 | _, [] => True
 | st, k :: ks => (∃ nd, st.1.find? (fun nd => nd.key = k) = some nd ∧ nd.np = -1 ∧ ∀ q ∈ nd.suc, q ∈ st.1.map (·.key)) ∧ doneOk (done1 st k) ks
theorem doneOk_drop {st : List (Nod κ) × List κ} {ks : List κ} (h : doneOk st ks) (i : Nat) : doneOk (doneAll st (ks.take i)) (ks.drop i) := by
 induction ks generalizing st i with
 | nil => simp [doneAll, doneOk]
 | cons k ks ih =>
  cases i with
  | zero => exact h
  | succ i => exact ih h.2 i
noncomputable def same2 (a b : List (Nod κ)) : Prop := a.map (·.key) = b.map (·.key) ∧ a.map (·.suc) = b.map (·.suc)
theorem same2_onKey (k : κ) (f : Nod κ → Nod κ) (hf : ∀ nd, (f nd).key = nd.key ∧ (f nd).suc = nd.suc) (nds : List (Nod κ)) : same2 (onKey k f nds) nds := by
 refine ⟨keys_onKey k f (fun nd => (hf nd).1) nds, ?_⟩
 unfold onKey
 rw [List.map_map]
 apply List.map_congr_left
 intro nd _
 simp only [Function.comp]
 split
 ·exact (hf nd).2
 ·rfl
theorem same2.trans {a b c : List (Nod κ)} (h : same2 a b) (k : same2 b c) : same2 a c := ⟨h.1.trans k.1, h.2.trans k.2⟩
theorem same2_step (st : List (Nod κ) × List κ) (q : κ) : same2 (doneStep st q).1 st.1 := same2_onKey q (fun nd => { nd with np := nd.np - 1 }) (fun _ => ⟨rfl, rfl⟩) _
theorem same2_steps (l : List κ) (st : List (Nod κ) × List κ) : same2 (l.foldl doneStep st).1 st.1 := by
 induction l generalizing st with
 | nil => exact ⟨rfl, rfl⟩
 | cons q l ih => exact (ih _).trans (same2_step st q)
theorem same2_done1 (st : List (Nod κ) × List κ) (k : κ) : same2 (done1 st k).1 st.1 := (same2_steps _ _).trans (same2_onKey k (fun nd => { nd with np := -2 }) (fun _ => ⟨rfl, rfl⟩) _)
theorem same2_doneAll (ks : List κ) (st : List (Nod κ) × List κ) : same2 (doneAll st ks).1 st.1 := by
 induction ks generalizing st with
 | nil => exact ⟨rfl, rfl⟩
 | cons k ks ih => exact (ih _).trans (same2_done1 st k)
theorem same2.bnd {a b : List (Nod κ)} (h : same2 a b) {c : Nat} (hb : bnd c b) : bnd c a := by
 refine ⟨by have := congrArg List.length h.1; simp at this; rw [this]; exact hb.1, fun nd hn => ?_⟩
 have : nd.suc ∈ b.map (·.suc) := h.2 ▸ List.mem_map_of_mem hn
 obtain ⟨z, hz, e⟩ := List.mem_map.mp this
 rw [← e]; exact hb.2 z hz
theorem same2.at {a b : List (Nod κ)} (h : same2 a b) {j : Nat} {nd : Nod κ} (e : b[j]? = some nd) : ∃ nd', a[j]? = some nd' ∧ nd'.key = nd.key ∧ nd'.suc = nd.suc := by
 have h1 := congrArg (fun l => l[j]?) h.1
 have h2 := congrArg (fun l => l[j]?) h.2
 simp only [List.getElem?_map, e, Option.map_some] at h1 h2
 obtain ⟨nd', e1, e2⟩ := Option.map_eq_some_iff.mp h1
 obtain ⟨nd'', e3, e4⟩ := Option.map_eq_some_iff.mp h2
 rw [e1] at e3; cases e3
 exact ⟨nd', e1, e2, e4⟩
theorem find_key {nds : List (Nod κ)} {j : Nat} {nd : Nod κ} (hn : (nds.map (·.key)).Nodup) (h : nds[j]? = some nd) : nds.find? (fun z => z.key = nd.key) = some nd := by
 induction nds generalizing j with
 | nil => simp at h
 | cons c nds ih =>
  rw [List.map_cons, List.nodup_cons] at hn
  rw [List.find?_cons]
  cases j with
  | zero => simp at h; subst h; simp
  | succ j =>
   simp at h
   have : c.key ≠ nd.key := fun e => hn.1 (e ▸ List.mem_map_of_mem (f := fun q => q.key) (List.mem_of_getElem? h))
   simp only [this, decide_false]
   exact ih hn.2 h
theorem len_step (st : List (Nod κ) × List κ) (q : κ) : (doneStep st q).2.length ≤ st.2.length + 1 := by
 unfold doneStep
 dsimp only
 split <;> simp
theorem len_steps (l : List κ) (st : List (Nod κ) × List κ) : (l.foldl doneStep st).2.length ≤ st.2.length + l.length := by
 induction l generalizing st with
 | nil => simp
 | cons q l ih => have := ih (doneStep st q); have := len_step st q; simp only [List.foldl_cons, List.length_cons]; lia
theorem len_done1 {st : List (Nod κ) × List κ} {c : Nat} (hb : bnd c st.1) (k : κ) : (done1 st k).2.length ≤ st.2.length + c := by
 have h1 := len_steps ((st.1.find? fun nd => nd.key = k).elim [] (·.suc)) (onKey k (fun nd => { nd with np := -2 }) st.1, st.2)
 have h2 : ((st.1.find? fun nd => nd.key = k).elim [] (·.suc)).length ≤ c := by
  cases q : st.1.find? (fun nd => nd.key = k) with
  | none => simp
  | some nd => exact hb.2 nd (List.mem_of_find?_eq_some q)
 unfold done1
 dsimp only at h1
 lia
end
end
section
section
variable {prog : Program} {w : World} {B : Bs} {fs : List Fm} {L L' : List (Addr × O)} {s : Shared} {A : Around} {E : Value → Shared → Prop} {n : Nat} {es : List Env} {κ : Type} [DecidableEq κ] {x dx m r : Addr} {v rv key : Value} {pa fi : Int} {k : κ} {knd : KeyKind prog w κ} {ns : List (NA × Nod κ)} {rd : List κ}
theorem set_fst {ns : List (NA × Nod κ)} {j : Nat} {p : NA} {nd nd' : Nod κ} (h : ns[j]? = some (p, nd)) : (ns.set j (p, nd')).map (·.1) = ns.map (·.1) := by
 rw [List.map_set]
 apply List.ext_getElem?
 intro i
 rw [List.getElem?_set]
 split
 ·rename_i e; subst e
  have : j < ns.length := (List.getElem?_eq_some_iff.mp h).1
  rw [List.getElem?_map, h]; simp [this]
 ·rfl
theorem both_at {ns : List (NA × Nod κ)} {j : Nat} {p : NA} {nd : Nod κ} (h1 : (ns.map (·.1))[j]? = some p) (h2 : (ns.map (·.2))[j]? = some nd) : ns[j]? = some (p, nd) := by
 rw [List.getElem?_map] at h1 h2
 obtain ⟨q, e, rfl⟩ := Option.map_eq_some_iff.mp h1
 obtain ⟨q', e', rfl⟩ := Option.map_eq_some_iff.mp h2
 rw [e] at e'; cases e'
 exact e
theorem rot3 {α : Type} (a b c : α) (l : List α) : (a :: b :: c :: l).Perm (c :: a :: b :: l) := (List.Perm.cons _ (.swap ..)).trans (.swap ..)
theorem rot3' {α : Type} (c a b : α) (l : List α) : (c :: a :: b :: l).Perm (a :: b :: c :: l) := (rot3 a b c l).symm
end
noncomputable section
namespace done_spec_w
def Pw (prog : Program) (w : World) (B : Bs) (fs : List Fm) (L : List (Addr × O)) (s : Shared) (A : Around) (n : Nat) (es : List Env) (κ : Type) [inst : DecidableEq κ] (x dx m r : Addr) (pa fi : Int) (knd : KeyKind prog w κ) (ns : List (NA × Nod κ)) (rd : List κ) (R : Result → Shared → Prop) (ks : List κ) (kvs : List Value) (c : Nat) : Prop := ∀ (O : Ok B w) (S : St B fs (srtL knd x dx m (.ref r) pa fi ns ++ (r, lstR (keyV knd) rd) :: L) s) (hA : AOk A (n + 1) es) (hm : (m == sysModules) = false) (hks : F2 (keyV knd) ks kvs) (hok : doneOk (ns.map (·.2), rd) ks) (hb : bnd c (ns.map (·.2))) (hz : rd.length + c * ks.length ≤ 5000) (hkl : ks.length ≤ 1000) (hc : c ≤ 1000) (hR : ∀ (ns' : List (NA × Nod κ)) rd' s', (ns'.map (·.2), rd') = doneAll (ns.map (·.2), rd) ks → St B fs (srtL knd x dx m (.ref r) pa (fi + ks.length) ns' ++ (r, lstR (keyV knd) rd') :: L) s' → R (.ok (.ret .none)) s'),
  codeAny (model prog w) A (.call (.ref 134) ⟨.ref x :: kvs, []⟩) R s
def Hw (x : (z : KK) × (Bs × (List Fm) × (List (Addr × O)) × Shared × Around × Nat × (List Env) × Addr × Addr × Addr × Addr × Int × Int × (List (NA × Nod z.κ)) × (List z.κ) × (Result → Shared → Prop) × (List z.κ) × (List Value) × Nat)) : Prop := @Pw x.1.prog x.1.w x.2.1 x.2.2.1 x.2.2.2.1 x.2.2.2.2.1 x.2.2.2.2.2.1 x.2.2.2.2.2.2.1 x.2.2.2.2.2.2.2.1 x.1.κ x.1.inst x.2.2.2.2.2.2.2.2.1 x.2.2.2.2.2.2.2.2.2.1 x.2.2.2.2.2.2.2.2.2.2.1 x.2.2.2.2.2.2.2.2.2.2.2.1 x.2.2.2.2.2.2.2.2.2.2.2.2.1 x.2.2.2.2.2.2.2.2.2.2.2.2.2.1 x.1.knd x.2.2.2.2.2.2.2.2.2.2.2.2.2.2.1 x.2.2.2.2.2.2.2.2.2.2.2.2.2.2.2.1 x.2.2.2.2.2.2.2.2.2.2.2.2.2.2.2.2.1 x.2.2.2.2.2.2.2.2.2.2.2.2.2.2.2.2.2.1 x.2.2.2.2.2.2.2.2.2.2.2.2.2.2.2.2.2.2.1 x.2.2.2.2.2.2.2.2.2.2.2.2.2.2.2.2.2.2.2
@[irreducible] def cw := worst (ne8 (by repeat (first | refine ne5 ?_ ?_ | exact ne1 | exact ne2 | exact ne3 | exact ne4 | exact inferInstance | exact ne7 | exact ⟨⟨0, 0, 0, 0, 0, 0, 0, 0⟩⟩))) Hw
def prog := cw.1.prog
def w := cw.1.w
def B := cw.2.1
def fs := cw.2.2.1
def L := cw.2.2.2.1
def s := cw.2.2.2.2.1
def A := cw.2.2.2.2.2.1
def n := cw.2.2.2.2.2.2.1
def es := cw.2.2.2.2.2.2.2.1
def κ := cw.1.κ
def inst : DecidableEq κ := cw.1.inst
def x := cw.2.2.2.2.2.2.2.2.1
def dx := cw.2.2.2.2.2.2.2.2.2.1
def m := cw.2.2.2.2.2.2.2.2.2.2.1
def r := cw.2.2.2.2.2.2.2.2.2.2.2.1
def pa := cw.2.2.2.2.2.2.2.2.2.2.2.2.1
def fi := cw.2.2.2.2.2.2.2.2.2.2.2.2.2.1
def knd : @PySem.KeyKind prog w κ inst := cw.1.knd
def ns : List (NA × Nod κ) := cw.2.2.2.2.2.2.2.2.2.2.2.2.2.2.1
def rd : List κ := cw.2.2.2.2.2.2.2.2.2.2.2.2.2.2.2.1
def R := cw.2.2.2.2.2.2.2.2.2.2.2.2.2.2.2.2.1
def ks : List κ := cw.2.2.2.2.2.2.2.2.2.2.2.2.2.2.2.2.2.1
def kvs := cw.2.2.2.2.2.2.2.2.2.2.2.2.2.2.2.2.2.2.1
def c := cw.2.2.2.2.2.2.2.2.2.2.2.2.2.2.2.2.2.2.2
theorem run : @Pw prog w B fs L s A n es κ inst x dx m r pa fi knd ns rd R ks kvs c := by
 letI := inst
 intro O S hA hm hks hok hb hz hkl hc hR
 refine call_gen (a := 134) (names := ["self", "nodes"]) (rest := ["n2i", "node", "nodeinfo", "stat", "successor", "successor_info"]) O S hA (S.K O _ _ rfl) rfl (codeRec_of (S.K O) (by kernel_rfl)) rfl (by decide +kernel) (by decide +kernel) (by decide +kernel) rfl rfl rfl ?_
 intro E
 refine w_eq (t' := newTuple kvs >>= fun t => pure [(Str.ofString "self", .ref x), (Str.ofString "nodes", t)]) (by generalize kvs = q; cases q <;> kernel_rfl) ?_
 refine wpAny_bind (n_tup S (line_le (by have := hks.len; lia)) ?_)
 clear S; intro pt s S
 refine wpAny_pure ⟨[.ref x, .ref pt], _, rfl, rfl, S, ?_⟩
 clear S; (try clear LL); (try clear LL); clear hA; intro env nd kd fn s hE _h1 _h2 _h3 S hA E; clear _h1 _h2 _h3
 dsimp only at hE
 wtm_at "us"
 dsimp only [List.map, List.append, List.cons_append, List.nil_append] at S
 replace S := (S.weak (y := tupR (keyV knd) ks) .here (fun o h => ⟨kvs, hks, h⟩)).srtIn
 wtm_at "if"
 wtm_at "go"
 refine get_rdy O S (S.at (by wtm_at "srt")) (S.at (by wtm_at "srt")) rfl ?_
 clear S; intro s S
 wtm_at "go"
 refine get_n2i O S (S.at (by wtm_at "srt")) (S.at (by wtm_at "srt")) ?_
 clear S; intro s S
 wtm_at "go"
 wtm_at "pk"
 obtain ⟨tvs, htv, hT⟩ := S.isTR (a := pt) (by wtm_at "mem")
 refine pi_tup S hT ?_
 clear S; (try clear LL); (try clear LL); clear hT; intro it s S
 wtm_at "un"
 let V1 := fun (_ : Nat) (_ : List (NA × Nod κ)) (_ : List κ) (a b c d e : Option Value) => [some (Value.ref x), some (.ref pt), some (.ref m), a, b, c, d, e]
 let G1 := fun (i : Nat) (ns3 : List (NA × Nod κ)) (rd3 : List κ) (_ _ _ _ _ : Option Value) => srtL knd x dx m (.ref r) pa (fi + i) ns3 ++ (pt, tupR (keyV knd) ks) :: (r, lstR (keyV knd) rd3) :: L
 refine for7 (Itr.tup _ _ it pt (Src.tupR (keyV knd) ks)) hA.hand V1 G1 (fun i ns3 rd3 _ _ _ _ _ => ((ns3.map (·.2), rd3) = doneAll (ns.map (·.2), rd) (ks.take i)) ∧ rd3.length ≤ rd.length + c * i)
  (fun _ _ _ _ _ _ _ _ _ => one_src (by wtm_at "mem")) ns rd _ _ _ _ _ (by simp only [G1, Int.natCast_zero, Int.add_zero]; exact S) ⟨rfl, by simp⟩ ?_ ?_
 ·clear S; intro i ns3 rd3 a₁ a₂ a₃ a₄ a₅ v X s E K1 fin1 hi hH hJ2 S
  wtm_at "pq"
  wtm_at "pk"
  obtain ⟨⟨pk, hpk, hpv⟩, rfl⟩ := hJ2
  obtain ⟨hn3, hr3⟩ := hH
  wtm_at "ps"
  replace S := S.srtIn
  wtm_at "go"
  have hok3 := doneOk_drop hok i
  rw [← hn3, show ks.drop i = pk :: ks.drop (i + 1) by rw [List.drop_eq_getElem_cons hi]; congr 1; rw [List.getElem?_eq_getElem hi] at hpk; exact Option.some.inj hpk] at hok3
  wtm_at "pk"
  obtain ⟨⟨nd', hfind, hnp, hsucs⟩, hok4⟩ := hok3
  dsimp only at hfind hsucs
  have hb3 : bnd c (ns3.map (·.2)) := by
   have := same2_doneAll (ks.take i) (ns.map (·.2), rd)
   rw [← hn3] at this
   exact this.bnd hb
  have hkey : nd'.key = pk := by simpa using List.find?_some hfind
  wtm_at "pk"
  obtain ⟨q, hq, hqe⟩ := List.mem_map.mp (List.mem_of_find?_eq_some hfind)
  obtain ⟨j, hj, hje⟩ := List.getElem_of_mem hq
  obtain ⟨p, nd''⟩ := q
  dsimp only at hqe
  subst hqe
  have hj : ns3[j]? = some (p, nd'') := by simp [hj, hje]
  clear hje hq
  wtm_at "if"
  wtm_at "go"
  have hd := S.dic (d := m) (knd := knd) (kvs := kvsOf ns3) (by wtm_at "srt")
  refine gm_dict hd PySem.F.slot_dict_get PySem.F.type_dict_get ?_
  wtm_at "go"
  refine d_get S hd hm hpv ?_
  rw [← hkey, valueAt_at S.keys hj]
  clear S; (try clear LL); (try clear LL); clear hd; intro s S
  dsimp only [Option.getD]
  wtm_at "go"
  wtm_at "pk"
  obtain ⟨o, ho, kv, t1, hkv, hsl⟩ := S.at (mem_nod hj List.mem_cons_self)
  refine get_np O S ⟨o, ho, hsl⟩ (S.at (mem_nod hj (by wtm_at "nod"))) rfl rfl ?_
  clear S; (try clear LL); (try clear LL); clear ho; intro s S
  rw [hnp]
  wtm_at "go"
  wtm_at "if"
  wtm_at "go"
  refine ⟨fun h => by simp at h, fun _ => ?_⟩
  wtm_at "go"
  wtm_at "pk"
  obtain ⟨o, ho, kv, t2, hkv, hsl⟩ := S.at (mem_nod hj List.mem_cons_self)
  have hset := set_onKey (fun nd => { nd with np := -2 }) S.keys hj
  refine set_np O S (Upd.nod (q' := (p, { nd'' with np := -2 })) hj .here ⟨rfl, rfl⟩) ⟨o, ho, hsl⟩ (S.at (mem_nod hj (by wtm_at "nod"))) (sl' := [some kv, some (.int (-2) 220), some (.ref p.su)]) rfl (fun o h => ⟨kv, _, hkv, h⟩) ?_
  clear S; (try clear LL); (try clear LL); clear ho; intro s S
  have hj4 : (ns3.set j (p, { nd'' with np := -2 }))[j]? = some (p, { nd'' with np := -2 }) := by
   have := (List.getElem?_eq_some_iff.mp hj).1
   simp [this]
  have hf4 := set_fst (nd' := { nd'' with np := -2 }) hj
  wtm_at "us"
  generalize ns3.set j (p, { nd'' with np := -2 }) = ns4 at S hset hj4 hf4
  rw [hkey] at hset
  wtm_at "go"
  wtm_at "pk"
  obtain ⟨o, ho, kv, t3, hkv, hsl⟩ := S.at (mem_nod hj4 List.mem_cons_self)
  refine get_suc O S ⟨o, ho, hsl⟩ (S.at (mem_nod hj4 (by wtm_at "nod"))) rfl rfl ?_
  clear S; (try clear LL); (try clear LL); clear ho; intro s S
  wtm_at "pk"
  obtain ⟨sv, hsv, hSu⟩ := S.isLR (a := p.su) (mem_nod hj4 (by wtm_at "nod"))
  refine pi_list S hSu ?_
  clear S; (try clear LL); (try clear LL); clear hSu; intro it2 s S
  have hst : (ns4.map (·.2), rd3) = (onKey pk (fun nd => { nd with np := -2 }) (ns3.map (·.2)), rd3) := by rw [hset]
  wtm_at "un"
  let V2 := fun (_ : Nat) (_ : List (NA × Nod κ)) (_ : List κ) (d e : Option Value) => [some (Value.ref x), some (.ref pt), some (.ref m), some v, some (.ref p.i), some (.int (-1) t1), d, e]
  let G2 := fun (_ : Nat) (ns5 : List (NA × Nod κ)) (rd5 : List κ) (_ _ : Option Value) => srtL knd x dx m (.ref r) pa (fi + i) ns5 ++ (r, lstR (keyV knd) rd5) :: (it, titO pt (i + 1)) :: (pt, tupR (keyV knd) ks) :: L
  refine for4 (Itr.list _ _ it2 p.su (Src.lstR (keyV knd) nd''.suc)) hA.hand V2 G2 (fun l ns5 rd5 _ _ => (ns5.map (·.1) = ns4.map (·.1)) ∧ (ns5.map (·.2), rd5) = (nd''.suc.take l).foldl doneStep (ns4.map (·.2), rd3)) ?_ ns4 rd3 _ _ (S.perm ?_) ⟨rfl, rfl⟩ ?_ ?_
  ·rintro l ns5 rd5 _ _ ⟨hf5, hn5⟩
   refine one_src ?_
   dsimp only [G2]
   have h2 := same2_steps (nd''.suc.take l) (ns4.map (·.2), rd3)
   rw [← hn5] at h2
   wtm_at "pk"
   obtain ⟨nd5, e1, e2, e3⟩ := h2.at (j := j) (nd := { nd'' with np := -2 }) (by rw [List.getElem?_map, hj4]; rfl)
   have h3 := both_at (ns := ns5) (j := j) (p := p) (nd := nd5) (by rw [hf5, List.getElem?_map, hj4]; rfl) e1
   have := mem_nod (knd := knd) (x := x) (dx := dx) (m := m) (rv := .ref r) (pa := pa) (fi := fi + i) (L := (r, lstR (keyV knd) rd5) :: (it, titO pt (i + 1)) :: (pt, tupR (keyV knd) ks) :: L) (p := (p.su, lstR (keyV knd) nd5.suc)) h3 (by wtm_at "nod")
   rw [e3] at this
   exact this
  ·exact .cons _ (List.Perm.append_left (srtL knd x dx m (.ref r) pa (fi + i) ns4) (rot3 _ _ _ _))
  ·clear S; intro l ns5 rd5 a₁ a₂ v2 X s E K2 fin2 hl hH hJ2 S
   wtm_at "pq"
   wtm_at "pk"
   obtain ⟨⟨sk, hsk, hskv⟩, rfl⟩ := hJ2
   obtain ⟨hf5, hn5⟩ := hH
   wtm_at "ps"
   replace S := S.srtIn
   wtm_at "go"
   have h2 := same2_steps (nd''.suc.take l) (ns4.map (·.2), rd3)
   rw [← hn5] at h2
   dsimp only at h2
   have hk5 : (ns5.map (·.2)).map (·.key) = (ns3.map (·.2)).map (·.key) := by
    rw [h2.1, hset]; exact keys_onKey pk (fun nd => { nd with np := -2 }) (fun _ => rfl) _
   wtm_at "pk"
   obtain ⟨j5, p5, nd5, hj5, hkey5⟩ := nod_of_key (ns := ns5) (k := sk) (by rw [hk5]; exact hsucs sk (List.mem_of_getElem? hsk))
   have hd := S.dic (d := m) (knd := knd) (kvs := kvsOf ns5) (by wtm_at "srt")
   refine sub_dict S hd hskv (v := .ref p5.i) (by rw [← hkey5]; exact valueAt_at S.keys hj5) ?_
   clear S; (try clear LL); (try clear LL); clear hd; intro s S
   wtm_at "go"
   wtm_at "pk"
   obtain ⟨o, ho, kv, t4, hkv, hsl⟩ := S.at (mem_nod hj5 List.mem_cons_self)
   refine get_np O S ⟨o, ho, hsl⟩ (S.at (mem_nod hj5 (by wtm_at "nod"))) rfl rfl ?_
   clear S; (try clear LL); (try clear LL); clear ho; intro s S
   wtm_at "go"
   have hset5 := set_onKey (fun nd => { nd with np := nd.np - 1 }) S.keys hj5
   wtm_at "pk"
   obtain ⟨o, ho, kv, t5, hkv, hsl⟩ := S.at (mem_nod hj5 List.mem_cons_self)
   refine set_np O S (Upd.nod (q' := (p5, { nd5 with np := nd5.np - 1 })) hj5 .here ⟨rfl, rfl⟩) ⟨o, ho, hsl⟩ (S.at (mem_nod hj5 (by wtm_at "nod"))) (sl' := [some kv, some (.int (nd5.np - 1) tok), some (.ref p5.su)]) rfl (fun o h => ⟨kv, _, hkv, h⟩) ?_
   clear S; (try clear LL); (try clear LL); clear ho; intro s S
   have hj6 : (ns5.set j5 (p5, { nd5 with np := nd5.np - 1 }))[j5]? = some (p5, { nd5 with np := nd5.np - 1 }) := by
    have := (List.getElem?_eq_some_iff.mp hj5).1
    simp [this]
   have hf6 := set_fst (nd' := { nd5 with np := nd5.np - 1 }) hj5
   wtm_at "us"
   generalize ns5.set j5 (p5, { nd5 with np := nd5.np - 1 }) = ns6 at S hset5 hj6 hf6
   rw [hkey5] at hset5
   have hstep : doneStep (ns5.map (·.2), rd5) sk = (ns6.map (·.2), if nd5.np - 1 = 0 then rd5 ++ [sk] else rd5) := by
    unfold doneStep
    dsimp only
    rw [← hset5]
    have := find_key (nds := ns6.map (·.2)) (j := j5) (nd := { nd5 with np := nd5.np - 1 }) (by have := S.keys; rwa [List.map_map]) (by rw [List.getElem?_map, hj6]; rfl)
    dsimp only at this
    rw [hkey5] at this
    rw [this]
    simp
   have hn6 : (ns6.map (·.2), if nd5.np - 1 = 0 then rd5 ++ [sk] else rd5) = (nd''.suc.take (l + 1)).foldl doneStep (ns4.map (·.2), rd3) := by
    rw [List.take_add_one, hsk]
    simp only [Option.toList_some, List.foldl_append, List.foldl_cons, List.foldl_nil]
    rw [← hn5, hstep]
   wtm_at "if"
   wtm_at "go"
   wtm_at "pk"
   obtain ⟨o, ho, kv, t6, hkv, hsl⟩ := S.at (mem_nod hj6 List.mem_cons_self)
   refine get_np O S ⟨o, ho, hsl⟩ (S.at (mem_nod hj6 (by wtm_at "nod"))) rfl rfl ?_
   clear S; (try clear LL); (try clear LL); clear ho; intro s S
   wtm_at "go"
   refine ⟨fun h => ?_, fun h => ?_⟩
   ·wtm_at "go"
    refine get_rdy O S (S.at (by wtm_at "srt")) (S.at (by wtm_at "srt")) rfl ?_
    clear S; intro s S
    wtm_at "pk"
    obtain ⟨rvs, hrv, hl2⟩ := S.isLR (a := r) (by wtm_at "mem")
    refine gm_list hl2 PySem.F.slot_list_append PySem.F.type_list_append ?_
    wtm_at "go"
    refine l_append (y := lstR (keyV knd) (rd5 ++ [sk])) ((Upd.there .here).left _) S hl2 (fun o h => ⟨_, hrv.append (.cons hskv .nil), h⟩) (line_le ?_) ?_
    ·have h5 := len_steps (nd''.suc.take l) (ns4.map (·.2), rd3)
     rw [← hn5] at h5
     have h6 := hb3.2 nd'' (List.mem_map_of_mem (f := fun q => q.2) (List.mem_of_getElem? hj))
     have h7 := hrv.len
     have h8 : (nd''.suc.take l).length ≤ c := by rw [List.length_take]; lia
     have h9 : c * i ≤ c * ks.length := Nat.mul_le_mul_left _ (by lia)
     dsimp only at h5
     lia
    clear S; (try clear LL); (try clear LL); clear hl2; intro s S
    refine ⟨rfl, ?_⟩
    wtm_at "go"
    refine fin2 ns6 (rd5 ++ [sk]) _ _ _ ⟨hf6.trans hf5, ?_⟩ S.srtOut
    rw [← hn6, if_pos (by simpa using h)]
   ·wtm_at "go"
    refine fin2 ns6 rd5 _ _ _ ⟨hf6.trans hf5, ?_⟩ S.srtOut
    rw [← hn6, if_neg (by simpa using h)]
  ·clear S; intro ns5 rd5 a₁ a₂ s hH S
   wtm_at "pk"
   obtain ⟨hf5, hn5⟩ := hH
   wtm_at "ps"
   wtm_at "go"
   refine get_fi O S (S.at (by wtm_at "srt")) (S.at (by wtm_at "srt")) ?_
   clear S; intro t2 s S
   wtm_at "go"
   refine set_fi O S (S.at (by wtm_at "srt")) Upd.srt (S.at (by wtm_at "srt")) ?_
   clear S; intro s S
   wtm_at "go"
   have hn6 : (ns5.map (·.2), rd5) = doneAll (ns.map (·.2), rd) (ks.take (i + 1)) := by
    rw [List.take_add_one, hpk]
    unfold doneAll at hn3 ⊢
    simp only [Option.toList_some, List.foldl_append, List.foldl_cons, List.foldl_nil]
    rw [← hn3, hn5, List.take_length]
    unfold done1
    dsimp only
    rw [hfind, hset]
    rfl
   have S' := (S.perm (List.Perm.append_left (srtL knd x dx m (.ref r) pa (fi + i + 1) ns5) (rot3' _ _ _ _))).srtOut
   rw [show fi + (i : Int) + 1 = fi + ((i + 1 : Nat) : Int) by push_cast; lia] at S'
   refine fin1 ns5 rd5 _ _ _ _ _ _ ⟨hn6, ?_⟩ S'
   ·have := len_done1 (st := (ns3.map (·.2), rd3)) hb3 pk
    have e : done1 (ns3.map (·.2), rd3) pk = (ns5.map (·.2), rd5) := by
     rw [hn6, List.take_add_one, hpk]
     unfold doneAll at hn3 ⊢
     simp only [Option.toList_some, List.foldl_append, List.foldl_cons, List.foldl_nil]
     rw [← hn3]
    rw [e] at this
    dsimp only at this
    rw [Nat.mul_add]; lia
 ·clear S; intro ns3 rd3 a₁ a₂ a₃ a₄ a₅ s hH S
  wtm_at "pk"
  obtain ⟨hn3, hr3⟩ := hH
  wtm_at "ps"
  wtm_at "go"
  exact hR ns3 rd3 _ (by rw [hn3, List.take_length]) (S.pop.perm (List.perm_middle) |>.less (List.sublist_cons_self ..))
end done_spec_w
end
theorem done_spec {prog : Program} {w : World} {B : Bs} {fs : List Fm} {L : List (Addr × O)} {s : Shared} {A : Around} {n : Nat} {es : List Env} {κ : Type} [inst : DecidableEq κ] {x dx m r : Addr} {pa fi : Int} {knd : KeyKind prog w κ} {ns : List (NA × Nod κ)} {rd : List κ} {R : Result → Shared → Prop} {ks : List κ} {kvs : List Value} {c : Nat} : @done_spec_w.Pw prog w B fs L s A n es κ inst x dx m r pa fi knd ns rd R ks kvs c := worst_of (Q := done_spec_w.Hw) (by with_unfolding_all rfl) done_spec_w.run ⟨⟨prog, w, κ, inst, knd⟩, B, fs, L, s, A, n, es, x, dx, m, r, pa, fi, ns, rd, R, ks, kvs, c⟩
section
end
end
section
noncomputable def uldF : List Str → List Str → List Str → List Str × List Str
 | [], act, mis => (mis, act)
 | x :: rexp, act, mis => if x ∈ act then uldF rexp (act.erase x) mis else uldF rexp act (mis ++ [x])
section
variable {prog : Program} {w : World} {B : Bs} {fs : List Fm} {L L' : List (Addr × O)} {s : Shared} {A : Around} {E : Value → Shared → Prop} {n : Nat} {es : List Env}
end
noncomputable section
namespace uld_spec_w
def Pw (prog : Program) (w : World) (B : Bs) (fs : List Fm) (L : List (Addr × O)) (s : Shared) (A : Around) (n : Nat) (es : List Env) (ea aa : Addr) (exp act : List Str) (R : Result → Shared → Prop) : Prop := ∀ (O : Ok B w) (S : St B fs ((ea, lstR StrV exp) :: (aa, lstR StrV act) :: L) s) (hA : AOk A (n + 1) es) (hF : FrOk es fs) (hz : exp.length ≤ 100 ∧ act.length ≤ 100) (hR : ∀ t ma s', St B fs ((t, tup [.ref ma, .ref aa]) :: (ma, lstR StrV (uldF exp.reverse act []).1) :: (ea, lstR StrV []) :: (aa, lstR StrV (uldF exp.reverse act []).2) :: L) s' → R (.ok (.ret (.ref t))) s'),
  codeAny (model prog w) A (.call (.ref 28) ⟨[.ref ea, .ref aa], []⟩) R s
def Hw (x : Program × World × Bs × (List Fm) × (List (Addr × O)) × Shared × Around × Nat × (List Env) × Addr × Addr × (List Str) × (List Str) × (Result → Shared → Prop)) : Prop := Pw x.1 x.2.1 x.2.2.1 x.2.2.2.1 x.2.2.2.2.1 x.2.2.2.2.2.1 x.2.2.2.2.2.2.1 x.2.2.2.2.2.2.2.1 x.2.2.2.2.2.2.2.2.1 x.2.2.2.2.2.2.2.2.2.1 x.2.2.2.2.2.2.2.2.2.2.1 x.2.2.2.2.2.2.2.2.2.2.2.1 x.2.2.2.2.2.2.2.2.2.2.2.2.1 x.2.2.2.2.2.2.2.2.2.2.2.2.2
@[irreducible] def cw := worst (by repeat (first | refine ne5 ?_ ?_ | exact ne1 | exact ne2 | exact ne3 | exact ne4 | exact inferInstance | exact ne7 | exact ⟨⟨0, 0, 0, 0, 0, 0, 0, 0⟩⟩)) Hw
def prog := cw.1
def w := cw.2.1
def B := cw.2.2.1
def fs := cw.2.2.2.1
def L := cw.2.2.2.2.1
def s := cw.2.2.2.2.2.1
def A := cw.2.2.2.2.2.2.1
def n := cw.2.2.2.2.2.2.2.1
def es := cw.2.2.2.2.2.2.2.2.1
def ea := cw.2.2.2.2.2.2.2.2.2.1
def aa := cw.2.2.2.2.2.2.2.2.2.2.1
def exp := cw.2.2.2.2.2.2.2.2.2.2.2.1
def act := cw.2.2.2.2.2.2.2.2.2.2.2.2.1
def R := cw.2.2.2.2.2.2.2.2.2.2.2.2.2
theorem run : Pw prog w B fs L s A n es ea aa exp act R := by
 intro O S hA hF hz hR
 refine call_fr (a := 28) (names := ["expected", "actual"]) (rest := ["missing", "item"]) (vals := [.ref ea, .ref aa]) O S hA hF (fun _ => rfl) rfl (fun _ => by kernel_rfl) rfl rfl rfl (by decide +kernel) (by decide +kernel) (by decide +kernel) rfl rfl rfl ?_
 clear S; (try clear LL); (try clear LL); clear hA; intro env nd kd fn s hE hF S hA E
 dsimp only at hE
 wtm_at "us"
 dsimp only [List.map, List.append, List.cons_append, List.nil_append] at S
 wtm_at "go"
 refine n_list S (by decide) ?_
 clear S; intro ma s S
 replace S := S.weak (y := lstR StrV []) .here (fun o h => ⟨[], .nil, h⟩)
 wtm_at "go"
 let V1 := fun (_ : Nat) (_ _ _ : List Str) (a : Option Value) => [some (Value.ref ea), some (.ref aa), some (.ref ma), a]
 let G1 := fun (_ : Nat) (exp' act' mis' : List Str) (_ : Option Value) => (ma, lstR StrV mis') :: (ea, lstR StrV exp') :: (aa, lstR StrV act') :: L
 refine whi4 exp.length V1 G1 (fun k exp' act' mis' _ => A5 (exp'.length = k) (k ≤ 100) (act'.length ≤ 100) (mis'.length + k ≤ 100) (uldF exp'.reverse act' mis' = uldF exp.reverse act []))
  exp act [] _ S ⟨rfl, hz.1, hz.2, by simpa using hz.1, rfl⟩ ?_
 clear S; intro k exp' act' mis' a s E K1 fin1 hH S
 wtm_at "pk"
 obtain ⟨hk, hk1, ha, hmk, hu⟩ := hH
 wtm_at "ps"
 wtm_at "go"
 wtm_at "pk"
 obtain ⟨ev, hev, hl⟩ := S.isLR (a := ea) (by wtm_at "mem")
 refine truthy_list hl S (by have := hev.len; lia) ?_
 clear S; (try clear LL); (try clear LL); clear hl; intro s S
 refine ⟨fun hb => ?_, fun hb => ?_⟩
 ·have hne : exp' ≠ [] := by rintro rfl; cases hev; simp at hb
  wtm_at "pk"
  obtain ⟨exp'', x, rfl⟩ : ∃ l x, exp' = l ++ [x] := ⟨exp'.dropLast, exp'.getLast hne, (List.dropLast_concat_getLast hne).symm⟩
  clear hev hb
  wtm_at "go"
  wtm_at "pk"
  obtain ⟨ev, hev, hl⟩ := S.isLR (a := ea) (by wtm_at "mem")
  refine gm_list hl PySem.F.slot_list_pop PySem.F.type_list_pop ?_
  wtm_at "go"
  wtm_at "pk"
  obtain ⟨ev1, ev2, rfl, hev1, hev2⟩ := hev.unapp
  obtain ⟨_, rfl, ⟨tx, rfl⟩⟩ := hev2.one
  simp only [List.length_append, List.length_singleton] at hk
  refine l_pop (y := lstR StrV exp'') (.there .here) S hl (fun o h => ⟨_, hev1, h⟩) (Nat.lt_of_lt_of_le (by have := hev1.len; lia) (line_le (Nat.le_refl 10000))) ?_
  clear S; (try clear LL); (try clear LL); clear hl; intro s S
  wtm_at "go"
  wtm_at "pk"
  obtain ⟨av, hav, hl⟩ := S.isLR (a := aa) (by wtm_at "mem")
  refine gm_list hl PySem.F.slot_list_remove PySem.F.type_list_remove ?_
  wtm_at "go"
  rw [List.reverse_append, List.reverse_singleton, List.singleton_append, uldF] at hu
  by_cases hx : x ∈ act'
  ·rw [if_pos hx] at hu
   refine l_remove (y := lstR StrV (act'.erase x)) (.there (.there .here)) S hl hav hx (by lia) (fun o h => h) ?_
   clear S; (try clear LL); (try clear LL); clear hl; intro s S
   refine ⟨rfl, ?_⟩
   wtm_at "go"
   exact fin1 (k - 1) exp'' (act'.erase x) mis' _ _ (by lia) ⟨by lia, by lia, by have := List.length_erase_le (a := x) (l := act'); lia, by lia, hu⟩ S
  ·rw [if_neg hx] at hu
   refine l_remove_no hA.hand S hl hav hx ?_
   intro h' tk e hx'
   refine caught (T := "ValueError") S (hF _) hA.frames hx' (by rw [isSubtype_type]; kernel_rfl) (by kernel_rfl) (by rw [isSubtype_type]; kernel_rfl) (fun A Q E s S h => ?_) ?_
   ·exact lB O S (fun _ => by kernel_rfl) (v := .type "ValueError") (by kernel_rfl) hE (by rfl) h
   clear S; (try clear LL); (try clear LL); clear hl; intro A' E' s _ _ _ S
   wtm_at "go"
   wtm_at "pk"
   obtain ⟨mv, hmv, hl⟩ := S.isLR (a := ma) (by wtm_at "mem")
   refine gm_list hl PySem.F.slot_list_append PySem.F.type_list_append ?_
   wtm_at "go"
   refine l_append (y := lstR StrV (mis' ++ [x])) .here S hl (fun o h => ⟨_, hmv.append (.cons ⟨tx, rfl⟩ .nil), h⟩) (line_le (by have := hmv.len; lia)) ?_
   clear S; (try clear LL); (try clear LL); clear hl; intro s S
   refine ⟨rfl, ?_⟩
   wtm_at "go"
   exact fin1 (k - 1) exp'' act' (mis' ++ [x]) _ _ (by lia) ⟨by lia, by lia, by lia, by simp; lia, hu⟩ S
 ·have he : exp' = [] := by cases hev with | nil => rfl | cons => simp at hb
  subst he
  wtm_at "go"
  refine n_tup S (line_le (by simp)) ?_
  clear S; intro t s S
  wtm_at "go"
  rw [List.reverse_nil, uldF] at hu
  have := hR t ma _ (by rw [← hu]; exact S.pop)
  exact this
end uld_spec_w
end
theorem uld_spec {prog : Program} {w : World} {B : Bs} {fs : List Fm} {L : List (Addr × O)} {s : Shared} {A : Around} {n : Nat} {es : List Env} {ea aa : Addr} {exp act : List Str} {R : Result → Shared → Prop} : uld_spec_w.Pw prog w B fs L s A n es ea aa exp act R := worst_of (Q := uld_spec_w.Hw) (by with_unfolding_all rfl) uld_spec_w.run ⟨prog, w, B, fs, L, s, A, n, es, ea, aa, exp, act, R⟩
section
end
end
section
section
variable {prog : Program} {w : World} {B : Bs} {fs : List Fm} {L L' Z : List (Addr × O)} {s : Shared} {A : Around} {E : Value → Shared → Prop} {n : Nat} {es : List Env} {κ : Type} [DecidableEq κ] {x dx m r : Addr} {v rv key : Value} {pa fi : Int} {k : κ} {knd : KeyKind prog w κ} {ns : List (NA × Nod κ)} {ep : Nat}
structure SF (κ : Type) where
 k : κ
 mw : Addr
 it : Addr
 su : Addr
 p : Nat
noncomputable def sfL (f : SF κ) : List (Addr × O) := [(f.mw, nxtO f.it), (f.it, liO f.su f.p)]
noncomputable def wL (knd : KeyKind prog w κ) (sa ia se nd : Addr) (stk : List (SF κ)) (M : List κ) (kv2 : List (κ × Value)) (Z : List (Addr × O)) : List (Addr × O) :=
 (sa, lstR (keyV knd) (stk.map (·.k))) :: (ia, lst (stk.map fun f => .ref f.mw)) :: (se, setO knd M) :: (nd, dicO knd kv2) :: (stk.flatMap sfL ++ Z)
noncomputable def unseen (ns : List (NA × Nod κ)) (M : List κ) : Nat := (ns.map fun q => if q.2.key ∈ M then 0 else q.2.suc.length + 1).sum
noncomputable def left1 (ns : List (NA × Nod κ)) (f : SF κ) : Nat := ((ns.find? fun q => q.2.key = f.k).elim 0 fun q => q.2.suc.length) - f.p
noncomputable def phi (ns : List (NA × Nod κ)) (M : List κ) (stk : List (SF κ)) : Nat := unseen ns M + (stk.map (left1 ns)).sum
structure StkOk (ns : List (NA × Nod κ)) (rk : κ → Nat) (stk : List (SF κ)) (M : List κ) (kv2 : List (κ × Value)) : Prop where
 node : ∀ f ∈ stk, ∃ (j : Nat) (q : NA × Nod κ), ns[j]? = some q ∧ q.2.key = f.k ∧ q.1.su = f.su
 rank : (stk.map fun f => rk f.k).Pairwise (· < ·)
 seen : ∀ f ∈ stk, f.k ∈ M
 keys : kv2.map (·.1) = stk.map (·.k)
 size : M.length ≤ ns.length
 mnod : M.Nodup
 mkey : ∀ k ∈ M, k ∈ ns.map (·.2.key)
theorem StkOk.nodup {rk : κ → Nat} {stk : List (SF κ)} {M : List κ} {kv2 : List (κ × Value)} (h : StkOk ns rk stk M kv2) : (stk.map (·.k)).Nodup := by
 have := h.rank
 rw [List.pairwise_map] at this
 rw [List.nodup_iff_pairwise_ne, List.pairwise_map]
 exact this.imp fun {a b} hab e => by rw [e] at hab; exact Nat.lt_irrefl _ hab
theorem unseen_cons {M : List κ} {j : Nat} {q : NA × Nod κ} (hn : (ns.map (·.2.key)).Nodup) (h : ns[j]? = some q) (hM : q.2.key ∉ M) : unseen ns (q.2.key :: M) + (q.2.suc.length + 1) = unseen ns M := by
 unfold unseen
 induction ns generalizing j with
 | nil => simp at h
 | cons c ns ih =>
  rw [List.map_cons, List.nodup_cons] at hn
  simp only [List.map_cons, List.sum_cons]
  cases j with
  | zero =>
   simp at h; subst h
   rw [if_pos List.mem_cons_self, if_neg hM]
   have : (ns.map fun z => if z.2.key ∈ c.2.key :: M then 0 else z.2.suc.length + 1) = ns.map fun z => if z.2.key ∈ M then 0 else z.2.suc.length + 1 := by
    apply List.map_congr_left
    intro z hz
    have hne : z.2.key ≠ c.2.key := fun e => hn.1 (e ▸ List.mem_map_of_mem (f := fun q => q.2.key) hz)
    simp [hne]
   rw [this]; lia
  | succ j =>
   simp at h
   have hne : c.2.key ≠ q.2.key := fun e => hn.1 (e ▸ List.mem_map_of_mem (f := fun q => q.2.key) (List.mem_of_getElem? h))
   have := ih hn.2 h
   simp only [List.mem_cons, hne, false_or] at this ⊢
   lia
theorem left1_eq {f : SF κ} {j : Nat} {q : NA × Nod κ} (hn : (ns.map (·.2.key)).Nodup) (h : ns[j]? = some q) (hk : q.2.key = f.k) : left1 ns f = q.2.suc.length - f.p := by
 have : ns.find? (fun z => z.2.key = f.k) = some q := by
  rw [← hk]
  clear hk
  induction ns generalizing j with
  | nil => simp at h
  | cons c ns ih =>
   rw [List.map_cons, List.nodup_cons] at hn
   rw [List.find?_cons]
   cases j with
   | zero => simp at h; subst h; simp
   | succ j =>
    simp at h
    have hne : c.2.key ≠ q.2.key := fun e => hn.1 (e ▸ List.mem_map_of_mem (f := fun q => q.2.key) (List.mem_of_getElem? h))
    simp only [hne, decide_false]
    exact ih hn.2 h
 unfold left1
 rw [this]; rfl
end
end
section
theorem lr_brk {M : Model} {A : Around} {rest : List Stmt} {env : Env} {Q : Flow → Shared → Prop} {E : Value → Shared → Prop} {s : Shared} (h : Q .brk s) : LR M A rest env Q E (.ok .brk) s := h
theorem nodup_len {α : Type} [DecidableEq α] {l m : List α} (h : l.Nodup) (hs : l ⊆ m) : l.length ≤ m.length := by
 induction l generalizing m with
 | nil => simp
 | cons a l ih =>
  rw [List.nodup_cons] at h
  have ha : a ∈ m := hs List.mem_cons_self
  have : l ⊆ m.erase a := fun z hz => (List.mem_erase_of_ne (fun e : z = a => h.1 (e ▸ hz))).mpr (hs (List.mem_cons_of_mem _ hz))
  have := ih h.2 this
  rw [List.length_erase_of_mem ha] at this
  have : 0 < m.length := List.length_pos_of_mem ha
  simp only [List.length_cons]; lia
theorem xs_one {M : Model} {A : Around} {env : Env} {st : Stmt} {Q : Flow → Shared → Prop} {E : Value → Shared → Prop} {s : Shared} (h : wpAny M A (execs [st] env) Q E s) : wpAny M A (exec st env) Q E s := by
 intro Γ p hΓ
 have h' := h Γ p hΓ
 rw [execs_cons, Sem.wp_bind'] at h'
 refine Sem.wp_mono M Γ _ (fun f p' s' hf => ?_) (fun _ _ _ e => e) p s h'
 cases f with
 | next => simpa only [execs_nil, Sem.wp_pure'] using hf
 | _ => simpa only [Sem.wp_pure'] using hf
theorem xs_cut {M : Model} {A : Around} {env : Env} {st : Stmt} {rest : List Stmt} {Q : Flow → Shared → Prop} {E : Value → Shared → Prop} {s : Shared} (P : Shared → Prop) (h1 : wpAny M A (execs [st] env) (fun f s' => f = .next ∧ P s') E s)
  (h2 : ∀ s', P s' → wpAny M A (execs rest env) Q E s') : wpAny M A (execs (st :: rest) env) Q E s :=
 xs_cons (wpAny_mono (xs_one h1) (fun f s' h => by obtain ⟨rfl, h⟩ := h; exact cont_next (h2 s' h)) fun _ _ e => e)
section
variable {prog : Program} {w : World} {B : Bs} {fs : List Fm} {L L' Z : List (Addr × O)} {s : Shared} {A : Around} {E : Value → Shared → Prop} {n : Nat} {es : List Env} {κ : Type} [DecidableEq κ] {x dx m r : Addr} {v rv key : Value} {pa fi : Int} {k : κ} {knd : KeyKind prog w κ} {ns : List (NA × Nod κ)} {ep : Nat}
theorem perm_wL {sa ia se nd : Addr} {stk : List (SF κ)} {M : List κ} {kv2 : List (κ × Value)} (p : Addr × Mine.O) (Z : List (Addr × Mine.O)) : (p :: wL knd sa ia se nd stk M kv2 Z).Perm (wL knd sa ia se nd stk M kv2 (p :: Z)) := by
 unfold wL
 have h : (p :: ((sa, lstR (keyV knd) (stk.map (·.k))) :: (ia, lst (stk.map fun f => .ref f.mw)) :: (se, setO knd M) :: (nd, dicO knd kv2) :: stk.flatMap sfL) ++ Z).Perm (((sa, lstR (keyV knd) (stk.map (·.k))) :: (ia, lst (stk.map fun f => .ref f.mw)) :: (se, setO knd M) :: (nd, dicO knd kv2) :: stk.flatMap sfL) ++ p :: Z) := List.perm_middle.symm
 simpa using h
theorem wL_last {sa ia se nd : Addr} {stk : List (SF κ)} {f : SF κ} {M : List κ} {kv2 : List (κ × Value)} {Z : List (Addr × Mine.O)} : wL knd sa ia se nd (stk ++ [f]) M kv2 Z =
  (sa, lstR (keyV knd) (stk.map (·.k) ++ [f.k])) :: (ia, lst ((stk.map fun f => .ref f.mw) ++ [.ref f.mw])) :: (se, setO knd M) :: (nd, dicO knd kv2) :: (stk.flatMap sfL ++ ((f.mw, nxtO f.it) :: (f.it, liO f.su f.p) :: Z)) := by
 unfold wL
 simp [sfL]
theorem StkOk.bump {rk : κ → Nat} {stk : List (SF κ)} {f : SF κ} {M : List κ} {kv2 : List (κ × Value)} (h : StkOk ns rk (stk ++ [f]) M kv2) (p : Nat) : StkOk ns rk (stk ++ [{ f with p := p }]) M kv2 := by
 obtain ⟨h1, h2, h3, h4, h5, h6, h7⟩ := h
 refine ⟨fun g hg => ?_, by simpa using h2, fun g hg => ?_, by simpa using h4, h5, h6, h7⟩
 ·rcases List.mem_append.mp hg with hg | hg
  ·exact h1 g (List.mem_append_left _ hg)
  ·rw [List.mem_singleton] at hg; subst hg; exact h1 f (by simp)
 ·rcases List.mem_append.mp hg with hg | hg
  ·exact h3 g (List.mem_append_left _ hg)
  ·rw [List.mem_singleton] at hg; subst hg; exact h3 f (by simp)
end
noncomputable section
namespace cycle_spec_w
def Pw (prog : Program) (w : World) (B : Bs) (fs : List Fm) (Z : List (Addr × O)) (s : Shared) (A : Around) (n : Nat) (es : List Env) (κ : Type) [inst : DecidableEq κ] (x dx m : Addr) (rv : Value) (pa fi : Int) (knd : KeyKind prog w κ) (ns : List (NA × Nod κ)) (ep : Nat) (R : Result → Shared → Prop) (rk : κ → Nat) : Prop := ∀ (O : Ok B w) (S : St B fs Z s) (hA : AOk A (n + 1) es) (hF : FrOk es fs) (hms : (m == sysModules) = false) (hsc : ∀ k v, knd.is k v = true → v.scannable = true) (hx : (x, instO 151 dx) ∈ Z) (hdx : (dx, srtN m rv pa fi) ∈ Z) (hme : (m, dicE knd (kvsOf ns) ep) ∈ Z) (hnod : ∀ (j : Nat) q, ns[j]? = some q → ∀ p ∈ nodL knd q, p ∈ Z) (hrk : ∀ q ∈ ns, ∀ c ∈ q.2.suc, c ∈ ns.map (·.2.key) ∧ rk q.2.key < rk c) (hz : ns.length ≤ 1000) (hR : ∀ s', St B fs Z s' → R (.ok (.ret .none)) s'),
  codeAny (model prog w) A (.call (.ref 141) ⟨[.ref x], []⟩) R s
def Hw (x : (z : KK) × (Bs × (List Fm) × (List (Addr × O)) × Shared × Around × Nat × (List Env) × Addr × Addr × Addr × Value × Int × Int × (List (NA × Nod z.κ)) × Nat × (Result → Shared → Prop) × (z.κ → Nat))) : Prop := @Pw x.1.prog x.1.w x.2.1 x.2.2.1 x.2.2.2.1 x.2.2.2.2.1 x.2.2.2.2.2.1 x.2.2.2.2.2.2.1 x.2.2.2.2.2.2.2.1 x.1.κ x.1.inst x.2.2.2.2.2.2.2.2.1 x.2.2.2.2.2.2.2.2.2.1 x.2.2.2.2.2.2.2.2.2.2.1 x.2.2.2.2.2.2.2.2.2.2.2.1 x.2.2.2.2.2.2.2.2.2.2.2.2.1 x.2.2.2.2.2.2.2.2.2.2.2.2.2.1 x.1.knd x.2.2.2.2.2.2.2.2.2.2.2.2.2.2.1 x.2.2.2.2.2.2.2.2.2.2.2.2.2.2.2.1 x.2.2.2.2.2.2.2.2.2.2.2.2.2.2.2.2.1 x.2.2.2.2.2.2.2.2.2.2.2.2.2.2.2.2.2
@[irreducible] def cw := worst (ne8 (by repeat (first | refine ne5 ?_ ?_ | exact ne1 | exact ne2 | exact ne3 | exact ne4 | exact inferInstance | exact ne7 | exact ⟨⟨0, 0, 0, 0, 0, 0, 0, 0⟩⟩))) Hw
def prog := cw.1.prog
def w := cw.1.w
def B := cw.2.1
def fs := cw.2.2.1
def Z := cw.2.2.2.1
def s := cw.2.2.2.2.1
def A := cw.2.2.2.2.2.1
def n := cw.2.2.2.2.2.2.1
def es := cw.2.2.2.2.2.2.2.1
def κ := cw.1.κ
def inst : DecidableEq κ := cw.1.inst
def x := cw.2.2.2.2.2.2.2.2.1
def dx := cw.2.2.2.2.2.2.2.2.2.1
def m := cw.2.2.2.2.2.2.2.2.2.2.1
def rv := cw.2.2.2.2.2.2.2.2.2.2.2.1
def pa := cw.2.2.2.2.2.2.2.2.2.2.2.2.1
def fi := cw.2.2.2.2.2.2.2.2.2.2.2.2.2.1
def knd : @PySem.KeyKind prog w κ inst := cw.1.knd
def ns : List (NA × Nod κ) := cw.2.2.2.2.2.2.2.2.2.2.2.2.2.2.1
def ep := cw.2.2.2.2.2.2.2.2.2.2.2.2.2.2.2.1
def R := cw.2.2.2.2.2.2.2.2.2.2.2.2.2.2.2.2.1
def rk : κ → Nat := cw.2.2.2.2.2.2.2.2.2.2.2.2.2.2.2.2.2
theorem run : @Pw prog w B fs Z s A n es κ inst x dx m rv pa fi knd ns ep R rk := by
 letI := inst
 intro O S hA hF hms hsc hx hdx hme hnod hrk hz hR
 have hkn : (ns.map (·.2.key)).Nodup := by
  wtm_at "pk"
  obtain ⟨o, e, es, _, _, _, _, hn⟩ := S.get hme
  rw [kvsOf, List.map_map] at hn
  exact hn
 refine call_fr (a := 141) (names := ["self"]) (rest := ["n2i", "stack", "itstack", "seen", "node2stacki", "node"]) (vals := [.ref x]) O S hA hF (fun _ => rfl) rfl (fun _ => by kernel_rfl) rfl rfl rfl (by decide +kernel) (by decide +kernel) (by decide +kernel) rfl rfl rfl ?_
 clear S; (try clear LL); (try clear LL); clear hA; intro env nd kd fn s hE hF S hA E
 dsimp only at hE
 wtm_at "us"
 dsimp only [List.map, List.append, List.cons_append, List.nil_append] at S
 wtm_at "go"
 refine get_n2i O S (S.at hx) (S.at hdx) ?_
 clear S; intro s S
 wtm_at "go"
 refine n_list S (by decide) ?_
 clear S; intro sa s S
 replace S := S.weak (y := lstR (keyV knd) []) .here (fun o h => ⟨[], .nil, h⟩)
 wtm_at "go"
 refine n_list S (by decide) ?_
 clear S; intro ia s S
 wtm_at "go"
 refine set_new knd S ?_
 clear S; intro se s S
 wtm_at "go"
 refine d_new knd O S ?_
 clear S; intro nd2 s hnd2 S
 wtm_at "go"
 refine pi_dict S hms (by wtm_at "mem") ?_
 clear S; intro fit s S
 have hlen : (kvsOf ns).length = ns.length := by (try dsimp only [LL]); unfold kvsOf; rw [List.length_map]
 let V1 := fun (_ : Nat) (_ : List κ) (a : Option Value) => [some (Value.ref x), some (.ref m), some (.ref sa), some (.ref ia), some (.ref se), some (.ref nd2), a]
 let G1 := fun (_ : Nat) (M : List κ) (_ : Option Value) => wL knd sa ia se nd2 [] M [] Z
 refine for2 (Itr.keys _ _ fit m (kvsOf ns) ep) hA.hand V1 G1 (fun _ M _ => StkOk ns rk [] M [])
  (fun _ _ _ _ => one_src (by dsimp only [G1]; unfold wL; wtm_at "mem")) [] _ (S.perm ?_) ⟨by simp, by simp, by simp, rfl, by simp, by simp, by simp⟩ ?_ ?_
 ·refine .cons _ ?_
  exact (rot3 (nd2, dicO knd []) (se, setO knd []) (ia, lst []) _).trans (.trans (.cons _ (.trans (.cons _ (.swap ..)) (.swap ..))) (.trans (.swap ..) (.cons _ (.cons _ (.swap ..)))))
 ·clear S; intro i M a v X s E K1 fin1 hi hst hJ2 S
  wtm_at "pq"
  wtm_at "pk"
  obtain ⟨⟨ck, cu, hck, hcv⟩, rfl⟩ := hJ2
  wtm_at "ps"
  have hckm : ck ∈ ns.map (·.2.key) := by
   have := List.mem_map_of_mem (f := (·.1)) (List.mem_of_getElem? hck)
   rw [kvsOf, List.map_map] at this
   exact this
  wtm_at "go"
  wtm_at "if"
  wtm_at "go"
  refine set_in S (S.at (a := se) (z := setO knd M) (by wtm_at "ung"; unfold wL; wtm_at "mem")) hcv (hsc _ _ hcv) ?_
  clear S; intro s S
  wtm_at "go"
  refine ⟨fun h => ?_, fun h => ?_⟩
  ·wtm_at "go"
   exact fin1 M _ _ hst S
  replace S := S.perm (perm_wL (fit, kitO m (i + 1) (kvsOf ns).length ep) Z)
  wtm_at "go"
  let V2 := fun (_ : Nat) (_ : List (SF κ)) (_ : List κ) (_ : List (κ × Value)) (_ : κ) (cv : Value) => [some (Value.ref x), some (.ref m), some (.ref sa), some (.ref ia), some (.ref se), some (.ref nd2), some cv]
  let G2 := fun (_ : Nat) (stk : List (SF κ)) (M : List κ) (kv2 : List (κ × Value)) (_ : κ) (_ : Value) => wL knd sa ia se nd2 stk M kv2 ((fit, kitO m (i + 1) (kvsOf ns).length ep) :: Z)
  refine whi5 (phi ns M []) V2 G2 (fun k stk M kv2 c cv => A5 (StkOk ns rk stk M kv2) (phi ns M stk = k) (knd.is c cv = true) (c ∈ ns.map (·.2.key)) (∀ f ∈ stk, rk f.k < rk c)) [] M [] ck v S ⟨hst, rfl, hcv, hckm, by simp⟩ ?_
  clear S; (try clear LL); (try clear LL); clear h hst hcv hckm hck; intro k stk M kv2 c cv s E' K2 fin2 hH S
  wtm_at "pk"
  obtain ⟨hst, hphi, hcv, hcm, hrc⟩ := hH
  wtm_at "ps"
  wtm_at "go"
  refine xs_cut (fun s' => ∃ (stk : List (SF κ)) (M : List κ) (kv2 : List (κ × Value)), StkOk ns rk stk M kv2 ∧ phi ns M stk ≤ k ∧
    St B ((⟨env, ["self", "n2i", "stack", "itstack", "seen", "node2stacki", "node"], nd, kd, fn⟩, [some (.ref x), some (.ref m), some (.ref sa), some (.ref ia), some (.ref se), some (.ref nd2), some cv]) :: fs) (wL knd sa ia se nd2 stk M kv2 ((fit, kitO m (i + 1) (kvsOf ns).length ep) :: Z)) s') ?_ ?_
  ·wtm_at "if"
   wtm_at "go"
   refine set_in S (S.at (a := se) (z := setO knd M) (by wtm_at "ung"; unfold wL; wtm_at "mem")) hcv (hsc _ _ hcv) ?_
   clear S; intro s S
   wtm_at "go"
   refine ⟨fun h => ?_, fun h => ?_⟩
   ·wtm_at "if"
    wtm_at "go"
    refine d_in S (S.dic (d := nd2) (kvs := kv2) (by wtm_at "ung"; unfold wL; wtm_at "mem")) hnd2 hcv ?_
    clear S; intro s S
    have hno : valueAt kv2 c = none := by
     unfold valueAt
     rw [Option.map_eq_none_iff, List.find?_eq_none]
     intro kv hkv hc
     have : kv.1 ∈ stk.map (·.k) := hst.keys ▸ List.mem_map_of_mem hkv
     wtm_at "pk"
     obtain ⟨f, hf, e⟩ := List.mem_map.mp this
     have := hrc f hf
     rw [e, of_decide_eq_true hc] at this
     exact Nat.lt_irrefl _ this
    rw [hno]
    dsimp only [Option.isSome]
    wtm_at "go"
    exact ⟨rfl, stk, M, kv2, hst, by lia, S⟩
   ·have hcM : c ∉ M := by simpa using h
    wtm_at "pk"
    obtain ⟨q, hq, hqk⟩ := List.mem_map.mp hcm
    obtain ⟨j, hj, hje⟩ := List.getElem_of_mem hq
    have hj : ns[j]? = some q := by simp [hj, hje]
    clear hje
    have hMl : M.length < ns.length := by
     have h1 : (c :: M).Nodup := List.nodup_cons.mpr ⟨hcM, hst.mnod⟩
     have h2 : (c :: M) ⊆ ns.map (·.2.key) := fun z hz => by
      rcases List.mem_cons.mp hz with rfl | hz
      ·exact hcm
      ·exact hst.mkey z hz
     have := nodup_len h1 h2
     simp only [List.length_cons, List.length_map] at this
     lia
    have hkl : kv2.length = stk.length := by have := congrArg List.length hst.keys; simpa using this
    have hsl : stk.length ≤ M.length := by
     have h2 : stk.map (·.k) ⊆ M := fun z hz => by
      wtm_at "pk"
      obtain ⟨f, hf, rfl⟩ := List.mem_map.mp hz
      exact hst.seen f hf
     have := nodup_len hst.nodup h2
     simpa using this
    wtm_at "us"
    unfold wL at S
    wtm_at "go"
    refine gm_set_add (S.at (a := se) (z := setO knd M) (by wtm_at "mem")) ?_
    wtm_at "go"
    refine set_add (k := c) (.there (.there .here)) S (S.at (a := se) (z := setO knd M) (by wtm_at "mem")) hcv (hsc _ _ hcv) (by lia) ?_
    clear S; intro s S
    refine ⟨rfl, ?_⟩
    wtm_at "go"
    refine gm_list (S.isL (a := ia) (by wtm_at "mem")) PySem.F.slot_list_append PySem.F.type_list_append ?_
    wtm_at "go"
    refine sub_dict S (S.dicAt (d := m) (kvs := kvsOf ns) (ep := ep) (by wtm_at "mem")).dictOf hcv (v := .ref q.1.i) (by rw [← hqk]; exact valueAt_at hkn hj) ?_
    clear S; intro s S
    wtm_at "pk"
    obtain ⟨o, ho, kv, t, hkv, hsl2⟩ := S.at (a := q.1.i) (z := nodO knd q.1 q.2) (by have := hnod j q hj _ List.mem_cons_self; wtm_at "mem")
    refine get_suc O S ⟨o, ho, hsl2⟩ (S.at (a := q.1.di) (z := nsO [] []) (by have := hnod j q hj (q.1.di, nsO [] []) (by wtm_at "nod"); wtm_at "mem")) rfl rfl ?_
    clear S; (try clear LL); (try clear LL); clear ho; intro s S
    wtm_at "go"
    wtm_at "pk"
    obtain ⟨sv, hsv, hSu⟩ := S.isLR (a := q.1.su) (R := keyV knd) (xs := q.2.suc) (by have := hnod j q hj (q.1.su, lstR (keyV knd) q.2.suc) (by wtm_at "nod"); wtm_at "mem")
    refine iter_list S hSu ?_
    clear S; (try clear LL); (try clear LL); clear hSu; intro nit s S
    refine ga_next S (S.at (by wtm_at "mem")) ?_
    clear S; intro mw s S
    wtm_at "go"
    refine l_append (y := lst ((stk.map fun f => .ref f.mw) ++ [.ref mw])) (.there (.there (.there .here))) S (S.isL (a := ia) (by wtm_at "mem")) (fun _ h => h) (line_le (by rw [List.length_map]; lia)) ?_
    clear S; intro s S
    refine ⟨rfl, ?_⟩
    wtm_at "go"
    wtm_at "pk"
    obtain ⟨stv, hstv, hSt⟩ := S.isLR (a := sa) (R := keyV knd) (xs := stk.map (·.k)) (by wtm_at "mem")
    refine len_list hSt S (by have := hstv.len; rw [List.length_map] at this; lia) ?_
    clear S; (try clear LL); (try clear LL); clear hSt; intro lt s S
    wtm_at "go"
    have hnk : c ∉ kv2.map (·.1) := by
     rw [hst.keys]
     intro hm
     wtm_at "pk"
     obtain ⟨f, hf, e⟩ := List.mem_map.mp hm
     exact hcM (e ▸ hst.seen f hf)
    refine d_set (y := dicO knd (kv2 ++ [(c, .int stv.length lt)])) (.there (.there (.there (.there (.there .here))))) S (S.dic (d := nd2) (kvs := kv2) (by wtm_at "mem")) hcv (line_le (by lia)) (fun o h => ?_) ?_
    ·unfold stored at h
     rw [if_neg] at h
     ·exact h
     ·rw [List.any_eq_true]
      rintro ⟨z, hz, e⟩
      exact hnk (of_decide_eq_true e ▸ List.mem_map_of_mem hz)
    clear S; intro s S
    wtm_at "go"
    wtm_at "pk"
    obtain ⟨stv2, hstv2, hSt⟩ := S.isLR (a := sa) (R := keyV knd) (xs := stk.map (·.k)) (by wtm_at "mem")
    refine gm_list hSt PySem.F.slot_list_append PySem.F.type_list_append ?_
    wtm_at "go"
    refine l_append (y := lstR (keyV knd) (stk.map (·.k) ++ [c])) (.there (.there .here)) S hSt (fun o h => ⟨_, hstv2.append (.cons hcv .nil), h⟩) (line_le (by have := hstv2.len; rw [List.length_map] at this; lia)) ?_
    clear S; (try clear LL); (try clear LL); clear hSt; intro s S
    refine ⟨rfl, ?_⟩
    wtm_at "go"
    refine ⟨rfl, stk ++ [⟨c, mw, nit, q.1.su, 0⟩], c :: M, kv2 ++ [(c, .int stv.length lt)], ?_, ?_, ?_⟩
    ·refine ⟨fun f hf => ?_, ?_, fun f hf => ?_, by simp [hst.keys], by simp only [List.length_cons]; lia, List.nodup_cons.mpr ⟨hcM, hst.mnod⟩, fun z hz => ?_⟩
     ·rcases List.mem_append.mp hf with hf | hf
      ·exact hst.node f hf
      ·rw [List.mem_singleton] at hf; subst hf; exact ⟨j, q, hj, hqk, rfl⟩
     ·rw [List.map_append, List.pairwise_append]
      refine ⟨hst.rank, by simp, fun a ha b hb => ?_⟩
      wtm_at "pk"
      obtain ⟨f, hf, rfl⟩ := List.mem_map.mp ha
      simp at hb; subst hb
      exact hrc f hf
     ·rcases List.mem_append.mp hf with hf | hf
      ·exact List.mem_cons_of_mem _ (hst.seen f hf)
      ·rw [List.mem_singleton] at hf; subst hf; exact List.mem_cons_self
     ·rcases List.mem_cons.mp hz with rfl | hz
      ·exact hcm
      ·exact hst.mkey z hz
    ·have e1 := unseen_cons hkn hj (hqk ▸ hcM)
     have e2 := left1_eq (f := ⟨c, mw, nit, q.1.su, 0⟩) hkn hj hqk
     rw [hqk] at e1
     unfold phi at hphi ⊢
     rw [List.map_append, List.sum_append, List.map_singleton, List.sum_singleton, e2]
     dsimp only
     lia
    ·rw [wL_last]
     refine S.perm ?_
     exact List.perm_append_comm_assoc [(mw, nxtO nit), (nit, liO q.1.su 0)] ((sa, lstR (keyV knd) (stk.map (·.k) ++ [c])) :: (ia, lst ((stk.map fun f => .ref f.mw) ++ [.ref mw])) :: (se, setO knd (c :: M)) :: (nd2, dicO knd (kv2 ++ [(c, .int stv.length lt)])) :: stk.flatMap sfL) _
  ·clear S; (try clear LL); (try clear LL); clear hcv hcm hrc hst hphi; rintro s ⟨stk, M, kv2, hst, hphi, S⟩
   wtm_at "go"
   let V3 := fun (_ : Nat) (_ : List (SF κ)) (_ : List κ) (_ : List (κ × Value)) => [some (Value.ref x), some (.ref m), some (.ref sa), some (.ref ia), some (.ref se), some (.ref nd2), some cv]
   let G3 := fun (_ : Nat) (stk : List (SF κ)) (M : List κ) (kv2 : List (κ × Value)) => wL knd sa ia se nd2 stk M kv2 ((fit, kitO m (i + 1) (kvsOf ns).length ep) :: Z)
   refine whi3 stk.length V3 G3 (fun k2 stk M kv2 => A3 (StkOk ns rk stk M kv2) (phi ns M stk ≤ k) (stk.length = k2)) stk M kv2 S ⟨hst, hphi, rfl⟩ ?_
   clear S; (try clear LL); (try clear LL); clear hst hphi; intro k2 stk M kv2 s E2 K3 fin3 hH S
   wtm_at "pk"
   obtain ⟨hst, hphi, hk2⟩ := hH
   wtm_at "ps"
   have hsl : stk.length ≤ M.length := by
    have h2 : stk.map (·.k) ⊆ M := fun z hz => by
     wtm_at "pk"
     obtain ⟨f, hf, rfl⟩ := List.mem_map.mp hz
     exact hst.seen f hf
    have := nodup_len hst.nodup h2
    simpa using this
   have hMl := hst.size
   wtm_at "go"
   wtm_at "pk"
   obtain ⟨stv, hstv, hSt⟩ := S.isLR (a := sa) (R := keyV knd) (xs := stk.map (·.k)) (by wtm_at "ung"; unfold wL; wtm_at "mem")
   have hstl := hstv.len
   rw [List.length_map] at hstl
   refine truthy_list hSt S (by lia) ?_
   clear S; (try clear LL); (try clear LL); clear hSt; intro s S
   refine ⟨fun hb => ?_, fun hb => ?_⟩
   ·have hne : stk ≠ [] := by rintro rfl; cases hstv; simp at hb
    clear hb hstv hstl stv
    wtm_at "pk"
    obtain ⟨stk0, f, rfl⟩ : ∃ l x, stk = l ++ [x] := ⟨stk.dropLast, stk.getLast hne, (List.dropLast_concat_getLast hne).symm⟩
    clear hne
    wtm_at "pk"
    obtain ⟨j, q, hj, hqk, hqs⟩ := hst.node f (by simp)
    have hlf := left1_eq hkn hj hqk
    have hphi' : phi ns M stk0 + left1 ns f ≤ k := by
     unfold phi at hphi ⊢
     rw [List.map_append, List.sum_append, List.map_singleton, List.sum_singleton] at hphi
     lia
    wtm_at "us"
    rw [wL_last] at S
    wtm_at "go"
    refine sub_last (by rfl) (S.isL (a := ia) (by wtm_at "mem")) (by rw [List.length_map]; simp at hsl; lia) ?_
    refine cw_mw (S.at (a := f.mw) (z := nxtO f.it) (by wtm_at "mem")) ?_
    wtm_at "pk"
    obtain ⟨sv, hsv, hSu⟩ := S.isLR (a := f.su) (R := keyV knd) (xs := q.2.suc) (by rw [← hqs]; have := hnod j q hj (q.1.su, lstR (keyV knd) q.2.suc) (by wtm_at "nod"); wtm_at "mem")
    by_cases hp : f.p < q.2.suc.length
    ·wtm_at "pk"
     obtain ⟨cv', hcv', hck'⟩ := hsv.get (i := f.p) (x := q.2.suc[f.p]) (by simp [hp])
     refine mw_item (y := liO f.su (f.p + 1)) (.there (.there (.there (.there ((Upd.there .here).left (stk0.flatMap sfL)))))) S (S.at (a := f.mw) (z := nxtO f.it) (by wtm_at "mem")) (S.at (a := f.it) (z := liO f.su f.p) (by wtm_at "mem")) hSu hcv' (fun _ h => h) ?_
     clear S; (try clear LL); (try clear LL); clear hSu; intro s S
     wtm_at "go"
     have hr := hrk q (List.mem_of_getElem? hj) q.2.suc[f.p] (List.getElem_mem hp)
     have hf' : wL knd sa ia se nd2 (stk0 ++ [{ f with p := f.p + 1 }]) M kv2 ((fit, kitO m (i + 1) (kvsOf ns).length ep) :: Z) = _ := wL_last
     dsimp only at hf'
     refine fin2 (phi ns M (stk0 ++ [{ f with p := f.p + 1 }])) (stk0 ++ [{ f with p := f.p + 1 }]) M kv2 q.2.suc[f.p] cv' _ ?_ ⟨?_, rfl, hck', hr.1, ?_⟩ (by dsimp only [G2]; rw [hf']; exact S)
     ·have := left1_eq (f := { f with p := f.p + 1 }) hkn hj hqk
      unfold phi at hphi' ⊢
      rw [List.map_append, List.sum_append, List.map_singleton, List.sum_singleton, this]
      dsimp only
      lia
     ·exact hst.bump _
     ·intro g hg
      have hrr := hst.rank
      rw [List.map_append, List.pairwise_append] at hrr
      rcases List.mem_append.mp hg with hg | hg
      ·have := hrr.2.2 (rk g.k) (List.mem_map_of_mem hg) (rk f.k) (by simp)
       rw [hqk] at hr
       lia
      ·rw [List.mem_singleton] at hg; subst hg
       rw [← hqk]; exact hr.2
    ·refine mw_stop hA.hand (.there (.there (.there (.there ((Upd.there .here).left (stk0.flatMap sfL)))))) S (S.at (a := f.mw) (z := nxtO f.it) (by wtm_at "mem")) (S.at (a := f.it) (z := liO f.su f.p) (by wtm_at "mem")) hSu (by rw [List.getElem?_eq_none_iff]; have := hsv.len; lia) ?_
     clear S; (try clear LL); (try clear LL); clear hSu; intro s h' e S hx'
     refine caught (T := "StopIteration") (tk := s.toks) S (hF _) hA.frames hx' (by rw [isSubtype_type]; kernel_rfl) (by kernel_rfl) (by rw [isSubtype_type]; kernel_rfl) (fun A Q E s S h => ?_) ?_
     ·exact lB O S (fun _ => by kernel_rfl) (v := .type "StopIteration") (by kernel_rfl) hE (by rfl) h
     clear S; (try clear LL); (try clear LL); clear hx'; intro A' E' s _ _ _ S
     wtm_at "go"
     wtm_at "pk"
     obtain ⟨stv, hstv, hSt⟩ := S.isLR (a := sa) (R := keyV knd) (xs := stk0.map (·.k) ++ [f.k]) (by wtm_at "mem")
     refine gm_list hSt PySem.F.slot_list_pop PySem.F.type_list_pop ?_
     wtm_at "go"
     wtm_at "pk"
     obtain ⟨st1, st2, rfl, hst1, hst2⟩ := hstv.unapp
     obtain ⟨fv, rfl, hfv⟩ := hst2.one
     refine l_pop (y := lstR (keyV knd) (stk0.map (·.k))) .here S hSt (fun o h => ⟨_, hst1, h⟩) (Nat.lt_of_lt_of_le (by have := hst1.len; rw [List.length_map] at this; simp at hsl; lia) (line_le (Nat.le_refl 10000))) ?_
     clear S; (try clear LL); (try clear LL); clear hSt; intro s S
     have hkk := hst.keys
     rw [List.map_append, List.map_singleton] at hkk
     obtain ⟨kv0, kl, rfl, hkv0, hkl⟩ : ∃ kv0 kl, kv2 = kv0 ++ [kl] ∧ kv0.map (·.1) = stk0.map (·.k) ∧ kl.1 = f.k := by
      have hne : kv2 ≠ [] := by rintro rfl; simp at hkk
      refine ⟨kv2.dropLast, kv2.getLast hne, (List.dropLast_concat_getLast hne).symm, ?_⟩
      rw [← List.dropLast_concat_getLast hne, List.map_append, List.map_singleton] at hkk
      have := List.append_inj' hkk (by simp)
      exact ⟨this.1, by simpa using this.2⟩
     have hfn : f.k ∉ stk0.map (·.k) := by
      have := hst.nodup
      rw [List.map_append, List.nodup_append] at this
      exact fun hm => this.2.2 _ hm _ (by simp) rfl
     have hwo : without (kv0 ++ [kl]) f.k = kv0 := by
      unfold without
      rw [List.filter_append]
      simp only [List.filter_cons, hkl, List.filter_nil]
      simp only [ne_eq, not_true_eq_false, decide_false, Bool.false_eq_true, if_false, List.append_nil]
      rw [List.filter_eq_self]
      intro z hz
      simp only [decide_not, Bool.not_eq_true', decide_eq_false_iff_not]
      exact fun e => hfn (hkv0 ▸ e ▸ List.mem_map_of_mem hz)
     refine d_del (y := dicO knd kv0) (.there (.there (.there .here))) S (S.dic (d := nd2) (kvs := kv0 ++ [kl]) (by wtm_at "mem")) hfv (by have := congrArg List.length hkv0; simp at this hsl ⊢; lia) ?_ (fun o h => by rw [hwo] at h; exact h) ?_
     ·unfold valueAt
      rw [Option.isSome_map, List.find?_isSome]
      exact ⟨kl, by simp, by simp [hkl]⟩
     clear S; intro s S
     refine xs_drop fn ?_
     wtm_at "go"
     refine gm_list (S.isL (a := ia) (by wtm_at "mem")) PySem.F.slot_list_pop PySem.F.type_list_pop ?_
     wtm_at "go"
     refine l_pop (y := lst (stk0.map fun f => .ref f.mw)) (.there .here) S (S.isL (a := ia) (by wtm_at "mem")) (fun _ h => h) (Nat.lt_of_lt_of_le (by rw [List.length_map]; simp at hsl; lia) (line_le (Nat.le_refl 10000))) ?_
     clear S; intro s S
     wtm_at "go"
     refine fin3 stk0.length stk0 M kv0 _ (by simp at hk2; lia) ⟨?_, by lia, rfl⟩ (S.less ?_)
     ·refine ⟨fun g hg => hst.node g (List.mem_append_left _ hg), ?_, fun g hg => hst.seen g (List.mem_append_left _ hg), hkv0, hst.size, hst.mnod, hst.mkey⟩
      have := hst.rank
      rw [List.map_append, List.pairwise_append] at this
      exact this.1
     ·dsimp only [G3]; unfold wL
      refine .cons_cons _ (.cons_cons _ (.cons_cons _ (.cons_cons _ (List.Sublist.append_left ?_ _))))
      exact .cons _ (.cons _ (List.Sublist.refl _))
   ·have he : stk = [] := by
     cases stk with
     | nil => rfl
     | cons => cases hstv with | cons => simp at hb
    subst he
    have hkv : kv2 = [] := by have := hst.keys; simpa using this
    subst hkv
    wtm_at "go"
    refine lr_brk ?_
    wtm_at "go"
    exact fin1 M _ _ hst (S.perm (perm_wL (fit, kitO m (i + 1) (kvsOf ns).length ep) Z).symm)
 ·clear S; intro M a s hst S
  wtm_at "ps"
  wtm_at "go"
  exact hR _ (S.pop.less (by wtm_at "ung"; unfold wL; simp only [List.flatMap_nil, List.nil_append]; wtm_at "sub"))
end cycle_spec_w
end
theorem cycle_spec {prog : Program} {w : World} {B : Bs} {fs : List Fm} {Z : List (Addr × O)} {s : Shared} {A : Around} {n : Nat} {es : List Env} {κ : Type} [inst : DecidableEq κ] {x dx m : Addr} {rv : Value} {pa fi : Int} {knd : KeyKind prog w κ} {ns : List (NA × Nod κ)} {ep : Nat} {R : Result → Shared → Prop} {rk : κ → Nat} : @cycle_spec_w.Pw prog w B fs Z s A n es κ inst x dx m rv pa fi knd ns ep R rk := worst_of (Q := cycle_spec_w.Hw) (by with_unfolding_all rfl) cycle_spec_w.run ⟨⟨prog, w, κ, inst, knd⟩, B, fs, Z, s, A, n, es, x, dx, m, rv, pa, fi, ns, ep, R, rk⟩
section
end
end
section
section
variable {prog : Program} {w : World} {B : Bs} {fs : List Fm} {L L' Z : List (Addr × O)} {s : Shared} {A : Around} {E : Value → Shared → Prop} {n : Nat} {es : List Env} {κ : Type} [DecidableEq κ] {x dx m r : Addr} {v rv key : Value} {pa fi : Int} {k : κ} {knd : KeyKind prog w κ} {ns : List (NA × Nod κ)} {ep : Nat}
noncomputable def readyN (nds : List (Nod κ)) : List κ := (nds.filter fun nd => nd.np = 0).map (·.key)
theorem readyN_snoc (nds : List (Nod κ)) (nd : Nod κ) : readyN (nds ++ [nd]) = readyN nds ++ if nd.np = 0 then [nd.key] else [] := by
 unfold readyN
 rw [List.filter_append, List.map_append]
 congr 1
 by_cases h : nd.np = 0 <;> simp [h]
end
noncomputable section
namespace prepare_spec_w
def Pw (prog : Program) (w : World) (B : Bs) (fs : List Fm) (L : List (Addr × O)) (s : Shared) (A : Around) (n : Nat) (es : List Env) (κ : Type) [inst : DecidableEq κ] (x dx m : Addr) (pa fi : Int) (knd : KeyKind prog w κ) (ns : List (NA × Nod κ)) (R : Result → Shared → Prop) (rk : κ → Nat) : Prop := ∀ (O : Ok B w) (S : St B fs (srtL knd x dx m .none pa fi ns ++ L) s) (hA : AOk A (n + 2) es) (hF : FrOk es fs) (hms : (m == sysModules) = false) (hsc : ∀ k v, knd.is k v = true → v.scannable = true) (hhi : ∀ k v, knd.is k v = true → handedIn v = true) (hrk : ∀ q ∈ ns, ∀ c ∈ q.2.suc, c ∈ ns.map (·.2.key) ∧ rk q.2.key < rk c) (hz : ns.length ≤ 1000) (hR : ∀ r s', St B fs (srtL knd x dx m (.ref r) pa fi ns ++ (r, lstR (keyV knd) (readyN (ns.map (·.2)))) :: L) s' → R (.ok (.ret .none)) s'),
  codeAny (model prog w) A (.call (.ref 106) ⟨[.ref x], []⟩) R s
def Hw (x : (z : KK) × (Bs × (List Fm) × (List (Addr × O)) × Shared × Around × Nat × (List Env) × Addr × Addr × Addr × Int × Int × (List (NA × Nod z.κ)) × (Result → Shared → Prop) × (z.κ → Nat))) : Prop := @Pw x.1.prog x.1.w x.2.1 x.2.2.1 x.2.2.2.1 x.2.2.2.2.1 x.2.2.2.2.2.1 x.2.2.2.2.2.2.1 x.2.2.2.2.2.2.2.1 x.1.κ x.1.inst x.2.2.2.2.2.2.2.2.1 x.2.2.2.2.2.2.2.2.2.1 x.2.2.2.2.2.2.2.2.2.2.1 x.2.2.2.2.2.2.2.2.2.2.2.1 x.2.2.2.2.2.2.2.2.2.2.2.2.1 x.1.knd x.2.2.2.2.2.2.2.2.2.2.2.2.2.1 x.2.2.2.2.2.2.2.2.2.2.2.2.2.2.1 x.2.2.2.2.2.2.2.2.2.2.2.2.2.2.2
@[irreducible] def cw := worst (ne8 (by repeat (first | refine ne5 ?_ ?_ | exact ne1 | exact ne2 | exact ne3 | exact ne4 | exact inferInstance | exact ne7 | exact ⟨⟨0, 0, 0, 0, 0, 0, 0, 0⟩⟩))) Hw
def prog := cw.1.prog
def w := cw.1.w
def B := cw.2.1
def fs := cw.2.2.1
def L := cw.2.2.2.1
def s := cw.2.2.2.2.1
def A := cw.2.2.2.2.2.1
def n := cw.2.2.2.2.2.2.1
def es := cw.2.2.2.2.2.2.2.1
def κ := cw.1.κ
def inst : DecidableEq κ := cw.1.inst
def x := cw.2.2.2.2.2.2.2.2.1
def dx := cw.2.2.2.2.2.2.2.2.2.1
def m := cw.2.2.2.2.2.2.2.2.2.2.1
def pa := cw.2.2.2.2.2.2.2.2.2.2.2.1
def fi := cw.2.2.2.2.2.2.2.2.2.2.2.2.1
def knd : @PySem.KeyKind prog w κ inst := cw.1.knd
def ns : List (NA × Nod κ) := cw.2.2.2.2.2.2.2.2.2.2.2.2.2.1
def R := cw.2.2.2.2.2.2.2.2.2.2.2.2.2.2.1
def rk : κ → Nat := cw.2.2.2.2.2.2.2.2.2.2.2.2.2.2.2
theorem run : @Pw prog w B fs L s A n es κ inst x dx m pa fi knd ns R rk := by
 letI := inst
 intro O S hA hF hms hsc hhi hrk hz hR
 refine call_fr (a := 106) (names := ["self"]) (rest := ["cycle"]) (vals := [.ref x]) O S hA hF (fun _ => rfl) rfl (fun _ => by kernel_rfl) rfl rfl rfl (by decide +kernel) (by decide +kernel) (by decide +kernel) rfl rfl rfl ?_
 clear S; (try clear LL); (try clear LL); clear hA; intro env nd kd fn s hE hF S hA E
 dsimp only at hE
 wtm_at "us"
 dsimp only [List.map, List.append, List.cons_append, List.nil_append] at S
 wtm_at "if"
 wtm_at "go"
 refine get_rdy O S (S.at (by wtm_at "srt")) (S.at (by wtm_at "srt")) rfl ?_
 clear S; intro s S
 wtm_at "go"
 wtm_at "pk"
 obtain ⟨ep, S⟩ := S.spec (F := fun ep => (x, instO 151 dx) :: (dx, srtN m .none pa fi) :: (m, dicE knd (kvsOf ns) ep) :: (ns.flatMap (nodL knd) ++ L)) (fun ep => .there (.there .here)) 0 (fun o h => dicE_of h)
 refine e_lc (B := B) (fs := (⟨env, ["self", "cycle"], nd, kd, fn⟩, [some (.ref x), none]) :: fs) ["i"] [] hE (closureFor_none (by decide +kernel)) (by decide +kernel) rfl (by decide +kernel) (by decide +kernel) (by decide +kernel) ?_
 wtm_at "go"
 refine get_n2i O S (S.at (by wtm_at "mem")) (S.at (by wtm_at "mem")) ?_
 clear S; intro s S
 wtm_at "go"
 refine gm_dict (S.dicAt (d := m) (kvs := kvsOf ns) (ep := ep) (by wtm_at "mem")).dictOf PySem.F.slot_dict_values PySem.F.type_dict_values ?_
 wtm_at "go"
 refine d_values S hms (S.dicAt (d := m) (kvs := kvsOf ns) (ep := ep) (by wtm_at "mem")).dictOf ?_
 clear S; intro vw s S
 refine pi_values S (S.at (by wtm_at "mem")) (kvs := kvsOf ns) (ep := ep) (by wtm_at "mem") ?_
 clear S; intro it s S
 have hlen : (kvsOf ns).length = ns.length := by (try dsimp only [LL]); unfold kvsOf; rw [List.length_map]
 refine lci_e (Itr.vals _ _ it m (kvsOf ns) ep) hA.hand S (fun i ys L' => (vw, vvwO m) :: (x, instO 151 dx) :: (dx, srtN m .none pa fi) :: (m, dicE knd (kvsOf ns) ep) :: (ns.flatMap (nodL knd) ++ L) = L' ∧ F2 (keyV knd) (readyN ((ns.take i).map (·.2))) ys)
  (by rintro i vs _ ⟨rfl, _⟩ p hp; simp only [List.mem_singleton] at hp; subst hp; wtm_at "mem") ⟨rfl, .nil⟩ ?_ ?_ ?_
 ·rintro i ys _ ⟨rfl, hy⟩
  have h1 := hy.len
  have h2 : (readyN ((ns.take i).map (·.2))).length ≤ ns.length := by
   unfold readyN
   rw [List.length_map]
   refine Nat.le_trans (List.length_filter_le _ _) ?_
   rw [List.length_map, List.length_take]; lia
  lia
 ·clear S; intro D cenv cnd ckd cfn i vs ys _ v X s E hEc hcl hvl hi hJ1 hJ2 S
  wtm_at "pq"
  wtm_at "pk"
  obtain ⟨⟨kk, hkk⟩, rfl⟩ := hJ2
  obtain ⟨rfl, hy⟩ := hJ1
  wtm_at "ps"
  wtm_at "pk"
  obtain ⟨a, rfl⟩ := len1 hvl
  wtm_at "go"
  have hi' : i < ns.length := by lia
  obtain ⟨q, hq, hqe⟩ : ∃ q, ns[i]? = some q ∧ (q.2.key, Value.ref q.1.i) = (kk, v) := by
   unfold kvsOf at hkk
   rw [List.getElem?_map] at hkk
   wtm_at "pk"
   obtain ⟨q, h1, h2⟩ := Option.map_eq_some_iff.mp hkk
   exact ⟨q, h1, h2⟩
  cases hqe
  have htk : readyN ((ns.take (i + 1)).map (·.2)) = readyN ((ns.take i).map (·.2)) ++ if q.2.np = 0 then [q.2.key] else [] := by
   rw [List.take_add_one, hq]
   simp only [Option.toList_some, List.map_append, List.map_singleton]
   exact readyN_snoc _ _
  wtm_at "pk"
  obtain ⟨o, ho, kv, t, hkv, hsl⟩ := S.at (a := q.1.i) (z := nodO knd q.1 q.2) (by have := mem_flat (f := nodL knd) hq (p := (q.1.i, nodO knd q.1 q.2)) List.mem_cons_self; wtm_at "mem")
  refine get_np O S ⟨o, ho, hsl⟩ (S.at (a := q.1.di) (z := nsO [] []) (by have := mem_flat (f := nodL knd) hq (p := (q.1.di, nsO [] [])) (by wtm_at "nod"); wtm_at "mem")) rfl rfl ?_
  clear S; (try clear LL); (try clear LL); clear ho; intro s S
  wtm_at "go"
  refine ⟨fun h => ?_, fun h => ?_⟩
  ·wtm_at "go"
   wtm_at "pk"
   obtain ⟨o, ho, kv, t, hkv, hsl⟩ := S.at (a := q.1.i) (z := nodO knd q.1 q.2) (by have := mem_flat (f := nodL knd) hq (p := (q.1.i, nodO knd q.1 q.2)) List.mem_cons_self; wtm_at "mem")
   refine get_node O S ⟨o, ho, hsl⟩ (S.at (a := q.1.di) (z := nsO [] []) (by have := mem_flat (f := nodL knd) hq (p := (q.1.di, nsO [] [])) (by wtm_at "nod"); wtm_at "mem")) rfl (hhi _ _ hkv) ?_
   clear S; (try clear LL); (try clear LL); clear ho; intro s S
   refine ⟨_, _, rfl, ⟨rfl, ?_⟩, S⟩
   rw [htk, if_pos (by simpa using h)]
   exact hy.append (.cons hkv .nil)
  ·refine ⟨_, _, rfl, ⟨rfl, ?_⟩, S⟩
   rw [htk, if_neg (by simpa using h), List.append_nil]
   exact hy
 ·clear S; intro r ys _ s hJ1 S
  wtm_at "pq"
  wtm_at "pk"
  obtain ⟨rfl, hy⟩ := hJ1
  wtm_at "ps"
  rw [hlen, List.take_length] at hy
  replace S := S.weak (y := lstR (keyV knd) (readyN (ns.map (·.2)))) .here (fun o h => ⟨ys, hy, h⟩)
  wtm_at "go"
  refine set_rdy O S (S.at (by wtm_at "mem")) (.there (.there (.there .here))) (S.at (by wtm_at "mem")) ?_
  clear S; intro s S
  wtm_at "go"
  wtm_at "pk"
  obtain ⟨o, e, t, u, i⟩ := S.at (a := dx) (z := srtN m (.ref r) pa fi) (by wtm_at "mem")
  refine m_cls (f := 141) O S (S.at (by wtm_at "mem")) ⟨o, e, i⟩ (lookV_notin (by decide +kernel)) (fun P => K151_get P _) (fun _ => by kernel_rfl) (fun _ => by kernel_rfl) ?_
  clear o e t u i
  refine cw_K0 O S (fun _ => by kernel_rfl) ?_
  refine w_call ?_
  refine cycle_spec (rk := rk) (ns := ns) (ep := ep) (m := m) (dx := dx) (rv := .ref r) (pa := pa) (fi := fi) O S hA (hF _) hms hsc (by wtm_at "mem") (by wtm_at "mem") (by wtm_at "mem") (fun j q hj p hp => ?_) hrk hz ?_
  ·have := mem_flat hj hp
   wtm_at "mem"
  clear S; intro s S
  refine ret_ok ?_
  wtm_at "go"
  wtm_at "if"
  wtm_at "go"
  refine truthy_none ?_
  wtm_at "go"
  refine hR r _ ?_
  have S1 := S.pop
  have S2 := S1.weak (a := m) (y := dicO knd (kvsOf ns)) (.there (.there (.there (.there .here)))) (fun o h => dicE_to h)
  have S3 := S2.less (L' := (r, lstR (keyV knd) (readyN (ns.map (·.2)))) :: (srtL knd x dx m (.ref r) pa fi ns ++ L)) (.cons_cons _ (.cons _ (List.Sublist.refl _)))
  exact S3.srtIn
end prepare_spec_w
end
theorem prepare_spec {prog : Program} {w : World} {B : Bs} {fs : List Fm} {L : List (Addr × O)} {s : Shared} {A : Around} {n : Nat} {es : List Env} {κ : Type} [inst : DecidableEq κ] {x dx m : Addr} {pa fi : Int} {knd : KeyKind prog w κ} {ns : List (NA × Nod κ)} {R : Result → Shared → Prop} {rk : κ → Nat} : @prepare_spec_w.Pw prog w B fs L s A n es κ inst x dx m pa fi knd ns R rk := worst_of (Q := prepare_spec_w.Hw) (by with_unfolding_all rfl) prepare_spec_w.run ⟨⟨prog, w, κ, inst, knd⟩, B, fs, L, s, A, n, es, x, dx, m, pa, fi, ns, R, rk⟩
section
end
end
section
section
variable {κ : Type} [DecidableEq κ]
noncomputable def npOf (ar : List (κ × κ)) (dn : List κ) (k : κ) : Int := ((ar.filter fun a => a.2 = k ∧ a.1 ∉ dn).length : Nat)
noncomputable def sucOf (ar : List (κ × κ)) (k : κ) : List κ := (ar.filter fun a => a.1 = k).map (·.2)
structure BInv (a1 a2 : List (κ × κ)) (nds : List (Nod κ)) : Prop where
 nd : (nds.map (·.key)).Nodup
 np : ∀ x ∈ nds, x.np = npOf a1 [] x.key
 suc : ∀ x ∈ nds, x.suc = sucOf a2 x.key
 d1 : ∀ a ∈ a1, a.2 ∈ nds.map (·.key)
 d2 : ∀ a ∈ a2, a.1 ∈ nds.map (·.key)
theorem npOf_append (ar br : List (κ × κ)) (dn : List κ) (k : κ) : npOf (ar ++ br) dn k = npOf ar dn k + npOf br dn k := by
 unfold npOf; rw [List.filter_append, List.length_append]; push_cast; rfl
theorem sucOf_append (ar br : List (κ × κ)) (k : κ) : sucOf (ar ++ br) k = sucOf ar k ++ sucOf br k := by
 unfold sucOf; rw [List.filter_append, List.map_append]
theorem npOf_zero {ar : List (κ × κ)} {dn : List κ} {k : κ} (h : ∀ a ∈ ar, a.2 ≠ k) : npOf ar dn k = 0 := by
 unfold npOf
 rw [List.filter_eq_nil_iff.mpr]; rfl
 intro a ha
 simp [h a ha]
theorem sucOf_nil {ar : List (κ × κ)} {k : κ} (h : ∀ a ∈ ar, a.1 ≠ k) : sucOf ar k = [] := by
 unfold sucOf
 rw [List.filter_eq_nil_iff.mpr]; rfl
 intro a ha
 simp [h a ha]
theorem mem_touch {nds : List (Nod κ)} {k : κ} {x : Nod κ} (h : x ∈ touchN nds k) : x ∈ nds ∨ (x = ⟨k, 0, []⟩ ∧ k ∉ nds.map (·.key)) := by
 unfold touchN at h
 split at h
 ·exact .inl h
 ·rename_i hn
  rcases List.mem_append.mp h with h | h
  ·exact .inl h
  ·refine .inr ⟨by simpa using h, fun hm => hn ?_⟩
   rw [List.any_eq_true]
   obtain ⟨z, hz, e⟩ := List.mem_map.mp hm
   exact ⟨z, hz, by simp [e]⟩
theorem keys_touch (nds : List (Nod κ)) (k : κ) : (touchN nds k).map (·.key) = if k ∈ nds.map (·.key) then nds.map (·.key) else nds.map (·.key) ++ [k] := by
 unfold touchN
 by_cases h : k ∈ nds.map (·.key)
 ·rw [if_pos h, if_pos]
  rw [List.any_eq_true]
  obtain ⟨z, hz, e⟩ := List.mem_map.mp h
  exact ⟨z, hz, by simp [e]⟩
 ·rw [if_neg h, if_neg]
  ·simp
  ·rw [List.any_eq_true]
   rintro ⟨z, hz, e⟩
   exact h (by rw [← of_decide_eq_true e]; exact List.mem_map_of_mem hz)
theorem BInv.touch {a1 a2 : List (κ × κ)} {nds : List (Nod κ)} (h : BInv a1 a2 nds) (k : κ) : BInv a1 a2 (touchN nds k) ∧ k ∈ (touchN nds k).map (·.key) ∧ ∀ z ∈ nds.map (·.key), z ∈ (touchN nds k).map (·.key) := by
 have hk : k ∈ (touchN nds k).map (·.key) := by
  rw [keys_touch]; split
  ·assumption
  ·simp
 have hsub : ∀ z ∈ nds.map (·.key), z ∈ (touchN nds k).map (·.key) := fun z hz => by
  rw [keys_touch]; split
  ·exact hz
  ·exact List.mem_append_left _ hz
 refine ⟨⟨?_, fun x hx => ?_, fun x hx => ?_, fun a ha => hsub _ (h.d1 a ha), fun a ha => hsub _ (h.d2 a ha)⟩, hk, hsub⟩
 ·rw [keys_touch]
  split
  ·exact h.nd
  ·rename_i hn
   rw [List.nodup_append]
   exact ⟨h.nd, by simp, fun a ha b hb => by simp at hb; subst hb; exact fun e => hn (e ▸ ha)⟩
 ·rcases mem_touch hx with hx | ⟨rfl, hn⟩
  ·exact h.np x hx
  ·exact (npOf_zero (k := k) fun a ha e => hn (e ▸ h.d1 a ha)).symm
 ·rcases mem_touch hx with hx | ⟨rfl, hn⟩
  ·exact h.suc x hx
  ·exact (sucOf_nil (k := k) fun a ha e => hn (e ▸ h.d2 a ha)).symm
theorem keys_bump (nds : List (Nod κ)) (k : κ) (c : Int) : (bumpN nds k c).map (·.key) = nds.map (·.key) := keys_onKey k (fun nd => { nd with np := nd.np + c }) (fun _ => rfl) nds
theorem keys_push (nds : List (Nod κ)) (p k : κ) : (pushN nds p k).map (·.key) = nds.map (·.key) := keys_onKey p (fun nd => { nd with suc := nd.suc ++ [k] }) (fun _ => rfl) nds
theorem BInv.bump {a1 a2 : List (κ × κ)} {nds : List (Nod κ)} (h : BInv a1 a2 nds) {k : κ} (hk : k ∈ nds.map (·.key)) (ps : List κ) : BInv (a1 ++ ps.map fun p => (p, k)) a2 (bumpN nds k ps.length) := by
 have hkeys : (bumpN nds k ps.length).map (·.key) = nds.map (·.key) := keys_bump ..
 refine ⟨by rw [hkeys]; exact h.nd, fun x hx => ?_, fun x hx => ?_, fun a ha => ?_, fun a ha => by rw [hkeys]; exact h.d2 a ha⟩
 ·obtain ⟨z, hz, rfl⟩ := List.mem_map.mp hx
  rw [npOf_append]
  split
  ·rename_i e
   dsimp only
   rw [h.np z hz, e]
   congr 1
   unfold npOf
   rw [List.filter_eq_self.mpr]
   ·simp
   ·intro a ha
    obtain ⟨p, _, rfl⟩ := List.mem_map.mp ha
    simp
  ·rename_i e
   rw [h.np z hz, npOf_zero (ar := ps.map fun p => (p, k)), Int.add_zero]
   intro a ha
   obtain ⟨p, _, rfl⟩ := List.mem_map.mp ha
   exact fun q => e q.symm
 ·obtain ⟨z, hz, rfl⟩ := List.mem_map.mp hx
  split <;> exact h.suc z hz
 ·rw [hkeys]
  rcases List.mem_append.mp ha with ha | ha
  ·exact h.d1 a ha
  ·obtain ⟨p, _, rfl⟩ := List.mem_map.mp ha
   exact hk
theorem BInv.push {a1 a2 : List (κ × κ)} {nds : List (Nod κ)} (h : BInv a1 a2 nds) {p : κ} (hp : p ∈ nds.map (·.key)) (k : κ) : BInv a1 (a2 ++ [(p, k)]) (pushN nds p k) := by
 have hkeys : (pushN nds p k).map (·.key) = nds.map (·.key) := keys_push ..
 refine ⟨by rw [hkeys]; exact h.nd, fun x hx => ?_, fun x hx => ?_, fun a ha => by rw [hkeys]; exact h.d1 a ha, fun a ha => ?_⟩
 ·obtain ⟨z, hz, rfl⟩ := List.mem_map.mp hx
  split <;> exact h.np z hz
 ·obtain ⟨z, hz, rfl⟩ := List.mem_map.mp hx
  rw [sucOf_append]
  split
  ·rename_i e
   dsimp only
   rw [h.suc z hz, e]
   simp [sucOf]
  ·rename_i e
   rw [h.suc z hz, sucOf_nil (ar := [(p, k)]), List.append_nil]
   intro a ha q
   simp at ha
   subst ha
   exact e q.symm
 ·rw [hkeys]
  rcases List.mem_append.mp ha with ha | ha
  ·exact h.d2 a ha
  ·simp at ha; subst ha; exact hp
theorem BInv.add {ar : List (κ × κ)} {nds : List (Nod κ)} (h : BInv ar ar nds) (k : κ) (ps : List κ) : BInv (ar ++ ps.map fun p => (p, k)) (ar ++ ps.map fun p => (p, k)) (addN nds k ps) ∧ k ∈ (addN nds k ps).map (·.key) ∧ (∀ z ∈ nds.map (·.key), z ∈ (addN nds k ps).map (·.key)) ∧
  ∀ z ∈ (addN nds k ps).map (·.key), z ∈ nds.map (·.key) ∨ z = k ∨ z ∈ ps := by
 unfold addN
 obtain ⟨h1, h2, h3⟩ := h.touch k
 have h4 := h1.bump h2 ps
 have hkb : (bumpN (touchN nds k) k ps.length).map (·.key) = (touchN nds k).map (·.key) := keys_bump ..
 have h5 : ∀ z ∈ (bumpN (touchN nds k) k ps.length).map (·.key), z ∈ nds.map (·.key) ∨ z = k := by
  intro z hz
  rw [hkb, keys_touch] at hz
  split at hz
  ·exact .inl hz
  ·rcases List.mem_append.mp hz with hz | hz
   ·exact .inl hz
   ·exact .inr (by simpa using hz)
 have key : ∀ (qs rs : List κ) (m : List (Nod κ)), BInv (ar ++ ps.map fun p => (p, k)) (ar ++ rs.map fun p => (p, k)) m → BInv (ar ++ ps.map fun p => (p, k)) (ar ++ (rs ++ qs).map fun p => (p, k)) (qs.foldl (fun ns p => pushN (touchN ns p) p k) m) ∧
   (∀ z ∈ m.map (·.key), z ∈ (qs.foldl (fun ns p => pushN (touchN ns p) p k) m).map (·.key)) ∧ ∀ z ∈ (qs.foldl (fun ns p => pushN (touchN ns p) p k) m).map (·.key), z ∈ m.map (·.key) ∨ z ∈ qs := by
  intro qs
  induction qs with
  | nil => intro rs m hm; exact ⟨by simpa using hm, fun z hz => hz, fun z hz => .inl hz⟩
  | cons q qs ih =>
   intro rs m hm
   obtain ⟨t1, t2, t3⟩ := hm.touch q
   have t4 := t1.push t2 k
   have hkp : (pushN (touchN m q) q k).map (·.key) = (touchN m q).map (·.key) := keys_push ..
   have t5 := ih (rs ++ [q]) (pushN (touchN m q) q k) (by simpa using t4)
   rw [List.foldl_cons]
   refine ⟨by simpa using t5.1, fun z hz => t5.2.1 z (by rw [hkp]; exact t3 z hz), fun z hz => ?_⟩
   rcases t5.2.2 z hz with hz | hz
   ·rw [hkp, keys_touch] at hz
    split at hz
    ·exact .inl hz
    ·rcases List.mem_append.mp hz with hz | hz
     ·exact .inl hz
     ·exact .inr (by simp at hz; simp [hz])
   ·exact .inr (List.mem_cons_of_mem _ hz)
 have h6 := key ps [] _ (by simpa using h4)
 refine ⟨by simpa using h6.1, h6.2.1 k (by rw [hkb]; exact h2), fun z hz => h6.2.1 z (by rw [hkb]; exact h3 z hz), fun z hz => ?_⟩
 rcases h6.2.2 z hz with hz | hz
 ·rcases h5 z hz with h | h
  ·exact .inl h
  ·exact .inr (.inl h)
 ·exact .inr (.inr hz)
end
end
section
section
variable {κ : Type} [DecidableEq κ]
structure SInv (ar : List (κ × κ)) (dn out : List κ) (nds : List (Nod κ)) (rd : List κ) : Prop where
 nd : (nds.map (·.key)).Nodup
 suc : ∀ x ∈ nds, x.suc = sucOf ar x.key
 np : ∀ x ∈ nds, x.np = if x.key ∈ dn then -2 else if x.key ∈ out then -1 else npOf ar dn x.key
 dom : ∀ a ∈ ar, a.1 ∈ nds.map (·.key) ∧ a.2 ∈ nds.map (·.key)
 rdn : rd.Nodup
 rdm : ∀ k, k ∈ rd ↔ k ∈ nds.map (·.key) ∧ k ∉ dn ∧ k ∉ out ∧ npOf ar dn k = 0
 disj : ∀ k ∈ out, k ∉ dn
 dsub : ∀ k ∈ dn, k ∈ nds.map (·.key)
 osub : ∀ k ∈ out, k ∈ nds.map (·.key)
 top : ∀ a ∈ ar, (a.2 ∈ dn ∨ a.2 ∈ out) → a.1 ∈ dn
 dnn : dn.Nodup
 onn : out.Nodup
theorem npOf_nonneg (ar : List (κ × κ)) (dn : List κ) (k : κ) : 0 ≤ npOf ar dn k := by unfold npOf; lia
theorem npOf_eq_zero {ar : List (κ × κ)} {dn : List κ} {k : κ} : npOf ar dn k = 0 ↔ ∀ a ∈ ar, a.2 = k → a.1 ∈ dn := by
 unfold npOf
 rw [Int.natCast_eq_zero, List.length_eq_zero_iff, List.filter_eq_nil_iff]
 constructor
 ·intro h a ha e
  have := h a ha
  simp only [e, true_and, decide_not, Bool.not_eq_true', decide_eq_false_iff_not, Classical.not_not] at this
  exact this
 ·intro h a ha q
  simp only [decide_eq_true_eq] at q
  exact q.2 (h a ha q.1)
theorem SInv.start {ar : List (κ × κ)} {nds : List (Nod κ)} (h : BInv ar ar nds) : SInv ar [] [] nds (readyN nds) := by
 refine ⟨h.nd, h.suc, fun x hx => by simpa using h.np x hx, fun a ha => ⟨h.d2 a ha, h.d1 a ha⟩, ?_, fun k => ?_, by simp, by simp, by simp, by simp, by simp, by simp⟩
 ·unfold readyN
  exact (List.filter_sublist.map _).nodup h.nd
 ·unfold readyN
  rw [List.mem_map]
  constructor
  ·rintro ⟨x, hx, rfl⟩
   rw [List.mem_filter] at hx
   refine ⟨List.mem_map_of_mem hx.1, by simp, by simp, ?_⟩
   rw [← h.np x hx.1]; simpa using hx.2
  ·rintro ⟨hk, _, _, h0⟩
   obtain ⟨x, hx, rfl⟩ := List.mem_map.mp hk
   exact ⟨x, List.mem_filter.mpr ⟨hx, by simp [h.np x hx, h0]⟩, rfl⟩
theorem outN_eq (nds : List (Nod κ)) (rd : List κ) : outN nds rd = nds.map fun z => if z.key ∈ rd then { z with np := -1 } else z := by
 unfold outN
 induction rd generalizing nds with
 | nil => simp
 | cons k rd ih =>
  rw [List.foldl_cons, ih]
  unfold onKey
  rw [List.map_map]
  apply List.map_congr_left
  intro z _
  simp only [Function.comp]
  by_cases h1 : z.key = k
  ·simp [h1]
  ·simp [h1]
theorem SInv.ready {ar : List (κ × κ)} {dn out rd : List κ} {nds : List (Nod κ)} (h : SInv ar dn out nds rd) : SInv ar dn (out ++ rd) (outN nds rd) [] := by
 have hk := keys_outN nds rd
 refine ⟨by rw [hk]; exact h.nd, fun x hx => ?_, fun x hx => ?_, fun a ha => by rw [hk]; exact h.dom a ha, .nil, fun k => ?_, fun k hk' => ?_, fun k hk' => by rw [hk]; exact h.dsub k hk', fun k hk' => ?_, fun a ha hq => ?_, h.dnn, ?_⟩
 ·rw [outN_eq] at hx
  obtain ⟨z, hz, rfl⟩ := List.mem_map.mp hx
  split <;> exact h.suc z hz
 ·rw [outN_eq] at hx
  obtain ⟨z, hz, rfl⟩ := List.mem_map.mp hx
  have hn := h.np z hz
  by_cases hr : z.key ∈ rd
  ·have := (h.rdm z.key).mp hr
   simp [hr, this.2.1]
  ·simp only [hr, if_false]
   rw [hn]
   simp [List.mem_append, hr]
 ·rw [hk]
  constructor
  ·intro q; simp at q
  ·rintro ⟨h1, h2, h3, h4⟩
   rw [List.mem_append, not_or] at h3
   exact absurd ((h.rdm k).mpr ⟨h1, h2, h3.1, h4⟩) h3.2
 ·rcases List.mem_append.mp hk' with q | q
  ·exact h.disj k q
  ·exact ((h.rdm k).mp q).2.1
 ·rw [hk]
  rcases List.mem_append.mp hk' with q | q
  ·exact h.osub k q
  ·exact ((h.rdm k).mp q).1
 ·rcases hq with q | q
  ·exact h.top a ha (.inl q)
  ·rcases List.mem_append.mp q with q | q
   ·exact h.top a ha (.inr q)
   ·exact npOf_eq_zero.mp ((h.rdm _).mp q).2.2.2 a ha rfl
 ·rw [List.nodup_append]
  exact ⟨h.onn, h.rdn, fun a ha b hb e => ((h.rdm b).mp hb).2.2.1 (e ▸ ha)⟩
theorem key_inj {m : List (Nod κ)} (hm : (m.map (·.key)).Nodup) {z x : Nod κ} (hz : z ∈ m) (hx : x ∈ m) (e : z.key = x.key) : z = x := by
 induction m with
 | nil => simp at hz
 | cons c m ih =>
  rw [List.map_cons, List.nodup_cons] at hm
  rcases List.mem_cons.mp hz with rfl | hz' <;> rcases List.mem_cons.mp hx with rfl | hx'
  ·rfl
  ·exact absurd (e ▸ List.mem_map_of_mem (f := fun q => q.key) hx') hm.1
  ·exact absurd (e ▸ List.mem_map_of_mem (f := fun q => q.key) hz') hm.1
  ·exact ih hm.2 hz' hx'
theorem find_of_mem {m : List (Nod κ)} (hm : (m.map (·.key)).Nodup) {x : Nod κ} (hx : x ∈ m) : m.find? (fun z => z.key = x.key) = some x := by
 obtain ⟨j, hj, rfl⟩ := List.getElem_of_mem hx
 exact find_key hm (j := j) (by simp [hj])
theorem steps_spec : ∀ (l : List κ) (m : List (Nod κ)) (rd : List κ), (m.map (·.key)).Nodup → (∀ z ∈ m, z.key ∈ l → (l.count z.key : Int) ≤ z.np) → (∀ q ∈ l, q ∈ m.map (·.key)) → rd.Nodup → (∀ q ∈ l, q ∉ rd) →
  (l.foldl doneStep (m, rd)).1 = m.map (fun z => { z with np := z.np - l.count z.key }) ∧ (l.foldl doneStep (m, rd)).2.Nodup ∧ ∀ y, y ∈ (l.foldl doneStep (m, rd)).2 ↔ y ∈ rd ∨ (y ∈ l ∧ ∃ z ∈ m, z.key = y ∧ z.np = l.count y) := by
 intro l
 induction l with
 | nil =>
  intro m rd _ _ _ hr _
  refine ⟨?_, hr, fun y => by simp⟩
  simp
 | cons q l ih =>
  intro m rd hm hc hk hr hnr
  rw [List.foldl_cons]
  obtain ⟨x, hx, hxq⟩ := List.mem_map.mp (hk q List.mem_cons_self)
  have hcx := hc x hx (by rw [hxq]; exact List.mem_cons_self)
  rw [hxq, List.count_cons_self] at hcx
  have huniq : ∀ z ∈ m, z.key = q → z = x := fun z hz e => key_inj hm hz hx (e.trans hxq.symm)
  let m1 := onKey q (fun nd => { nd with np := nd.np - 1 }) m
  have hk1 : m1.map (·.key) = m.map (·.key) := keys_onKey q (fun nd => { nd with np := nd.np - 1 }) (fun _ => rfl) m
  have hx1 : ({ x with np := x.np - 1 } : Nod κ) ∈ m1 := List.mem_map.mpr ⟨x, hx, by rw [if_pos hxq]⟩
  have hstep : doneStep (m, rd) q = (m1, if x.np - 1 = 0 then rd ++ [q] else rd) := by
   unfold doneStep
   dsimp only
   have := find_of_mem (by rw [hk1]; exact hm) hx1
   dsimp only at this
   rw [hxq] at this
   rw [show onKey q (fun nd => { nd with np := nd.np - 1 }) m = m1 from rfl, this]
   simp
  rw [hstep]
  have hql : x.np - 1 = 0 → q ∉ l := fun e hq => by
   have := List.count_pos_iff.mpr hq
   lia
  have H := ih m1 (if x.np - 1 = 0 then rd ++ [q] else rd) (by rw [hk1]; exact hm) (fun z hz hzl => ?_) (fun q' hq' => by rw [hk1]; exact hk q' (List.mem_cons_of_mem _ hq')) ?_ (fun q' hq' => ?_)
  ·refine ⟨?_, H.2.1, fun y => ?_⟩
   ·rw [H.1]
    show (m.map _).map _ = _
    rw [List.map_map]
    apply List.map_congr_left
    intro z hz
    simp only [Function.comp]
    by_cases e : z.key = q
    ·simp only [e, if_true, List.count_cons_self]
     congr 1
     push_cast; lia
    ·rw [if_neg e, List.count_cons_of_ne (Ne.symm e)]
   ·rw [H.2.2 y]
    constructor
    ·rintro (h | ⟨h, z, hz, hzk, hzn⟩)
     ·split at h
      ·rename_i e
       rcases List.mem_append.mp h with h | h
       ·exact .inl h
       ·simp at h; subst h
        refine .inr ⟨List.mem_cons_self, x, hx, hxq, ?_⟩
        rw [List.count_cons_self, List.count_eq_zero_of_not_mem (hql e)]
        push_cast; lia
      ·exact .inl h
     ·obtain ⟨z0, hz0, rfl⟩ := List.mem_map.mp hz
      refine .inr ⟨List.mem_cons_of_mem _ h, z0, hz0, ?_⟩
      by_cases e : z0.key = q
      ·rw [if_pos e] at hzk hzn
       dsimp only at hzk hzn
       refine ⟨hzk, ?_⟩
       rw [← hzk, e, List.count_cons_self]
       rw [← hzk, e] at hzn
       push_cast; lia
      ·rw [if_neg e] at hzk hzn
       refine ⟨hzk, ?_⟩
       rw [List.count_cons_of_ne (by rw [← hzk]; exact Ne.symm e)]
       exact hzn
    ·rintro (h | ⟨h, z, hz, hzk, hzn⟩)
     ·refine .inl ?_
      split
      ·exact List.mem_append_left _ h
      ·exact h
     ·by_cases e : y = q
      ·subst e
       have := huniq z hz hzk
       subst this
       rw [List.count_cons_self] at hzn
       by_cases hyl : y ∈ l
       ·refine .inr ⟨hyl, _, hx1, hxq, ?_⟩
        dsimp only
        push_cast at hzn; lia
       ·rw [List.count_eq_zero_of_not_mem hyl] at hzn
        refine .inl ?_
        rw [if_pos (by push_cast at hzn; lia)]
        simp
      ·refine .inr ⟨by rcases List.mem_cons.mp h with h | h; exact absurd h e; exact h, z, List.mem_map.mpr ⟨z, hz, by rw [if_neg (by rw [hzk]; exact e)]⟩, hzk, ?_⟩
       rw [List.count_cons_of_ne (Ne.symm e)] at hzn
       exact hzn
  ·obtain ⟨z0, hz0, rfl⟩ := List.mem_map.mp hz
   by_cases e : z0.key = q
   ·rw [if_pos e] at hzl ⊢
    dsimp only at hzl ⊢
    have := hc z0 hz0 (List.mem_cons_of_mem _ hzl)
    rw [e, List.count_cons_self] at this
    rw [e]; push_cast at this; lia
   ·rw [if_neg e] at hzl ⊢
    have := hc z0 hz0 (List.mem_cons_of_mem _ hzl)
    rwa [List.count_cons_of_ne (Ne.symm e)] at this
  ·split
   ·rw [List.nodup_append]
    exact ⟨hr, by simp, fun a ha b hb e => by simp at hb; subst hb; exact hnr b List.mem_cons_self (e ▸ ha)⟩
   ·exact hr
  ·split
   ·rename_i e
    rw [List.mem_append, not_or]
    refine ⟨hnr q' (List.mem_cons_of_mem _ hq'), ?_⟩
    simp only [List.mem_singleton]
    rintro rfl
    exact hql e hq'
   ·exact hnr q' (List.mem_cons_of_mem _ hq')
end
end
section
section
variable {κ : Type} [DecidableEq κ]
theorem npOf_more (ar : List (κ × κ)) {dn : List κ} {k : κ} (hk : k ∉ dn) (q : κ) : npOf ar dn q = npOf ar (dn ++ [k]) q + (sucOf ar k).count q := by
 induction ar with
 | nil => simp [npOf, sucOf]
 | cons a ar ih =>
  have e1 : ∀ d, npOf (a :: ar) d q = (if a.2 = q ∧ a.1 ∉ d then 1 else 0) + npOf ar d q := fun d => by
   unfold npOf
   rw [List.filter_cons]
   by_cases h : a.2 = q ∧ a.1 ∉ d
   ·simp only [h, not_false_eq_true, and_self, decide_true, if_true, List.length_cons]; push_cast; lia
   ·rw [if_neg (by simpa using h), if_neg h]; lia
  have e2 : (sucOf (a :: ar) k).count q = (if a.1 = k ∧ a.2 = q then 1 else 0) + (sucOf ar k).count q := by
   unfold sucOf
   rw [List.filter_cons]
   by_cases h : a.1 = k
   ·simp only [h, decide_true, if_true, List.map_cons, List.count_cons, true_and]
    by_cases h2 : a.2 = q
    ·simp [h2]; lia
    ·simp [h2]
   ·simp [h]
  rw [e1, e1, e2, ih]
  by_cases h2 : a.1 = k
  ·have h3 : a.1 ∉ dn := h2 ▸ hk
   have h4 : ¬ (a.1 ∉ dn ++ [k]) := by simp [h2]
   by_cases h1 : a.2 = q
   ·rw [if_pos ⟨h1, h3⟩, if_neg (fun z => h4 z.2), if_pos ⟨h2, h1⟩]; push_cast; lia
   ·rw [if_neg (fun z => h1 z.1), if_neg (fun z => h1 z.1), if_neg (fun z => h1 z.2)]; push_cast; lia
  ·rw [if_neg (show ¬ (a.1 = k ∧ a.2 = q) from fun z => h2 z.1)]
   have h4 : (a.2 = q ∧ a.1 ∉ dn ++ [k]) ↔ (a.2 = q ∧ a.1 ∉ dn) := by simp [h2]
   simp only [h4]
   push_cast; lia
theorem SInv.done {ar : List (κ × κ)} {dn out rd : List κ} {nds : List (Nod κ)} {k : κ} (h : SInv ar dn out nds rd) (hk : k ∈ out) :
  SInv ar (dn ++ [k]) (out.erase k) (done1 (nds, rd) k).1 (done1 (nds, rd) k).2 ∧ ∃ nd, nds.find? (fun nd => nd.key = k) = some nd ∧ nd.np = -1 ∧ ∀ q ∈ nd.suc, q ∈ nds.map (·.key) := by
 have hkd := h.disj k hk
 obtain ⟨x, hx, hxk⟩ := List.mem_map.mp (h.osub k hk)
 have hfind := find_of_mem h.nd hx
 rw [hxk] at hfind
 have hxs := h.suc x hx
 rw [hxk] at hxs
 have hmem : ∀ q, q ∈ sucOf ar k ↔ (k, q) ∈ ar := fun q => by
  unfold sucOf
  rw [List.mem_map]
  constructor
  ·rintro ⟨a, ha, rfl⟩
   rw [List.mem_filter] at ha
   have := of_decide_eq_true ha.2
   rw [← this]; exact ha.1
  ·intro ha
   exact ⟨(k, q), List.mem_filter.mpr ⟨ha, by simp⟩, rfl⟩
 have hnot : ∀ q ∈ sucOf ar k, q ∉ dn ∧ q ∉ out := fun q hq => by
  have ha := (hmem q).mp hq
  exact ⟨fun z => hkd (h.top _ ha (.inl z)), fun z => hkd (h.top _ ha (.inr z))⟩
 have hnk : ∀ q ∈ sucOf ar k, q ≠ k := fun q hq e => (hnot q hq).2 (e ▸ hk)
 have hnpx : x.np = -1 := by rw [h.np x hx, hxk, if_neg hkd, if_pos hk]
 refine ⟨?_, x, hfind, hnpx, fun q hq => by rw [hxs] at hq; exact (h.dom _ ((hmem q).mp hq)).2⟩
 let m := onKey k (fun nd => { nd with np := -2 }) nds
 have hkm : m.map (·.key) = nds.map (·.key) := keys_onKey k (fun nd => { nd with np := -2 }) (fun _ => rfl) nds
 have hd : done1 (nds, rd) k = (sucOf ar k).foldl doneStep (m, rd) := by
  unfold done1
  dsimp only
  rw [hfind]
  show x.suc.foldl doneStep (m, rd) = _
  rw [hxs]
 have hmz : ∀ z ∈ m, ∃ z0 ∈ nds, z.key = z0.key ∧ z.suc = z0.suc ∧ z.np = if z0.key = k then -2 else z0.np := fun z hz => by
  obtain ⟨z0, hz0, rfl⟩ := List.mem_map.mp hz
  refine ⟨z0, hz0, ?_⟩
  by_cases e : z0.key = k <;> simp [e]
 have hcnt : ∀ z ∈ m, z.key ∈ sucOf ar k → z.np = npOf ar dn z.key := fun z hz hzl => by
  obtain ⟨z0, hz0, e1, e2, e3⟩ := hmz z hz
  rw [e1] at hzl ⊢
  rw [e3, if_neg (hnk _ hzl), h.np z0 hz0, if_neg (hnot _ hzl).1, if_neg (hnot _ hzl).2]
 obtain ⟨r1, r2, r3⟩ := steps_spec (sucOf ar k) m rd (by rw [hkm]; exact h.nd) (fun z hz hzl => by rw [hcnt z hz hzl, npOf_more ar hkd]; have := npOf_nonneg ar (dn ++ [k]) z.key; lia) (fun q hq => by rw [hkm]; exact (h.dom _ ((hmem q).mp hq)).2) h.rdn
  (fun q hq hr => by
   have h0 := npOf_eq_zero.mp ((h.rdm q).mp hr).2.2.2 _ ((hmem q).mp hq) rfl
   exact hkd h0)
 rw [hd]
 have hkeys : ((sucOf ar k).foldl doneStep (m, rd)).1.map (·.key) = nds.map (·.key) := by rw [r1, List.map_map]; exact hkm
 have hc0 : ∀ z, z ∉ sucOf ar k → ((sucOf ar k).count z : Int) = 0 := fun z hz => by rw [List.count_eq_zero_of_not_mem hz]; rfl
 refine ⟨by rw [hkeys]; exact h.nd, fun z hz => ?_, fun z hz => ?_, fun a ha => by rw [hkeys]; exact h.dom a ha, r2, fun y => ?_, fun j hj => ?_, fun j hj => ?_, fun j hj => ?_, fun a ha hq => ?_, ?_, h.onn.erase k⟩
 ·rw [r1] at hz
  obtain ⟨z1, hz1, rfl⟩ := List.mem_map.mp hz
  obtain ⟨z0, hz0, e1, e2, e3⟩ := hmz z1 hz1
  dsimp only
  rw [e2, h.suc z0 hz0, e1]
 ·rw [r1] at hz
  obtain ⟨z1, hz1, rfl⟩ := List.mem_map.mp hz
  obtain ⟨z0, hz0, e1, e2, e3⟩ := hmz z1 hz1
  dsimp only
  rw [e3, e1]
  by_cases c1 : z0.key = k
  ·rw [if_pos c1, if_pos (by simp [c1]), hc0 _ (fun hq => hnk _ hq c1)]; rfl
  ·rw [if_neg c1, h.np z0 hz0]
   by_cases c2 : z0.key ∈ dn
   ·rw [if_pos c2, if_pos (List.mem_append_left _ c2), hc0 _ (fun hq => (hnot _ hq).1 c2)]; rfl
   ·rw [if_neg c2, if_neg (show z0.key ∉ dn ++ [k] by simp [c1, c2])]
    by_cases c3 : z0.key ∈ out
    ·rw [if_pos c3, if_pos ((List.mem_erase_of_ne c1).mpr c3), hc0 _ (fun hq => (hnot _ hq).2 c3)]; rfl
    ·rw [if_neg c3, if_neg (fun q => c3 (List.mem_of_mem_erase q)), npOf_more ar hkd]; lia
 ·rw [r3 y, hkeys]
  have hmore := npOf_more ar hkd y
  have hnn := npOf_nonneg ar (dn ++ [k]) y
  constructor
  ·rintro (hy | ⟨hy, z, hz, rfl, hzn⟩)
   ·obtain ⟨y1, y2, y3, y4⟩ := (h.rdm y).mp hy
    have hyk : y ≠ k := fun e => y3 (e ▸ hk)
    exact ⟨y1, by simp [y2, hyk], fun q => y3 (List.mem_of_mem_erase q), by lia⟩
   ·refine ⟨(h.dom _ ((hmem _).mp hy)).2, by simp [(hnot _ hy).1, hnk _ hy], fun q => (hnot _ hy).2 (List.mem_of_mem_erase q), ?_⟩
    rw [hcnt z hz hy] at hzn
    lia
  ·rintro ⟨y1, y2, y3, y4⟩
   rw [List.mem_append, not_or, List.mem_singleton] at y2
   have y5 : y ∉ out := fun q => y3 ((List.mem_erase_of_ne y2.2).mpr q)
   by_cases hy : y ∈ sucOf ar k
   ·obtain ⟨z0, hz0, rfl⟩ := List.mem_map.mp y1
    refine .inr ⟨hy, z0, List.mem_map.mpr ⟨z0, hz0, by rw [if_neg y2.2]⟩, rfl, ?_⟩
    rw [h.np z0 hz0, if_neg y2.1, if_neg y5]; lia
   ·have := hc0 y hy
    exact .inl ((h.rdm y).mpr ⟨y1, y2.1, y5, by lia⟩)
 ·have hj' := List.mem_of_mem_erase hj
  rw [List.mem_append, not_or, List.mem_singleton]
  exact ⟨h.disj j hj', fun e => by subst e; exact (List.Nodup.not_mem_erase h.onn) hj⟩
 ·rw [hkeys]
  rcases List.mem_append.mp hj with hj | hj
  ·exact h.dsub j hj
  ·simp at hj; subst hj; exact h.osub j hk
 ·rw [hkeys]; exact h.osub j (List.mem_of_mem_erase hj)
 ·refine List.mem_append_left _ ?_
  rcases hq with q | q
  ·rcases List.mem_append.mp q with q | q
   ·exact h.top a ha (.inl q)
   ·simp at q; exact h.top a ha (.inr (q ▸ hk))
  ·exact h.top a ha (.inr (List.mem_of_mem_erase q))
 ·rw [List.nodup_append]
  exact ⟨h.dnn, by simp, fun a ha b hb e => by simp at hb; subst hb; exact hkd (e ▸ ha)⟩
end
end
section
section
variable {κ : Type} [DecidableEq κ]
theorem SInv.all {ar : List (κ × κ)} {dn : List κ} {nds : List (Nod κ)} {rk : κ → Nat} (h : SInv ar dn [] nds []) (hrk : ∀ a ∈ ar, rk a.1 < rk a.2) : ∀ k ∈ nds.map (·.key), k ∈ dn := by
 have key : ∀ (n : Nat) (k : κ), rk k < n → k ∈ nds.map (·.key) → k ∈ dn := by
  intro n
  induction n with
  | zero => intro k hk; lia
  | succ n ih =>
   intro k hk hm
   refine Decidable.by_contra fun hn => ?_
   have h1 : npOf ar dn k ≠ 0 := fun e => by
    have := (h.rdm k).mpr ⟨hm, hn, by simp, e⟩
    simp at this
   refine h1 (npOf_eq_zero.mpr fun a ha e => ih a.1 ?_ (h.dom a ha).1)
   have := hrk a ha
   rw [e] at this; lia
 exact fun k hk => key _ k (Nat.lt_succ_self _) hk
theorem nodup_eraseIdx {l : List κ} (hn : l.Nodup) : ∀ {i : Nat} {x : κ}, l[i]? = some x → l.eraseIdx i = l.erase x := by
 induction l with
 | nil => intro i x h; simp at h
 | cons y l ih =>
  intro i x h
  rw [List.nodup_cons] at hn
  cases i with
  | zero => simp at h; subst h; simp
  | succ i =>
   simp at h
   have hx : x ∈ l := List.mem_of_getElem? h
   have hne : y ≠ x := fun e => hn.1 (e ▸ hx)
   rw [List.eraseIdx_cons_succ, List.erase_cons_tail (by simpa using hne), ih hn.2 h]
noncomputable def Topo (ar : List (κ × κ)) (row : List κ) : Prop := ∀ a ∈ ar, a.2 ∈ row → row.idxOf a.1 < row.idxOf a.2
theorem Topo.snoc {ar : List (κ × κ)} {row : List κ} {k : κ} (h : Topo ar row) (hk : k ∉ row) (hp : ∀ a ∈ ar, a.2 = k → a.1 ∈ row) : Topo ar (row ++ [k]) := by
 intro a ha hm
 by_cases e : a.2 = k
 ·have h1 := hp a ha e
  rw [e, List.idxOf_append, List.idxOf_append, if_pos h1, if_neg hk]
  have := List.idxOf_lt_length_of_mem h1
  lia
 ·have h2 : a.2 ∈ row := by
   rcases List.mem_append.mp hm with h | h
   ·exact h
   ·simp at h; exact absurd h e
  have h3 := h a ha h2
  have h4 := List.idxOf_lt_length_of_mem h2
  have h5 : a.1 ∈ row := List.idxOf_lt_length_iff.mp (by lia)
  rw [List.idxOf_append, List.idxOf_append, if_pos h5, if_pos h2]
  exact h3
end
end
section
section
variable {κ : Type} [DecidableEq κ]
theorem SInv.dones {ar : List (κ × κ)} {out : List κ} : ∀ {ks dn rd : List κ} {nds : List (Nod κ)}, SInv ar dn (ks ++ out) nds rd → SInv ar (dn ++ ks) out (doneAll (nds, rd) ks).1 (doneAll (nds, rd) ks).2 ∧ doneOk (nds, rd) ks
 | [], dn, rd, nds, h => ⟨by simpa [doneAll] using h, trivial⟩
 | k :: ks, dn, rd, nds, h => by
  obtain ⟨h1, nd, e⟩ := h.done (k := k) (by simp)
  rw [List.cons_append, List.erase_cons_head] at h1
  obtain ⟨h2, h3⟩ := SInv.dones h1
  refine ⟨?_, ⟨nd, e⟩, h3⟩
  rw [List.append_assoc] at h2
  exact h2
noncomputable def RInv (ar : List (κ × κ)) (keys dn : List κ) (rs : κ → Int) (t : Int) : Prop :=
 (∀ k ∈ dn, 0 ≤ rs k ∧ rs k < t ∧ (∀ a ∈ ar, a.2 = k → rs a.1 < rs k) ∧ (rs k = 0 ∨ ∃ a ∈ ar, a.2 = k ∧ rs k = rs a.1 + 1)) ∧
 (∀ k ∈ keys, k ∉ dn → t = 0 ∨ ∃ a ∈ ar, a.2 = k ∧ (a.1 ∉ dn ∨ rs a.1 + 1 = t)) ∧ 0 ≤ t
theorem RInv.start (ar : List (κ × κ)) (keys : List κ) (rs : κ → Int) : RInv ar keys [] rs 0 := ⟨by simp, fun _ _ _ => .inl rfl, by lia⟩
theorem RInv.step {ar : List (κ × κ)} {dn rd : List κ} {nds : List (Nod κ)} {rs rs' : κ → Int} {t : Int} (h : SInv ar dn [] nds rd) (r : RInv ar (nds.map (·.key)) dn rs t) (h1 : ∀ k ∈ rd, rs' k = t) (h2 : ∀ k, k ∈ nds.map (·.key) → k ∉ rd → rs' k = rs k) : RInv ar (nds.map (·.key)) (dn ++ rd) rs' (t + 1) := by
 obtain ⟨ra, rb, rt⟩ := r
 have hdr : ∀ k ∈ dn, k ∉ rd := fun k hk q => ((h.rdm k).mp q).2.1 hk
 refine ⟨fun k hk => ?_, fun k hk hn => ?_, by lia⟩
 ·rcases List.mem_append.mp hk with hk | hk
  ·obtain ⟨a1, a2, a3, a4⟩ := ra k hk
   rw [h2 k (h.dsub k hk) (hdr k hk)]
   have hp : ∀ a ∈ ar, a.2 = k → rs' a.1 = rs a.1 := fun a ha e => h2 _ (h.dsub _ (h.top a ha (.inl (e ▸ hk)))) (hdr _ (h.top a ha (.inl (e ▸ hk))))
   refine ⟨a1, by lia, fun a ha e => by rw [hp a ha e]; exact a3 a ha e, ?_⟩
   rcases a4 with q | ⟨a, ha, e, q⟩
   ·exact .inl q
   ·exact .inr ⟨a, ha, e, by rw [hp a ha e]; exact q⟩
  ·obtain ⟨b1, b2, _, b4⟩ := (h.rdm k).mp hk
   rw [h1 k hk]
   have hp : ∀ a ∈ ar, a.2 = k → a.1 ∈ dn := fun a ha e => npOf_eq_zero.mp b4 a ha e
   have hp' : ∀ a ∈ ar, a.2 = k → rs' a.1 = rs a.1 := fun a ha e => h2 _ (h.dsub _ (hp a ha e)) (hdr _ (hp a ha e))
   refine ⟨rt, by lia, fun a ha e => by rw [hp' a ha e]; exact (ra _ (hp a ha e)).2.1, ?_⟩
   rcases rb k b1 b2 with q | ⟨a, ha, e, q⟩
   ·exact .inl q
   ·refine .inr ⟨a, ha, e, ?_⟩
    rcases q with q | q
    ·exact absurd (hp a ha e) q
    ·rw [hp' a ha e]; lia
 ·have hn1 : k ∉ dn := fun q => hn (List.mem_append_left _ q)
  have hn2 : k ∉ rd := fun q => hn (List.mem_append_right _ q)
  have h0 : npOf ar dn k ≠ 0 := fun e => hn2 ((h.rdm k).mpr ⟨hk, hn1, by simp, e⟩)
  have : ∃ a ∈ ar, a.2 = k ∧ a.1 ∉ dn := by
   refine Classical.byContradiction fun q => h0 (npOf_eq_zero.mpr fun a ha e => ?_)
   exact Classical.byContradiction fun q2 => q ⟨a, ha, e, q2⟩
  obtain ⟨a, ha, e, hd⟩ := this
  refine .inr ⟨a, ha, e, ?_⟩
  by_cases q : a.1 ∈ rd
  ·exact .inr (by rw [h1 _ q])
  ·exact .inl fun q2 => (List.mem_append.mp q2).elim hd q
end
end
section
section
variable {prog : Program} {w : World} {B : Bs} {fs : List Fm} {L L' : List (Addr × O)} {s : Shared} {A : Around} {E : Value → Shared → Prop} {n : Nat} {es : List Env}
noncomputable def one (c : Nat) : Str := ⟨#[c]⟩
noncomputable def two (c d : Nat) : Str := ⟨#[c, d]⟩
theorem skind {x : Str} {t : Tok} : (strKind prog w).is x (.str x t) = true := strKind_is prog w x t
theorem skind_of {x : Str} {v : Value} (h : (strKind prog w).is x v = true) : StrV x v := Value.isStrOf_shape h
theorem s_scan (k : Str) (v : Value) (h : (strKind prog w).is k v = true) : v.scannable = true := by obtain ⟨t, rfl⟩ := skind_of h; rfl
theorem s_hand (k : Str) (v : Value) (h : (strKind prog w).is k v = true) : handedIn v = true := by obtain ⟨t, rfl⟩ := skind_of h; rfl
theorem bnd_of {κ : Type} [DecidableEq κ] {ar : List (κ × κ)} {nds : List (Nod κ)} {c : Nat} (h : BInv ar ar nds) (h1 : nds.length ≤ c) (h2 : ar.length ≤ c) : bnd c nds := by
 refine ⟨h1, fun x hx => ?_⟩
 rw [h.suc x hx]
 unfold sucOf
 rw [List.length_map]
 exact Nat.le_trans (List.length_filter_le _ _) h2
noncomputable def arO (ws : List (Nat × Nat)) : List (Str × Str) := ws.map fun p => (one p.1, one p.2)
noncomputable def nmO (nm : Str) : List Str := nm.cps.toList.map one
theorem mem_sucOf {κ : Type} [DecidableEq κ] {ar : List (κ × κ)} {k q : κ} : q ∈ sucOf ar k ↔ (k, q) ∈ ar := by
 unfold sucOf
 rw [List.mem_map]
 constructor
 ·rintro ⟨a, ha, rfl⟩
  rw [List.mem_filter] at ha
  have := of_decide_eq_true ha.2
  rw [← this]; exact ha.1
 ·intro ha
  exact ⟨(k, q), List.mem_filter.mpr ⟨ha, by simp⟩, rfl⟩
noncomputable def envSc (sc : Scope) : Env := { scope := sc, locals := 0, globals := 0, cells := [], qual := "", func := none, code := .none, frame := none, builtins := 0 }
theorem swap_sc (ts : List Expr) (v : Expr) (env : Env) : swappedStores ts v env = swappedStores ts v (envSc env.scope) := rfl
end
noncomputable section
namespace row_spec_w
def Pw (prog : Program) (w : World) (B : Bs) (fs : List Fm) (L : List (Addr × O)) (s : Shared) (A : Around) (n : Nat) (es : List Env) (wa : Addr) (nm : Str) (tn tu : Tok) (num : Int) (ws : List (Nat × Nat)) (rk : Str → Nat) (R : Result → Shared → Prop) : Prop := ∀ (O : Ok B w) (S : St B fs L s) (hA : AOk A (n + 6) es) (hF : FrOk es fs) (hw : (wa, lstR StrV (ws.map fun p => two p.1 p.2)) ∈ L) (hasc : ascii nm) (hnz : nm.cps.size ≤ 6) (hws : ws.length ≤ 7) (hwn : ∀ p ∈ ws, one p.1 ∈ nmO nm ∧ one p.2 ∈ nmO nm) (hrk : ∀ p ∈ ws, rk (one p.1) < rk (one p.2)) (hR : ∀ r row s', row.Nodup → (∀ k, k ∈ row ↔ k ∈ nmO nm) → Topo (arO ws) row → St B fs ((r, lstR StrV row) :: L) s' → R (.ok (.ret (.ref r))) s'),
  codeAny (model prog w) A (.call (.ref 216) ⟨[.str nm tn, .ref wa, .int num tu], []⟩) R s
def Hw (x : Program × World × Bs × (List Fm) × (List (Addr × O)) × Shared × Around × Nat × (List Env) × Addr × Str × Tok × Tok × Int × (List (Nat × Nat)) × (Str → Nat) × (Result → Shared → Prop)) : Prop := Pw x.1 x.2.1 x.2.2.1 x.2.2.2.1 x.2.2.2.2.1 x.2.2.2.2.2.1 x.2.2.2.2.2.2.1 x.2.2.2.2.2.2.2.1 x.2.2.2.2.2.2.2.2.1 x.2.2.2.2.2.2.2.2.2.1 x.2.2.2.2.2.2.2.2.2.2.1 x.2.2.2.2.2.2.2.2.2.2.2.1 x.2.2.2.2.2.2.2.2.2.2.2.2.1 x.2.2.2.2.2.2.2.2.2.2.2.2.2.1 x.2.2.2.2.2.2.2.2.2.2.2.2.2.2.1 x.2.2.2.2.2.2.2.2.2.2.2.2.2.2.2.1 x.2.2.2.2.2.2.2.2.2.2.2.2.2.2.2.2
@[irreducible] def cw := worst (by repeat (first | refine ne5 ?_ ?_ | exact ne1 | exact ne2 | exact ne3 | exact ne4 | exact inferInstance | exact ne7 | exact ⟨⟨0, 0, 0, 0, 0, 0, 0, 0⟩⟩)) Hw
def prog := cw.1
def w := cw.2.1
def B := cw.2.2.1
def fs := cw.2.2.2.1
def L := cw.2.2.2.2.1
def s := cw.2.2.2.2.2.1
def A := cw.2.2.2.2.2.2.1
def n := cw.2.2.2.2.2.2.2.1
def es := cw.2.2.2.2.2.2.2.2.1
def wa := cw.2.2.2.2.2.2.2.2.2.1
def nm := cw.2.2.2.2.2.2.2.2.2.2.1
def tn := cw.2.2.2.2.2.2.2.2.2.2.2.1
def tu := cw.2.2.2.2.2.2.2.2.2.2.2.2.1
def num := cw.2.2.2.2.2.2.2.2.2.2.2.2.2.1
def ws := cw.2.2.2.2.2.2.2.2.2.2.2.2.2.2.1
def rk := cw.2.2.2.2.2.2.2.2.2.2.2.2.2.2.2.1
def R := cw.2.2.2.2.2.2.2.2.2.2.2.2.2.2.2.2
theorem run : Pw prog w B fs L s A n es wa nm tn tu num ws rk R := by
 intro O S hA hF hw hasc hnz hws hwn hrk hR
 refine call_fr (a := 216) (names := ["names", "words", "number"]) (rest := ["sorter", "name", "word", "row", "waiting"]) (vals := [.str nm tn, .ref wa, .int num tu]) O S hA hF (fun _ => rfl) rfl (fun _ => by kernel_rfl) rfl rfl rfl (by decide +kernel) (by decide +kernel) (by decide +kernel) rfl rfl rfl ?_
 clear S; (try clear LL); (try clear LL); clear hA; intro env nd kd fn s hE hF S hA E
 dsimp only at hE
 wtm_at "us"
 dsimp only [List.map, List.append, List.cons_append, List.nil_append] at S
 wtm_at "go"
 refine cw_K0 O S (fun _ => by kernel_rfl) ?_
 refine w_call ?_
 refine mk_inst srtNames O S (fun _ => by kernel_rfl) (fun _ => by kernel_rfl) (fun _ => by kernel_rfl) (fI := 87) ?_
 clear S; intro x dx s S
 refine sorter_init (strKind prog w) O S hA.under_type ?_
 clear S; intro m s hms S
 refine ⟨rfl, ret_ok ?_⟩
 wtm_at "go"
 refine pi_str hasc S ?_
 clear S; intro sit s S
 have hlen6 : ∀ {nds : List (Nod Str)} {ar : List (Str × Str)}, BInv ar ar nds → (∀ k ∈ nds.map (·.key), k ∈ nmO nm) → nds.length ≤ 6 := fun {nds ar} h hs => by
  have := nodup_len h.nd hs
  simp only [nmO, List.length_map, Array.length_toList] at this
  lia
 let V1 := fun (_ : Nat) (_ : List (NA × Nod Str)) (a : Option Value) => [some (Value.str nm tn), some (.ref wa), some (.int num tu), some (.ref x), a, none, none, none]
 let G1 := fun (_ : Nat) (ns : List (NA × Nod Str)) (_ : Option Value) => srtL (PySem.strKind prog w) x dx m .none 0 0 ns ++ L
 refine for2 (Itr.str _ _ sit nm tn) hA.hand V1 G1 (fun i ns _ => A3 (BInv [] [] (ns.map (·.2))) (∀ k ∈ (ns.map (·.2)).map (·.key), k ∈ nmO nm) (∀ (j : Nat) c, j < i → nm.cps[j]? = some c → one c ∈ (ns.map (·.2)).map (·.key)))
  (fun _ _ _ _ => no_src) [] _ S ⟨⟨by simp, by simp, by simp, by simp, by simp⟩, by simp, by intro j c h; lia⟩ ?_ ?_
 ·clear S; intro i ns a v X s E K1 fin1 hi hH hJ2 S
  wtm_at "pq"
  wtm_at "pk"
  obtain ⟨⟨c, u, hc, rfl⟩, rfl⟩ := hJ2
  obtain ⟨hB, hk1, hk2⟩ := hH
  wtm_at "ps"
  replace S := S.srtIn
  wtm_at "go"
  refine srt_meth (f := 101) O S (S.at (by wtm_at "srt")) (S.at (by wtm_at "srt")) (by decide +kernel) (fun _ => by kernel_rfl) (fun _ => by kernel_rfl) ?_
  refine cw_K O (fun _ => by kernel_rfl) ?_
  wtm_at "go"
  refine ⟨S.K O, w_call ?_⟩
  refine add_spec (ps := []) (pvs := []) (c := 7) (k := one c) O S hA hms skind .nil (bnd_of hB (Nat.le_trans (hlen6 hB hk1) (by lia)) (by simp)) (by simp) ?_
  clear S; intro ns' s hns' S
  refine ret_ok ⟨rfl, ?_⟩
  wtm_at "go"
  have hadd := hB.add (one c) []
  rw [← hns'] at hadd
  refine fin1 ns' _ _ ⟨by simpa using hadd.1, fun k hk => ?_, fun j c' hj hc' => ?_⟩ S.srtOut
  ·rcases hadd.2.2.2 k hk with h | h | h
   ·exact hk1 k h
   ·subst h
    unfold nmO
    exact List.mem_map_of_mem (by rw [Array.mem_toList_iff]; exact Array.mem_of_getElem? hc)
   ·simp at h
  ·by_cases e : j = i
   ·subst e
    rw [hc] at hc'; cases hc'
    exact hadd.2.1
   ·exact hadd.2.2.1 _ (hk2 j c' (by lia) hc')
 clear S; intro ns a s hH S
 wtm_at "pk"
 obtain ⟨hB, hk1, hk2⟩ := hH
 wtm_at "ps"
 wtm_at "go"
 wtm_at "pk"
 obtain ⟨wvs, hwv, hWl⟩ := S.isLR (a := wa) (R := StrV) (xs := ws.map fun p => two p.1 p.2) (by wtm_at "mem")
 refine pi_list S hWl ?_
 clear S; (try clear LL); (try clear LL); clear hWl hwv wvs; intro wit s S
 have hall : ∀ k ∈ nmO nm, k ∈ (ns.map (·.2)).map (·.key) := fun k hk => by
  unfold nmO at hk
  wtm_at "pk"
  obtain ⟨c, hc, rfl⟩ := List.mem_map.mp hk
  rw [Array.mem_toList_iff] at hc
  wtm_at "pk"
  obtain ⟨j, hj, e⟩ := Array.getElem_of_mem hc
  exact hk2 j c hj (by simp [hj, e])
 have hwl : (ws.map fun p => two p.1 p.2).length = ws.length := by simp
 let V1 := fun (_ : Nat) (_ : List (NA × Nod Str)) (a b : Option Value) => [some (Value.str nm tn), some (.ref wa), some (.int num tu), some (.ref x), a, b, none, none]
 let G1 := fun (_ : Nat) (ns : List (NA × Nod Str)) (_ _ : Option Value) => srtL (PySem.strKind prog w) x dx m .none 0 0 ns ++ L
 refine for3 (Itr.list _ _ wit wa (Src.lstR StrV (ws.map fun p => two p.1 p.2))) hA.hand V1 G1 (fun i ns _ _ => A3 (BInv (arO (ws.take i)) (arO (ws.take i)) (ns.map (·.2))) (∀ k ∈ (ns.map (·.2)).map (·.key), k ∈ nmO nm) (∀ k ∈ nmO nm, k ∈ (ns.map (·.2)).map (·.key)))
  (fun _ _ _ _ _ => one_src (by wtm_at "mem")) ns _ _ S ⟨by simpa [arO] using hB, hk1, hall⟩ ?_ ?_
 ·clear S; (try clear LL); (try clear LL); clear hB hk1 hk2 hall; intro i ns a b v X s E K1 fin1 hi hH hJ2 S
  wtm_at "pq"
  wtm_at "pk"
  obtain ⟨⟨wd, hwd, hv⟩, rfl⟩ := hJ2
  obtain ⟨hB, hk1, hk2⟩ := hH
  wtm_at "ps"
  wtm_at "pk"
  obtain ⟨t1, rfl⟩ := hv
  rw [List.getElem?_map] at hwd
  wtm_at "pk"
  obtain ⟨⟨c, d⟩, hcd, rfl⟩ := Option.map_eq_some_iff.mp hwd
  replace S := S.srtIn
  wtm_at "go"
  refine srt_meth (f := 101) O S (S.at (by wtm_at "srt")) (S.at (by wtm_at "srt")) (by decide +kernel) (fun _ => by kernel_rfl) (fun _ => by kernel_rfl) ?_
  refine cw_K O (fun _ => by kernel_rfl) ?_
  wtm_at "go"
  refine sub_str (k := 1) (c := d) (by rfl) (by rfl) (by simp [two]) S ?_
  clear S; intro t2 s S
  wtm_at "go"
  refine sub_str (k := 0) (c := c) (by rfl) (by rfl) (by simp [two]) S ?_
  clear S; intro t3 s S
  wtm_at "go"
  refine ⟨S.K O, w_call ?_⟩
  refine add_spec (ps := [one c]) (pvs := [.str (one c) t3]) (c := 7) (k := one d) O S hA hms skind (.cons skind .nil) (bnd_of hB (Nat.le_trans (hlen6 hB hk1) (by lia)) (by (try dsimp only [LL]); unfold arO; rw [List.length_map, List.length_take]; lia)) (by simp) ?_
  clear S; intro ns' s hns' S
  refine ret_ok ⟨rfl, ?_⟩
  wtm_at "go"
  have hadd := hB.add (one d) [one c]
  rw [← hns'] at hadd
  have har : arO (ws.take (i + 1)) = arO (ws.take i) ++ [(one c, one d)] := by
   unfold arO
   rw [List.take_add_one, hcd]
   simp
  have hin := hwn (c, d) (List.mem_of_getElem? hcd)
  refine fin1 ns' _ _ _ ⟨by rw [har]; simpa using hadd.1, fun k hk => ?_, fun k hk => hadd.2.2.1 k (hk2 k hk)⟩ S.srtOut
  rcases hadd.2.2.2 k hk with h | h | h
  ·exact hk1 k h
  ·exact h ▸ hin.2
  ·simp at h; exact h ▸ hin.1
 clear S; (try clear LL); (try clear LL); clear hB hk1 hk2 hall; intro ns a b s hH S
 wtm_at "pk"
 obtain ⟨hB, hk1, hk2⟩ := hH
 wtm_at "ps"
 rw [hwl, List.take_length] at hB
 wtm_at "go"
 refine srt_meth (f := 106) O S (S.at (by wtm_at "srt")) (S.at (by wtm_at "srt")) (by decide +kernel) (fun _ => by kernel_rfl) (fun _ => by kernel_rfl) ?_
 refine cw_K0 O S (fun _ => by kernel_rfl) ?_
 refine w_call ?_
 have hgr : ∀ q ∈ ns, ∀ c ∈ q.2.suc, c ∈ ns.map (·.2.key) ∧ rk q.2.key < rk c := fun q hq c hc => by
  rw [hB.suc q.2 (List.mem_map_of_mem hq), mem_sucOf] at hc
  refine ⟨by have := hB.d1 _ hc; rwa [List.map_map] at this, ?_⟩
  unfold arO at hc
  obtain ⟨p, hp, e⟩ := List.mem_map.mp hc
  have e1 := congrArg Prod.fst e
  have e2 := congrArg Prod.snd e
  dsimp only at e1 e2
  rw [← e1, ← e2]
  exact hrk p hp
 refine prepare_spec (rk := rk) O S hA (hF _) hms s_scan s_hand hgr (by have := hlen6 hB hk1; rw [List.length_map] at this; lia) ?_
 clear S; intro r s S
 refine ret_ok ⟨rfl, ?_⟩
 refine xs_swap2 (B := B) (n₁ := "row") (n₂ := "waiting") hA.hand ?_ (by with_unfolding_all rfl) ?_
 ·wtm_at "go"
  refine n_list S (by decide) ?_
  clear S; intro ra s S
  wtm_at "go"
  refine n_list S (by decide) ?_
  clear S; intro wta s S
  wtm_at "go"
  refine n_tup S (line_le (by simp)) ?_
  clear S; intro tp s S
  refine ⟨tp, .ref ra, .ref wta, _, _, rfl, S.isT List.mem_cons_self, S, ?_⟩
  clear S; intro s S
  replace S := S.less (List.sublist_cons_self _ _)
  wtm_at "go"
  replace S := S.weak (y := lstR (keyV (PySem.strKind prog w)) []) .here (fun o h => ⟨[], .nil, h⟩)
  replace S := S.weak (a := ra) (y := lstR (keyV (PySem.strKind prog w)) []) (.there .here) (fun o h => ⟨[], .nil, h⟩)
  have hS0 := SInv.start hB
  replace S : St B _ (srtL (PySem.strKind prog w) x dx m (.ref r) 0 0 ns ++ (r, lstR (keyV (PySem.strKind prog w)) (readyN (ns.map (·.2)))) :: (wta, lstR (keyV (PySem.strKind prog w)) []) :: (ra, lstR (keyV (PySem.strKind prog w)) []) :: L) s := S.perm (by
   have := List.perm_append_comm_assoc [(wta, lstR (keyV (PySem.strKind prog w)) []), (ra, lstR (keyV (PySem.strKind prog w)) [])] (srtL (PySem.strKind prog w) x dx m (.ref r) 0 0 ns ++ [(r, lstR (keyV (PySem.strKind prog w)) (readyN (ns.map (·.2))))]) L
   simpa using this)
  let V1 := fun (_ : Nat) (_ : List (NA × Nod Str)) (_ _ _ : List Str) (_ _ num : Int) (tk : Tok) => [some (Value.str nm tn), some (.ref wa), some (.int num tk), some (.ref x), a, b, some (.ref ra), some (.ref wta)]
  let G1 := fun (_ : Nat) (ns : List (NA × Nod Str)) (rd W row : List Str) (pa fi _ : Int) (_ : Tok) => srtL (PySem.strKind prog w) x dx m (.ref r) pa fi ns ++ (r, lstR (keyV (PySem.strKind prog w)) rd) :: (wta, lstR (keyV (PySem.strKind prog w)) W) :: (ra, lstR (keyV (PySem.strKind prog w)) row) :: L
  refine whi8 6 V1 G1 (fun k ns rd W row pa fi _ _ => A7 (SInv (arO ws) row W (ns.map (·.2)) rd) (pa = row.length + W.length) (fi = row.length) (k + row.length = 6) (Topo (arO ws) row) (∀ k ∈ (ns.map (·.2)).map (·.key), k ∈ nmO nm) (∀ k ∈ nmO nm, k ∈ (ns.map (·.2)).map (·.key)))
   ns _ [] [] 0 0 num tu S ⟨hS0, rfl, rfl, rfl, (fun _ _ h => by simp at h), hk1, hk2⟩ ?_
  clear S; (try clear LL); (try clear LL); clear hS0 hB hk1 hk2 hgr; intro k ns rd W row pa fi num tk s E K1 fin1 hH S
  wtm_at "pk"
  obtain ⟨hS, rfl, rfl, hk, hto, hk1, hk2⟩ := hH
  wtm_at "ps"
  have h6 : ∀ l : List Str, l.Nodup → (∀ k ∈ l, k ∈ (ns.map (·.2)).map (·.key)) → l.length ≤ 6 := fun l hl hs => by
   have := nodup_len hl (fun k hk => hk1 k (hs k hk))
   simp only [nmO, List.length_map, Array.length_toList] at this
   lia
  have hrdl : rd.length ≤ 6 ∧ W.length ≤ 6 := ⟨h6 rd hS.rdn (fun k hk => ((hS.rdm k).mp hk).1), h6 W hS.onn hS.osub⟩
  wtm_at "go"
  refine srt_meth (f := 120) O S (S.at (by wtm_at "srt")) (S.at (by wtm_at "srt")) (by decide +kernel) (fun _ => by kernel_rfl) (fun _ => by kernel_rfl) ?_
  refine cw_K0 O S (fun _ => by kernel_rfl) ?_
  refine w_call (active_spec O S hA (by lia) ?_)
  clear S; intro s S
  refine ret_ok ?_
  wtm_at "go"
  refine ⟨fun hb => ?_, fun hb => ?_⟩
  ·wtm_at "go"
   refine srt_meth (f := 113) O S (S.at (by wtm_at "srt")) (S.at (by wtm_at "srt")) (by decide +kernel) (fun _ => by kernel_rfl) (fun _ => by kernel_rfl) ?_
   refine cw_K0 O S (fun _ => by kernel_rfl) ?_
   refine w_call (ready_spec O S hA hms (fun k hk => ((hS.rdm k).mp hk).1) (by lia) ?_)
   clear S; intro tp ns1 s hns1 S
   refine ret_ok ?_
   have hS1 := hS.ready
   rw [← hns1] at hS1
   wtm_at "pk"
   obtain ⟨wv, hwv, hWl⟩ := S.isLR (a := wta) (R := keyV (PySem.strKind prog w)) (xs := W) (by wtm_at "mem")
   obtain ⟨tv, htv, hTl⟩ := S.isTR (a := tp) (R := keyV (PySem.strKind prog w)) (xs := rd) (by wtm_at "mem")
   refine l_iadd (y := lstR (keyV (PySem.strKind prog w)) (W ++ rd)) ((Upd.there (.there .here)).left _) S hWl hTl (by have := hwv.len; have := htv.len; lia) (fun o h => ⟨_, hwv.append htv, h⟩) ?_
   clear S; (try clear LL); (try clear LL); clear hWl hTl hwv htv wv tv; intro s S
   wtm_at "go"
   wtm_at "pk"
   obtain ⟨rv, hrv, hRl⟩ := S.isLR (a := ra) (R := keyV (PySem.strKind prog w)) (xs := row) (by wtm_at "mem")
   refine gm_list hRl PySem.F.slot_list_append PySem.F.type_list_append ?_
   clear hRl hrv rv
   wtm_at "go"
   wtm_at "pk"
   obtain ⟨wv, hwv, hWl⟩ := S.isLR (a := wta) (R := keyV (PySem.strKind prog w)) (xs := W ++ rd) (by wtm_at "mem")
   have hwl := hwv.len
   rw [List.length_append] at hwl
   refine gm_list hWl PySem.F.slot_list_pop PySem.F.type_list_pop ?_
   wtm_at "go"
   refine len_list hWl S (by lia) ?_
   clear S; (try clear LL); (try clear LL); clear hWl hwv; intro lt s S
   have hpos : 0 < (W ++ rd).length := by
    rw [List.length_append]
    rw [Bool.or_eq_true] at hb
    rcases hb with hb | hb
    ·have := of_decide_eq_true hb; lia
    ·cases rd with
     | nil => simp at hb
     | cons => simp only [List.length_cons]; lia
   rw [List.length_append] at hpos
   refine b_mod (by lia) S ?_
   clear S; intro mt s S
   wtm_at "go"
   wtm_at "pk"
   obtain ⟨wv2, hwv2, hWl⟩ := S.isLR (a := wta) (R := keyV (PySem.strKind prog w)) (xs := W ++ rd) (by wtm_at "mem")
   have hi0 : 0 ≤ num.fmod wv.length := Int.fmod_nonneg_of_pos _ (by lia)
   have hi1 : num.fmod wv.length < wv.length := Int.fmod_lt_of_pos _ (by lia)
   have hil : (num.fmod wv.length).toNat < (W ++ rd).length := by rw [List.length_append]; lia
   wtm_at "pk"
   obtain ⟨kv, hkv, hkk⟩ := hwv2.get (i := (num.fmod wv.length).toNat) (x := (W ++ rd)[(num.fmod wv.length).toNat]) (by simp [hil])
   generalize hqk : (W ++ rd)[(num.fmod wv.length).toNat] = qk at hkk
   have hqe : (W ++ rd).eraseIdx (num.fmod wv.length).toNat = (W ++ rd).erase qk := nodup_eraseIdx hS1.onn (by rw [← hqk]; simp [hil])
   refine l_pop_at (k := (num.fmod wv.length).toNat) (y := lstR (keyV (PySem.strKind prog w)) ((W ++ rd).erase qk)) ((Upd.there (.there .here)).left _) S hWl (by lia) (by have := hwv2.len; lia) (by have := hwv2.len; rw [List.length_append] at this; lia) hkv (fun o h => ⟨_, by rw [← hqe]; exact hwv2.eraseIdx _, h⟩) ?_
   clear S; (try clear LL); (try clear LL); clear hWl; intro s S
   wtm_at "go"
   wtm_at "pk"
   obtain ⟨rv, hrv, hRl⟩ := S.isLR (a := ra) (R := keyV (PySem.strKind prog w)) (xs := row) (by wtm_at "mem")
   refine l_append (y := lstR (keyV (PySem.strKind prog w)) (row ++ [qk])) ((Upd.there (.there (.there .here))).left _) S hRl (fun o h => ⟨_, hrv.append (.cons hkk .nil), h⟩) (line_le (by have := hrv.len; lia)) ?_
   clear S; (try clear LL); (try clear LL); clear hRl hrv rv; intro s S
   refine ⟨rfl, ?_⟩
   wtm_at "go"
   refine i_fdiv (by decide) (PyProof.noPylong_small (by decide)) S ?_
   clear S; intro nt s S
   wtm_at "go"
   refine srt_meth (f := 134) O S (S.at (by wtm_at "srt")) (S.at (by wtm_at "srt")) (by decide +kernel) (fun _ => by kernel_rfl) (fun _ => by kernel_rfl) ?_
   refine cw_K O (fun _ => by kernel_rfl) ?_
   wtm_at "go"
   wtm_at "pk"
   obtain ⟨rv, hrv, hRl⟩ := S.isLR (a := ra) (R := keyV (PySem.strKind prog w)) (xs := row ++ [qk]) (by wtm_at "mem")
   obtain ⟨rv1, rv2, rfl, hrv1, hrv2⟩ := hrv.unapp
   obtain ⟨kv3, rfl, hkk3⟩ := hrv2.one
   refine sub_last rfl hRl (by have := hrv1.len; lia) ?_
   clear hRl
   wtm_at "go"
   refine ⟨S.K O, w_call ?_⟩
   have hqW : qk ∈ W ++ rd := by rw [← hqk]; exact List.getElem_mem _
   wtm_at "pk"
   obtain ⟨hS2, hok⟩ := hS1.done hqW
   have hb7 : bnd 7 (ns1.map (·.2)) := by
    refine ⟨?_, fun z hz => ?_⟩
    ·have e := congrArg List.length hns1
     have e2 := congrArg List.length (keys_outN (ns.map (·.2)) rd)
     simp only [List.length_map] at e e2
     have := h6 _ hS.nd (fun _ h => h)
     simp only [List.length_map] at this
     rw [List.length_map]
     lia
    ·rw [hS1.suc z hz]
     unfold sucOf arO
     rw [List.length_map]
     refine Nat.le_trans (List.length_filter_le _ _) ?_
     rw [List.length_map]; exact hws
   replace S : St B _ (srtL (PySem.strKind prog w) x dx m (.ref r) (↑row.length + ↑W.length + ↑rd.length) (↑row.length) ns1 ++ (r, lstR (keyV (PySem.strKind prog w)) []) :: (tp, tupR (keyV (PySem.strKind prog w)) rd) :: (wta, lstR (keyV (PySem.strKind prog w)) ((W ++ rd).erase qk)) :: (ra, lstR (keyV (PySem.strKind prog w)) (row ++ [qk])) :: L) s := S
   refine done_spec (ks := [qk]) (kvs := [kv3]) (c := 7) O S hA hms (.cons hkk3 .nil) ⟨hok, trivial⟩ hb7 (by simp) (by simp) (by lia) ?_
   clear S; intro ns2 rd2 s hns2 S
   refine ret_ok ⟨rfl, ?_⟩
   wtm_at "go"
   have e1 : ns2.map (·.2) = (done1 (ns1.map (·.2), []) qk).1 := congrArg Prod.fst hns2
   have e2 : rd2 = (done1 (ns1.map (·.2), []) qk).2 := congrArg Prod.snd hns2
   rw [← e1, ← e2] at hS2
   have hkeys : (ns2.map (·.2)).map (·.key) = (ns.map (·.2)).map (·.key) := by rw [e1, (same2_done1 _ _).1, hns1, keys_outN]
   have hrow6 : (row ++ [qk]).length ≤ 6 := h6 _ hS2.dnn (fun k hk => by have := hS2.dsub k hk; rwa [hkeys] at this)
   have hle := List.length_erase_of_mem hqW
   rw [List.length_append] at hle hrow6
   simp only [List.length_cons, List.length_nil] at hrow6
   refine fin1 (k - 1) ns2 rd2 ((W ++ rd).erase qk) (row ++ [qk]) _ _ _ _ _ (by lia) ⟨hS2, ?_, ?_, ?_, ?_, ?_, ?_⟩ (S.less ((List.Sublist.refl _).append (.cons_cons _ (.cons _ (.refl _)))))
   ·rw [hle]; simp only [List.length_append, List.length_cons, List.length_nil]; lia
   ·simp only [List.length_append, List.length_cons, List.length_nil]; lia
   ·simp only [List.length_append, List.length_cons, List.length_nil]; lia
   ·exact hto.snoc (hS1.disj qk hqW) (fun a ha e => hS1.top a ha (.inr (e ▸ hqW)))
   ·rw [hkeys]; exact hk1
   ·rw [hkeys]; exact hk2
  ·rw [Bool.or_eq_false_iff] at hb
   have hW0 : W = [] := List.length_eq_zero_iff.mp (by have := of_decide_eq_false hb.1; lia)
   have hr0 : rd = [] := by cases rd with | nil => rfl | cons => simp at hb
   subst hW0 hr0
   have hall := hS.all (rk := rk) (fun a ha => by
    unfold arO at ha
    wtm_at "pk"
    obtain ⟨p, hp, rfl⟩ := List.mem_map.mp ha
    exact hrk p hp)
   wtm_at "go"
   refine hR ra row _ hS.dnn (fun k => ⟨fun h => hk1 k (hS.dsub k h), fun h => hall k (hk2 k h)⟩) hto ?_
   replace S := S.less (L' := (ra, lstR (keyV (PySem.strKind prog w)) row) :: L) ((List.Sublist.cons _ (.cons _ (.refl _))).trans (List.sublist_append_right _ _))
   exact (S.weak (y := lstR StrV row) .here (fun o ⟨vs, hv, h⟩ => ⟨vs, hv.imp (fun _ _ q => skind_of q), h⟩)).pop
 ·rw [swap_sc, hE.sc]; with_unfolding_all rfl
end row_spec_w
end
theorem row_spec {prog : Program} {w : World} {B : Bs} {fs : List Fm} {L : List (Addr × O)} {s : Shared} {A : Around} {n : Nat} {es : List Env} {wa : Addr} {nm : Str} {tn tu : Tok} {num : Int} {ws : List (Nat × Nat)} {rk : Str → Nat} {R : Result → Shared → Prop} : row_spec_w.Pw prog w B fs L s A n es wa nm tn tu num ws rk R := worst_of (Q := row_spec_w.Hw) (by with_unfolding_all rfl) row_spec_w.run ⟨prog, w, B, fs, L, s, A, n, es, wa, nm, tn, tu, num, ws, rk, R⟩
section
end
end
section
theorem Upd.same {a : Addr} {x : O} : ∀ {L : List (Addr × O)}, (a, x) ∈ L → Upd a x x L L
 | [], h => by simp at h
 | p :: L, h => by
  rcases List.mem_cons.mp h with h | h
  ·subst h; exact .here
  ·exact .there (Upd.same h)
theorem Upd.refl_eq {a : Addr} {x : O} {L L' : List (Addr × O)} (u : Upd a x x L L') : L' = L := by
 generalize hy : x = y at u
 have : ∀ {y : O} {L L' : List (Addr × O)}, Upd a x y L L' → x = y → L' = L := by
  intro y L L' u
  induction u with
  | here => intro h; subst h; rfl
  | there _ ih => intro h; rw [ih h]
 exact this (hy ▸ u) rfl
noncomputable def stmtsOf (o : Obj) : List Stmt := match o.data with | .func fd => (match fd.body with | .stmts b => b | _ => []) | _ => []
noncomputable def firstDef : List Stmt → Option (Arguments × List Stmt × Scope)
 | [] => none
 | .FunctionDef _ a b _ _ _ sc _ _ _ :: _ => some (a, b, sc)
 | _ :: r => firstDef r
noncomputable def lexObj : {o : Obj // ∀ P, (KF P).lookup 204 = some o} := ⟨_, fun _ => rfl⟩
noncomputable def pieceOf : {t : Arguments × List Stmt × Scope // firstDef (stmtsOf lexObj.1) = some t} := ⟨_, rfl⟩
theorem pie_names : pieceOf.1.2.2.names = [(Str.ofString "count", NameKind.local), (Str.ofString "signs", NameKind.free)] := by kernel_rfl
theorem pie_kind : pieceOf.1.2.2.kind = .function := by kernel_rfl
noncomputable def pieQ : Str := "_law_lexer.<locals>._law_piece"
noncomputable def pieO (cl c' : Addr) : O := fun o => ∃ doc pm ctv, o = fnMade "_law_piece" pieQ pieceOf.1.1 pieceOf.1.2.1 pieceOf.1.2.2 [("signs", cl)] doc pm c' ctv
noncomputable def lexNames : List Str := ["lineno", "instream", "whitespace", "pushback", "read"]
noncomputable def lexN (fp : Value) (pb : Addr) (rd : Option Value) : O := fun o => ∃ ln t u, nsO lexNames [some (.int ln t), some fp, some (.str "\n\t\r " u), some (.ref pb), rd] o
noncomputable def strN (f : Addr) : O := fun o => ∃ pb, lexN .none pb (some (.ref f)) o
noncomputable def sgn (c : Nat) : Str := ⟨#[c]⟩
noncomputable def signO (rest : List Nat) : O := lstR StrV (rest.reverse.map sgn)
noncomputable def headS : List Nat → Str
 | [] => ""
 | c :: _ => sgn c
structure Lx where
 sa : Addr
 pb : Addr
 lx : Addr
 dl : Addr
 st : Addr
 ds : Addr
 f : Addr
 cl : Addr
noncomputable def lexL (a : Lx) (c' : Addr) (rest : List Nat) (q : List Str) : List (Addr × O) :=
 (a.sa, signO rest) :: (a.pb, lstR StrV q) :: (a.lx, instO 193 a.dl) :: (a.dl, lexN (.ref a.st) a.pb none) :: (a.st, instO 193 a.ds) :: (a.ds, strN a.f) :: (a.f, pieO a.cl c') :: (a.cl, celO (some (.ref a.sa))) :: []
section
variable {prog : Program} {w : World} {B : Bs} {fs : List Fm} {L L' M : List (Addr × O)} {s : Shared} {A : Around} {E : Value → Shared → Prop} {n : Nat} {es : List Env} {x dx f cl sa pb c' : Addr} {v fp : Value} {rd : Option Value} {expr : Bool}
theorem K193_get (P : Params) (name : Str) : plainGet (KF P) 193 name = true := by kernel_rfl
theorem K193_dict (P : Params) : hasDictIn (KF P) 193 = true := by kernel_rfl
theorem K193_set (P : Params) : findIn (KF P) (.ref 193) "__setattr__" = some (some (.builtin "object.__setattr__")) := by kernel_rfl
theorem K193_over (P : Params) : plainOver (KF P) 193 = true := by kernel_rfl
theorem lex_nodup : lexNames.Nodup := by decide +kernel
theorem get_ln {Q : Value → Shared → Prop} (O : Ok B w) (S : St B fs L s) (hx : At s x (instO 193 dx)) (hd : At s dx (lexN fp pb rd)) (h : ∀ ln t s', St B fs L s' → Q (.int ln t) s') : wpAny (model prog w) A (getAttr (.ref x) "lineno" expr) Q E s := by
 obtain ⟨o, e, ln, t, u, i⟩ := hd
 exact g_own 0 O S hx ⟨o, e, i⟩ lex_nodup rfl rfl (fun P => K193_get P _) K193_dict (fun _ => by kernel_rfl) rfl (h ln t)
theorem get_in {Q : Value → Shared → Prop} (O : Ok B w) (S : St B fs L s) (hx : At s x (instO 193 dx)) (hd : At s dx (lexN fp pb rd)) (hv : handedIn fp = true) (h : ∀ s', St B fs L s' → Q fp s') : wpAny (model prog w) A (getAttr (.ref x) "instream" expr) Q E s := by
 obtain ⟨o, e, ln, t, u, i⟩ := hd
 exact g_own 1 O S hx ⟨o, e, i⟩ lex_nodup rfl rfl (fun P => K193_get P _) K193_dict (fun _ => by kernel_rfl) hv h
theorem get_ws {Q : Value → Shared → Prop} (O : Ok B w) (S : St B fs L s) (hx : At s x (instO 193 dx)) (hd : At s dx (lexN fp pb rd)) (h : ∀ t s', St B fs L s' → Q (.str "\n\t\r " t) s') : wpAny (model prog w) A (getAttr (.ref x) "whitespace" expr) Q E s := by
 obtain ⟨o, e, ln, t, u, i⟩ := hd
 exact g_own 2 O S hx ⟨o, e, i⟩ lex_nodup rfl rfl (fun P => K193_get P _) K193_dict (fun _ => by kernel_rfl) rfl (h u)
theorem get_pb {Q : Value → Shared → Prop} (O : Ok B w) (S : St B fs L s) (hx : At s x (instO 193 dx)) (hd : At s dx (lexN fp pb rd)) (h : ∀ s', St B fs L s' → Q (.ref pb) s') : wpAny (model prog w) A (getAttr (.ref x) "pushback" expr) Q E s := by
 obtain ⟨o, e, ln, t, u, i⟩ := hd
 exact g_own 3 O S hx ⟨o, e, i⟩ lex_nodup rfl rfl (fun P => K193_get P _) K193_dict (fun _ => by kernel_rfl) rfl h
theorem set_ln {tk : Tok} {ln' : Int} {Q : Unit → Shared → Prop} (O : Ok B w) (S : St B fs L s) (hx : At s x (instO 193 dx)) (hm : (dx, lexN fp pb rd) ∈ L) (h : ∀ s', St B fs L s' → Q () s') : wpAny (model prog w) A (setAttr (.ref x) "lineno" (.int ln' tk)) Q E s := by
 obtain ⟨o, e, ln, t, u, i⟩ := S.at hm
 exact s_own 0 O S hx (Upd.same hm) ⟨o, e, i⟩ (fun o h => ⟨_, _, u, h⟩) lex_nodup rfl (by simp) (by simp) K193_set K193_over (fun _ => by kernel_rfl) K193_dict h
theorem set_rd {v : Value} {Q : Unit → Shared → Prop} (O : Ok B w) (S : St B fs L s) (hx : At s x (instO 193 dx)) (u : Upd dx (lexN fp pb rd) (lexN fp pb (some v)) L L') (h : ∀ s', St B fs L' s' → Q () s') : wpAny (model prog w) A (setAttr (.ref x) "read" v) Q E s := by
 obtain ⟨o, e, ln, t, t', i⟩ := S.at u.mem
 exact s_own 4 O S hx u ⟨o, e, i⟩ (fun o h => ⟨_, _, _, h⟩) lex_nodup rfl (by simp) (by simp) K193_set K193_over (fun _ => by kernel_rfl) K193_dict h
theorem lex_meth {name : Str} {pl : Sem Bool} {Q : Value × List Value → Shared → Prop} {f : Addr} (O : Ok B w) (S : St B fs L s) (hx : At s x (instO 193 dx)) (hd : At s dx (lexN fp pb rd))
  (hn : name ∉ lexNames) (hf : ∀ P, findIn (KF P) (.ref 193) name = some (some (.ref f))) (ht : ∀ P, isFn (KF P) (.ref f) = true) (h : Q (.ref f, [.ref x]) s) : wpAny (model prog w) A (getMethod (.ref x) name pl) Q E s := by
 obtain ⟨o, e, ln, t, t', i⟩ := hd
 exact m_cls O S hx ⟨o, e, i⟩ (lookV_notin hn) (fun P => K193_get P _) hf ht h
theorem lex_init {R : Result → Shared → Prop} (O : Ok B w) (S : St B fs ((x, instO 193 dx) :: (dx, nsO lexNames [none, none, none, none, none]) :: L) s) (hA : AOk A (n + 1) es)
  (hR : ∀ pb s', St B fs ((pb, lst []) :: (x, instO 193 dx) :: (dx, lexN fp pb none) :: L) s' → R (.ok (.ret .none)) s') :
  codeAny (model prog w) A (.call (.ref 169) ⟨[.ref x, fp], []⟩) R s := by
 refine call_def (a := 169) (names := ["self", "fp"]) (rest := []) (vals := [.ref x, fp]) O S hA (fun _ => rfl) rfl (fun _ => by kernel_rfl) rfl rfl rfl (by decide +kernel) (by decide +kernel) (by decide +kernel) rfl rfl rfl ?_
 clear S; (try clear LL); (try clear LL); clear hA; intro env nd kd fn s hE S hA E
 dsimp only at hE
 wtm_at "us"
 dsimp only [List.map, List.append, List.cons_append, List.nil_append] at S
 wtm_at "go"
 refine s_own 0 O S (S.at (by wtm_at "mem")) (y := nsO lexNames [some (.int 1 tok), none, none, none, none]) (.there .here) (S.at (by wtm_at "mem")) (fun _ h => h) lex_nodup rfl (by simp) (by simp) K193_set K193_over (fun _ => by kernel_rfl) K193_dict ?_
 clear S; intro s S
 wtm_at "go"
 refine s_own 1 O S (S.at (by wtm_at "mem")) (y := nsO lexNames [some (.int 1 tok), some fp, none, none, none]) (.there .here) (S.at (by wtm_at "mem")) (fun _ h => h) lex_nodup rfl (by simp) (by simp) K193_set K193_over (fun _ => by kernel_rfl) K193_dict ?_
 clear S; intro s S
 rename_i tk1
 wtm_at "go"
 refine s_own 2 O S (S.at (by wtm_at "mem")) (y := nsO lexNames [some (.int 1 _), some fp, some (.str "\n\t\r " tok), none, none]) (.there .here) (S.at (by wtm_at "mem")) (fun _ h => h) lex_nodup rfl (by simp) (by simp) K193_set K193_over (fun _ => by kernel_rfl) K193_dict ?_
 clear S; intro s S
 wtm_at "go"
 refine n_list S (by decide) ?_
 clear S; intro pb s S
 wtm_at "go"
 refine s_own 3 O S (S.at (by wtm_at "mem")) (y := lexN fp pb none) (.there (.there .here)) (S.at (by wtm_at "mem")) (fun _ h => ⟨_, _, _, h⟩) lex_nodup rfl (by simp) (by simp) K193_set K193_over (fun _ => by kernel_rfl) K193_dict ?_
 clear S; intro s S
 wtm_at "go"
 exact hR pb _ S.pop
theorem piece_spec {rest : List Nat} {R : Result → Shared → Prop} (O : Ok B w) (S : St B fs L s) (hA : AOk A (n + 1) es) (hf : (f, pieO cl c') ∈ L) (hc : (c', codO pieQ) ∈ L) (hcl : (cl, celO (some (.ref sa))) ∈ L) (u : Upd sa (signO rest) (signO rest.tail) L L') (hz : rest.length ≤ 1000)
  (hR : ∀ t s', St B fs L' s' → R (.ok (.ret (.str (headS rest) t))) s') : codeAny (model prog w) A (.call (.ref f) ⟨[v], []⟩) R s := by
 wtm_at "pk"
 obtain ⟨fo, hfo, doc, pm, ctv, rfl⟩ := S.get hf
 obtain ⟨co, hco, cvs, ct, hcd, hcv⟩ := S.get hc
 refine call_gen (names := ["count"]) (rest := []) O S hA hfo rfl ⟨c', co, cvs, ct, rfl, hco, hcd, hcv⟩ rfl (by show ∀ x ∈ pieceOf.1.2.2.names, _; rw [pie_names]; decide +kernel) (by show ∀ x ∈ _, pieceOf.1.2.2.names.lookup x = _; rw [pie_names]; decide +kernel) (by decide +kernel) pie_kind rfl rfl (fun E => ?_) (by kernel_rfl) (by kernel_rfl)
 refine wpAny_of_eq (a := [(Str.ofString "count", v)]) (by rfl) ?_
 refine ⟨[v], L, rfl, rfl, S, ?_⟩
 clear S; (try clear LL); (try clear LL); clear hfo hco; intro env nd kd fn s hE hcells hfr hcode S hA E
 refine xs_return ?_
 refine ite_if ?_
 refine t_name ?_
 refine lF S hE hcells (by show pieceOf.1.2.2.names.lookup _ = _; rw [pie_names]; kernel_rfl) (c := cl) rfl hcl ?_
 wtm_at "pk"
 obtain ⟨svs, hsv, hSl⟩ := S.isLR u.mem
 refine truthy_list hSl S (by have := hsv.len; simp at this; lia) ?_
 clear S; (try clear LL); (try clear LL); clear hSl; intro s S
 have hsl := hsv.len
 cases rest with
 | nil =>
  cases hsv
  refine ⟨fun hb => by simp at hb, fun hb => ?_⟩
  wtm_at "go"
  rw [Upd.refl_eq u] at hR
  exact hR _ _ S.pop
 | cons c r =>
  refine ⟨fun hb => ?_, fun hb => ?_⟩
  ·refine m_call ?_
   refine lF S hE hcells (by show pieceOf.1.2.2.names.lookup _ = _; rw [pie_names]; kernel_rfl) (c := cl) rfl hcl ?_
   wtm_at "pk"
   obtain ⟨svs, hsv, hSl⟩ := S.isLR u.mem
   rw [List.reverse_cons, List.map_append] at hsv
   wtm_at "pk"
   obtain ⟨v1, v2, rfl, h1, h2⟩ := hsv.unapp
   obtain ⟨v3, rfl, ⟨tk, rfl⟩⟩ := h2.one
   refine gm_list hSl PySem.F.slot_list_pop PySem.F.type_list_pop ?_
   refine cw_m0 ?_
   refine l_pop u S hSl (fun o h => ⟨v1, h1, h⟩) (Nat.lt_of_lt_of_le (by have := h1.len; simp at this; simp at hz; lia : v1.length < 2000) (line_le (by lia))) ?_
   clear S; intro s S
   exact hR _ _ S.pop
  ·have := hsv.len
   simp only [List.reverse_cons, List.map_append, List.length_append, List.map_cons, List.map_nil, List.length_cons, List.length_nil] at this
   cases svs with
   | nil => simp at this
   | cons => simp at hb
theorem read_spec {a : Lx} {rest : List Nat} {q : List Str} {R : Result → Shared → Prop} (O : Ok B w) (S : St B fs (lexL a c' rest q ++ M) s) (hA : AOk A (n + 2) es) (hc : (c', codO pieQ) ∈ M) (hz : rest.length ≤ 1000)
  (hR : ∀ t s', St B fs (lexL a c' rest.tail q ++ M) s' → R (.ok (.ret (.str (headS rest) t))) s') : codeAny (model prog w) A (.call (.ref 176) ⟨[.ref a.lx], []⟩) R s := by
 refine call_def (a := 176) (names := ["self"]) (rest := ["ch"]) (vals := [.ref a.lx]) O S hA (fun _ => rfl) rfl (fun _ => by kernel_rfl) rfl rfl rfl (by decide +kernel) (by decide +kernel) (by decide +kernel) rfl rfl rfl ?_
 clear S; (try clear LL); (try clear LL); clear hA; intro env nd kd fn s hE S hA E
 dsimp only at hE
 wtm_at "us"
 dsimp only [List.map, List.append, List.cons_append, List.nil_append] at S
 wtm_at "go"
 refine get_in O S (S.at (by wtm_at "lex")) (S.at (z := lexN (.ref a.st) a.pb none) (by wtm_at "lex")) rfl ?_
 clear S; intro s S
 wtm_at "pk"
 obtain ⟨so, hso, spb, ln, t1, t2, sns⟩ := S.at (a := a.ds) (z := strN a.f) (by wtm_at "lex")
 refine m_own 4 O S (S.at (a := a.st) (by wtm_at "lex")) ⟨so, hso, sns⟩ lex_nodup rfl rfl (fun P => K193_get P _) K193_dict (fun _ => by kernel_rfl) rfl ?_
 clear S; intro s S
 wtm_at "pk"
 obtain ⟨fo, hfo, doc, pm, ctv, rfl⟩ := S.at (a := a.f) (z := pieO a.cl c') (by wtm_at "lex")
 refine callWith_F ⟨_, _, _, _, hfo⟩ ?_
 wtm_at "go"
 wtm_at "pk"
 obtain ⟨fo, hfo, doc, pm, ctv, rfl⟩ := S.at (a := a.f) (z := pieO a.cl c') (by wtm_at "lex")
 refine ⟨⟨_, _, _, _, hfo⟩, w_call ?_⟩
 refine piece_spec (rest := rest) (L' := lexL a c' rest.tail q ++ M) O S hA (by wtm_at "lex") (by wtm_at "mem") (by wtm_at "lex") .here hz ?_
 clear S; intro t s S
 refine ret_ok ?_
 wtm_at "go"
 wtm_at "if"
 wtm_at "go"
 refine ⟨fun hb => ?_, fun hb => ?_⟩
 ·wtm_at "go"
  refine get_ln O S (S.at (by wtm_at "lex")) (S.at (z := lexN (.ref a.st) a.pb none) (by wtm_at "lex")) ?_
  clear S; intro ln t s S
  wtm_at "go"
  refine set_ln (fp := .ref a.st) (pb := a.pb) (rd := none) O S (S.at (z := instO 193 a.dl) (by wtm_at "lex")) (by wtm_at "lex") ?_
  clear S; intro s S
  wtm_at "go"
  exact hR _ _ S.pop
 ·wtm_at "go"
  exact hR _ _ S.pop
theorem push_spec {a : Lx} {rest : List Nat} {q : List Str} {x : Str} {t : Tok} {R : Result → Shared → Prop} (O : Ok B w) (S : St B fs (lexL a c' rest q ++ M) s) (hA : AOk A (n + 1) es) (hz : q.length ≤ 1000)
  (hR : ∀ s', St B fs (lexL a c' rest (q ++ [x]) ++ M) s' → R (.ok (.ret .none)) s') : codeAny (model prog w) A (.call (.ref 190) ⟨[.ref a.lx, .str x t], []⟩) R s := by
 refine call_def (a := 190) (names := ["self", "token"]) (rest := []) (vals := [.ref a.lx, .str x t]) O S hA (fun _ => rfl) rfl (fun _ => by kernel_rfl) rfl rfl rfl (by decide +kernel) (by decide +kernel) (by decide +kernel) rfl rfl rfl ?_
 clear S; (try clear LL); (try clear LL); clear hA; intro env nd kd fn s hE S hA E
 dsimp only at hE
 wtm_at "us"
 dsimp only [List.map, List.append, List.cons_append, List.nil_append] at S
 wtm_at "go"
 refine get_pb O S (S.at (by wtm_at "lex")) (S.at (z := lexN (.ref a.st) a.pb none) (by wtm_at "lex")) ?_
 clear S; intro s S
 wtm_at "pk"
 obtain ⟨qv, hqv, hQl⟩ := S.isLR (a := a.pb) (R := StrV) (xs := q) (by wtm_at "lex")
 refine gm_list hQl PySem.F.slot_list_append PySem.F.type_list_append ?_
 wtm_at "go"
 refine l_append (L' := lexL a c' rest (q ++ [x]) ++ M) (.there .here) S hQl (fun o h => ⟨_, hqv.append (.cons ⟨t, rfl⟩ .nil), h⟩) (line_le (by have := hqv.len; lia)) ?_
 clear S; intro s S
 refine ⟨rfl, ?_⟩
 wtm_at "go"
 exact hR _ S.pop
end
end
section
noncomputable def firstPos : List Stmt → Option Pos
 | [] => none
 | .FunctionDef _ _ _ _ _ _ _ _ _ p :: _ => some p
 | _ :: r => firstPos r
noncomputable def piePos : {p : Pos // firstPos (stmtsOf lexObj.1) = some p} := ⟨_, rfl⟩
theorem F2.reverse {α β : Type} {R : α → β → Prop} {xs : List α} {vs : List β} (h : F2 R xs vs) : F2 R xs.reverse vs.reverse := by
 induction h with
 | nil => exact .nil
 | cons r _ ih => rw [List.reverse_cons, List.reverse_cons]; exact ih.append (.cons r .nil)
theorem cs_one {cs : List (Str × Addr)} {n : Str} (h : cs.map (·.1) = [n]) : ∃ c, cs = [(n, c)] := by
 match cs, h with
 | [(m, c)], h => simp at h; subst h; exact ⟨c, rfl⟩
theorem cs_cons {cs : List (Str × Addr)} {n : Str} {ns : List Str} (h : cs.map (·.1) = n :: ns) : ∃ c cs', cs = (n, c) :: cs' ∧ cs'.map (·.1) = ns := by
 match cs, h with
 | (m, c) :: r, h =>
  rw [List.map_cons, List.cons.injEq] at h
  obtain ⟨h1, h2⟩ := h
  subst h1; exact ⟨c, r, rfl, h2⟩
theorem clos_cells (scope : Scope) (env : Env) : closureFor scope env = closureFor scope { envSc env.scope with cells := env.cells } := rfl
section
variable {prog : Program} {w : World} {B : Bs} {fs : List Fm} {L L' L₂ M T : List (Addr × O)} {s : Shared} {A : Around} {E : Value → Shared → Prop} {n : Nat} {es : List Env} {env : Env} {P c : Addr} {sc : Scope}
theorem mk_any {name qual : Str} {params : Arguments} {body : List Stmt} {scope : Scope} {clos : List (Str × Addr)} {pos : Pos} {firstLine : Nat} {Q : Value → Shared → Prop} (O : OkB B w) (S : St B fs L s) (hT : T = tabE P ∨ ∃ c0, T = tabF P qual pos c0) (hp : L.Perm (T ++ L₂)) (hE : EnvIs env sc) (hcd : env.code = .ref c) (hC : ∀ p, codeHdIn (KF p) c P = true) (hcl : closureFor scope env = pure clos)
  (h : ∀ f c' doc pm ctv s', (∀ c0, T = tabF P qual pos c0 → c' = c0) → St B fs ((f, raw (fnMade name qual params body scope clos doc pm c' ctv)) :: (tabF P qual pos c' ++ L₂)) s' → Q (.ref f) s') :
  wpAny (model prog w) A (makeFunction name qual params (.stmts body) scope env [] [] [] pos firstLine) Q E s := by
 replace S := S.perm hp
 rcases hT with rfl | ⟨c0, rfl⟩
 ·exact mk_new O S hE hcd hC hcl fun f c' doc pm ctv s' S' => h f c' doc pm ctv s' (fun c0 e => by simp [tabE, tabF] at e) S'
 ·exact mk_hit O S hE hcd hC hcl fun f doc pm ctv s' S' => h f c0 doc pm ctv s' (fun c1 e => by simp [tabF] at e; have := congrFun e.1 (tabObj #[rawInt pos.line, rawInt pos.col, .ref c0]); simp [raw] at this; exact this) S'
theorem lexer_spec {text : Str} {t : Tok} {R : Result → Shared → Prop} (O : OkB B w) (S : St B fs (T ++ L) s) (hT : T = tabE 199 ∨ ∃ c0, T = tabF 199 pieQ piePos.1 c0) (hA : AOk A (n + 3) es) (hF : FrOk es fs) (hz : text.cps.size ≤ 1000)
  (hR : ∀ a c' s', (∀ c0, T = tabF 199 pieQ piePos.1 c0 → c' = c0) → St B fs (lexL a c' text.cps.toList [] ++ (tabF 199 pieQ piePos.1 c' ++ L)) s' → R (.ok (.ret (.ref a.lx))) s') :
  codeAny (model prog w) A (.call (.ref 204) ⟨[.str text t], []⟩) R s := by
 refine call_cq (a := 204) (binds := [(Str.ofString "text", .str text t)]) ["text", "stream", "_law_piece"] [some (.str text t), none, none] ["signs"] (fun _ => none) O.toOk S hA hF (fun _ => rfl) rfl (fun _ => by kernel_rfl) rfl rfl rfl (by intro x hx; simp at hx; subst hx; exact .inl (by kernel_rfl)) (by kernel_rfl) (by decide +kernel) (by decide +kernel) (by simp only [bindL]; rw [if_pos (by kernel_rfl)]; funext y; simp [lookV]) (by simp only [bindC]; rw [if_pos (by kernel_rfl)]) (by decide +kernel) (by decide +kernel) rfl rfl rfl ?_
 clear S; (try clear LL); (try clear LL); clear hA hF; intro env cs nd kd fn s hE hcs hcn hfr hcode hqual hF S hA E
 dsimp only at hE hcode hqual
 wtm_at "pk"
 obtain ⟨cl, rfl⟩ := cs_one hcn
 wtm_at "us"
 dsimp only [List.map, List.append, List.cons_append, List.nil_append] at S
 have OB := O
 replace O := O.toOk
 wtm_at "go"
 refine t_list_str hA.hand S (by lia) ?_
 clear S; intro la s S
 wtm_at "go"
 refine ⟨_, _, S, ?_⟩
 clear S; intro sl s S
 wtm_at "pk"
 obtain ⟨lv, hlv, hLl⟩ := S.isLR (a := la) (R := StrV) (xs := text.cps.toList.map fun c => (⟨#[c]⟩ : Str)) (by wtm_at "mem")
 refine sub_slice S hLl (S.at (by wtm_at "mem")) .none .none (.int _ _) (by decide) (by have := hlv.len; simp at this; lia) ?_
 clear S; (try clear LL); (try clear LL); clear hLl; intro sa s S
 have hpick : (slicePick lv.toArray none none (some (-1))).toList = lv.reverse := by rw [krv_pick]
 wtm_at "us"
 rw [hpick] at S
 refine sC S hE hcs (by kernel_rfl) rfl (.there (.there (.there .here))) ?_
 clear S; intro s S
 replace S := S.weak (a := sa) (y := signO text.cps.toList) .here (fun o h => ⟨_, by rw [List.map_reverse]; exact hlv.reverse, h⟩)
 replace S := S.less (L' := (sa, signO text.cps.toList) :: (cl, celO (some (.ref sa))) :: (T ++ L)) (.cons_cons _ (.cons _ (.cons _ (.refl _))))
 clear hlv hpick lv
 wtm_at "go"
 refine cw_K O (fun _ => by kernel_rfl) ?_
 wtm_at "go"
 refine ⟨S.K O, w_call ?_⟩
 refine mk_inst lexNames O S (fun _ => by kernel_rfl) (fun _ => by kernel_rfl) (fun _ => by kernel_rfl) (fI := 169) ?_
 clear S; intro st ds s S
 refine lex_init (fp := .none) O S hA.under_type ?_
 clear S; intro pb0 s S
 refine ⟨rfl, ret_ok ?_⟩
 wtm_at "go"
 refine xs_cons (nestDef_K rfl rfl (by kernel_rfl) ?_)
 replace S := S.less (List.sublist_cons_self _ _)
 have hq : qualnameIn env "_law_piece" "_law_piece" = pieQ := by (try dsimp only [LL]); unfold qualnameIn; rw [hqual, if_neg (by rw [kd _ (by simp)]; decide)]; decide +kernel
 rw [hq]
 refine mk_any (pos := piePos.1) (T := T) (P := 199) (L₂ := (st, instO 193 ds) :: (ds, lexN .none pb0 none) :: (sa, signO text.cps.toList) :: (cl, celO (some (.ref sa))) :: L) OB S hT (List.perm_append_comm_assoc [(st, instO 193 ds), (ds, lexN .none pb0 none), (sa, signO text.cps.toList), (cl, celO (some (.ref sa)))] T L) hE hcode (fun _ => by kernel_rfl) (clos := [(Str.ofString "signs", cl)]) ?_ ?_
 ·rw [clos_cells, hcs]; with_unfolding_all rfl
 clear S; intro f c' doc pm ctv s hc0 S
 replace S := S.weak (a := f) (y := pieO cl c') .here (fun o h => ⟨doc, pm, ctv, h⟩)
 wtm_at "go"
 refine set_rd (fp := .none) (pb := pb0) (rd := none) (v := .ref f) O S (S.at (by (try dsimp only [LL]); unfold tabF; wtm_at "mem")) (.there (.there (.there (.there .here)))) ?_
 clear S; intro s S
 wtm_at "go"
 refine cw_K O (fun _ => by kernel_rfl) ?_
 wtm_at "go"
 refine ⟨S.K O, w_call ?_⟩
 refine mk_inst lexNames O S (fun _ => by kernel_rfl) (fun _ => by kernel_rfl) (fun _ => by kernel_rfl) (fI := 169) ?_
 clear S; intro lx dl s S
 refine lex_init (fp := .ref st) O S hA.under_type ?_
 clear S; intro pb s S
 refine ⟨rfl, ret_ok ?_⟩
 wtm_at "go"
 refine hR ⟨sa, pb, lx, dl, st, ds, f, cl⟩ c' _ hc0 ?_
 replace S := S.pop
 replace S := S.weak (a := pb) (y := lstR StrV []) .here (fun o h => ⟨[], .nil, h⟩)
 replace S := S.weak (a := ds) (y := strN f) (.there (.there (.there (.there (.there (.there (.there .here))))))) (fun o h => ⟨pb0, h⟩)
 refine S.perm ?_
 unfold lexL tabF
 wtm_at "perm"
end
end
section
noncomputable def alpha : List Nat := [97, 32, 35, 34, 92, 98, 10]
noncomputable def AL (r : List Nat) : Prop := ∀ c ∈ r, c ∈ alpha
noncomputable def wsC (c : Nat) : Bool := c == 10 || c == 9 || c == 13 || c == 32
theorem ws_in : ∀ c ∈ alpha, Txt.contains "\n\t\r " (sgn c) = wsC c := by decide +kernel
theorem q_eq : ∀ c ∈ alpha, (sgn c == Str.ofString "\"") = (c == 34) := by decide +kernel
theorem b_eq : ∀ c ∈ alpha, (sgn c == Str.ofString "\\") = (c == 92) := by decide +kernel
noncomputable def ofL (l : List Nat) : Str := ⟨l.toArray⟩
theorem ofL_app (a b : List Nat) : ofL a ++ ofL b = ofL (a ++ b) := by show Str.append _ _ = _; simp [Str.append, ofL]
theorem ofL_len (a : List Nat) : (ofL a).length = a.length := by simp [ofL, Str.length]
theorem ofL_nil : ofL [] = Str.ofString "" := by decide +kernel
theorem ofL_sgn (c : Nat) : ofL [c] = sgn c := rfl
theorem headS_nil : headS [] = ofL [] := by decide +kernel
theorem headS_take (r : List Nat) : headS r = ofL (r.take 1) := by cases r with | nil => exact headS_nil | cons => rfl
noncomputable def quoF : List Nat → List Nat → List Nat × List Nat
 | [], tok => (tok, [])
 | c :: r, tok => if c = 34 then (tok, r) else if c = 92 then (match r with | [] => (tok, []) | d :: r' => quoF r' (tok ++ [d])) else quoF r (tok ++ [c])
noncomputable def plaF : List Nat → List Nat → List Nat × List Nat
 | [], tok => (tok, [])
 | c :: r, tok => if wsC c then (tok, r) else if c = 92 then (match r with | [] => (tok, []) | d :: r' => plaF r' (tok ++ [d])) else plaF r (tok ++ [c])
noncomputable def tokF : List Nat → List Nat × List Nat
 | [] => ([], [])
 | c :: r => if wsC c then tokF r else if c = 34 then quoF r [] else if c = 92 then plaF r.tail (r.take 1) else plaF r [c]
theorem quoF_q (r tok : List Nat) : quoF (34 :: r) tok = (tok, r) := by cases r <;> simp [quoF]
theorem quoF_c {c : Nat} (h1 : c ≠ 34) (h2 : c ≠ 92) (r tok : List Nat) : quoF (c :: r) tok = quoF r (tok ++ [c]) := by cases r <;> simp [quoF, h1, h2]
theorem plaF_w {c : Nat} (h : wsC c = true) (r tok : List Nat) : plaF (c :: r) tok = (tok, r) := by cases r <;> simp [plaF, h]
theorem plaF_c {c : Nat} (h1 : wsC c = false) (h2 : c ≠ 92) (r tok : List Nat) : plaF (c :: r) tok = plaF r (tok ++ [c]) := by cases r <;> simp [plaF, h1, h2]
theorem quoF_b (r tok : List Nat) : quoF (92 :: r) tok = quoF r.tail (tok ++ r.take 1) := by cases r with | nil => simp [quoF] | cons d r => simp [quoF]
theorem plaF_b (r tok : List Nat) : plaF (92 :: r) tok = plaF r.tail (tok ++ r.take 1) := by cases r with | nil => simp [plaF, wsC] | cons d r => simp [plaF, wsC]
section
variable {prog : Program} {w : World} {B : Bs} {fs : List Fm} {L L' M : List (Addr × O)} {s : Shared} {A : Around} {E : Value → Shared → Prop} {n : Nat} {es : List Env} {c' : Addr}
noncomputable def liveL (a : Lx) (c' it m : Addr) (t : Tok) (r : List Nat) (M : List (Addr × O)) : List (Addr × O) := lexL a c' r [] ++ (it, calO m t) :: (m, metO 176 a.lx) :: M
noncomputable def deadL (a : Lx) (c' it m : Addr) (M : List (Addr × O)) : List (Addr × O) := lexL a c' [] [] ++ (it, calE) :: (m, metO 176 a.lx) :: M
theorem live_next {a : Lx} {it m : Addr} {t : Tok} {r : List Nat} {Q : Option Value → Shared → Prop} (O : Ok B w) (S : St B fs (liveL a c' it m t r M) s) (hA : AOk A (n + 3) es) (hc : (c', codO pieQ) ∈ M) (hz : r.length ≤ 1000)
  (h1 : ∀ c r' u s', r = c :: r' → St B fs (liveL a c' it m t r' M) s' → Q (some (.str (sgn c) u)) s') (h2 : ∀ s', r = [] → St B fs (deadL a c' it m M) s' → Q none s') : wpAny (model prog w) A (pyNext (.ref it)) Q E s := by
 wtm_at "us"
 unfold liveL at S
 refine cn_next hA.hand O S (S.at (by wtm_at "mem")) (S.at (by wtm_at "mem")) (fun _ => rfl) rfl ?_
 refine read_spec O S hA.in1 (List.mem_cons_of_mem _ (List.mem_cons_of_mem _ hc)) hz ?_
 clear S; intro u s S
 refine ⟨_, u, lexL a c' r.tail [] ++ (m, metO 176 a.lx) :: M, rfl, S.perm List.perm_middle, S.at (by wtm_at "mem"), fun hne => ?_, fun he s S => ?_⟩
 ·cases r with
  | nil => exact absurd headS_nil hne
  | cons c r' => exact h1 c r' u _ rfl S
 ·cases r with
  | cons c r' =>
   exfalso
   have := congrArg (fun x : Str => x.cps.size) he
   revert this
   show (1 : Nat) = (Str.ofString "").cps.size → False
   decide +kernel
  | nil => exact h2 _ rfl (S.perm List.perm_middle.symm)
end
end
section
section
variable {prog : Program} {w : World} {B : Bs} {fs : List Fm} {L L' M : List (Addr × O)} {s : Shared} {A : Around} {E : Value → Shared → Prop} {n : Nat} {es : List Env} {c' : Addr}
theorem gettok_back {a : Lx} {rest : List Nat} {x : Str} {q : List Str} {R : Result → Shared → Prop} (O : Ok B w) (S : St B fs (lexL a c' rest (x :: q) ++ M) s) (hA : AOk A (n + 1) es) (hz : q.length ≤ 1000)
  (hR : ∀ t s', St B fs (lexL a c' rest q ++ M) s' → R (.ok (.ret (.str x t))) s') : codeAny (model prog w) A (.call (.ref 183) ⟨[.ref a.lx], []⟩) R s := by
 refine call_def (a := 183) (names := ["self"]) (rest := ["token", "fiter", "ch"]) (vals := [.ref a.lx]) O S hA (fun _ => rfl) rfl (fun _ => by kernel_rfl) rfl rfl rfl (by decide +kernel) (by decide +kernel) (by decide +kernel) rfl rfl rfl ?_
 clear S; (try clear LL); (try clear LL); clear hA; intro env nd kd fn s hE S hA E
 dsimp only at hE
 wtm_at "us"
 dsimp only [List.map, List.append, List.cons_append, List.nil_append] at S
 wtm_at "if"
 wtm_at "go"
 refine get_pb O S (S.at (by wtm_at "lex")) (S.at (z := lexN (.ref a.st) a.pb none) (by wtm_at "lex")) ?_
 clear S; intro s S
 wtm_at "pk"
 obtain ⟨qv, hqv, hQl⟩ := S.isLR (a := a.pb) (R := StrV) (xs := x :: q) (by wtm_at "lex")
 refine truthy_list hQl S (by have := hqv.len; simp at this; lia) ?_
 clear S; intro s S
 wtm_at "pk"
 obtain ⟨v0, q0, rfl⟩ : ∃ v0 q0, qv = v0 :: q0 := by cases hqv with | cons _ _ => exact ⟨_, _, rfl⟩
 refine ⟨fun hb => ?_, fun hb => by simp at hb⟩
 clear hqv hQl
 wtm_at "go"
 refine get_pb O S (S.at (by wtm_at "lex")) (S.at (z := lexN (.ref a.st) a.pb none) (by wtm_at "lex")) ?_
 clear S; intro s S
 wtm_at "pk"
 obtain ⟨qv, hqv, hQl⟩ := S.isLR (a := a.pb) (R := StrV) (xs := x :: q) (by wtm_at "lex")
 refine gm_list hQl PySem.F.slot_list_pop PySem.F.type_list_pop ?_
 wtm_at "go"
 wtm_at "pk"
 obtain ⟨qv, hqv, hQl⟩ := S.isLR (a := a.pb) (R := StrV) (xs := x :: q) (by wtm_at "lex")
 cases hqv with
 | cons hx hr =>
  rename_i v1 q1
  wtm_at "pk"
  obtain ⟨tx, rfl⟩ := hx
  refine l_pop_at (k := 0) (L' := lexL a c' rest q ++ M) (.there .here) S hQl (by rfl) (by simp) (by have := hr.len; simp; lia) (by rfl) (fun o h => ⟨_, hr, h⟩) ?_
  clear S; intro s S
  wtm_at "go"
  exact hR _ _ S.pop
end
noncomputable section
namespace gettok_read_w
def Pw (prog : Program) (w : World) (B : Bs) (fs : List Fm) (M : List (Addr × O)) (s : Shared) (A : Around) (n : Nat) (es : List Env) (c' : Addr) (a : Lx) (rest : List Nat) (R : Result → Shared → Prop) : Prop := ∀ (O : Ok B w) (S : St B fs (lexL a c' rest [] ++ M) s) (hA : AOk A (n + 4) es) (hc : (c', codO pieQ) ∈ M) (hz : rest.length ≤ 1000) (hal : AL rest) (hR : ∀ t s', St B fs (lexL a c' (tokF rest).2 [] ++ M) s' → R (.ok (.ret (.str (ofL (tokF rest).1) t))) s'),
  codeAny (model prog w) A (.call (.ref 183) ⟨[.ref a.lx], []⟩) R s
def Hw (x : Program × World × Bs × (List Fm) × (List (Addr × O)) × Shared × Around × Nat × (List Env) × Addr × Lx × (List Nat) × (Result → Shared → Prop)) : Prop := Pw x.1 x.2.1 x.2.2.1 x.2.2.2.1 x.2.2.2.2.1 x.2.2.2.2.2.1 x.2.2.2.2.2.2.1 x.2.2.2.2.2.2.2.1 x.2.2.2.2.2.2.2.2.1 x.2.2.2.2.2.2.2.2.2.1 x.2.2.2.2.2.2.2.2.2.2.1 x.2.2.2.2.2.2.2.2.2.2.2.1 x.2.2.2.2.2.2.2.2.2.2.2.2
@[irreducible] def cw := worst (by repeat (first | refine ne5 ?_ ?_ | exact ne1 | exact ne2 | exact ne3 | exact ne4 | exact inferInstance | exact ne7 | exact ⟨⟨0, 0, 0, 0, 0, 0, 0, 0⟩⟩)) Hw
def prog := cw.1
def w := cw.2.1
def B := cw.2.2.1
def fs := cw.2.2.2.1
def M := cw.2.2.2.2.1
def s := cw.2.2.2.2.2.1
def A := cw.2.2.2.2.2.2.1
def n := cw.2.2.2.2.2.2.2.1
def es := cw.2.2.2.2.2.2.2.2.1
def c' := cw.2.2.2.2.2.2.2.2.2.1
def a := cw.2.2.2.2.2.2.2.2.2.2.1
def rest := cw.2.2.2.2.2.2.2.2.2.2.2.1
def R := cw.2.2.2.2.2.2.2.2.2.2.2.2
theorem run : Pw prog w B fs M s A n es c' a rest R := by
 intro O S hA hc hz hal hR
 refine call_def (a := 183) (names := ["self"]) (rest := ["token", "fiter", "ch"]) (vals := [.ref a.lx]) O S hA (fun _ => rfl) rfl (fun _ => by kernel_rfl) rfl rfl rfl (by decide +kernel) (by decide +kernel) (by decide +kernel) rfl rfl rfl ?_
 clear S; (try clear LL); (try clear LL); clear hA; intro env nd kd fn s hE S hA E
 dsimp only at hE
 wtm_at "us"
 dsimp only [List.map, List.append, List.cons_append, List.nil_append] at S
 wtm_at "if"
 wtm_at "go"
 refine get_pb O S (S.at (by wtm_at "lex")) (S.at (z := lexN (.ref a.st) a.pb none) (by wtm_at "lex")) ?_
 clear S; intro s S
 wtm_at "pk"
 obtain ⟨qv, hqv, hQl⟩ := S.isLR (a := a.pb) (R := StrV) (xs := []) (by wtm_at "lex")
 cases hqv
 refine truthy_list hQl S (by simp) ?_
 clear S; (try clear LL); (try clear LL); clear hQl; intro s S
 refine if_ff ?_
 wtm_at "go"
 wtm_at "pk"
 obtain ⟨lo, hlo, ln, t1, t2, lns⟩ := S.at (a := a.dl) (z := lexN (.ref a.st) a.pb none) (by wtm_at "lex")
 refine g_bound (f := 176) O S (S.at (a := a.lx) (by wtm_at "lex")) ⟨lo, hlo, lns⟩ (lookV_notin (by decide +kernel)) (fun P => K193_get P _) K193_dict (fun _ => by kernel_rfl) (fun _ => by kernel_rfl) (fun _ => by kernel_rfl) (fun _ => by kernel_rfl) (by decide +kernel) ?_
 clear S; (try clear LL); (try clear LL); clear hlo lns; intro m s S
 wtm_at "go"
 refine iter_cal (f := 176) (x := a.lx) S (S.at (by wtm_at "mem")) ?_
 clear S; intro it s S
 wtm_at "pk"
 obtain ⟨tq, rfl⟩ : ∃ q, q = tok := ⟨_, rfl⟩
 wtm_at "go"
 refine pi_cal (S.at (by wtm_at "mem")) ?_
 replace S : St B _ (liveL a c' it m tq rest M) s := S.perm (List.perm_append_comm_assoc [(it, calO m tq), (m, metO 176 a.lx)] (lexL a c' rest []) M)
 have hend : ∀ {vs : List (Option Value)} {s : Shared} {tok r : List Nat} {tt : Tok}, tokF rest = (tok, r) → St B ((⟨env, ["self", "token", "fiter", "ch"], nd, kd, fn⟩, vs) :: fs) (lexL a c' r [] ++ M) s → R (.ok (.ret (.str (ofL tok) tt))) s := fun {vs s tok r tt} e S => by
  rw [e] at hR
  exact hR _ _ S.pop
 have hlive : ∀ {vs : List (Option Value)} {s : Shared} {r : List Nat}, St B ((⟨env, ["self", "token", "fiter", "ch"], nd, kd, fn⟩, vs) :: fs) (liveL a c' it m tq r M) s → St B ((⟨env, ["self", "token", "fiter", "ch"], nd, kd, fn⟩, vs) :: fs) (lexL a c' r [] ++ M) s := fun {vs s r} S => S.less ((List.Sublist.refl _).append (.cons _ (.cons _ (.refl _))))
 have hdead : ∀ {vs : List (Option Value)} {s : Shared}, St B ((⟨env, ["self", "token", "fiter", "ch"], nd, kd, fn⟩, vs) :: fs) (deadL a c' it m M) s → St B ((⟨env, ["self", "token", "fiter", "ch"], nd, kd, fn⟩, vs) :: fs) (lexL a c' [] [] ++ M) s := fun {vs s} S => S.less ((List.Sublist.refl _).append (.cons _ (.cons _ (.refl _))))
 dsimp only [fset, List.set] at S
 let V1 := fun (_ : Nat) (_ : Bool) (_ tok : List Nat) (tt : Tok) (chv : Option Value) => [some (Value.ref a.lx), some (.str (ofL tok) tt), some (.ref it), chv]
 let G1 := fun (_ : Nat) (b : Bool) (r _ : List Nat) (_ : Tok) (_ : Option Value) => cond b (deadL a c' it m M) (liveL a c' it m tq r M)
 refine gen5 (rest.length + 1) V1 G1 (fun k b r tok _ _ => (b = false ∧ k = r.length + 1 ∧ tok = [] ∧ AL r ∧ r.length ≤ 1000 ∧ tokF rest = tokF r) ∨ (b = true ∧ k = 0 ∧ tokF rest = (tok, []))) false rest [] _ none (by dsimp only [V1, G1, cond]; rw [ofL_nil]; exact S) (.inl ⟨rfl, rfl, rfl, hal, hz, rfl⟩) ?_
 clear S; intro k b r tok t0 chv s E K1 fin1 hH S
 rcases hH with ⟨rfl, rfl, rfl, hr, hrz, hre⟩ | ⟨rfl, rfl, hre⟩
 rotate_left
 ·refine cn_ended hA.hand S (S.at (by wtm_at "ung"; (try dsimp only [cond]); unfold deadL; wtm_at "mem")) ?_
  clear S; intro s S
  dsimp only
  wtm_at "go"
  exact hend hre (hdead S)
 refine live_next O S hA hc hrz ?_ ?_
 rotate_left
 ·clear S; rintro s rfl S
  dsimp only
  wtm_at "go"
  exact hend hre (hdead S)
 clear S; rintro c r' u s rfl S
 dsimp only
 refine wpAny_pure ?_
 have hcal := hr c List.mem_cons_self
 have hr' : AL r' := fun x hx => hr x (List.mem_cons_of_mem _ hx)
 simp only [List.length_cons] at hrz
 wtm_at "go"
 wtm_at "if"
 wtm_at "go"
 refine get_ws O S (S.at (by wtm_at "ung"; (try dsimp only [cond]); unfold liveL lexL; wtm_at "mem")) (S.at (z := lexN (.ref a.st) a.pb none) (by wtm_at "ung"; (try dsimp only [cond]); unfold liveL lexL; wtm_at "mem")) ?_
 clear S; intro wt s S
 refine SB.contains ?_
 rw [ws_in c hcal]
 wtm_at "go"
 refine ⟨fun hb => ?_, fun hb => ?_⟩
 ·wtm_at "go"
  exact fin1 _ false r' [] t0 _ _ (Nat.lt_succ_self _) (.inl ⟨rfl, rfl, rfl, hr', by lia, by rw [hre, tokF, if_pos hb]⟩) S
 wtm_at "go"
 wtm_at "if"
 wtm_at "go"
 rw [q_eq c hcal]
 refine ⟨fun hq => ?_, fun hq => ?_⟩
 ·have hq' : c = 34 := beq_iff_eq.mp hq
  wtm_at "go"
  refine pi_cal (S.at (by wtm_at "ung"; (try dsimp only [cond]); unfold liveL; wtm_at "mem")) ?_
  let V2 := fun (_ : Nat) (_ tok : List Nat) (tt : Tok) (chv : Option Value) => [some (Value.ref a.lx), some (.str (ofL tok) tt), some (.ref it), chv]
  let G2 := fun (_ : Nat) (r _ : List Nat) (_ : Tok) (_ : Option Value) => liveL a c' it m tq r M
  refine gen4 (r'.length) V2 G2 (fun k r tok _ _ => A4 (k = r.length) (AL r) (tok.length + r.length ≤ 1000) (tokF rest = quoF r tok)) r' [] t0 _ S ⟨rfl, hr', by simp; lia, by rw [hre, tokF, if_neg (by rw [hb]; decide), if_pos hq']⟩ ?_
  clear S; intro k r tk tt chv s E K2 fin2 hH S
  wtm_at "pk"
  obtain ⟨rfl, hr, hrz, hre⟩ := hH
  wtm_at "ps"
  refine live_next O S hA hc (by lia) ?_ ?_
  rotate_left
  ·clear S; rintro s rfl S
   dsimp only
   wtm_at "go"
   exact fin1 0 true [] tk tt _ _ (Nat.succ_pos _) (.inr ⟨rfl, rfl, by rw [hre]; rfl⟩) S
  clear S; (try clear LL); (try clear LL); clear hcal; rintro c r2 u s rfl S
  dsimp only
  refine wpAny_pure ?_
  have hcal := hr c List.mem_cons_self
  have hr2 : AL r2 := fun x hx => hr x (List.mem_cons_of_mem _ hx)
  simp only [List.length_cons] at hrz
  wtm_at "go"
  wtm_at "if"
  wtm_at "go"
  rw [q_eq c hcal]
  refine ⟨fun hq => ?_, fun hq => ?_⟩
  ·have hq' : c = 34 := beq_iff_eq.mp hq
   wtm_at "go"
   exact hend (by rw [hre, hq', quoF_q]) (hlive S)
  have hq' : c ≠ 34 := fun e => by rw [e] at hq; simp at hq
  wtm_at "if"
  wtm_at "go"
  rw [b_eq c hcal]
  refine ⟨fun hs => ?_, fun hs => ?_⟩
  ·have hs' : c = 92 := beq_iff_eq.mp hs
   subst hs'
   wtm_at "go"
   refine lex_meth (f := 176) O S (S.at (by wtm_at "ung"; (try dsimp only [cond]); unfold liveL lexL; wtm_at "mem")) (S.at (z := lexN (.ref a.st) a.pb none) (by wtm_at "ung"; (try dsimp only [cond]); unfold liveL lexL; wtm_at "mem")) (by decide +kernel) (fun _ => by kernel_rfl) (fun _ => by kernel_rfl) ?_
   refine cw_K0 O S (fun _ => by kernel_rfl) ?_
   refine w_call (read_spec (n := n + 1) O S hA (List.mem_cons_of_mem _ (List.mem_cons_of_mem _ hc)) (by lia) ?_)
   clear S; intro ct s S
   refine ret_ok ?_
   wtm_at "go"
   rw [headS_take]
   refine s_iadd (by rw [ofL_len, ofL_len, List.length_take]; lia) S ?_
   clear S; intro tt2 s S
   rw [ofL_app]
   wtm_at "go"
   exact fin2 _ r2.tail (tk ++ r2.take 1) tt2 _ _ (by simp only [List.length_cons, List.length_tail]; lia) ⟨rfl, fun x hx => hr2 x (List.mem_of_mem_tail hx), by rw [List.length_append, List.length_take, List.length_tail]; lia, by rw [hre, quoF_b]⟩ S
  ·have hs' : c ≠ 92 := fun e => by rw [e] at hs; simp at hs
   wtm_at "go"
   refine s_iadd (by rw [← ofL_sgn, ofL_len, ofL_len, List.length_singleton]; lia) S ?_
   clear S; intro tt2 s S
   rw [← ofL_sgn, ofL_app]
   wtm_at "go"
   exact fin2 _ r2 (tk ++ [c]) tt2 _ _ (Nat.lt_succ_self _) ⟨rfl, hr2, by rw [List.length_append, List.length_singleton]; lia, by rw [hre, quoF_c hq' hs']⟩ S
 ·have hq' : c ≠ 34 := fun e => by rw [e] at hq; simp at hq
  refine xs_cut (fun s => ∃ r tk ct, AL r ∧ tk.length + r.length ≤ 1000 ∧ r.length ≤ r'.length ∧ tokF rest = plaF r tk ∧ St B ((⟨env, ["self", "token", "fiter", "ch"], nd, kd, fn⟩, [some (.ref a.lx), some (.str (ofL []) t0), some (.ref it), some (.str (ofL tk) ct)]) :: fs) (liveL a c' it m tq r M) s) ?_ ?_
  ·wtm_at "if"
   wtm_at "go"
   rw [b_eq c hcal]
   refine ⟨fun hs => ?_, fun hs => ?_⟩
   ·have hs' : c = 92 := beq_iff_eq.mp hs
    subst hs'
    wtm_at "go"
    refine lex_meth (f := 176) O S (S.at (by wtm_at "ung"; (try dsimp only [cond]); unfold liveL lexL; wtm_at "mem")) (S.at (z := lexN (.ref a.st) a.pb none) (by wtm_at "ung"; (try dsimp only [cond]); unfold liveL lexL; wtm_at "mem")) (by decide +kernel) (fun _ => by kernel_rfl) (fun _ => by kernel_rfl) ?_
    refine cw_K0 O S (fun _ => by kernel_rfl) ?_
    refine w_call (read_spec (n := n + 1) O S hA (List.mem_cons_of_mem _ (List.mem_cons_of_mem _ hc)) (by lia) ?_)
    clear S; intro ct s S
    refine ret_ok ?_
    wtm_at "go"
    wtm_at "us"
    rw [headS_take] at S
    exact ⟨rfl, r'.tail, r'.take 1, ct, fun x hx => hr' x (List.mem_of_mem_tail hx), by rw [List.length_take, List.length_tail]; lia, by rw [List.length_tail]; lia, by rw [hre, tokF, if_neg (by rw [hb]; decide), if_neg (by decide), if_pos rfl], S⟩
   ·have hs' : c ≠ 92 := fun e => by rw [e] at hs; simp at hs
    wtm_at "go"
    exact ⟨rfl, r', [c], u, hr', by rw [List.length_singleton]; lia, Nat.le_refl _, by rw [hre, tokF, if_neg (by rw [hb]; decide), if_neg hq', if_neg hs'], S⟩
  clear S; rintro s ⟨r, tk, ct, hr, hrz, hrl, hre, S⟩
  wtm_at "go"
  refine s_iadd (by rw [ofL_len, ofL_len, List.length_nil]; lia) S ?_
  clear S; intro tt2 s S
  rw [ofL_app, List.nil_append]
  wtm_at "go"
  refine pi_cal (S.at (by wtm_at "ung"; (try dsimp only [cond]); unfold liveL; wtm_at "mem")) ?_
  let V2 := fun (_ : Nat) (_ tok : List Nat) (tt : Tok) (chv : Option Value) => [some (Value.ref a.lx), some (.str (ofL tok) tt), some (.ref it), chv]
  let G2 := fun (_ : Nat) (r _ : List Nat) (_ : Tok) (_ : Option Value) => liveL a c' it m tq r M
  refine gen4 (r.length) V2 G2 (fun k r tok _ _ => A4 (k = r.length) (AL r) (tok.length + r.length ≤ 1000) (tokF rest = plaF r tok)) r tk tt2 _ S ⟨rfl, hr, hrz, hre⟩ ?_
  clear S; (try clear LL); (try clear LL); clear hr hrz hre hcal; intro k r tk tt chv s E K2 fin2 hH S
  wtm_at "pk"
  obtain ⟨rfl, hr, hrz, hre⟩ := hH
  wtm_at "ps"
  refine live_next O S hA hc (by lia) ?_ ?_
  rotate_left
  ·clear S; rintro s rfl S
   dsimp only
   wtm_at "go"
   exact fin1 0 true [] tk tt _ _ (Nat.succ_pos _) (.inr ⟨rfl, rfl, by rw [hre]; rfl⟩) S
  clear S; rintro c r2 u s rfl S
  dsimp only
  refine wpAny_pure ?_
  have hcal := hr c List.mem_cons_self
  have hr2 : AL r2 := fun x hx => hr x (List.mem_cons_of_mem _ hx)
  simp only [List.length_cons] at hrz
  wtm_at "go"
  wtm_at "if"
  wtm_at "go"
  refine get_ws O S (S.at (by wtm_at "ung"; (try dsimp only [cond]); unfold liveL lexL; wtm_at "mem")) (S.at (z := lexN (.ref a.st) a.pb none) (by wtm_at "ung"; (try dsimp only [cond]); unfold liveL lexL; wtm_at "mem")) ?_
  clear S; intro wt s S
  refine SB.contains ?_
  rw [ws_in c hcal]
  wtm_at "go"
  refine ⟨fun hw => ?_, fun hw => ?_⟩
  ·wtm_at "go"
   exact hend (by rw [hre, plaF_w hw]) (hlive S)
  wtm_at "if"
  wtm_at "go"
  rw [b_eq c hcal]
  refine ⟨fun hs => ?_, fun hs => ?_⟩
  ·have hs' : c = 92 := beq_iff_eq.mp hs
   subst hs'
   wtm_at "go"
   refine lex_meth (f := 176) O S (S.at (by wtm_at "ung"; (try dsimp only [cond]); unfold liveL lexL; wtm_at "mem")) (S.at (z := lexN (.ref a.st) a.pb none) (by wtm_at "ung"; (try dsimp only [cond]); unfold liveL lexL; wtm_at "mem")) (by decide +kernel) (fun _ => by kernel_rfl) (fun _ => by kernel_rfl) ?_
   refine cw_K0 O S (fun _ => by kernel_rfl) ?_
   refine w_call (read_spec (n := n + 1) O S hA (List.mem_cons_of_mem _ (List.mem_cons_of_mem _ hc)) (by lia) ?_)
   clear S; intro ct s S
   refine ret_ok ?_
   wtm_at "go"
   rw [headS_take]
   refine s_iadd (by rw [ofL_len, ofL_len, List.length_take]; lia) S ?_
   clear S; intro tt2 s S
   rw [ofL_app]
   wtm_at "go"
   exact fin2 _ r2.tail (tk ++ r2.take 1) tt2 _ _ (by simp only [List.length_cons, List.length_tail]; lia) ⟨rfl, fun x hx => hr2 x (List.mem_of_mem_tail hx), by rw [List.length_append, List.length_take, List.length_tail]; lia, by rw [hre, plaF_b]⟩ S
  ·have hs' : c ≠ 92 := fun e => by rw [e] at hs; simp at hs
   wtm_at "go"
   refine s_iadd (by rw [← ofL_sgn, ofL_len, ofL_len, List.length_singleton]; lia) S ?_
   clear S; intro tt2 s S
   rw [← ofL_sgn, ofL_app]
   wtm_at "go"
   exact fin2 _ r2 (tk ++ [c]) tt2 _ _ (Nat.lt_succ_self _) ⟨rfl, hr2, by rw [List.length_append, List.length_singleton]; lia, by rw [hre, plaF_c hw hs']⟩ S
end gettok_read_w
end
theorem gettok_read {prog : Program} {w : World} {B : Bs} {fs : List Fm} {M : List (Addr × O)} {s : Shared} {A : Around} {n : Nat} {es : List Env} {c' : Addr} {a : Lx} {rest : List Nat} {R : Result → Shared → Prop} : gettok_read_w.Pw prog w B fs M s A n es c' a rest R := worst_of (Q := gettok_read_w.Hw) (by with_unfolding_all rfl) gettok_read_w.run ⟨prog, w, B, fs, M, s, A, n, es, c', a, rest, R⟩
section
end
end
section
theorem strsAre {xs : List Str} {vs : List Value} (h : F2 StrV xs vs) : StrsAre vs xs := by
 induction h with
 | nil => exact .nil
 | cons r _ ih => obtain ⟨t, rfl⟩ := r; exact .cons _ _ ih
noncomputable def esc (c : Nat) : List Nat := if c = 34 ∨ c = 92 then [92, c] else [c]
theorem esc_in : ∀ c ∈ alpha, Txt.contains "\"\\" (sgn c) = decide (c = 34 ∨ c = 92) := by decide +kernel
noncomputable def wordF (p : Nat × Nat) (n : Int) : List Nat := if (n.fdiv 15).fmod 2 ≠ 0 then 34 :: (esc p.1 ++ esc p.2) ++ [34] else [92, p.1, 92, p.2, 10]
noncomputable def textF : List (Nat × Nat) → List Int → List Nat
 | p :: ws, n :: ns => wordF p n ++ textF ws ns
 | _, _ => []
theorem textF_take (ws : List (Nat × Nat)) (ns : List Int) : ∀ i p n, ws[i]? = some p → ns[i]? = some n → textF (ws.take (i + 1)) (ns.take (i + 1)) = textF (ws.take i) (ns.take i) ++ wordF p n := by
 induction ws generalizing ns with
 | nil => intro i p n h; simp at h
 | cons w ws ih =>
  intro i p n h1 h2
  cases ns with
  | nil => simp at h2
  | cons m ns =>
   cases i with
   | zero => simp at h1 h2; subst h1 h2; simp [textF]
   | succ i =>
    simp at h1 h2
    simp only [List.take_succ_cons, textF]
    rw [ih ns i p n h1 h2, List.append_assoc]
theorem ascii_ofL : ∀ c ∈ alpha, c < 128 := by decide +kernel
theorem ascii2 {c d : Nat} (hc : c ∈ alpha) (hd : d ∈ alpha) : ascii (ofL [c, d]) := by
 have := ascii_ofL c hc; have := ascii_ofL d hd
 simp [ascii, ofL, *]
theorem esc_len (c : Nat) : (esc c).length ≤ 2 := by unfold esc; split <;> simp
theorem lit_q : Str.ofString "\"" = ofL [34] := by decide +kernel
theorem lit_b : Str.ofString "\\" = ofL [92] := by decide +kernel
theorem lit_n : Str.ofString "\n" = ofL [10] := by decide +kernel
theorem wordF_len (p : Nat × Nat) (n : Int) : (wordF p n).length ≤ 6 := by
 unfold wordF
 split
 ·have := esc_len p.1; have := esc_len p.2
  simp; lia
 ·simp
theorem textF_len : ∀ (ws : List (Nat × Nat)) (ns : List Int), (textF ws ns).length ≤ 6 * ws.length
 | [], _ => by simp [textF]
 | _ :: _, [] => by simp [textF]
 | p :: ws, n :: ns => by
  have := textF_len ws ns
  have := wordF_len p n
  simp only [textF, List.length_append, List.length_cons]; lia
theorem join2 (a b : List Nat) : Txt.join (Str.ofString "") [ofL a, ofL b] = ofL (a ++ b) := by
 show ofL a ++ Str.ofString "" ++ ofL b = _
 rw [← ofL_nil, ofL_app, ofL_app, List.append_nil]
section
variable {prog : Program} {w : World} {B : Bs} {fs : List Fm} {L L' M : List (Addr × O)} {s : Shared} {A : Around} {E : Value → Shared → Prop} {n : Nat} {es : List Env}
end
noncomputable section
namespace text_spec_w
def Pw (prog : Program) (w : World) (B : Bs) (fs : List Fm) (L : List (Addr × O)) (s : Shared) (A : Around) (n : Nat) (es : List Env) (wa na : Addr) (ws : List (Nat × Nat)) (ns : List Int) (R : Result → Shared → Prop) : Prop := ∀ (O : Ok B w) (S : St B fs L s) (hA : AOk A (n + 1) es) (hF : FrOk es fs) (hw : (wa, lstR StrV (ws.map fun p => ofL [p.1, p.2])) ∈ L) (hn : (na, lstR IntV ns) ∈ L) (hl : ns.length = ws.length) (hz : ws.length ≤ 10) (hal : ∀ p ∈ ws, p.1 ∈ alpha ∧ p.2 ∈ alpha) (hR : ∀ t s', St B fs L s' → R (.ok (.ret (.str (ofL (textF ws ns)) t))) s'),
  codeAny (model prog w) A (.call (.ref 209) ⟨[.ref wa, .ref na], []⟩) R s
def Hw (x : Program × World × Bs × (List Fm) × (List (Addr × O)) × Shared × Around × Nat × (List Env) × Addr × Addr × (List (Nat × Nat)) × (List Int) × (Result → Shared → Prop)) : Prop := Pw x.1 x.2.1 x.2.2.1 x.2.2.2.1 x.2.2.2.2.1 x.2.2.2.2.2.1 x.2.2.2.2.2.2.1 x.2.2.2.2.2.2.2.1 x.2.2.2.2.2.2.2.2.1 x.2.2.2.2.2.2.2.2.2.1 x.2.2.2.2.2.2.2.2.2.2.1 x.2.2.2.2.2.2.2.2.2.2.2.1 x.2.2.2.2.2.2.2.2.2.2.2.2.1 x.2.2.2.2.2.2.2.2.2.2.2.2.2
@[irreducible] def cw := worst (by repeat (first | refine ne5 ?_ ?_ | exact ne1 | exact ne2 | exact ne3 | exact ne4 | exact inferInstance | exact ne7 | exact ⟨⟨0, 0, 0, 0, 0, 0, 0, 0⟩⟩)) Hw
def prog := cw.1
def w := cw.2.1
def B := cw.2.2.1
def fs := cw.2.2.2.1
def L := cw.2.2.2.2.1
def s := cw.2.2.2.2.2.1
def A := cw.2.2.2.2.2.2.1
def n := cw.2.2.2.2.2.2.2.1
def es := cw.2.2.2.2.2.2.2.2.1
def wa := cw.2.2.2.2.2.2.2.2.2.1
def na := cw.2.2.2.2.2.2.2.2.2.2.1
def ws := cw.2.2.2.2.2.2.2.2.2.2.2.1
def ns := cw.2.2.2.2.2.2.2.2.2.2.2.2.1
def R := cw.2.2.2.2.2.2.2.2.2.2.2.2.2
theorem run : Pw prog w B fs L s A n es wa na ws ns R := by
 intro O S hA hF hw hn hl hz hal hR
 refine call_fr (a := 209) (names := ["words", "numbers"]) (rest := ["text", "word", "number"]) (vals := [.ref wa, .ref na]) O S hA hF (fun _ => rfl) rfl (fun _ => by kernel_rfl) rfl rfl rfl (by decide +kernel) (by decide +kernel) (by decide +kernel) rfl rfl rfl ?_
 clear S; (try clear LL); (try clear LL); clear hA; intro env nd kd fn s hE hF S hA E
 dsimp only at hE
 wtm_at "us"
 dsimp only [List.map, List.append, List.cons_append, List.nil_append] at S
 wtm_at "go"
 wtm_at "pk"
 obtain ⟨wv, hwv, hWl⟩ := S.isLR hw
 obtain ⟨nv, hnv, hNl⟩ := S.isLR hn
 refine t_zip S hWl hNl ?_
 clear S; (try clear LL); (try clear LL); clear hWl hNl hwv hnv wv nv; intro zp s S
 refine pi_zip S ?_
 wtm_at "un"
 let V1 := fun (i : Nat) (tt : Tok) (a b : Option Value) => [some (Value.ref wa), some (.ref na), some (.str (ofL (textF (ws.take i) (ns.take i))) tt), a, b]
 let G1 := fun (_ : Nat) (_ : Tok) (_ _ : Option Value) => L
 refine for3 (Itr.zip _ _ _ zp wa na (Src.lstR StrV (ws.map fun p => ofL [p.1, p.2])) (by rw [List.length_map, ← hl]; exact Src.lstR IntV ns)) hA.hand V1 G1 (fun _ _ _ _ => True)
  (by intro _ _ _ _ _ p hp; simp only [List.mem_cons, List.not_mem_nil, or_false] at hp; rcases hp with rfl | rfl <;> assumption) _ _ _ (by dsimp only [V1, G1]; simp only [List.take_zero, textF]; rw [ofL_nil]; exact S) trivial ?_ ?_
 ·clear S; intro i tt a b v X s E K1 fin1 hi _ hJ2 S
  wtm_at "pq"
  wtm_at "pk"
  obtain ⟨t, x, y, rfl, ⟨wd, hwd, ⟨t1, rfl⟩⟩, ⟨nm, hnm, ⟨t2, rfl⟩⟩, rfl⟩ := hJ2
  wtm_at "ps"
  rw [List.getElem?_map] at hwd
  wtm_at "pk"
  obtain ⟨⟨c, d⟩, hcd, rfl⟩ := Option.map_eq_some_iff.mp hwd
  have hcal := hal _ (List.mem_of_getElem? hcd)
  refine as_tup2 hA.hand S (S.isT (by wtm_at "mem")) ?_
  clear S; intro s S
  wtm_at "go"
  wtm_at "if"
  wtm_at "go"
  refine b_fdiv (by decide) (PyProof.noPylong_small (by decide)) S ?_
  clear S; intro t3 s S
  wtm_at "go"
  refine b_mod (by decide) S ?_
  clear S; intro t4 s S
  refine PyProof.Rows.truthy_int ?_
  have hlt : (textF (ws.take i) (ns.take i)).length ≤ 60 := Nat.le_trans (textF_len _ _) (by rw [List.length_take]; lia)
  have htk := textF_take ws ns i (c, d) nm hcd hnm
  refine ⟨fun hb => ?_, fun hb => ?_⟩
  ·have hw1 : wordF (c, d) nm = 34 :: (esc c ++ esc d) ++ [34] := by (try dsimp only [LL]); unfold wordF; rw [if_pos (by simpa using hb)]
   wtm_at "go"
   refine GM.join ?_
   wtm_at "go"
   refine e_lcS S ["sign"] [] hE (closureFor_none (by decide +kernel)) (by decide +kernel) rfl (by decide +kernel) (by decide +kernel) (by decide +kernel) ?_
   wtm_at "go"
   refine pi_str (ascii2 hcal.1 hcal.2) S ?_
   clear S; intro sit s S
   refine lc_e (Itr.str _ _ sit (ofL [c, d]) t1) hA.hand S (fun k ys L' => [(t, tup [.str (ofL [c, d]) t1, .int nm t2])] ++ (zipI zp wa na (i + 1) ++ L) = L' ∧ F2 StrV (([c, d].take k).map fun x => ofL (esc x)) ys) (by intro k ys L' _ p hp; simp at hp) ⟨rfl, .nil⟩ ?_ ?_ ?_
   ·rintro k ys _ ⟨_, hy⟩
    have := hy.len
    simp only [List.length_map, List.length_take, List.length_cons, List.length_nil] at this
    lia
   ·clear S; intro D cenv cnd ckd cfn k vs ys _ v X s E hEc hcl hvl hk hJ1 hJ2 S
    wtm_at "pq"
    wtm_at "pk"
    obtain ⟨⟨x, u, hx, rfl⟩, rfl⟩ := hJ2
    obtain ⟨rfl, hy⟩ := hJ1
    wtm_at "ps"
    wtm_at "pk"
    obtain ⟨a', rfl⟩ := len1 hvl
    have hx' : [c, d][k]? = some x := by
     have : (ofL [c, d]).cps[k]? = [c, d][k]? := by simp [ofL]
     rw [← this]; exact hx
    have hxa : x ∈ alpha := by
     have := List.mem_of_getElem? hx'
     simp only [List.mem_cons, List.not_mem_nil, or_false] at this
     rcases this with rfl | rfl
     ·exact hcal.1
     ·exact hcal.2
    have htk2 : ([c, d].take (k + 1)).map (fun x => ofL (esc x)) = ([c, d].take k).map (fun x => ofL (esc x)) ++ [ofL (esc x)] := by rw [List.take_add_one, hx']; simp
    wtm_at "go"
    refine SB.contains ?_
    rw [show Txt.contains (Str.ofString "\"\\") ⟨#[x]⟩ = _ from esc_in x hxa]
    wtm_at "go"
    refine ⟨fun he => ?_, fun he => ?_⟩
    ·have he' := of_decide_eq_true he
     wtm_at "go"
     refine s_add (by simp [Str.length]; decide +kernel) S ?_
     clear S; intro t5 s S
     refine ⟨_, _, rfl, ⟨rfl, ?_⟩, S⟩
     rw [htk2]
     refine hy.append (.cons ⟨t5, ?_⟩ .nil)
     unfold esc
     rw [if_pos he']
     rfl
    ·have he' := of_decide_eq_false he
     wtm_at "go"
     refine ⟨_, _, rfl, ⟨rfl, ?_⟩, S⟩
     rw [htk2]
     refine hy.append (.cons ⟨u, ?_⟩ .nil)
     unfold esc
     rw [if_neg he']
     rfl
   clear S; intro D ys _ s hJ1 S
   wtm_at "pq"
   wtm_at "pk"
   obtain ⟨rfl, hy⟩ := hJ1
   wtm_at "ps"
   wtm_at "go"
   refine join_listW (items := ys.toArray) (ys := [ofL (esc c), ofL (esc d)]) (S.isL (by wtm_at "mem")).at (strsAre hy) (by decide +kernel) (by have := esc_len c; have := esc_len d; simp [ofL_len]; lia) ?_
   intro jt jk
   replace S := S.toks (s' := { s with toks := jk }) rfl rfl rfl
   have h1 := esc_len c
   have h2 := esc_len d
   rw [join2, lit_q]
   refine s_add (by rw [ofL_len, ofL_len, List.length_append]; simp; lia) S ?_
   clear S; intro t5 s S
   rw [ofL_app]
   wtm_at "go"
   refine s_add (by rw [ofL_len, ofL_len]; simp; lia) S ?_
   clear S; intro t6' s S
   rw [ofL_app]
   refine s_iadd (by rw [ofL_len, ofL_len]; simp; lia) S ?_
   clear S; intro t6 s S
   rw [ofL_app]
   wtm_at "go"
   replace S := S.less (L' := zipI zp wa na (i + 1) ++ L) (.cons _ (.cons _ (.refl _)))
   refine fin1 t6 (some (.str (ofL [c, d]) t1)) (some (.int nm t2)) _ trivial ?_
   dsimp only [V1]
   rw [htk, hw1]
   exact S
  ·have hw1 : wordF (c, d) nm = [92, c, 92, d, 10] := by (try dsimp only [LL]); unfold wordF; rw [if_neg (by simpa using hb)]
   wtm_at "go"
   refine GM.join ?_
   wtm_at "go"
   refine e_lcS S ["sign"] [] hE (closureFor_none (by decide +kernel)) (by decide +kernel) rfl (by decide +kernel) (by decide +kernel) (by decide +kernel) ?_
   wtm_at "go"
   refine pi_str (ascii2 hcal.1 hcal.2) S ?_
   clear S; intro sit s S
   refine lc_e (Itr.str _ _ sit (ofL [c, d]) t1) hA.hand S (fun k ys L' => [(t, tup [.str (ofL [c, d]) t1, .int nm t2])] ++ (zipI zp wa na (i + 1) ++ L) = L' ∧ F2 StrV (([c, d].take k).map fun x => ofL ([92, x])) ys) (by intro k ys L' _ p hp; simp at hp) ⟨rfl, .nil⟩ ?_ ?_ ?_
   ·rintro k ys _ ⟨_, hy⟩
    have := hy.len
    simp only [List.length_map, List.length_take, List.length_cons, List.length_nil] at this
    lia
   ·clear S; intro D cenv cnd ckd cfn k vs ys _ v X s E hEc hcl hvl hk hJ1 hJ2 S
    wtm_at "pq"
    wtm_at "pk"
    obtain ⟨⟨x, u, hx, rfl⟩, rfl⟩ := hJ2
    obtain ⟨rfl, hy⟩ := hJ1
    wtm_at "ps"
    wtm_at "pk"
    obtain ⟨a', rfl⟩ := len1 hvl
    have hx' : [c, d][k]? = some x := by
     have : (ofL [c, d]).cps[k]? = [c, d][k]? := by simp [ofL]
     rw [← this]; exact hx
    have hxa : x ∈ alpha := by
     have := List.mem_of_getElem? hx'
     simp only [List.mem_cons, List.not_mem_nil, or_false] at this
     rcases this with rfl | rfl
     ·exact hcal.1
     ·exact hcal.2
    have htk2 : ([c, d].take (k + 1)).map (fun x => ofL ([92, x])) = ([c, d].take k).map (fun x => ofL ([92, x])) ++ [ofL ([92, x])] := by rw [List.take_add_one, hx']; simp
    wtm_at "go"
    rw [lit_b]
    refine s_add (by rw [ofL_len]; show _ + 1 ≤ _; simp) S ?_
    clear S; intro t5 s S
    refine ⟨_, _, rfl, ⟨rfl, ?_⟩, S⟩
    rw [htk2]
    exact hy.append (.cons ⟨t5, rfl⟩ .nil)
   clear S; intro D ys _ s hJ1 S
   wtm_at "pq"
   wtm_at "pk"
   obtain ⟨rfl, hy⟩ := hJ1
   wtm_at "ps"
   wtm_at "go"
   refine join_listW (items := ys.toArray) (ys := [ofL [92, c], ofL [92, d]]) (S.isL (by wtm_at "mem")).at (strsAre hy) (by decide +kernel) (by simp [ofL_len]) ?_
   intro jt jk
   replace S := S.toks (s' := { s with toks := jk }) rfl rfl rfl
   rw [join2]
   wtm_at "go"
   rw [lit_n]
   refine s_add (by rw [ofL_len, ofL_len]; simp) S ?_
   clear S; intro t5 s S
   rw [ofL_app]
   refine s_iadd (by rw [ofL_len, ofL_len]; simp; lia) S ?_
   clear S; intro t6 s S
   rw [ofL_app]
   wtm_at "go"
   replace S := S.less (L' := zipI zp wa na (i + 1) ++ L) (.cons _ (.cons _ (.refl _)))
   refine fin1 t6 (some (.str (ofL [c, d]) t1)) (some (.int nm t2)) _ trivial ?_
   dsimp only [V1]
   rw [htk, hw1]
   exact S
 clear S; intro tt a b s _ S
 dsimp only [V1] at S
 rw [List.length_map, List.take_length, ← hl, List.take_length] at S
 wtm_at "go"
 exact hR _ _ S.pop
end text_spec_w
end
theorem text_spec {prog : Program} {w : World} {B : Bs} {fs : List Fm} {L : List (Addr × O)} {s : Shared} {A : Around} {n : Nat} {es : List Env} {wa na : Addr} {ws : List (Nat × Nat)} {ns : List Int} {R : Result → Shared → Prop} : text_spec_w.Pw prog w B fs L s A n es wa na ws ns R := worst_of (Q := text_spec_w.Hw) (by with_unfolding_all rfl) text_spec_w.run ⟨prog, w, B, fs, L, s, A, n, es, wa, na, ws, ns, R⟩
section
end
end
section
noncomputable def innB (p q : Int × Int) : Bool := decide (p.1 < q.1) && decide (q.2 < p.2)
noncomputable def witS (sp : List (Int × Int)) (p : Int × Int) : Nat → List Int
 | 0 => []
 | m + 1 => witS sp p m ++ (match sp[m]? with | some q => if innB p q then [(m : Int)] else [] | none => [])
noncomputable def arS (sp : List (Int × Int)) : Nat → List (Int × Int)
 | 0 => []
 | m + 1 => arS sp m ++ (match sp[m]? with | some p => (witS sp p sp.length).map fun j => (j, (m : Int)) | none => [])
theorem mem_witS {sp : List (Int × Int)} {p : Int × Int} {j : Int} : ∀ {m : Nat}, j ∈ witS sp p m ↔ ∃ (i : Nat) (q : Int × Int), i < m ∧ j = i ∧ sp[i]? = some q ∧ innB p q = true
 | 0 => by simp [witS]
 | m + 1 => by
  rw [witS, List.mem_append, mem_witS (m := m)]
  constructor
  ·rintro (⟨i, q, h1, h2, h3, h4⟩ | h)
   ·exact ⟨i, q, by lia, h2, h3, h4⟩
   ·cases e : sp[m]? with
    | none => rw [e] at h; simp at h
    | some q =>
     rw [e] at h
     dsimp only at h
     split at h
     ·rename_i hq
      simp at h
      exact ⟨m, q, by lia, h, e, hq⟩
     ·simp at h
  ·rintro ⟨i, q, h1, h2, h3, h4⟩
   by_cases he : i = m
   ·subst he
    right
    rw [h3]
    dsimp only
    rw [if_pos h4, h2]; simp
   ·exact .inl ⟨i, q, by lia, h2, h3, h4⟩
theorem witS_len (sp : List (Int × Int)) (p : Int × Int) : ∀ m, (witS sp p m).length ≤ m
 | 0 => by simp [witS]
 | m + 1 => by
  have := witS_len sp p m
  rw [witS, List.length_append]
  cases sp[m]? with
  | none => simp; lia
  | some q => dsimp only; split <;> simp <;> lia
theorem arS_len (sp : List (Int × Int)) : ∀ m, (arS sp m).length ≤ m * sp.length
 | 0 => by simp [arS]
 | m + 1 => by
  have := arS_len sp m
  rw [arS, List.length_append, Nat.succ_mul]
  cases sp[m]? with
  | none => simp; lia
  | some q => dsimp only; rw [List.length_map]; have := witS_len sp q sp.length; lia
theorem mem_arS {sp : List (Int × Int)} {a : Int × Int} : ∀ {m : Nat}, a ∈ arS sp m ↔ ∃ (i j : Nat) (p q : Int × Int), i < m ∧ a = ((j : Int), (i : Int)) ∧ sp[i]? = some p ∧ sp[j]? = some q ∧ innB p q = true
 | 0 => by simp [arS]
 | m + 1 => by
  rw [arS, List.mem_append, mem_arS (m := m)]
  constructor
  ·rintro (⟨i, j, p, q, h1, h2⟩ | h)
   ·exact ⟨i, j, p, q, by lia, h2⟩
   ·cases e : sp[m]? with
    | none => rw [e] at h; simp at h
    | some p =>
     rw [e] at h
     dsimp only at h
     obtain ⟨j, hj, rfl⟩ := List.mem_map.mp h
     obtain ⟨i, q, h1, rfl, h3, h4⟩ := mem_witS.mp hj
     exact ⟨m, i, p, q, by lia, rfl, e, h3, h4⟩
  ·rintro ⟨i, j, p, q, h1, rfl, h3, h4, h5⟩
   by_cases he : i = m
   ·subst he
    right
    rw [h3]
    dsimp only
    exact List.mem_map_of_mem (mem_witS.mpr ⟨j, q, (List.getElem?_eq_some_iff.mp h4).1, rfl, h4, h5⟩)
   ·exact .inl ⟨i, j, p, q, by lia, rfl, h3, h4, h5⟩
structure IsDepth (sp : List (Int × Int)) (rs : List Int) : Prop where
 len : rs.length = sp.length
 pos : ∀ (k : Nat) (r : Int), rs[k]? = some r → 0 ≤ r
 lt : ∀ (k j : Nat) (p q : Int × Int) (r t : Int), sp[k]? = some p → sp[j]? = some q → innB p q = true → rs[k]? = some r → rs[j]? = some t → t < r
 ex : ∀ (k : Nat) (p : Int × Int) (r : Int), sp[k]? = some p → rs[k]? = some r → r = 0 ∨ ∃ (j : Nat) (q : Int × Int) (t : Int), sp[j]? = some q ∧ innB p q = true ∧ rs[j]? = some t ∧ r = t + 1
theorem IsDepth.le {sp : List (Int × Int)} {rs ts : List Int} (hsp : ∀ p ∈ sp, p.1 < p.2) (h : IsDepth sp rs) (g : IsDepth sp ts) : ∀ (m : Nat) (k : Nat) (p : Int × Int) (r t : Int), (p.2 - p.1).toNat < m → sp[k]? = some p → rs[k]? = some r → ts[k]? = some t → r ≤ t := by
 intro m
 induction m with
 | zero => intro k p r t h; lia
 | succ m ih =>
  intro k p r t hm hp hr ht
  rcases h.ex k p r hp hr with h0 | ⟨j, q, rj, hq, hi, hrj, rfl⟩
  ·have := g.pos k t ht; lia
  ·have hj := (List.getElem?_eq_some_iff.mp hq).1
   rw [← g.len] at hj
   have htj : ts[j]? = some ts[j] := by simp [hj]
   have h1 := ih j q rj ts[j] (by
    have := hsp q (List.mem_of_getElem? hq)
    unfold innB at hi
    rw [Bool.and_eq_true, decide_eq_true_eq, decide_eq_true_eq] at hi
    lia) hq hrj htj
   have h2 := g.lt k j p q t ts[j] hp hq hi ht htj
   lia
theorem IsDepth.uniq {sp : List (Int × Int)} {rs ts : List Int} (hsp : ∀ p ∈ sp, p.1 < p.2) (h : IsDepth sp rs) (g : IsDepth sp ts) : rs = ts := by
 refine List.ext_getElem (h.len.trans g.len.symm) fun k h1 h2 => ?_
 have hk : k < sp.length := by rw [← h.len]; exact h1
 have e : sp[k]? = some sp[k] := by simp [hk]
 have e1 : rs[k]? = some rs[k] := by simp [h1]
 have e2 : ts[k]? = some ts[k] := by simp [h2]
 have := h.le hsp g _ k _ _ _ (Nat.lt_succ_self _) e e1 e2
 have := g.le hsp h _ k _ _ _ (Nat.lt_succ_self _) e e2 e1
 lia
end
section
theorem three_neg (x y : Int) : ((b2i (decide (y < x)) - b2i (decide (x < y))) == -1) = decide (x < y) := by
 by_cases h : x < y
 ·have : ¬ y < x := by lia
  simp [h, this, b2i]
 ·by_cases h2 : y < x <;> simp [h, h2, b2i]
theorem three_neg' (x y : Int) : ((-1 : Int) == (b2i (decide (y < x)) - b2i (decide (x < y)))) = decide (x < y) := by
 by_cases h : x < y
 ·have : ¬ y < x := by lia
  simp [h, this, b2i]
 ·by_cases h2 : y < x <;> simp [h, h2, b2i]
section
variable {prog : Program} {w : World} {B : Bs} {fs : List Fm} {L L' M : List (Addr × O)} {s : Shared} {A : Around} {E : Value → Shared → Prop} {n : Nat} {es : List Env}
theorem ikind {x : Int} {t : Tok} : (intKind prog w).is x (.int x t) = true := intKind_is prog w x t
theorem ikind_of {x : Int} {v : Value} (h : (intKind prog w).is x v = true) : IntV x v := Value.isInt_shape h
theorem i_scan (k : Int) (v : Value) (h : (intKind prog w).is k v = true) : v.scannable = true := by obtain ⟨t, rfl⟩ := ikind_of h; rfl
theorem i_hand (k : Int) (v : Value) (h : (intKind prog w).is k v = true) : handedIn v = true := by obtain ⟨t, rfl⟩ := ikind_of h; rfl
noncomputable def spansOf (atv : Nat → Int) (ws : List (Nat × Nat)) : List (Int × Int) := ws.map fun p => (atv p.1, atv p.2)
noncomputable def Places (prog : Program) (w : World) (L : List (Addr × O)) (da : Addr) (ws : List (Nat × Nat)) (atv : Nat → Int) : Prop := ∃ kvs, (da, dicO (strKind prog w) kvs) ∈ L ∧ ∀ p ∈ ws, (∃ t, valueAt kvs (one p.1) = some (.int (atv p.1) t)) ∧ ∃ t, valueAt kvs (one p.2) = some (.int (atv p.2) t)
theorem srt_bound {x dx m f : Addr} {rv : Value} {pa fi : Int} {name : Str} {expr : Bool} {Q : Value → Shared → Prop} (O : Ok B w) (S : St B fs L s) (hx : At s x (instO 151 dx)) (hd : At s dx (srtN m rv pa fi)) (hn : name ∉ srtNames)
  (ha : ∀ P, findIn (KF P) (.ref 151) name = some (some (.ref f))) (hf : ∀ P, isFn (KF P) (.ref f) = true) (hgf : ∀ P, specialIn (KF P) (.ref f) "__get__" = some (some (.builtin "function.__get__"))) (ht : ∀ P, takesIn (KF P) (.ref f) = some false) (hc : copiedNames.contains name = false)
  (h : ∀ q s', St B fs ((q, metO f x) :: L) s' → Q (.ref q) s') : wpAny (model prog w) A (getAttr (.ref x) name expr) Q E s := by
 obtain ⟨o, e, t, t', i⟩ := hd
 exact g_bound O S hx ⟨o, e, i⟩ (lookV_notin hn) (fun P => K151_get P _) K151_dict ha hf hgf ht hc h
end
noncomputable section
namespace rounds_spec_w
def Pw (prog : Program) (w : World) (B : Bs) (fs : List Fm) (L : List (Addr × O)) (s : Shared) (A : Around) (n : Nat) (es : List Env) (wa da : Addr) (ws : List (Nat × Nat)) (atv : Nat → Int) (R : Result → Shared → Prop) : Prop := ∀ (O : Ok B w) (S : St B fs L s) (hA : AOk A (n + 6) es) (hF : FrOk es fs) (hw : (wa, lstR StrV (ws.map fun p => two p.1 p.2)) ∈ L) (hat : Places prog w L da ws atv) (hws : ws.length ≤ 7) (hlt : ∀ p ∈ ws, atv p.1 < atv p.2) (hR : ∀ r rs s', IsDepth (spansOf atv ws) rs → St B fs ((r, lstR IntV rs) :: L) s' → R (.ok (.ret (.ref r))) s'),
  codeAny (model prog w) A (.call (.ref 223) ⟨[.ref wa, .ref da], []⟩) R s
def Hw (x : Program × World × Bs × (List Fm) × (List (Addr × O)) × Shared × Around × Nat × (List Env) × Addr × Addr × (List (Nat × Nat)) × (Nat → Int) × (Result → Shared → Prop)) : Prop := Pw x.1 x.2.1 x.2.2.1 x.2.2.2.1 x.2.2.2.2.1 x.2.2.2.2.2.1 x.2.2.2.2.2.2.1 x.2.2.2.2.2.2.2.1 x.2.2.2.2.2.2.2.2.1 x.2.2.2.2.2.2.2.2.2.1 x.2.2.2.2.2.2.2.2.2.2.1 x.2.2.2.2.2.2.2.2.2.2.2.1 x.2.2.2.2.2.2.2.2.2.2.2.2.1 x.2.2.2.2.2.2.2.2.2.2.2.2.2
@[irreducible] def cw := worst (by repeat (first | refine ne5 ?_ ?_ | exact ne1 | exact ne2 | exact ne3 | exact ne4 | exact inferInstance | exact ne7 | exact ⟨⟨0, 0, 0, 0, 0, 0, 0, 0⟩⟩)) Hw
def prog := cw.1
def w := cw.2.1
def B := cw.2.2.1
def fs := cw.2.2.2.1
def L := cw.2.2.2.2.1
def s := cw.2.2.2.2.2.1
def A := cw.2.2.2.2.2.2.1
def n := cw.2.2.2.2.2.2.2.1
def es := cw.2.2.2.2.2.2.2.2.1
def wa := cw.2.2.2.2.2.2.2.2.2.1
def da := cw.2.2.2.2.2.2.2.2.2.2.1
def ws := cw.2.2.2.2.2.2.2.2.2.2.2.1
def atv := cw.2.2.2.2.2.2.2.2.2.2.2.2.1
def R := cw.2.2.2.2.2.2.2.2.2.2.2.2.2
theorem run : Pw prog w B fs L s A n es wa da ws atv R := by
 intro O S hA hF hw hat hws hlt hR
 refine call_fr (a := 223) (names := ["words", "at"]) (rest := ["sorter", "rounds", "turn", "outer", "word", "within", "inner", "other", "group", "arrow"]) (vals := [.ref wa, .ref da]) O S hA hF (fun _ => rfl) rfl (fun _ => by kernel_rfl) rfl rfl rfl (by decide +kernel) (by decide +kernel) (by decide +kernel) rfl rfl rfl ?_
 clear S; (try clear LL); (try clear LL); clear hA; intro env nd kd fn s hE hF S hA E
 dsimp only at hE
 wtm_at "us"
 dsimp only [List.map, List.append, List.cons_append, List.nil_append] at S
 refine xs_swap3 (B := B) (n₁ := "sorter") (n₂ := "rounds") (n₃ := "turn") hA.hand ?_ (by with_unfolding_all rfl) (by rw [swap_sc, hE.sc]; with_unfolding_all rfl)
 wtm_at "go"
 refine cw_K0 O S (fun _ => by kernel_rfl) ?_
 refine w_call ?_
 refine mk_inst srtNames O S (fun _ => by kernel_rfl) (fun _ => by kernel_rfl) (fun _ => by kernel_rfl) (fI := 87) ?_
 clear S; intro x dx s S
 refine sorter_init (intKind prog w) O S hA.under_type ?_
 clear S; intro m s hms S
 refine ⟨rfl, ret_ok ?_⟩
 wtm_at "go"
 refine n_list S (line_le (by simp)) ?_
 clear S; intro za s S
 wtm_at "go"
 wtm_at "pk"
 obtain ⟨wv, hwv, hWl⟩ := S.isLR (a := wa) (R := StrV) (xs := ws.map fun p => two p.1 p.2) (by wtm_at "mem")
 refine len_list hWl S (by have := hwv.len; simp at this; lia) ?_
 have hwl : wv.length = ws.length := by have := hwv.len; simpa using this
 clear S; (try clear LL); (try clear LL); clear hWl; intro lt s S
 refine l_mul1 (j := ws.length) S (S.isL (by wtm_at "mem")) (by rw [hwl]) (by lia) ?_
 clear S; intro ra s S
 wtm_at "go"
 refine n_tup S (line_le (by simp)) ?_
 clear S; intro tp s S
 refine ⟨tp, _, _, _, _, _, rfl, S.isT List.mem_cons_self, S, ?_⟩
 clear S; intro s S
 wtm_at "go"
 have S1 := S.less (L' := (ra, lst (List.replicate ws.length (.int 0 _))) :: (srtL (intKind prog w) x dx m .none 0 0 [] ++ L)) (.cons _ (.cons_cons _ (.cons _ (.refl _))))
 have S2 := S1.weak (a := ra) (y := lstR IntV (List.replicate ws.length 0)) .here (fun o h => ⟨_, F2.of (by simp) (fun i x v h1 h2 => by
   rw [List.getElem?_replicate] at h1 h2
   split at h1
   ·rename_i hi
    rw [if_pos hi] at h2
    cases h1; cases h2; exact ⟨_, rfl⟩
   ·cases h1), h⟩)
 replace S := S2.perm List.perm_middle.symm
 clear S1 S2
 clear hwv
 have hspl : (spansOf atv ws).length = ws.length := by (try dsimp only [LL]); unfold spansOf; rw [List.length_map]
 have hat' := hat
 wtm_at "pk"
 obtain ⟨kvs, hkm, hkv⟩ := hat
 obtain ⟨wv, hwv, hWl⟩ := S.isLR (a := wa) (R := StrV) (xs := ws.map fun p => two p.1 p.2) (by wtm_at "mem")
 refine t_enum S hWl ?_
 clear S; (try clear LL); (try clear LL); clear hWl hwv; intro e1 it1 s S
 refine pi_enum S (it := it1) (by wtm_at "mem") ?_
 wtm_at "pk"
 obtain ⟨t0, ht0⟩ : ∃ q, q = tok := ⟨_, rfl⟩
 wtm_at "us"
 rw [← ht0] at S
 clear ht0
 wtm_at "un"
 let V1 := fun (_ : Nat) (_ : List (NA × Nod Int)) (a b c d e : Option Value) => [some (Value.ref wa), some (.ref da), some (.ref x), some (.ref ra), some (.int 0 t0), a, b, c, d, e, none, none]
 let G1 := fun (_ : Nat) (ns : List (NA × Nod Int)) (_ _ _ _ _ : Option Value) => srtL (intKind prog w) x dx m .none 0 0 ns ++ (ra, lstR IntV (List.replicate ws.length 0)) :: L
 refine for6 (Itr.enum _ _ _ e1 it1 wa (Src.lstR StrV (ws.map fun p => two p.1 p.2))) hA.hand V1 G1 (fun i ns _ _ _ _ _ => A3 (BInv (arS (spansOf atv ws) i) (arS (spansOf atv ws) i) (ns.map (·.2)))
   (∀ k : Int, k ∈ (ns.map (·.2)).map (fun z => z.key) → ∃ kn : Nat, kn < ws.length ∧ k = (kn : Int)) (∀ kn : Nat, kn < i → (kn : Int) ∈ (ns.map (·.2)).map (fun z => z.key)))
  (fun _ _ _ _ _ _ _ _ => one_src (by wtm_at "mem")) [] _ _ _ _ _ S ⟨⟨by simp, by simp, by simp, by simp [arS], by simp [arS]⟩, by simp, by intro kn h; lia⟩ ?_ ?_
 ·clear S; intro i ns a b c d e v X s E K1 fin1 hi hH hJ2 S
  wtm_at "pq"
  wtm_at "pk"
  obtain ⟨t, tk, wx, rfl, ⟨wd, hwd, ⟨t1, rfl⟩⟩, rfl⟩ := hJ2
  obtain ⟨hB, hk1, hk2⟩ := hH
  wtm_at "ps"
  rw [List.length_map] at hi
  rw [List.getElem?_map] at hwd
  wtm_at "pk"
  obtain ⟨⟨p1, p2⟩, hp, rfl⟩ := Option.map_eq_some_iff.mp hwd
  have hpm := List.mem_of_getElem? hp
  refine as_tup2 hA.hand S (S.isT (by wtm_at "mem")) ?_
  clear S; intro s S
  wtm_at "go"
  refine n_list S (line_le (by simp)) ?_
  clear S; intro wi s S
  wtm_at "go"
  wtm_at "pk"
  obtain ⟨wv, hwv, hWl⟩ := S.isLR (a := wa) (R := StrV) (xs := ws.map fun p => two p.1 p.2) (by wtm_at "mem")
  refine t_enum S hWl ?_
  clear S; (try clear LL); (try clear LL); clear hWl hwv; intro e2 it2 s S
  refine pi_enum S (it := it2) (by wtm_at "mem") ?_
  have hsp : (spansOf atv ws)[i]? = some (atv p1, atv p2) := by (try dsimp only [LL]); unfold spansOf; rw [List.getElem?_map, hp]; rfl
  wtm_at "un"
  let V2 := fun (_ : Nat) (d e : Option Value) => [some (Value.ref wa), some (.ref da), some (.ref x), some (.ref ra), some (.int 0 t0), some (.int i tk), some (.str (two p1 p2) t1), some (.ref wi), d, e, none, none]
  let G2 := fun (j : Nat) (_ _ : Option Value) => (wi, lstR IntV (witS (spansOf atv ws) (atv p1, atv p2) j)) :: ([(t, tup [.int i tk, .str (two p1 p2) t1])] ++ ([(e1, enuO it1 (i + 1 : Nat)), (it1, litO wa (i + 1))] ++ (srtL (intKind prog w) x dx m .none 0 0 ns ++ (ra, lstR IntV (List.replicate ws.length 0)) :: L)))
  refine for2 (Itr.enum _ _ _ e2 it2 wa (Src.lstR StrV (ws.map fun p => two p.1 p.2))) hA.hand V2 G2 (fun _ _ _ => True)
   (fun _ _ _ _ => one_src (by wtm_at "mem")) _ _ (S.weak (a := wi) (y := lstR IntV []) ((Upd.here).left _) (fun o h => ⟨[], .nil, h⟩)) trivial ?_ ?_
  ·clear S; intro j d e v X s E K2 fin2 hj _ hJ2 S
   wtm_at "pq"
   wtm_at "pk"
   obtain ⟨t', tk', ox, rfl, ⟨od, hod, ⟨t2, rfl⟩⟩, rfl⟩ := hJ2
   wtm_at "ps"
   rw [List.length_map] at hj
   rw [List.getElem?_map] at hod
   wtm_at "pk"
   obtain ⟨⟨q1, q2⟩, hq, rfl⟩ := Option.map_eq_some_iff.mp hod
   have hqm := List.mem_of_getElem? hq
   have hsq : (spansOf atv ws)[j]? = some (atv q1, atv q2) := by (try dsimp only [LL]); unfold spansOf; rw [List.getElem?_map, hq]; rfl
   refine as_tup2 hA.hand S (S.isT (by wtm_at "mem")) ?_
   clear S; intro s S
   wtm_at "go"
   wtm_at "if"
   refine chain_t ?_
   wtm_at "go"
   refine cw_K O (fun _ => by kernel_rfl) ?_
   wtm_at "go"
   refine sub_str (k := 0) (c := p1) (by rfl) (by rfl) (by simp [two]) S ?_
   clear S; intro ts s S
   wtm_at "pk"
   obtain ⟨ta, hta⟩ := (hkv _ hpm).1
   refine sub_dict S (S.dic (d := da) (knd := strKind prog w) (kvs := kvs) (by wtm_at "mem")) (k := one p1) skind hta ?_
   clear S; (try clear LL); (try clear LL); clear hta; intro s S
   wtm_at "go"
   refine sub_str (k := 0) (c := q1) (by rfl) (by rfl) (by simp [two]) S ?_
   clear S; intro ts s S
   wtm_at "pk"
   obtain ⟨ta, hta⟩ := (hkv _ hqm).1
   refine sub_dict S (S.dic (d := da) (knd := strKind prog w) (kvs := kvs) (by wtm_at "mem")) (k := one q1) skind hta ?_
   clear S; (try clear LL); (try clear LL); clear hta; intro s S
   wtm_at "go"
   refine ⟨S.K O, w_call (three_spec O S hA ?_)⟩
   clear S; intro tr s S
   refine ret_ok ?_
   wtm_at "go"
   rw [three_neg]
   have hwit : witS (spansOf atv ws) (atv p1, atv p2) (j + 1) = witS (spansOf atv ws) (atv p1, atv p2) j ++ if innB (atv p1, atv p2) (atv q1, atv q2) then [(j : Int)] else [] := by rw [witS, hsq]
   refine ⟨fun hb => ?_, fun hb => ?_⟩
   ·wtm_at "go"
    refine cw_K O (fun _ => by kernel_rfl) ?_
    wtm_at "go"
    refine sub_str (k := 1) (c := q2) (by rfl) (by rfl) (by simp [two]) S ?_
    clear S; intro ts s S
    wtm_at "pk"
    obtain ⟨ta, hta⟩ := (hkv _ hqm).2
    refine sub_dict S (S.dic (d := da) (knd := strKind prog w) (kvs := kvs) (by wtm_at "mem")) (k := one q2) skind hta ?_
    clear S; (try clear LL); (try clear LL); clear hta; intro s S
    wtm_at "go"
    refine sub_str (k := 1) (c := p2) (by rfl) (by rfl) (by simp [two]) S ?_
    clear S; intro ts s S
    wtm_at "pk"
    obtain ⟨ta, hta⟩ := (hkv _ hpm).2
    refine sub_dict S (S.dic (d := da) (knd := strKind prog w) (kvs := kvs) (by wtm_at "mem")) (k := one p2) skind hta ?_
    clear S; (try clear LL); (try clear LL); clear hta; intro s S
    wtm_at "go"
    refine ⟨S.K O, w_call (three_spec O S hA ?_)⟩
    clear S; intro tr2 s S
    refine ret_ok ?_
    wtm_at "go"
    rw [three_neg']
    refine ⟨fun hb2 => ?_, fun hb2 => ?_⟩
    ·wtm_at "go"
     wtm_at "pk"
     obtain ⟨iv, hiv, hIl⟩ := S.isLR (a := wi) (R := IntV) (xs := witS (spansOf atv ws) (atv p1, atv p2) j) (by wtm_at "mem")
     refine gm_list hIl PySem.F.slot_list_append PySem.F.type_list_append ?_
     wtm_at "go"
     refine l_append (y := lstR IntV (witS (spansOf atv ws) (atv p1, atv p2) (j + 1))) (.there (.there (.there .here))) S hIl (fun o h => ⟨_, by rw [hwit, show innB (atv p1, atv p2) (atv q1, atv q2) = true by (try dsimp only [LL]); unfold innB; rw [hb, hb2]; rfl, if_pos rfl]; exact hiv.append (.cons ⟨tk', rfl⟩ .nil), h⟩) (line_le (by have := hiv.len; have := witS_len (spansOf atv ws) (atv p1, atv p2) j; lia)) ?_
     clear S; (try clear LL); (try clear LL); clear hIl hiv; intro s S
     refine ⟨rfl, ?_⟩
     wtm_at "go"
     exact fin2 _ _ _ trivial (S.less (List.sublist_cons_self _ _))
    ·wtm_at "go"
     have hw0 : witS (spansOf atv ws) (atv p1, atv p2) (j + 1) = witS (spansOf atv ws) (atv p1, atv p2) j := by rw [hwit, show innB (atv p1, atv p2) (atv q1, atv q2) = false by (try dsimp only [LL]); unfold innB; rw [hb, hb2]; rfl]; simp
     wtm_at "us"
     rw [← hw0] at S
     exact fin2 _ _ _ trivial (S.less (List.sublist_cons_self _ _))
   ·wtm_at "go"
    have hw0 : witS (spansOf atv ws) (atv p1, atv p2) (j + 1) = witS (spansOf atv ws) (atv p1, atv p2) j := by rw [hwit, show innB (atv p1, atv p2) (atv q1, atv q2) = false by (try dsimp only [LL]); unfold innB; rw [hb]; rfl]; simp
    wtm_at "us"
    rw [← hw0] at S
    exact fin2 _ _ _ trivial (S.less (List.sublist_cons_self _ _))
  clear S; intro d e s _ S
  wtm_at "ps"
  wtm_at "us"
  rw [List.length_map] at S
  wtm_at "go"
  refine srt_bound (f := 101) O S (S.at (by wtm_at "srt")) (S.at (by wtm_at "srt")) (by decide +kernel) (fun _ => by kernel_rfl) (fun _ => by kernel_rfl) (fun _ => by kernel_rfl) (fun _ => by kernel_rfl) (by decide +kernel) ?_
  clear S; intro mq s S
  refine cw_ms (f := 101) (c := x) O (fun _ => by kernel_rfl) ?_
  wtm_at "go"
  refine ar_star ?_
  wtm_at "go"
  wtm_at "pk"
  obtain ⟨iv, hiv, hIl⟩ := S.isLR (a := wi) (R := IntV) (xs := witS (spansOf atv ws) (atv p1, atv p2) ws.length) (by wtm_at "mem")
  have hil := hiv.len
  have hwll := witS_len (spansOf atv ws) (atv p1, atv p2) ws.length
  refine star_l S hIl (by lia) ?_
  clear S; (try clear LL); (try clear LL); clear hIl; intro s S
  wtm_at "go"
  rw [List.append_nil]
  refine ⟨S.at (by wtm_at "mem"), S.K O, ?_⟩
  replace S := S.less (List.sublist_cons_self _ _)
  have hb60 : bnd 60 (ns.map (·.2)) := bnd_of hB (by
   have h1 := nodup_len hB.nd (m := (List.range ws.length).map fun i : Nat => (i : Int)) (fun k hk => by
    wtm_at "pk"
    obtain ⟨kn, h1, h2⟩ := hk1 k hk
    exact List.mem_map.mpr ⟨kn, List.mem_range.mpr h1, h2.symm⟩)
   simp only [List.length_map, List.length_range] at h1
   rw [List.length_map]; lia) (by
   have h1 := arS_len (spansOf atv ws) i
   rw [hspl] at h1
   have h2 : i * ws.length ≤ 7 * 7 := Nat.mul_le_mul (by lia) hws
   lia)
  replace S := S.perm (L' := srtL (intKind prog w) x dx m .none 0 0 ns ++ ([(wi, lstR IntV (witS (spansOf atv ws) (atv p1, atv p2) ws.length)), (t, tup [.int i tk, .str (two p1 p2) t1])] ++ ([(e1, enuO it1 (i + 1 : Nat)), (it1, litO wa (i + 1))] ++ (ra, lstR IntV (List.replicate ws.length 0)) :: L))) (by
   have := List.perm_append_comm_assoc ([(wi, lstR IntV (witS (spansOf atv ws) (atv p1, atv p2) ws.length)), (t, tup [.int i tk, .str (two p1 p2) t1])] ++ [(e1, enuO it1 (i + 1 : Nat)), (it1, litO wa (i + 1))]) (srtL (intKind prog w) x dx m .none 0 0 ns) ((ra, lstR IntV (List.replicate ws.length 0)) :: L)
   simpa using this)
  refine add_spec (knd := intKind prog w) (ps := witS (spansOf atv ws) (atv p1, atv p2) ws.length) (pvs := iv) (c := 60) (k := (i : Int)) O S hA hms ikind (hiv.imp fun _ _ h => by obtain ⟨t, rfl⟩ := h; exact ikind) hb60 (by lia) ?_
  clear S; intro ns' s hns' S
  refine ret_ok ⟨rfl, ?_⟩
  wtm_at "go"
  have hadd := hB.add (i : Int) (witS (spansOf atv ws) (atv p1, atv p2) ws.length)
  rw [← hns'] at hadd
  have har : arS (spansOf atv ws) (i + 1) = arS (spansOf atv ws) i ++ (witS (spansOf atv ws) (atv p1, atv p2) ws.length).map fun p => (p, (i : Int)) := by rw [arS, hsp, hspl]
  replace S := S.less (L' := srtL (intKind prog w) x dx m .none 0 0 ns' ++ ([(e1, enuO it1 (i + 1 : Nat)), (it1, litO wa (i + 1))] ++ (ra, lstR IntV (List.replicate ws.length 0)) :: L)) ((List.Sublist.refl _).append (.cons _ (.cons _ (.refl _))))
  replace S := S.perm (List.perm_append_comm_assoc _ [(e1, enuO it1 (i + 1 : Nat)), (it1, litO wa (i + 1))] _)
  refine fin1 ns' _ _ _ _ _ _ ⟨by rw [har]; exact hadd.1, fun k hk => ?_, fun kn hkn => ?_⟩ S
  ·rcases hadd.2.2.2 k hk with h | h | h
   ·exact hk1 k h
   ·exact ⟨i, hi, h⟩
   ·wtm_at "pk"
    obtain ⟨j, q, h1, h2, h3, h4⟩ := mem_witS.mp h
    exact ⟨j, by have := (List.getElem?_eq_some_iff.mp h3).1; lia, h2⟩
  ·by_cases e : kn = i
   ·subst e; exact hadd.2.1
   ·exact hadd.2.2.1 _ (hk2 kn (by lia))
 clear S; intro ns a b c d e s hH S
 wtm_at "pk"
 obtain ⟨hB, hk1, hk2⟩ := hH
 wtm_at "ps"
 rw [List.length_map] at hB hk2
 wtm_at "go"
 refine srt_meth (f := 106) O S (S.at (by wtm_at "srt")) (S.at (by wtm_at "srt")) (by decide +kernel) (fun _ => by kernel_rfl) (fun _ => by kernel_rfl) ?_
 refine cw_K0 O S (fun _ => by kernel_rfl) ?_
 refine w_call ?_
 have hmem : ∀ {k j : Int}, (j, k) ∈ arS (spansOf atv ws) ws.length ↔ ∃ (i' j' : Nat) (p q : Int × Int), j = (j' : Int) ∧ k = (i' : Int) ∧ (spansOf atv ws)[i']? = some p ∧ (spansOf atv ws)[j']? = some q ∧ innB p q = true := fun {k j} => by
  rw [mem_arS]
  constructor
  ·rintro ⟨i', j', p, q, h1, h2, h3⟩
   cases h2
   exact ⟨i', j', p, q, rfl, rfl, h3⟩
  ·rintro ⟨i', j', p, q, rfl, rfl, h3, h4⟩
   exact ⟨i', j', p, q, by have := (List.getElem?_eq_some_iff.mp h3).1; lia, rfl, h3, h4⟩
 have hspm : ∀ {i' : Nat} {p : Int × Int}, (spansOf atv ws)[i']? = some p → p.1 < p.2 := fun {i' p} h => by
  unfold spansOf at h
  rw [List.getElem?_map] at h
  wtm_at "pk"
  obtain ⟨z, hz, rfl⟩ := Option.map_eq_some_iff.mp h
  exact hlt z (List.mem_of_getElem? hz)
 let rk : Int → Nat := fun k => ((spansOf atv ws)[k.toNat]?).elim 0 fun p => (p.2 - p.1).toNat
 have hrk : ∀ a ∈ arS (spansOf atv ws) ws.length, rk a.1 < rk a.2 := fun a ha => by
  wtm_at "pk"
  obtain ⟨i', j', p, q, h1, h2, h3, h4, h5⟩ := hmem.mp (show (a.1, a.2) ∈ _ from ha)
  show ((spansOf atv ws)[a.1.toNat]?).elim 0 _ < ((spansOf atv ws)[a.2.toNat]?).elim 0 _
  rw [h1, h2, Int.toNat_natCast, Int.toNat_natCast, h3, h4]
  have := hspm h4
  unfold innB at h5
  rw [Bool.and_eq_true, decide_eq_true_eq, decide_eq_true_eq] at h5
  show (q.2 - q.1).toNat < (p.2 - p.1).toNat
  lia
 have hgr : ∀ q ∈ ns, ∀ c ∈ q.2.suc, c ∈ ns.map (·.2.key) ∧ rk q.2.key < rk c := fun q hq c hc => by
  rw [hB.suc q.2 (List.mem_map_of_mem hq), mem_sucOf] at hc
  exact ⟨by have := hB.d1 _ hc; rwa [List.map_map] at this, hrk _ hc⟩
 have hkl : ∀ l : List Int, l.Nodup → (∀ k ∈ l, k ∈ (ns.map (·.2)).map (·.key)) → l.length ≤ ws.length := fun l hl hs => by
  have h1 := nodup_len hl (m := (List.range ws.length).map fun i : Nat => (i : Int)) (fun k hk => by
   wtm_at "pk"
   obtain ⟨kn, h1, h2⟩ := hk1 k (hs k hk)
   exact List.mem_map.mpr ⟨kn, List.mem_range.mpr h1, h2.symm⟩)
  simpa using h1
 refine prepare_spec (rk := rk) O S hA (hF _) hms i_scan i_hand hgr (by have := hkl _ hB.nd (fun _ h => h); simp only [List.length_map] at this; lia) ?_
 clear S; intro r s S
 refine ret_ok ⟨rfl, ?_⟩
 wtm_at "go"
 have hS0 := SInv.start hB
 have hb60 : bnd 60 (ns.map (·.2)) := bnd_of hB (by have := hkl _ hB.nd (fun _ h => h); simp only [List.length_map] at this ⊢; lia) (by
  have h1 := arS_len (spansOf atv ws) ws.length
  rw [hspl] at h1
  have h2 : ws.length * ws.length ≤ 7 * 7 := Nat.mul_le_mul hws hws
  lia)
 wtm_at "un"
 let V1 := fun (_ : Nat) (_ : List (NA × Nod Int)) (_ _ _ : List Int) (_ turn : Int) (tk : Tok) (g h : Option Value) => [some (Value.ref wa), some (.ref da), some (.ref x), some (.ref ra), some (.int turn tk), a, b, c, d, e, g, h]
 let G1 := fun (_ : Nat) (ns' : List (NA × Nod Int)) (_ rd rs : List Int) (pa _ : Int) (_ : Tok) (_ _ : Option Value) => srtL (intKind prog w) x dx m (.ref r) pa pa ns' ++ (r, lstR (keyV (intKind prog w)) rd) :: (ra, lstR IntV rs) :: L
 refine whi9 (ws.length + 1) V1 G1 (fun k ns' dn rd rs _ turn _ _ _ => A6 (SInv (arS (spansOf atv ws) ws.length) dn [] (ns'.map (·.2)) rd)
   (RInv (arS (spansOf atv ws) ws.length) ((ns.map (·.2)).map (·.key)) dn (fun k => rs.getD k.toNat 0) turn) ((ns'.map (·.2)).map (·.key) = (ns.map (·.2)).map (·.key)) (bnd 60 (ns'.map (·.2))) (rs.length = ws.length) (k + dn.length = ws.length + 1))
  ns [] _ _ 0 0 t0 none none S ⟨hS0, RInv.start _ _ _, rfl, hb60, by simp, rfl⟩ ?_
 clear S; intro k ns' dn rd rs pa turn tk g h s E K1 fin1 hH S
 wtm_at "pk"
 obtain ⟨hS, hRI, hkeys, hbn, hrl, hk⟩ := hH
 wtm_at "ps"
 have hrdk : ∀ k ∈ rd, k ∈ (ns.map (·.2)).map (·.key) := fun k hk => by rw [← hkeys]; exact ((hS.rdm k).mp hk).1
 have hrdl := hkl rd hS.rdn hrdk
 wtm_at "go"
 refine srt_meth (f := 120) O S (S.at (by wtm_at "srt")) (S.at (by wtm_at "srt")) (by decide +kernel) (fun _ => by kernel_rfl) (fun _ => by kernel_rfl) ?_
 refine cw_K0 O S (fun _ => by kernel_rfl) ?_
 refine w_call (active_spec O S hA (by lia) ?_)
 clear S; intro s S
 refine ret_ok ?_
 rw [decide_eq_false (Int.lt_irrefl pa), Bool.false_or]
 wtm_at "go"
 refine ⟨fun hb => ?_, fun hb => ?_⟩
 ·wtm_at "go"
  refine srt_meth (f := 113) O S (S.at (by wtm_at "srt")) (S.at (by wtm_at "srt")) (by decide +kernel) (fun _ => by kernel_rfl) (fun _ => by kernel_rfl) ?_
  refine cw_K0 O S (fun _ => by kernel_rfl) ?_
  refine w_call (ready_spec O S hA hms (fun k hk => ((hS.rdm k).mp hk).1) (by lia) ?_)
  clear S; intro gt ns1 s hns1 S
  refine ret_ok ?_
  have hS1 := hS.ready
  rw [← hns1, List.nil_append] at hS1
  wtm_at "go"
  wtm_at "pk"
  obtain ⟨gv, hgv, hGl⟩ := S.isTR (a := gt) (R := keyV (intKind prog w)) (xs := rd) (by wtm_at "mem")
  refine pi_tup S hGl ?_
  clear S; (try clear LL); (try clear LL); clear hGl hgv gv; intro git s S
  wtm_at "un"
  let V2 := fun (_ : Nat) (_ : List Int) (h : Option Value) => [some (Value.ref wa), some (.ref da), some (.ref x), some (.ref ra), some (.int turn tk), a, b, c, d, e, some (.ref gt), h]
  let G2 := fun (_ : Nat) (rs' : List Int) (_ : Option Value) => srtL (intKind prog w) x dx m (.ref r) (pa + rd.length) pa ns1 ++ (r, lstR (keyV (intKind prog w)) []) :: (gt, tupR (keyV (intKind prog w)) rd) :: (ra, lstR IntV rs') :: L
  refine for2 (Itr.tup _ _ git gt (Src.tupR (keyV (intKind prog w)) rd)) hA.hand V2 G2 (fun i rs' _ => A3 (rs'.length = ws.length) (∀ k : Int, k ∈ rd.take i → rs'.getD k.toNat 0 = turn) (∀ k : Int, k ∈ (ns.map (·.2)).map (·.key) → k ∉ rd.take i → rs'.getD k.toNat 0 = rs.getD k.toNat 0))
   (fun _ _ _ _ => one_src (by wtm_at "mem")) rs h S ⟨hrl, by simp, fun _ _ _ => rfl⟩ ?_ ?_
  ·clear S; intro i rs' h v X s E K2 fin2 hi hH hJ2 S
   wtm_at "pq"
   wtm_at "pk"
   obtain ⟨⟨kk, hkk, hkv'⟩, rfl⟩ := hJ2
   obtain ⟨hl', h1, h2⟩ := hH
   wtm_at "ps"
   wtm_at "pk"
   obtain ⟨kt, rfl⟩ := ikind_of hkv'
   obtain ⟨kn, hkn, rfl⟩ := hk1 kk (hrdk _ (List.mem_of_getElem? hkk))
   wtm_at "go"
   wtm_at "pk"
   obtain ⟨rv, hrv, hRl⟩ := S.isLR (a := ra) (R := IntV) (xs := rs') (by wtm_at "mem")
   have hrvl := hrv.len
   refine l_set (j := kn) (y := lstR IntV (rs'.set kn turn)) (.there ((Upd.there (.there .here)).left _)) S hRl rfl (by lia) (by lia) (fun o ho => ⟨_, hrv.set ⟨tk, rfl⟩, ho⟩) ?_
   clear S; (try clear LL); (try clear LL); clear hRl hrv; intro s S
   wtm_at "go"
   have htk : ∀ k, k ∈ rd.take (i + 1) ↔ k ∈ rd.take i ∨ k = (kn : Int) := fun k => by rw [List.take_add_one, hkk]; simp
   refine fin2 _ _ _ ⟨by rw [List.length_set]; exact hl', fun k hk => ?_, fun k hkm' hk => ?_⟩ S
   ·rw [List.getD_eq_getElem?_getD, List.getElem?_set]
    by_cases e : kn = k.toNat
    ·rw [if_pos e, if_pos (by lia)]; rfl
    ·rw [if_neg e, ← List.getD_eq_getElem?_getD]
     rcases (htk k).mp hk with q | q
     ·exact h1 k q
     ·exact absurd (by rw [q]; simp) e
   ·have hk' : k ∉ rd.take i ∧ k ≠ (kn : Int) := ⟨fun q => hk ((htk k).mpr (.inl q)), fun q => hk ((htk k).mpr (.inr q))⟩
    obtain ⟨k', hk'', rfl⟩ := hk1 k hkm'
    rw [List.getD_eq_getElem?_getD, List.getElem?_set, if_neg (by intro q; exact hk'.2 (by rw [Int.toNat_natCast] at q; rw [q])), ← List.getD_eq_getElem?_getD]
    exact h2 _ hkm' hk'.1
  clear S; intro rs' h s hH S
  wtm_at "pk"
  obtain ⟨hl', h1, h2⟩ := hH
  wtm_at "ps"
  rw [List.take_length] at h1 h2
  wtm_at "go"
  refine srt_bound (f := 134) O S (S.at (by wtm_at "srt")) (S.at (by wtm_at "srt")) (by decide +kernel) (fun _ => by kernel_rfl) (fun _ => by kernel_rfl) (fun _ => by kernel_rfl) (fun _ => by kernel_rfl) (by decide +kernel) ?_
  clear S; intro mq s S
  refine cw_m1s (f := 134) (c := x) O (fun _ => by kernel_rfl) ?_
  wtm_at "go"
  wtm_at "pk"
  obtain ⟨gv, hgv, hGl⟩ := S.isTR (a := gt) (R := keyV (intKind prog w)) (xs := rd) (by wtm_at "mem")
  have hgl := hgv.len
  refine star_t S hGl (by lia) ?_
  clear S; (try clear LL); (try clear LL); clear hGl; intro s S
  refine ⟨S.at (by wtm_at "mem"), S.K O, ?_⟩
  replace S := S.less (List.sublist_cons_self _ _)
  wtm_at "pk"
  obtain ⟨hS2, hok⟩ := (show SInv (arS (spansOf atv ws) ws.length) dn (rd ++ []) (ns1.map (·.2)) [] by rw [List.append_nil]; exact hS1).dones
  have hbn1 : bnd 60 (ns1.map (·.2)) := by
   refine ⟨?_, fun z hz => ?_⟩
   ·have e := congrArg List.length hns1
    have e2 := congrArg List.length (keys_outN (ns'.map (·.2)) rd)
    simp only [List.length_map] at e e2
    have := hbn.1
    simp only [List.length_map] at this ⊢
    lia
   ·rw [hS1.suc z hz]
    unfold sucOf
    rw [List.length_map]
    refine Nat.le_trans (List.length_filter_le _ _) ?_
    have h1 := arS_len (spansOf atv ws) ws.length
    rw [hspl] at h1
    have h2 : ws.length * ws.length ≤ 7 * 7 := Nat.mul_le_mul hws hws
    lia
  refine done_spec (ks := rd) (kvs := gv) (c := 60) O S hA hms hgv hok hbn1 (by simp; lia) (by lia) (by lia) ?_
  clear S; intro ns2 rd2 s hns2 S
  refine ret_ok ⟨rfl, ?_⟩
  wtm_at "go"
  have e1 : ns2.map (·.2) = (doneAll (ns1.map (·.2), []) rd).1 := congrArg Prod.fst hns2
  have e2 : rd2 = (doneAll (ns1.map (·.2), []) rd).2 := congrArg Prod.snd hns2
  rw [← e1, ← e2] at hS2
  have hkeys2 : (ns2.map (·.2)).map (·.key) = (ns.map (·.2)).map (·.key) := by rw [e1, (same2_doneAll _ _).1, hns1, keys_outN]; exact hkeys
  have hbn2 : bnd 60 (ns2.map (·.2)) := by rw [e1]; exact (same2_doneAll _ _).bnd hbn1
  have hdl : (dn ++ rd).length ≤ ws.length := hkl _ hS2.dnn (fun k hk => by rw [← hkeys2]; exact hS2.dsub k hk)
  rw [List.length_append] at hdl
  have hrd1 : 0 < rd.length := by cases rd with | nil => simp at hb | cons => simp
  refine fin1 (k - rd.length) ns2 (dn ++ rd) rd2 rs' _ _ _ _ _ _ (by lia) ⟨hS2, ?_, hkeys2, hbn2, hl', by rw [List.length_append]; lia⟩ (S.less ((List.Sublist.refl _).append (.cons_cons _ (.cons _ (.refl _)))))
  rw [← hkeys] at hRI h2 ⊢
  exact RInv.step hS hRI h1 h2
 ·have hr0 : rd = [] := by cases rd with | nil => rfl | cons => simp at hb
  subst hr0
  have hall := hS.all hrk
  wtm_at "go"
  have hdn : ∀ kn : Nat, kn < ws.length → (kn : Int) ∈ dn := fun kn hkn => hall _ (by rw [hkeys]; exact hk2 kn hkn)
  have hg : ∀ {kn : Nat} {z : Int}, rs[kn]? = some z → rs.getD ((kn : Int).toNat) 0 = z ∧ kn < ws.length := fun {kn z} h => by
   refine ⟨by rw [Int.toNat_natCast, List.getD_eq_getElem?_getD, h]; rfl, ?_⟩
   have := (List.getElem?_eq_some_iff.mp h).1
   lia
  refine hR ra rs _ ⟨by rw [hrl, hspl], fun k z hz => ?_, fun k j p q z t hp hq hi hz ht => ?_, fun k p z hp hz => ?_⟩ ?_
  ·wtm_at "pk"
   obtain ⟨e, hlt'⟩ := hg hz
   have := (hRI.1 _ (hdn k hlt')).1
   dsimp only at this
   rw [e] at this
   exact this
  ·wtm_at "pk"
   obtain ⟨e1, hlt1⟩ := hg hz
   obtain ⟨e2, hlt2⟩ := hg ht
   have := (hRI.1 _ (hdn k hlt1)).2.2.1 ((j : Int), (k : Int)) (hmem.mpr ⟨k, j, p, q, rfl, rfl, hp, hq, hi⟩) rfl
   simp only at this
   rw [e1, e2] at this
   exact this
  ·wtm_at "pk"
   obtain ⟨e1, hlt1⟩ := hg hz
   rcases (hRI.1 _ (hdn k hlt1)).2.2.2 with q | ⟨⟨j, k'⟩, ha, rfl', q⟩
   ·exact .inl (by rw [← e1]; exact q)
   ·simp only at rfl' q
    subst rfl'
    wtm_at "pk"
    obtain ⟨i', j', p', q', rfl, h2, h3, h4, h5⟩ := hmem.mp ha
    have hi' : k = i' := by lia
    subst hi'
    rw [hp] at h3; cases h3
    have hj' : j' < rs.length := by have := (List.getElem?_eq_some_iff.mp h4).1; lia
    refine .inr ⟨j', q', rs[j'], h4, h5, by simp [hj'], ?_⟩
    rw [e1] at q
    rw [q, Int.toNat_natCast, List.getD_eq_getElem?_getD]
    simp [hj']
  ·exact (S.less ((List.Sublist.cons _ (.refl _)).trans (List.sublist_append_right _ _))).pop
end rounds_spec_w
end
theorem rounds_spec {prog : Program} {w : World} {B : Bs} {fs : List Fm} {L : List (Addr × O)} {s : Shared} {A : Around} {n : Nat} {es : List Env} {wa da : Addr} {ws : List (Nat × Nat)} {atv : Nat → Int} {R : Result → Shared → Prop} : rounds_spec_w.Pw prog w B fs L s A n es wa da ws atv R := worst_of (Q := rounds_spec_w.Hw) (by with_unfolding_all rfl) rounds_spec_w.run ⟨prog, w, B, fs, L, s, A, n, es, wa, da, ws, atv, R⟩
section
end
end
section
theorem relabel_sc (scope : Scope) (env : Env) : relabel scope env = relabel scope (envSc env.scope) := rfl
section
variable {prog : Program} {w : World} {B : Bs} {fs : List Fm} {L L' M : List (Addr × O)} {s : Shared} {A : Around} {E : Value → Shared → Prop} {n : Nat} {es : List Env}
end
noncomputable section
namespace spans_spec_w
def Pw (prog : Program) (w : World) (B : Bs) (fs : List Fm) (L : List (Addr × O)) (s : Shared) (A : Around) (n : Nat) (es : List Env) (wa da : Addr) (ws : List (Nat × Nat)) (atv : Nat → Int) (R : Result → Shared → Prop) : Prop := ∀ (O : Ok B w) (S : St B fs L s) (hA : AOk A (n + 1) es) (hF : FrOk es fs) (hw : (wa, lstR StrV (ws.map fun p => two p.1 p.2)) ∈ L) (hat : Places prog w L da ws atv) (hws : ws.length ≤ 7) (hR : ∀ sa X s', Spans X sa (spansOf atv ws) → St B fs (X ++ L) s' → R (.ok (.ret (.ref sa))) s'),
  codeAny (model prog w) A (.call (.ref 228) ⟨[.ref wa, .ref da], []⟩) R s
def Hw (x : Program × World × Bs × (List Fm) × (List (Addr × O)) × Shared × Around × Nat × (List Env) × Addr × Addr × (List (Nat × Nat)) × (Nat → Int) × (Result → Shared → Prop)) : Prop := Pw x.1 x.2.1 x.2.2.1 x.2.2.2.1 x.2.2.2.2.1 x.2.2.2.2.2.1 x.2.2.2.2.2.2.1 x.2.2.2.2.2.2.2.1 x.2.2.2.2.2.2.2.2.1 x.2.2.2.2.2.2.2.2.2.1 x.2.2.2.2.2.2.2.2.2.2.1 x.2.2.2.2.2.2.2.2.2.2.2.1 x.2.2.2.2.2.2.2.2.2.2.2.2.1 x.2.2.2.2.2.2.2.2.2.2.2.2.2
@[irreducible] def cw := worst (by repeat (first | refine ne5 ?_ ?_ | exact ne1 | exact ne2 | exact ne3 | exact ne4 | exact inferInstance | exact ne7 | exact ⟨⟨0, 0, 0, 0, 0, 0, 0, 0⟩⟩)) Hw
def prog := cw.1
def w := cw.2.1
def B := cw.2.2.1
def fs := cw.2.2.2.1
def L := cw.2.2.2.2.1
def s := cw.2.2.2.2.2.1
def A := cw.2.2.2.2.2.2.1
def n := cw.2.2.2.2.2.2.2.1
def es := cw.2.2.2.2.2.2.2.2.1
def wa := cw.2.2.2.2.2.2.2.2.2.1
def da := cw.2.2.2.2.2.2.2.2.2.2.1
def ws := cw.2.2.2.2.2.2.2.2.2.2.2.1
def atv := cw.2.2.2.2.2.2.2.2.2.2.2.2.1
def R := cw.2.2.2.2.2.2.2.2.2.2.2.2.2
theorem run : Pw prog w B fs L s A n es wa da ws atv R := by
 intro O S hA hF hw hat hws hR
 refine call_cq (a := 228) (binds := [(Str.ofString "words", .ref wa), (Str.ofString "at", .ref da)]) ["words"] [some (.ref wa)] ["at"] (fun y => if y = "at" then some (.ref da) else none) O S hA hF (fun _ => rfl) rfl (fun _ => by kernel_rfl) rfl rfl rfl ?_ (by kernel_rfl) (by decide +kernel) (by decide +kernel) ?_ ?_ (by decide +kernel) (by decide +kernel) rfl rfl rfl ?_
 ·intro x hx
  simp only [List.mem_cons, List.not_mem_nil, or_false] at hx
  rcases hx with rfl | rfl
  ·exact .inl (by kernel_rfl)
  ·exact .inr (by kernel_rfl)
 ·rw [bindL_loc (by kernel_rfl), bindL_cel (by kernel_rfl), bindL_nil]
  funext y; simp [lookV]
 ·rw [bindC_loc (by kernel_rfl), bindC_cel (by kernel_rfl), bindC_nil]
 clear S; (try clear LL); (try clear LL); clear hA hF; intro env cs nd kd fn s hE hcs hcn hfr hcode hqual hF S hA E
 dsimp only at hE hcode hqual
 wtm_at "pk"
 obtain ⟨c, rfl⟩ := cs_one hcn
 wtm_at "us"
 dsimp only [List.map, List.append, List.cons_append, List.nil_append] at S
 wtm_at "us"
 rw [if_pos rfl] at S
 wtm_at "pk"
 obtain ⟨kvs, hkm, hkv⟩ := hat
 refine xs_return ?_
 refine e_lcS S ["word"] [(Str.ofString "at", c)] hE (by rw [clos_cells, hcs]; with_unfolding_all rfl) (by decide +kernel) rfl (by decide +kernel) (by decide +kernel) (by decide +kernel) ?_
 wtm_at "go"
 wtm_at "pk"
 obtain ⟨wv, hwv, hWl⟩ := S.isLR (a := wa) (R := StrV) (xs := ws.map fun p => two p.1 p.2) (by wtm_at "mem")
 refine pi_list S hWl ?_
 clear S; (try clear LL); (try clear LL); clear hWl hwv wv; intro it s S
 refine lc_e (Itr.list _ _ it wa (Src.lstR StrV (ws.map fun p => two p.1 p.2))) hA.hand S (fun i ys L' => ∃ (ts : List Addr) (X : List (Addr × Mine.O)), ys = ts.map .ref ∧ ts.length = i ∧ i ≤ ws.length ∧ X ++ (c, celO (some (.ref da))) :: L = L' ∧ ∀ (j : Nat) (t : Addr) (p : Int × Int), ts[j]? = some t → (spansOf atv ws)[j]? = some p → (t, tupR IntV [p.1, p.2]) ∈ X)
  (by rintro i ys _ ⟨ts, X, _, _, _, rfl, _⟩ p hp; simp only [List.mem_singleton] at hp; subst hp; wtm_at "mem") ⟨[], [], rfl, rfl, Nat.zero_le _, rfl, by simp⟩ ?_ ?_ ?_
 ·rintro i ys _ ⟨ts, X, rfl, hl, hi, _, _⟩
  rw [List.length_map]; lia
 ·clear S; intro D cenv cnd ckd cfn i vs ys _ v X₀ s E hEc hcl hvl hi hJ1 hJ2 S
  wtm_at "pq"
  wtm_at "pk"
  obtain ⟨⟨wd, hwd, ⟨t1, rfl⟩⟩, rfl⟩ := hJ2
  obtain ⟨ts, X, rfl, hl, hil, rfl, hts⟩ := hJ1
  wtm_at "ps"
  wtm_at "pk"
  obtain ⟨a', rfl⟩ := len1 hvl
  rw [List.getElem?_map] at hwd
  wtm_at "pk"
  obtain ⟨⟨p1, p2⟩, hp, rfl⟩ := Option.map_eq_some_iff.mp hwd
  have hpm := List.mem_of_getElem? hp
  rw [relabel_sc, hE.sc] at hEc
  wtm_at "go"
  refine lC S hEc hcl (by rfl) (c := c) rfl (by wtm_at "mem") ?_
  wtm_at "go"
  refine sub_str (k := 0) (c := p1) (by rfl) (by rfl) (by simp [two]) S ?_
  clear S; intro ts' s S
  wtm_at "pk"
  obtain ⟨ta0, hta⟩ := (hkv _ hpm).1
  refine sub_dict S (S.dic (d := da) (knd := strKind prog w) (kvs := kvs) (by wtm_at "mem")) (k := one p1) skind hta ?_
  clear S; (try clear LL); (try clear LL); clear hta; intro s S
  wtm_at "go"
  refine lC S hEc hcl (by rfl) (c := c) rfl (by wtm_at "mem") ?_
  wtm_at "go"
  refine sub_str (k := 1) (c := p2) (by rfl) (by rfl) (by simp [two]) S ?_
  clear S; intro ts' s S
  wtm_at "pk"
  obtain ⟨ta1, hta⟩ := (hkv _ hpm).2
  refine sub_dict S (S.dic (d := da) (knd := strKind prog w) (kvs := kvs) (by wtm_at "mem")) (k := one p2) skind hta ?_
  clear S; (try clear LL); (try clear LL); clear hta; intro s S
  wtm_at "go"
  refine n_tup S (line_le (by simp)) ?_
  clear S; intro t s S
  have hlw : ws[i]? = some (p1, p2) := hp
  have hsp : (spansOf atv ws)[i]? = some (atv p1, atv p2) := by (try dsimp only [LL]); unfold spansOf; rw [List.getElem?_map, hp]; rfl
  replace S := S.weak (a := t) (y := tupR IntV [atv p1, atv p2]) .here (fun o h => ⟨_, .cons ⟨_, rfl⟩ (.cons ⟨_, rfl⟩ .nil), h⟩)
  replace S := S.perm (L' := [(it, litO wa (i + 1))] ++ (D, lst (ts.map .ref)) :: ((t, tupR IntV [atv p1, atv p2]) :: X ++ (c, celO (some (.ref da))) :: L)) (by wtm_at "perm")
  rw [List.length_map] at hi
  refine ⟨_, _, rfl, ⟨ts ++ [t], (t, tupR IntV [atv p1, atv p2]) :: X, by simp, by simp [hl], by lia, rfl, fun j t' p h1 h2 => ?_⟩, S⟩
  by_cases e : j < ts.length
  ·rw [List.getElem?_append_left e] at h1
   exact List.mem_cons_of_mem _ (hts j t' p h1 h2)
  ·have hj := (List.getElem?_eq_some_iff.mp h1).1
   simp only [List.length_append, List.length_singleton] at hj
   have : j = i := by lia
   subst this
   rw [hsp] at h2; cases h2
   rw [List.getElem?_append_right (by lia), hl] at h1
   simp at h1
   subst h1
   exact List.mem_cons_self
 ·clear S; intro D ys _ s hJ1 S
  wtm_at "pq"
  wtm_at "pk"
  obtain ⟨ts, X, rfl, hl, hil, rfl, hts⟩ := hJ1
  wtm_at "ps"
  wtm_at "go"
  replace S := S.pop
  refine hR D ((D, lst (ts.map .ref)) :: X) _ ⟨ts, List.mem_cons_self, ?_, fun i t p h1 h2 => List.mem_cons_of_mem _ (hts i t p h1 h2)⟩ ?_
  ·unfold spansOf; simpa using hl
  ·exact S.less (.cons_cons _ ((List.Sublist.refl _).append (.cons _ (.refl _))))
end spans_spec_w
end
theorem spans_spec {prog : Program} {w : World} {B : Bs} {fs : List Fm} {L : List (Addr × O)} {s : Shared} {A : Around} {n : Nat} {es : List Env} {wa da : Addr} {ws : List (Nat × Nat)} {atv : Nat → Int} {R : Result → Shared → Prop} : spans_spec_w.Pw prog w B fs L s A n es wa da ws atv R := worst_of (Q := spans_spec_w.Hw) (by with_unfolding_all rfl) spans_spec_w.run ⟨prog, w, B, fs, L, s, A, n, es, wa, da, ws, atv, R⟩
section
end
end
section
noncomputable def GoodAt (sp : List (Int × Int)) (rs : List Int) (k : Nat) (p : Int × Int) : Prop := ∃ r, rs[k]? = some r ∧ 0 ≤ r ∧ (∀ (j : Nat) (q : Int × Int) (t : Int), sp[j]? = some q → innB p q = true → rs[j]? = some t → t < r) ∧
 (r = 0 ∨ ∃ (j : Nat) (q : Int × Int) (t : Int), sp[j]? = some q ∧ innB p q = true ∧ rs[j]? = some t ∧ r = t + 1)
noncomputable def DInv (sp : List (Int × Int)) (rs : List Int) (size : Int) (k : Nat) : Prop := rs.length = sp.length ∧ ∀ (k' : Nat) (p : Int × Int), sp[k']? = some p → (p.2 - p.1 < size ∨ (p.2 - p.1 = size ∧ k' < k)) → GoodAt sp rs k' p
theorem innB_iff {p q : Int × Int} : innB p q = true ↔ p.1 < q.1 ∧ q.2 < p.2 := by unfold innB; rw [Bool.and_eq_true, decide_eq_true_eq, decide_eq_true_eq]
theorem DInv.start {sp : List (Int × Int)} (h : ∀ p ∈ sp, p.1 < p.2) : DInv sp (List.replicate sp.length 0) 1 0 := by
 refine ⟨by simp, fun k p hp hs => ?_⟩
 have := h p (List.mem_of_getElem? hp)
 lia
theorem DInv.next {sp : List (Int × Int)} {rs : List Int} {size : Int} (h : DInv sp rs size sp.length) : DInv sp rs (size + 1) 0 := by
 refine ⟨h.1, fun k p hp hs => h.2 k p hp ?_⟩
 have := (List.getElem?_eq_some_iff.mp hp).1
 lia
theorem DInv.skip {sp : List (Int × Int)} {rs : List Int} {size : Int} {k : Nat} {p : Int × Int} (h : DInv sp rs size k) (hp : sp[k]? = some p) (hs : p.2 - p.1 ≠ size) : DInv sp rs size (k + 1) := by
 refine ⟨h.1, fun k' p' hp' hs' => h.2 k' p' hp' ?_⟩
 by_cases e : k' = k
 ·subst e; rw [hp] at hp'; cases hp'; lia
 ·lia
theorem DInv.end {sp : List (Int × Int)} {rs : List Int} {size : Int} (h : DInv sp rs size 0) (hs : ∀ p ∈ sp, p.2 - p.1 < size) : IsDepth sp rs := by
 have g : ∀ (k : Nat) (p : Int × Int) (r : Int), sp[k]? = some p → rs[k]? = some r → 0 ≤ r ∧ (∀ (j : Nat) (q : Int × Int) (t : Int), sp[j]? = some q → innB p q = true → rs[j]? = some t → t < r) ∧
   (r = 0 ∨ ∃ (j : Nat) (q : Int × Int) (t : Int), sp[j]? = some q ∧ innB p q = true ∧ rs[j]? = some t ∧ r = t + 1) := fun k p r hp hr => by
  obtain ⟨r', h1, h2⟩ := h.2 k p hp (.inl (hs p (List.mem_of_getElem? hp)))
  rw [hr] at h1; cases h1; exact h2
 refine ⟨h.1, fun k r hr => ?_, fun k j p q r t hp hq hi hr ht => (g k p r hp hr).2.1 j q t hq hi ht, fun k p r hp hr => (g k p r hp hr).2.2⟩
 have hk : k < sp.length := by rw [← h.1]; exact (List.getElem?_eq_some_iff.mp hr).1
 exact (g k sp[k] r (by simp [hk]) hr).1
theorem DInv.set {sp : List (Int × Int)} {rs : List Int} {size : Int} {k : Nat} {p : Int × Int} {M : Int} (h : DInv sp rs size k) (hp : sp[k]? = some p) (hs : p.2 - p.1 = size) (hps : ∀ q ∈ sp, q.1 < q.2)
  (hM : M ∈ 0 :: (witS sp p sp.length).map fun j => rs.getD j.toNat 0 + 1) (hmax : ∀ a ∈ 0 :: (witS sp p sp.length).map fun j => rs.getD j.toNat 0 + 1, a ≤ M) : DInv sp (rs.set k M) size (k + 1) := by
 have hk : k < rs.length := by rw [h.1]; exact (List.getElem?_eq_some_iff.mp hp).1
 have small : ∀ (p' q : Int × Int), innB p' q = true → q.1 < q.2 → q.2 - q.1 < p'.2 - p'.1 := fun p' q hi hq => by
  have := innB_iff.mp hi; lia
 have other : ∀ (j : Nat) (q : Int × Int), sp[j]? = some q → q.2 - q.1 < size → (rs.set k M)[j]? = rs[j]? := fun j q hq hq2 => by
  rw [List.getElem?_set]
  split
  ·rename_i e; subst e; rw [hp] at hq; cases hq; lia
  ·rfl
 refine ⟨by rw [List.length_set]; exact h.1, fun k' p' hp' hs' => ?_⟩
 by_cases e : k' = k
 ·subst e
  rw [hp] at hp'; cases hp'
  refine ⟨M, by rw [List.getElem?_set]; simp [hk], hmax 0 List.mem_cons_self, fun j q t hq hi ht => ?_, ?_⟩
  ·have hq2 := small p q hi (hps q (List.mem_of_getElem? hq))
   rw [other j q hq (by lia)] at ht
   have := hmax (rs.getD (j : Int).toNat 0 + 1) (List.mem_cons_of_mem _ (List.mem_map.mpr ⟨(j : Int), mem_witS.mpr ⟨j, q, (List.getElem?_eq_some_iff.mp hq).1, rfl, hq, hi⟩, rfl⟩))
   rw [Int.toNat_natCast, List.getD_eq_getElem?_getD, ht] at this
   simp only [Option.getD_some] at this
   lia
  ·rcases List.mem_cons.mp hM with hM | hM
   ·exact .inl hM
   ·obtain ⟨j', hj, hje⟩ := List.mem_map.mp hM
    obtain ⟨j, q, h1, rfl, hq, hi⟩ := mem_witS.mp hj
    have hq2 := small p q hi (hps q (List.mem_of_getElem? hq))
    have hjr : j < rs.length := by rw [h.1]; exact h1
    refine .inr ⟨j, q, rs[j], hq, hi, by rw [other j q hq (by lia)]; simp [hjr], ?_⟩
    rw [← hje, Int.toNat_natCast, List.getD_eq_getElem?_getD]
    simp [hjr]
 ·obtain ⟨r, h1, h2, h3, h4⟩ := h.2 k' p' hp' (by lia)
  have hsz : p'.2 - p'.1 ≤ size := by lia
  refine ⟨r, by rw [List.getElem?_set, if_neg (Ne.symm e)]; exact h1, h2, fun j q t hq hi ht => ?_, ?_⟩
  ·have hq2 := small p' q hi (hps q (List.mem_of_getElem? hq))
   rw [other j q hq (by lia)] at ht
   exact h3 j q t hq hi ht
  ·rcases h4 with h4 | ⟨j, q, t, hq, hi, ht, e2⟩
   ·exact .inl h4
   ·have hq2 := small p' q hi (hps q (List.mem_of_getElem? hq))
    exact .inr ⟨j, q, t, hq, hi, by rw [other j q hq (by lia)]; exact ht, e2⟩
end
section
theorem swapsW_sc (v : Expr) (t : Option Expr) (l : Nat) (env : Env) : swapsWith v t l env = swapsWith v t l (envSc env.scope) := rfl
section
variable {prog : Program} {w : World} {B : Bs} {fs : List Fm} {L L' M : List (Addr × O)} {s : Shared} {A : Around} {E : Value → Shared → Prop} {n : Nat} {es : List Env}
end
noncomputable section
namespace depths_spec_w
def Pw (prog : Program) (w : World) (B : Bs) (fs : List Fm) (L : List (Addr × O)) (s : Shared) (A : Around) (n : Nat) (es : List Env) (sa : Addr) (sp : List (Int × Int)) (R : Result → Shared → Prop) : Prop := ∀ (O : Ok B w) (S : St B fs L s) (hA : AOk A (n + 1) es) (hF : FrOk es fs) (hs : Spans L sa sp) (hz : sp.length ≤ 7) (hlt : ∀ p ∈ sp, p.1 < p.2) (hle : ∀ p ∈ sp, p.2 - p.1 ≤ 5) (hR : ∀ r rs s', IsDepth sp rs → St B fs ((r, lstR IntV rs) :: L) s' → R (.ok (.ret (.ref r))) s'),
  codeAny (model prog w) A (.call (.ref 233) ⟨[.ref sa], []⟩) R s
def Hw (x : Program × World × Bs × (List Fm) × (List (Addr × O)) × Shared × Around × Nat × (List Env) × Addr × (List (Int × Int)) × (Result → Shared → Prop)) : Prop := Pw x.1 x.2.1 x.2.2.1 x.2.2.2.1 x.2.2.2.2.1 x.2.2.2.2.2.1 x.2.2.2.2.2.2.1 x.2.2.2.2.2.2.2.1 x.2.2.2.2.2.2.2.2.1 x.2.2.2.2.2.2.2.2.2.1 x.2.2.2.2.2.2.2.2.2.2.1 x.2.2.2.2.2.2.2.2.2.2.2
@[irreducible] def cw := worst (by repeat (first | refine ne5 ?_ ?_ | exact ne1 | exact ne2 | exact ne3 | exact ne4 | exact inferInstance | exact ne7 | exact ⟨⟨0, 0, 0, 0, 0, 0, 0, 0⟩⟩)) Hw
def prog := cw.1
def w := cw.2.1
def B := cw.2.2.1
def fs := cw.2.2.2.1
def L := cw.2.2.2.2.1
def s := cw.2.2.2.2.2.1
def A := cw.2.2.2.2.2.2.1
def n := cw.2.2.2.2.2.2.2.1
def es := cw.2.2.2.2.2.2.2.2.1
def sa := cw.2.2.2.2.2.2.2.2.2.1
def sp := cw.2.2.2.2.2.2.2.2.2.2.1
def R := cw.2.2.2.2.2.2.2.2.2.2.2
theorem run : Pw prog w B fs L s A n es sa sp R := by
 intro O S hA hF hs hz hlt hle hR
 refine call_cq (a := 233) (binds := [(Str.ofString "spans", .ref sa)]) ["spans", "size", "k", "within"] [some (.ref sa), none, none, none] ["end", "start", "depths"] (fun _ => none) O S hA hF (fun _ => rfl) rfl (fun _ => by kernel_rfl) rfl rfl rfl (by intro x hx; simp at hx; subst hx; exact .inl (by kernel_rfl)) (by kernel_rfl) (by decide +kernel) (by decide +kernel) (by rw [bindL_loc (by kernel_rfl), bindL_nil]; funext y; simp [lookV]) (by rw [bindC_loc (by kernel_rfl), bindC_nil]) (by decide +kernel) (by decide +kernel) rfl rfl rfl ?_
 clear S; (try clear LL); (try clear LL); clear hA hF; intro env cs nd kd fn s hE hcs hcn hfr hcode hqual hF S hA E
 dsimp only at hE hcode hqual
 wtm_at "pk"
 obtain ⟨cE, cs1, rfl, hcn1⟩ := cs_cons hcn
 obtain ⟨cS, cs2, rfl, hcn2⟩ := cs_cons hcn1
 obtain ⟨cD, rfl⟩ := cs_one hcn2
 clear hcn hcn1 hcn2
 wtm_at "us"
 dsimp only [List.map, List.append, List.cons_append, List.nil_append] at S
 wtm_at "pk"
 obtain ⟨ts, hsm, htl, hts⟩ := hs
 wtm_at "go"
 refine n_list S (line_le (by simp)) ?_
 clear S; intro za s S
 wtm_at "go"
 refine len_list (S.isL (a := sa) (vs := ts.map .ref) (by wtm_at "mem")) S (by simp; lia) ?_
 clear S; intro lt s S
 refine l_mul1 (j := sp.length) S (S.isL (by wtm_at "mem")) (by simp [htl]) (by lia) ?_
 clear S; intro ra s S
 refine sC S hE hcs (by rfl) rfl (.there (.there (.there (.there .here)))) ?_
 clear S; intro s S
 have S1 := S.less (L' := (ra, lst (List.replicate sp.length (.int 0 _))) :: (cE, celO none) :: (cS, celO none) :: (cD, celO (some (.ref ra))) :: L) (.cons_cons _ (.cons _ (.refl _)))
 have S2 := S1.weak (a := ra) (y := lstR IntV (List.replicate sp.length 0)) .here (fun o h => ⟨_, F2.of (by simp) (fun i x v h1 h2 => by
   rw [List.getElem?_replicate] at h1 h2
   split at h1
   ·rename_i hi
    rw [if_pos hi] at h2
    cases h1; cases h2; exact ⟨_, rfl⟩
   ·cases h1), h⟩)
 replace S := S2.perm (L' := (cE, celO none) :: (cS, celO none) :: (cD, celO (some (.ref ra))) :: (ra, lstR IntV (List.replicate sp.length 0)) :: L) (by wtm_at "perm")
 clear S1 S2
 wtm_at "go"
 refine t_rng2 S ?_
 clear S; intro rg s S
 refine pi_rng (j := 1) (k := 6) 5 (by rfl) (by decide) S (S.at (by wtm_at "mem")) ?_
 clear S; intro rit s S
 wtm_at "un"
 let V1 := fun (i : Nat) (vE vS : Option Value) (rs : List Int) (a b c : Option Value) => [some (Value.ref sa), a, b, c]
 let G1 := fun (i : Nat) (vE vS : Option Value) (rs : List Int) (a b c : Option Value) => (rg, rngO 1 6) :: (cE, celO vE) :: (cS, celO vS) :: (cD, celO (some (.ref ra))) :: (ra, lstR IntV rs) :: L
 refine for6 (Itr.range _ _ rit 1 5) hA.hand V1 G1 (fun i vE vS rs a b c => DInv sp rs (1 + (i : Int)) 0)
  (fun _ _ _ _ _ _ _ _ => no_src) none none _ _ _ _ S (by simpa using DInv.start hlt) ?_ ?_
 ·clear S; intro i vE vS rs a b c v X s E K1 fin1 hi hD hJ2 S
  wtm_at "pq"
  wtm_at "pk"
  obtain ⟨⟨t1, rfl⟩, rfl⟩ := hJ2
  wtm_at "ps"
  wtm_at "go"
  refine t_enum S (S.isL (a := sa) (vs := ts.map .ref) (by wtm_at "mem")) ?_
  clear S; intro e1 it1 s S
  refine pi_enum S (it := it1) (by wtm_at "mem") ?_
  wtm_at "un"
  let V2 := fun (k : Nat) (vE vS : Option Value) (rs : List Int) (b c : Option Value) => [some (Value.ref sa), some (.int (1 + (i : Int)) t1), b, c]
  let G2 := fun (k : Nat) (vE vS : Option Value) (rs : List Int) (b c : Option Value) => (rit, ritO (1 + (i + 1 : Nat)) (5 - (i + 1 : Nat)) 1) :: (rg, rngO 1 6) :: (cE, celO vE) :: (cS, celO vS) :: (cD, celO (some (.ref ra))) :: (ra, lstR IntV rs) :: L
  refine for5 (Itr.enum _ _ _ e1 it1 sa (Src.lst (ts.map .ref))) hA.hand V2 G2 (fun k vE vS rs b c => DInv sp rs (1 + (i : Int)) k)
   (fun k vE vS rs b c _ => one_src (by wtm_at "mem")) vE vS rs b c S hD ?_ ?_
  ·clear S; (try clear LL); (try clear LL); clear hD; intro k vE vS rs b c v X s E K2 fin2 hk hD hJ2 S
   wtm_at "pq"
   wtm_at "pk"
   obtain ⟨t, tk, x, rfl, hx, rfl⟩ := hJ2
   wtm_at "ps"
   refine as_tup2 hA.hand S (S.isT (by wtm_at "mem")) ?_
   clear S; intro s S
   wtm_at "go"
   simp only [List.getElem?_map, Option.map_eq_some_iff] at hx
   wtm_at "pk"
   obtain ⟨ta, hta, rfl⟩ := hx
   have hk' : k < sp.length := by simpa [htl] using hk
   wtm_at "pk"
   obtain ⟨p, hp⟩ : ∃ p, sp[k]? = some p := ⟨sp[k], by simp [hk']⟩
   obtain ⟨vs', hvs, hT⟩ := S.isTR (a := ta) (R := IntV) (xs := [p.1, p.2]) (by have := hts k ta p hta hp; wtm_at "mem")
   obtain ⟨_, _, rfl, ⟨u1, rfl⟩, ⟨u2, rfl⟩⟩ := hvs.two
   refine as_tup2 hA.hand S hT ?_
   clear S; (try clear LL); (try clear LL); clear hT; intro s S
   wtm_at "go"
   refine sC S hE hcs (by rfl) rfl (.there (.there (.there (.there (.there (.there .here)))))) ?_
   clear S; intro s S
   wtm_at "go"
   refine sC S hE hcs (by rfl) rfl (.there (.there (.there (.there (.there .here))))) ?_
   clear S; intro s S
   wtm_at "go"
   wtm_at "if"
   wtm_at "go"
   wtm_at "cell"
   wtm_at "cell"
   wtm_at "go"
   refine ⟨fun hb => ?_, fun hb => ?_⟩
   ·have hsz : p.2 - p.1 = 1 + (i : Int) := by simpa using hb
    refine xs_lcS S 3 ["j", "low", "high"] [(Str.ofString "start", cS), (Str.ofString "end", cE)] hE (by rw [clos_cells, hcs]; with_unfolding_all rfl) (by decide +kernel) rfl (by decide +kernel) (by decide +kernel) (by decide +kernel) (by rw [swapsW_sc, hE.sc]; with_unfolding_all rfl) rfl (Nat.le_of_ble_eq_true rfl) ?_
    wtm_at "go"
    refine t_enum S (S.isL (a := sa) (vs := ts.map .ref) (by wtm_at "mem")) ?_
    clear S; intro e2 it2 s S
    refine pi_enum S (it := it2) (by wtm_at "mem") ?_
    refine lci_u (Itr.enum _ _ _ e2 it2 sa (Src.lst (ts.map .ref))) hA.hand S (fun m ys L' => (t, tup [.int k tk, .ref ta]) :: (e1, enuO it1 (k + 1 : Nat)) :: (it1, litO sa (k + 1)) :: (rit, ritO (1 + (i + 1 : Nat)) (5 - (i + 1 : Nat)) 1) :: (rg, rngO 1 6) :: (cE, celO (some (.int p.2 u2))) :: (cS, celO (some (.int p.1 u1))) :: (cD, celO (some (.ref ra))) :: (ra, lstR IntV rs) :: L = L' ∧ F2 IntV (witS sp p m) ys ∧ m ≤ sp.length)
     (by rintro m ys _ ⟨rfl, _⟩ q hq; simp only [List.mem_singleton] at hq; subst hq; wtm_at "mem") ⟨rfl, .nil, Nat.zero_le _⟩ ?_ ?_ ?_
    ·rintro m ys _ ⟨_, hy, hm⟩
     have := hy.len
     have := witS_len sp p m
     lia
    ·clear S; intro D cenv cnd ckd cfn m vs ys _ v X s E hEc hcl hvl hm hJ1 hJ2 S
     wtm_at "pq"
     wtm_at "pk"
     obtain ⟨t', tk', x, rfl, hx, rfl⟩ := hJ2
     obtain ⟨rfl, hy, hml⟩ := hJ1
     wtm_at "ps"
     wtm_at "pk"
     obtain ⟨a1, a2, a3, rfl⟩ := len3 hvl
     rw [relabel_sc, hE.sc] at hEc
     refine as_tup2 hA.hand S (S.isT (by wtm_at "mem")) ?_
     clear S; intro s S
     wtm_at "go"
     simp only [List.getElem?_map, Option.map_eq_some_iff] at hx
     wtm_at "pk"
     obtain ⟨tb, htb, rfl⟩ := hx
     have hm' : m < sp.length := by simpa [htl] using hm
     wtm_at "pk"
     obtain ⟨q, hq⟩ : ∃ q, sp[m]? = some q := ⟨sp[m], by simp [hm']⟩
     obtain ⟨vs', hvs2, hT⟩ := S.isTR (a := tb) (R := IntV) (xs := [q.1, q.2]) (by have := hts m tb q htb hq; wtm_at "mem")
     obtain ⟨_, _, rfl, ⟨w1, rfl⟩, ⟨w2, rfl⟩⟩ := hvs2.two
     refine as_tup2 hA.hand S hT ?_
     clear S; (try clear LL); (try clear LL); clear hT; intro s S
     have hwit : witS sp p (m + 1) = witS sp p m ++ if innB p q then [(m : Int)] else [] := by rw [witS, hq]
     wtm_at "go"
     refine lC S hEc hcl (by rfl) (c := cS) rfl (by wtm_at "mem") ?_
     wtm_at "go"
     refine ⟨fun h1 => ?_, fun h1 => ?_⟩
     ·have h1' := of_decide_eq_true h1
      wtm_at "go"
      refine lC S hEc hcl (by rfl) (c := cE) rfl (by wtm_at "mem") ?_
      wtm_at "go"
      refine ⟨fun h2 => ?_, fun h2 => ?_⟩
      ·have h2' := of_decide_eq_true h2
       wtm_at "go"
       refine ⟨_, _, rfl, ⟨rfl, ?_, by lia⟩, S.less (List.sublist_cons_self _ _)⟩
       rw [hwit, if_pos (innB_iff.mpr ⟨h1', h2'⟩)]
       exact hy.append (.cons ⟨_, rfl⟩ .nil)
      ·have h2' := of_decide_eq_false h2
       wtm_at "go"
       refine ⟨_, _, rfl, ⟨rfl, ?_, by lia⟩, S.less (List.sublist_cons_self _ _)⟩
       rw [hwit, if_neg (fun h => h2' (innB_iff.mp h).2), List.append_nil]
       exact hy
     ·have h1' := of_decide_eq_false h1
      wtm_at "go"
      refine ⟨_, _, rfl, ⟨rfl, ?_, by lia⟩, S.less (List.sublist_cons_self _ _)⟩
      rw [hwit, if_neg (fun h => h1' (innB_iff.mp h).1), List.append_nil]
      exact hy
    clear S; intro wi ys _ s hJ1 S
    wtm_at "pq"
    wtm_at "pk"
    obtain ⟨rfl, hy, _⟩ := hJ1
    wtm_at "ps"
    rw [List.length_map, htl] at hy
    (try dsimp only [List.set] at S)
    wtm_at "go"
    refine n_list S (line_le (by simp)) ?_
    clear S; intro z1 s S
    wtm_at "go"
    rename_i tz _ _
    refine e_lcS S ["j"] [(Str.ofString "depths", cD)] hE (by rw [clos_cells, hcs]; with_unfolding_all rfl) (by decide +kernel) rfl (by decide +kernel) (by decide +kernel) (by decide +kernel) ?_
    wtm_at "go"
    refine pi_list S (S.isL (a := wi) (vs := ys) (by wtm_at "mem")) ?_
    clear S; intro wit s S
    refine lc_e (Itr.list _ _ wit wi (Src.lst ys)) hA.hand S (fun m zs L' => (z1, lst [.int 0 _]) :: (wi, lst ys) :: (t, tup [.int k tk, .ref ta]) :: (e1, enuO it1 (k + 1 : Nat)) :: (it1, litO sa (k + 1)) :: (rit, ritO (1 + (i + 1 : Nat)) (5 - (i + 1 : Nat)) 1) :: (rg, rngO 1 6) :: (cE, celO (some (.int p.2 u2))) :: (cS, celO (some (.int p.1 u1))) :: (cD, celO (some (.ref ra))) :: (ra, lstR IntV rs) :: L = L' ∧ F2 IntV (((witS sp p sp.length).take m).map fun j => rs.getD j.toNat 0 + 1) zs ∧ m ≤ ys.length)
     (by rintro m zs _ ⟨rfl, _⟩ q hq; simp only [List.mem_singleton] at hq; subst hq; wtm_at "mem") ⟨rfl, .nil, Nat.zero_le _⟩ ?_ ?_ ?_
    ·rintro m zs _ ⟨_, hzs, hm⟩
     have := hzs.len
     have := hy.len
     have := witS_len sp p sp.length
     simp only [List.length_map, List.length_take] at *
     lia
    ·clear S; intro D cenv cnd ckd cfn m vs zs _ v X s E hEc hcl hvl hm hJ1 hJ2 S
     wtm_at "pq"
     wtm_at "pk"
     obtain ⟨hv, rfl⟩ := hJ2
     obtain ⟨rfl, hzs, hml⟩ := hJ1
     wtm_at "ps"
     wtm_at "pk"
     obtain ⟨a1, rfl⟩ := len1 hvl
     rw [relabel_sc, hE.sc] at hEc
     wtm_at "pk"
     obtain ⟨jj, hjj, ⟨jt, rfl⟩⟩ := hy.tge hv
     obtain ⟨jn, q, hjl, rfl, hq, hiq⟩ := mem_witS.mp (List.mem_of_getElem? hjj)
     wtm_at "go"
     refine lC S hEc hcl (by rfl) (c := cD) rfl (by wtm_at "mem") ?_
     wtm_at "go"
     wtm_at "pk"
     obtain ⟨rv, hrv, hRl⟩ := S.isLR (a := ra) (R := IntV) (xs := rs) (by wtm_at "mem")
     have hjr : jn < rs.length := by rw [hD.1]; exact hjl
     wtm_at "pk"
     obtain ⟨rvv, hrvv, ⟨rt, rfl⟩⟩ := hrv.get (i := jn) (x := rs[jn]) (by simp [hjr])
     refine sub_list hRl (by lia) (v := .int rs[jn] rt) (by rw [Int.toNat_natCast]; exact hrvv) ?_ (hsz := by have := hrv.len; have := hD.1; lia)
     clear hRl hrv
     wtm_at "go"
     refine ⟨_, _, rfl, ⟨rfl, ?_, by lia⟩, S⟩
     rw [List.take_add_one, hjj]
     simp only [Option.toList_some, List.map_append, List.map_cons, List.map_nil, Int.toNat_natCast]
     refine hzs.append (.cons ?_ .nil)
     rw [List.getD_eq_getElem?_getD, List.getElem?_eq_getElem hjr, Option.getD_some]
     exact ⟨_, rfl⟩
    clear S; intro D zs _ s hJ1 S
    wtm_at "pq"
    wtm_at "pk"
    obtain ⟨rfl, hzs, _⟩ := hJ1
    wtm_at "ps"
    have hyl := hy.len
    have hwl := witS_len sp p sp.length
    have hzl := hzs.len
    rw [hyl, List.take_length] at hzs
    have hzl' := hzs.len
    rw [List.length_map] at hzl'
    refine l_addl S (S.isL (a := z1) (vs := [.int 0 _]) (by wtm_at "mem")) (S.isL (a := D) (vs := zs) (by wtm_at "mem")) (by simp; lia) ?_
    clear S; intro mx s S
    wtm_at "go"
    refine l_max (ns := 0 :: (witS sp p sp.length).map fun j => rs.getD j.toNat 0 + 1) hA.hand S (S.isL (a := mx) (by wtm_at "mem")) (.cons ⟨_, rfl⟩ hzs) (by simp) ?_
    clear S; intro Mx mt s hM1 hM2 S
    wtm_at "cell"
    wtm_at "go"
    wtm_at "pk"
    obtain ⟨rv, hrv, hRl⟩ := S.isLR (a := ra) (R := IntV) (xs := rs) (by wtm_at "mem")
    have hrvl := hrv.len
    refine l_set (j := k) (y := lstR IntV (rs.set k Mx)) (.there (.there (.there (.there (.there (.there (.there (.there (.there (.there (.there (.there .here)))))))))))) S hRl rfl (by rw [hrvl, hD.1]; exact hk') (by rw [hrvl, hD.1]; lia) (fun o ho => ⟨_, hrv.set ⟨mt, rfl⟩, ho⟩) ?_
    clear S; (try clear LL); (try clear LL); clear hRl hrv; intro s S
    wtm_at "go"
    exact fin2 _ _ _ _ _ _ (hD.set hp hsz hlt hM1 hM2) (S.less (by wtm_at "sub"))
   ·have hsz : p.2 - p.1 ≠ 1 + (i : Int) := by simpa using hb
    wtm_at "go"
    exact fin2 _ _ _ _ _ _ (hD.skip hp hsz) (S.less (by wtm_at "sub"))
  clear S; (try clear LL); (try clear LL); clear hD; intro vE vS rs b c s hD S
  wtm_at "ps"
  rw [List.length_map, htl] at hD
  wtm_at "go"
  exact fin1 _ _ _ _ _ _ _ (by have := hD.next; rwa [show 1 + (i : Int) + 1 = 1 + ((i + 1 : Nat) : Int) by lia] at this) S
 clear S; intro vE vS rs a b c s hD S
 wtm_at "ps"
 wtm_at "go"
 wtm_at "cell"
 wtm_at "go"
 exact hR ra rs _ (hD.end fun p hp => by have := hle p hp; lia) (S.less (.cons _ (.cons _ (.cons _ (.cons _ (.refl _)))))).pop
end depths_spec_w
end
theorem depths_spec {prog : Program} {w : World} {B : Bs} {fs : List Fm} {L : List (Addr × O)} {s : Shared} {A : Around} {n : Nat} {es : List Env} {sa : Addr} {sp : List (Int × Int)} {R : Result → Shared → Prop} : depths_spec_w.Pw prog w B fs L s A n es sa sp R := worst_of (Q := depths_spec_w.Hw) (by with_unfolding_all rfl) depths_spec_w.run ⟨prog, w, B, fs, L, s, A, n, es, sa, sp, R⟩
section
end
end
section
theorem uldF_perm : ∀ (r act mis : List Str), ((uldF r act mis).2 ++ (r ++ mis)).Perm (act ++ (uldF r act mis).1)
 | [], act, mis => by simp [uldF]
 | x :: r, act, mis => by
  rw [uldF]
  split
  ·rename_i hx
   have h := uldF_perm r (act.erase x) mis
   have h2 : (x :: ((uldF r (act.erase x) mis).2 ++ (r ++ mis))).Perm (x :: (act.erase x ++ (uldF r (act.erase x) mis).1)) := h.cons x
   refine (List.perm_middle).trans (h2.trans ?_)
   have h3 : (x :: act.erase x ++ (uldF r (act.erase x) mis).1).Perm (act ++ (uldF r (act.erase x) mis).1) := (List.perm_cons_erase hx).symm.append_right _
   exact h3
  ·have h := uldF_perm r act (mis ++ [x])
   refine List.Perm.trans (List.Perm.append_left _ ?_) h
   rw [← List.append_assoc]
   exact (List.perm_append_singleton x (r ++ mis)).symm
theorem uldF_disj : ∀ (r act mis : List Str), (∀ w ∈ mis, w ∉ act) → ∀ w ∈ (uldF r act mis).1, w ∉ (uldF r act mis).2
 | [], act, mis, h => by simpa [uldF] using h
 | x :: r, act, mis, h => by
  rw [uldF]
  split
  ·exact uldF_disj r (act.erase x) mis fun w hw q => h w hw (List.mem_of_mem_erase q)
  ·rename_i hx
   refine uldF_disj r act (mis ++ [x]) fun w hw q => ?_
   rcases List.mem_append.mp hw with hw | hw
   ·exact h w hw q
   ·simp at hw; subst hw; exact hx q
theorem uld_ok {due came : List Str} : uldF due.reverse came [] = ([], []) ↔ came.Perm due := by
 have hp := uldF_perm due.reverse came []
 rw [List.append_nil] at hp
 constructor
 ·intro h
  rw [h] at hp
  simp only [List.nil_append, List.append_nil] at hp
  exact (hp.symm.trans (List.reverse_perm due))
 ·intro h
  have hd := uldF_disj due.reverse came [] (by simp)
  generalize uldF due.reverse came [] = z at hp hd
  obtain ⟨m, a⟩ := z
  dsimp only at hp hd
  have h1 : (a ++ due).Perm (due ++ m) := (List.Perm.append_left a (List.reverse_perm due)).symm.trans (hp.trans (h.append_right m))
  have h2 : a.Perm m := by
   have : (due ++ a).Perm (due ++ m) := List.perm_append_comm.trans h1
   exact (List.perm_append_left_iff due).mp this
  have hm : m = [] := by
   cases m with
   | nil => rfl
   | cons w m => exact absurd (h2.symm.subset List.mem_cons_self) (hd w List.mem_cons_self)
  subst hm
  have ha : a = [] := h2.eq_nil
  subst ha; rfl
noncomputable def popN : Nat → List Str → List Str × List Str
 | 0, q => ([], q)
 | n + 1, [] => (Str.ofString "" :: (popN n []).1, [])
 | n + 1, x :: q => (x :: (popN n q).1, (popN n q).2)
theorem popN_len : ∀ (n : Nat) (q : List Str), (popN n q).1.length = n
 | 0, _ => rfl
 | n + 1, [] => by simp [popN, popN_len n []]
 | n + 1, _ :: q => by simp [popN, popN_len n q]
theorem popN_app : ∀ (c q : List Str), popN c.length (c ++ q) = (c, q)
 | [], q => rfl
 | x :: c, q => by simp [popN, popN_app c q]
theorem popN_mem : ∀ (n : Nat) (q : List Str), ∀ x ∈ (popN n q).1, x = Str.ofString "" ∨ x ∈ q
 | 0, _, x, h => by simp [popN] at h
 | n + 1, [], x, h => by
  simp only [popN, List.mem_cons] at h
  rcases h with h | h
  ·exact .inl h
  ·exact popN_mem n [] x h
 | n + 1, y :: q, x, h => by
  simp only [popN, List.mem_cons] at h
  rcases h with h | h
  ·exact .inr (by simp [h])
  ·rcases popN_mem n q x h with h | h
   ·exact .inl h
   ·exact .inr (List.mem_cons_of_mem _ h)
theorem popN_sub : ∀ (n : Nat) (q : List Str), ∀ x ∈ (popN n q).2, x ∈ q
 | 0, _, x, h => h
 | n + 1, [], x, h => by simp [popN] at h
 | n + 1, y :: q, x, h => List.mem_cons_of_mem _ (popN_sub n q x h)
theorem popN_real : ∀ (n : Nat) (q : List Str), (∀ x ∈ (popN n q).1, x ≠ Str.ofString "") → q = (popN n q).1 ++ (popN n q).2
 | 0, q, _ => by simp [popN]
 | n + 1, [], h => absurd rfl (h _ (by simp [popN]))
 | n + 1, x :: q, h => by
  simp only [popN, List.cons_append]
  rw [← popN_real n q fun y hy => h y (by simp [popN, hy])]
noncomputable abbrev Ar := (Nat × Nat) × Int
noncomputable def wrd (z : Ar) : Str := two z.1.1 z.1.2
noncomputable def dueF (rk : List Ar) (d : Int) (p : Str) : List Str := (rk.filter fun z => z.2 = d ∧ one z.1.2 = p).map wrd
noncomputable def pushF (rk : List Ar) (d : Int) (p : Str) : List Str := (rk.filter fun z => z.2 = d ∧ one z.1.1 = p).map wrd
noncomputable def okAt (rk : List Ar) (d : Int) (p : Str) (q : List Str) : Bool := decide (uldF (dueF rk d p).reverse (popN (dueF rk d p).length q).1 [] = ([], []))
noncomputable def nextQ (rk : List Ar) (p : Str) (qs : Nat → List Str) : Nat → List Str := fun d => (popN (dueF rk d p).length (qs d)).2 ++ pushF rk d p
noncomputable def worksF (rk : List Ar) (m : Nat) : List Str → (Nat → List Str) → Bool
 | [], _ => true
 | p :: row, qs => ((List.range m).all fun d => okAt rk d p (qs d)) && worksF rk m row (nextQ rk p qs)
end
section
noncomputable def stA (row : List Str) (z : Ar) : Nat := row.idxOf (one z.1.1)
noncomputable def enA (row : List Str) (z : Ar) : Nat := row.idxOf (one z.1.2)
noncomputable def lineZ (rk : List Ar) (d : Int) : List Ar := rk.filter fun z => z.2 = d
noncomputable def pushA (row : List Str) (Z : List Ar) : Nat → List Ar
 | 0 => []
 | i + 1 => pushA row Z i ++ Z.filter fun z => stA row z = i
theorem filter_lt_succ (f : Ar → Nat) (i : Nat) : ∀ Z : List Ar, ((Z.filter fun z => f z < i) ++ (Z.filter fun z => f z = i)).Perm (Z.filter fun z => f z < i + 1)
 | [] => by simp
 | z :: Z => by
  have ih := filter_lt_succ f i Z
  by_cases h1 : f z < i
  ·have h2 : ¬ f z = i := by lia
   have h3 : f z < i + 1 := by lia
   simp only [List.filter_cons, h1, h2, h3, decide_true, decide_false, if_true, Bool.false_eq_true, if_false]
   exact ih.cons z
  ·by_cases h2 : f z = i
   ·have h3 : f z < i + 1 := by lia
    simp only [List.filter_cons, h1, h2, decide_true, decide_false, if_true, Bool.false_eq_true, if_false, Nat.lt_irrefl, Nat.lt_succ_self]
    exact List.perm_middle.trans (ih.cons z)
   ·have h3 : ¬ f z < i + 1 := by lia
    simp only [List.filter_cons, h1, h2, h3, decide_false, Bool.false_eq_true, if_false]
    exact ih
theorem pushA_perm (row : List Str) (Z : List Ar) : ∀ i, (pushA row Z i).Perm (Z.filter fun z => stA row z < i)
 | 0 => by simp [pushA]
 | i + 1 => ((pushA_perm row Z i).append_right _).trans (filter_lt_succ (stA row) i Z)
theorem pushA_mem {row : List Str} {Z : List Ar} {i : Nat} {z : Ar} : z ∈ pushA row Z i ↔ z ∈ Z ∧ stA row z < i := by
 rw [(pushA_perm row Z i).mem_iff, List.mem_filter]; simp
theorem pushA_pre (row : List Str) (Z : List Ar) {i : Nat} : ∀ {j : Nat}, i ≤ j → ∃ r, pushA row Z j = pushA row Z i ++ r
 | 0, h => by
  have : i = 0 := by lia
  subst this
  exact ⟨[], by simp⟩
 | j + 1, h => by
  by_cases e : i = j + 1
  ·subst e; exact ⟨[], by simp⟩
  ·obtain ⟨r, hr⟩ := pushA_pre row Z (i := i) (j := j) (by lia)
   exact ⟨r ++ Z.filter fun z => stA row z = j, by rw [pushA, hr, List.append_assoc]⟩
theorem sorted_split (f : Ar → Nat) (i : Nat) : ∀ {l : List Ar}, l.Pairwise (fun a b => f a ≤ f b) → (l.filter fun z => i ≤ f z) = (l.filter fun z => f z = i) ++ (l.filter fun z => i < f z)
 | [], _ => by simp
 | z :: l, h => by
  rw [List.pairwise_cons] at h
  have ih := sorted_split f i h.2
  by_cases h1 : f z = i
  ·have h2 : ¬ i < f z := by lia
   have h3 : i ≤ f z := by lia
   rw [List.filter_cons_of_pos (by simpa using h3), List.filter_cons_of_pos (by simpa using h1), List.filter_cons_of_neg (by simpa using h2), ih]; rfl
  ·by_cases h2 : i < f z
   ·have h3 : i ≤ f z := by lia
    rw [List.filter_cons_of_pos (by simpa using h3), List.filter_cons_of_neg (by simpa using h1), List.filter_cons_of_pos (by simpa using h2)]
    have e1 : l.filter (fun z => f z = i) = [] := List.filter_eq_nil_iff.mpr fun y hy => by have := h.1 y hy; simp; lia
    rw [ih, e1]; rfl
   ·have h3 : ¬ i ≤ f z := by lia
    rw [List.filter_cons_of_neg (by simpa using h3), List.filter_cons_of_neg (by simpa using h1), List.filter_cons_of_neg (by simpa using h2), ih]
theorem two_ne (c d : Nat) : two c d ≠ Str.ofString "" := fun e => by
 have := congrArg (fun x : Str => x.cps.size) e
 revert this
 show (2 : Nat) = (Str.ofString "").cps.size → False
 decide +kernel
noncomputable def unwrd (d : Int) (s : Str) : Ar := ((s.cps.getD 0 0, s.cps.getD 1 0), d)
theorem unwrd_wrd {z : Ar} {d : Int} (h : z.2 = d) : unwrd d (wrd z) = z := by obtain ⟨⟨a, b⟩, e⟩ := z; subst h; rfl
theorem map_unwrd {d : Int} : ∀ {l : List Ar}, (∀ z ∈ l, z.2 = d) → (l.map wrd).map (unwrd d) = l
 | [], _ => rfl
 | z :: l, h => by rw [List.map_cons, List.map_cons, unwrd_wrd (h z List.mem_cons_self), map_unwrd fun y hy => h y (List.mem_cons_of_mem _ hy)]
theorem pw_mem {α : Type} {R : α → α → Prop} : ∀ {l : List α} {a b : α}, l.Pairwise R → a ∈ l → b ∈ l → R a b ∨ R b a ∨ a = b
 | [], _, _, _, h, _ => by simp at h
 | x :: l, a, b, hp, ha, hb => by
  rw [List.pairwise_cons] at hp
  rcases List.mem_cons.mp ha with ha | ha <;> rcases List.mem_cons.mp hb with hb | hb
  ·exact .inr (.inr (ha.trans hb.symm))
  ·exact .inl (ha ▸ hp.1 b hb)
  ·exact .inr (.inl (hb ▸ hp.1 a ha))
  ·exact pw_mem hp.2 ha hb
section
variable {row : List Str} {rk : List Ar}
theorem idx_eq (hn : row.Nodup) {i : Nat} {p x : Str} (hp : row[i]? = some p) (hx : x ∈ row) : row.idxOf x = i ↔ x = p := by
 have hi := (List.getElem?_eq_some_iff.mp hp).1
 constructor
 ·intro e
  have h1 : row[row.idxOf x]? = some x := by
   rw [List.getElem?_eq_getElem (List.idxOf_lt_length_of_mem hx), List.getElem_idxOf]
  rw [e, hp] at h1; cases h1; rfl
 ·intro e
  subst e
  have h1 : row[row.idxOf x]? = some x := by
   rw [List.getElem?_eq_getElem (List.idxOf_lt_length_of_mem hx), List.getElem_idxOf]
  exact (List.getElem?_inj (List.idxOf_lt_length_of_mem hx) hn).mp (h1.trans hp.symm)
structure RowOk (row : List Str) (rk : List Ar) : Prop where
 nd : row.Nodup
 m1 : ∀ z ∈ rk, one z.1.1 ∈ row
 m2 : ∀ z ∈ rk, one z.1.2 ∈ row
 lt : ∀ z ∈ rk, stA row z < enA row z
 so : rk.Pairwise fun a b => enA row a ≤ enA row b
theorem due_eq (h : RowOk row rk) {i : Nat} {p : Str} (hp : row[i]? = some p) (d : Int) : dueF rk d p = ((lineZ rk d).filter fun z => enA row z = i).map wrd := by
 unfold dueF lineZ
 rw [List.filter_filter]
 congr 1
 apply List.filter_congr
 intro z hz
 have := idx_eq h.nd hp (h.m2 z hz)
 have e : decide (enA row z = i) = decide (one z.1.2 = p) := decide_eq_decide.mpr this
 rw [e]
 by_cases h1 : z.2 = d <;> by_cases h2 : one z.1.2 = p <;> simp [h1, h2]
theorem push_eq (h : RowOk row rk) {i : Nat} {p : Str} (hp : row[i]? = some p) (d : Int) : pushF rk d p = ((lineZ rk d).filter fun z => stA row z = i).map wrd := by
 unfold pushF lineZ
 rw [List.filter_filter]
 congr 1
 apply List.filter_congr
 intro z hz
 have := idx_eq h.nd hp (h.m1 z hz)
 have e : decide (stA row z = i) = decide (one z.1.1 = p) := decide_eq_decide.mpr this
 rw [e]
 by_cases h1 : z.2 = d <;> by_cases h2 : one z.1.1 = p <;> simp [h1, h2]
theorem drop_cons {i : Nat} (hi : i < row.length) : row.drop i = row[i] :: row.drop (i + 1) := List.drop_eq_getElem_cons hi
theorem works_sorted (h : RowOk row rk) {m : Nat} {d : Nat} (hd : d < m) : ∀ (k i : Nat) (qs : Nat → List Str) (T Q : List Ar), i + k = row.length → worksF rk m (row.drop i) qs = true → qs d = Q.map wrd →
  pushA row (lineZ rk d) i = T ++ Q → T.Perm ((lineZ rk d).filter fun z => enA row z < i) → T.Pairwise (fun a b => enA row a ≤ enA row b) → (pushA row (lineZ rk d) row.length).Pairwise (fun a b => enA row a ≤ enA row b) := by
 have hz : ∀ z ∈ lineZ rk d, z ∈ rk ∧ z.2 = d := fun z hz => by unfold lineZ at hz; rw [List.mem_filter] at hz; exact ⟨hz.1, of_decide_eq_true hz.2⟩
 intro k
 induction k with
 | zero =>
  intro i qs T Q hik _ _ hp hT hs
  have : i = row.length := by lia
  subst this
  have e1 : (lineZ rk d).filter (fun z => enA row z < row.length) = lineZ rk d := List.filter_eq_self.mpr fun z hz' => decide_eq_true (List.idxOf_lt_length_of_mem (h.m2 z (hz z hz').1))
  have e2 : (lineZ rk d).filter (fun z => stA row z < row.length) = lineZ rk d := List.filter_eq_self.mpr fun z hz' => decide_eq_true (List.idxOf_lt_length_of_mem (h.m1 z (hz z hz').1))
  have l1 := (pushA_perm row (lineZ rk d) row.length).length_eq
  have l2 := hT.length_eq
  rw [e2, hp, List.length_append] at l1
  rw [e1] at l2
  have : Q = [] := List.length_eq_zero_iff.mp (by lia)
  subst this
  rw [hp, List.append_nil]; exact hs
 | succ k ih =>
  intro i qs T Q hik hw hq hp hT hs
  have hi : i < row.length := by lia
  rw [drop_cons hi, worksF, Bool.and_eq_true, List.all_eq_true] at hw
  have hpi : row[i]? = some row[i] := by simp [hi]
  have hok := hw.1 d (List.mem_range.mpr hd)
  unfold okAt at hok
  have hperm := uld_ok.mp (of_decide_eq_true hok)
  rw [hq] at hperm
  have hdue := due_eq h hpi (d : Int)
  have hne : ∀ x ∈ (popN (dueF rk d row[i]).length (Q.map wrd)).1, x ≠ Str.ofString "" := fun x hx => by
   have := hperm.subset hx
   rw [hdue] at this
   obtain ⟨z, _, rfl⟩ := List.mem_map.mp this
   exact two_ne _ _
  have hreal := popN_real _ _ hne
  obtain ⟨C, Q', hCQ, hC, hQ'⟩ := List.map_eq_append_iff.mp hreal
  subst hCQ
  have hmem : ∀ z ∈ T ++ (C ++ Q'), z ∈ lineZ rk d ∧ stA row z < i := fun z hz' => by rw [← hp] at hz'; exact pushA_mem.mp hz'
  have hCd : ∀ z ∈ C, z.2 = d := fun z hz' => (hz z (hmem z (by simp [hz'])).1).2
  have hCp : C.Perm ((lineZ rk d).filter fun z => enA row z = i) := by
   have h1 := (hC ▸ hperm).map (unwrd d)
   rw [map_unwrd hCd, hdue, map_unwrd fun z hz' => (hz z (List.mem_filter.mp hz').1).2] at h1
   exact h1
  have hpush := push_eq h hpi (d : Int)
  refine ih (i + 1) (nextQ rk row[i] qs) (T ++ C) (Q' ++ (lineZ rk d).filter fun z => stA row z = i) (by lia) hw.2 ?_ ?_ ?_ ?_
  ·unfold nextQ
   rw [hq, ← hQ', hpush, List.map_append]
  ·rw [pushA, hp]; simp
  ·exact (hT.append hCp).trans (filter_lt_succ (enA row) i _)
  ·rw [List.pairwise_append]
   refine ⟨hs, ?_, fun a ha b hb => ?_⟩
   ·rw [List.pairwise_iff_getElem]
    intro x y hx hy _
    have h1 := hCp.subset (List.getElem_mem hx)
    have h2 := hCp.subset (List.getElem_mem hy)
    rw [List.mem_filter] at h1 h2
    have := of_decide_eq_true h1.2
    have := of_decide_eq_true h2.2
    lia
   ·have h1 := hT.subset ha
    have h2 := hCp.subset hb
    rw [List.mem_filter] at h1 h2
    have := of_decide_eq_true h1.2
    have := of_decide_eq_true h2.2
    lia
theorem sorted_works (h : RowOk row rk) {m : Nat} (hs : ∀ d < m, (pushA row (lineZ rk d) row.length).Pairwise (fun a b => enA row a ≤ enA row b)) : ∀ (k i : Nat) (qs : Nat → List Str), i + k = row.length →
  (∀ d < m, qs d = ((pushA row (lineZ rk d) i).filter fun z => i ≤ enA row z).map wrd) → worksF rk m (row.drop i) qs = true := by
 intro k
 induction k with
 | zero =>
  intro i qs hik _
  have : i = row.length := by lia
  subst this
  rw [List.drop_length]; rfl
 | succ k ih =>
  intro i qs hik hq
  have hi : i < row.length := by lia
  have hpi : row[i]? = some row[i] := by simp [hi]
  rw [drop_cons hi, worksF, Bool.and_eq_true, List.all_eq_true]
  have key : ∀ d < m, popN (dueF rk d row[i]).length (qs d) = (((pushA row (lineZ rk d) i).filter fun z => enA row z = i).map wrd, ((pushA row (lineZ rk d) i).filter fun z => i < enA row z).map wrd) ∧
    (((pushA row (lineZ rk d) i).filter fun z => enA row z = i).map wrd).Perm (dueF rk d row[i]) := fun d hd => by
   have hz : ∀ z ∈ lineZ rk d, z ∈ rk := fun z hz => (List.mem_filter.mp hz).1
   obtain ⟨r, hr⟩ := pushA_pre row (lineZ rk d) (i := i) (j := row.length) (by lia)
   have hpw := hs d hd
   rw [hr] at hpw
   have hsp := sorted_split (enA row) i (List.pairwise_append.mp hpw).1
   have hperm : (((pushA row (lineZ rk d) i).filter fun z => enA row z = i).map wrd).Perm (dueF rk d row[i]) := by
    rw [due_eq h hpi]
    refine List.Perm.map _ ?_
    refine ((pushA_perm row (lineZ rk d) i).filter _).trans ?_
    rw [List.filter_filter]
    refine List.Perm.of_eq (List.filter_congr fun z hz' => ?_)
    have := h.lt z (hz z hz')
    by_cases e : enA row z = i
    ·have : stA row z < i := by lia
     simp [e, this]
    ·simp [e]
   refine ⟨?_, hperm⟩
   rw [hq d hd, hsp, List.map_append, ← hperm.length_eq]
   exact popN_app _ _
  refine ⟨fun d hd => ?_, ih (i + 1) _ (by lia) fun d hd => ?_⟩
  ·rw [List.mem_range] at hd
   unfold okAt
   obtain ⟨k1, k2⟩ := key d hd
   rw [k1]
   exact decide_eq_true (uld_ok.mpr k2)
  ·unfold nextQ
   rw [(key d hd).1, push_eq h hpi, pushA, List.filter_append, List.map_append]
   congr 2
   ·have e2 : ((lineZ rk d).filter fun z => stA row z = i).filter (fun z => i + 1 ≤ enA row z) = (lineZ rk d).filter fun z => stA row z = i := List.filter_eq_self.mpr fun z hz' => by
     rw [List.mem_filter] at hz'
     have := h.lt z ((List.mem_filter.mp hz'.1).1)
     have := of_decide_eq_true hz'.2
     simp; lia
    rw [e2]
theorem sorted_iff (h : RowOk row rk) (d : Int) : (pushA row (lineZ rk d) row.length).Pairwise (fun a b => enA row a ≤ enA row b) ↔ ∀ a ∈ rk, ∀ b ∈ rk, a.2 = d → b.2 = d → stA row a < stA row b → ¬ enA row b < enA row a := by
 have hz : ∀ z, z ∈ lineZ rk d ↔ z ∈ rk ∧ z.2 = d := fun z => by unfold lineZ; rw [List.mem_filter]; simp
 have hall : ∀ z ∈ rk, z.2 = d → z ∈ pushA row (lineZ rk d) row.length := fun z hz1 hz2 => pushA_mem.mpr ⟨(hz z).mpr ⟨hz1, hz2⟩, List.idxOf_lt_length_of_mem (h.m1 z hz1)⟩
 have hst : ∀ i, (pushA row (lineZ rk d) i).Pairwise (fun a b => stA row a ≤ stA row b) := fun i => by
  induction i with
  | zero => simp [pushA]
  | succ i ih =>
   rw [pushA, List.pairwise_append]
   refine ⟨ih, ?_, fun a ha b hb => ?_⟩
   ·rw [List.pairwise_iff_getElem]
    intro x y hx hy _
    have h1 := List.getElem_mem hx
    have h2 := List.getElem_mem hy
    rw [List.mem_filter] at h1 h2
    have := of_decide_eq_true h1.2
    have := of_decide_eq_true h2.2
    lia
   ·have := (pushA_mem.mp ha).2
    rw [List.mem_filter] at hb
    have := of_decide_eq_true hb.2
    lia
 constructor
 ·intro hp a ha b hb ha2 hb2 hlt hgt
  have hboth : (pushA row (lineZ rk d) row.length).Pairwise (fun a b => stA row a ≤ stA row b ∧ enA row a ≤ enA row b) := (hst _).and hp
  rcases pw_mem hboth (hall a ha ha2) (hall b hb hb2) with q | q | q
  ·lia
  ·lia
  ·subst q; lia
 ·intro hap
  have : ∀ i, (pushA row (lineZ rk d) i).Pairwise (fun a b => enA row a ≤ enA row b) := fun i => by
   induction i with
   | zero => simp [pushA]
   | succ i ih =>
    rw [pushA, List.pairwise_append]
    refine ⟨ih, ?_, fun a ha b hb => ?_⟩
    ·exact ((h.so.sublist List.filter_sublist).sublist List.filter_sublist)
    ·obtain ⟨ha1, ha2⟩ := pushA_mem.mp ha
     rw [List.mem_filter] at hb
     have hb2 := of_decide_eq_true hb.2
     have := hap a ((hz a).mp ha1).1 b ((hz b).mp hb.1).1 ((hz a).mp ha1).2 ((hz b).mp hb.1).2 (by lia)
     lia
  exact this _
end
end
section
theorem works_iff {row : List Str} {rk : List Ar} (h : RowOk row rk) (m : Nat) : worksF rk m row (fun _ => []) = true ↔ ∀ d : Nat, d < m → ∀ a ∈ rk, ∀ b ∈ rk, a.2 = d → b.2 = d → stA row a < stA row b → ¬ enA row b < enA row a := by
 constructor
 ·intro hw d hd
  refine (sorted_iff h d).mp ?_
  exact works_sorted h hd row.length 0 (fun _ => []) [] [] (by lia) hw rfl rfl (by simp) .nil
 ·intro hap
  have := sorted_works h (m := m) (fun d hd => (sorted_iff h d).mpr (hap d hd)) row.length 0 (fun _ => []) (by lia) (fun d hd => rfl)
  simpa using this
theorem works_apart {row : List Str} {rk : List Ar} {ws : List (Nat × Nat)} {ds : List Int} {m : Nat} (h : RowOk row rk) (hp : rk.Perm (ws.zip ds)) (hl : ds.length = ws.length) (hm : ∀ d ∈ ds, 0 ≤ d ∧ d < m) :
  worksF rk m row (fun _ => []) = true ↔ ApartTo (spansOf (fun c => (row.idxOf (one c) : Int)) ws) ds (spansOf (fun c => (row.idxOf (one c) : Int)) ws).length 0 := by
 have hsl : (spansOf (fun c => (row.idxOf (one c) : Int)) ws).length = ws.length := by unfold spansOf; rw [List.length_map]
 rw [works_iff h]
 constructor
 ·intro hap k j p q dk dj hkj hp' hq' hdk hdj he h1 h2
  have hk : k < ws.length := by rw [← hsl]; exact (List.getElem?_eq_some_iff.mp hp').1
  have hj : j < ws.length := by rw [← hsl]; exact (List.getElem?_eq_some_iff.mp hq').1
  unfold spansOf at hp' hq'
  rw [List.getElem?_map] at hp' hq'
  obtain ⟨wk, hwk, rfl⟩ := Option.map_eq_some_iff.mp hp'
  obtain ⟨wj, hwj, rfl⟩ := Option.map_eq_some_iff.mp hq'
  have mk : (wk, dk) ∈ rk := hp.symm.subset (List.mem_of_getElem? (i := k) (by rw [List.getElem?_zip_eq_some]; exact ⟨hwk, hdk⟩))
  have mj : (wj, dj) ∈ rk := hp.symm.subset (List.mem_of_getElem? (i := j) (by rw [List.getElem?_zip_eq_some]; exact ⟨hwj, hdj⟩))
  obtain ⟨d0, d1⟩ := hm dk (List.mem_of_getElem? hdk)
  refine hap dk.toNat (by lia) _ mk _ mj (by show dk = _; lia) (by show dj = _; lia) ?_ ?_
  ·show row.idxOf (one wk.1) < row.idxOf (one wj.1)
   simp only at h1; lia
  ·show row.idxOf (one wj.2) < row.idxOf (one wk.2)
   simp only at h2; lia
 ·intro hap d hd a ha b hb ha2 hb2 h1 h2
  obtain ⟨k, hk⟩ := List.getElem?_of_mem (hp.subset ha)
  obtain ⟨j, hj⟩ := List.getElem?_of_mem (hp.subset hb)
  rw [List.getElem?_zip_eq_some] at hk hj
  have hkl : k < ws.length := (List.getElem?_eq_some_iff.mp hk.1).1
  refine hap k j ((row.idxOf (one a.1.1) : Int), (row.idxOf (one a.1.2) : Int)) ((row.idxOf (one b.1.1) : Int), (row.idxOf (one b.1.2) : Int)) a.2 b.2 (.inl (by lia)) (by unfold spansOf; rw [List.getElem?_map, hk.1]; rfl) (by unfold spansOf; rw [List.getElem?_map, hj.1]; rfl) hk.2 hj.2 (by rw [ha2, hb2]) ?_ ?_
  ·show (row.idxOf (one a.1.1) : Int) < (row.idxOf (one b.1.1) : Int)
   have : row.idxOf (one a.1.1) < row.idxOf (one b.1.1) := h1
   lia
  ·show (row.idxOf (one b.1.2) : Int) < (row.idxOf (one a.1.2) : Int)
   have : row.idxOf (one b.1.2) < row.idxOf (one a.1.2) := h2
   lia
theorem IsDepth.apart {sp : List (Int × Int)} {rs : List Int} (h : IsDepth sp rs) : ApartTo sp rs sp.length 0 := by
 intro k j p q dk dj _ hp hq hdk hdj he h1 h2
 have := h.lt k j p q dk dj hp hq (innB_iff.mpr ⟨h1, h2⟩) hdk hdj
 lia
theorem IsDepth.chain {sp : List (Int × Int)} {rs : List Int} (h : IsDepth sp rs) : ∀ (m : Nat) (k : Nat) (p : Int × Int), sp[k]? = some p → rs[k]? = some (m : Int) →
  ∃ ks : List Nat, ks.length = m + 1 ∧ ks.head? = some k ∧ (∀ x ∈ ks, x < sp.length) ∧ ks.Pairwise (fun a b => ∀ p q, sp[a]? = some p → sp[b]? = some q → innB p q = true)
 | 0, k, p, hp, _ => ⟨[k], rfl, rfl, by simpa using (List.getElem?_eq_some_iff.mp hp).1, by simp⟩
 | m + 1, k, p, hp, hr => by
  rcases h.ex k p _ hp hr with h0 | ⟨j, q, t, hq, hi, ht, e⟩
  ·lia
  ·have et : t = (m : Int) := by lia
   subst et
   obtain ⟨ks, h1, h2, h3, h4⟩ := IsDepth.chain h m j q hq ht
   refine ⟨k :: ks, by simp [h1], rfl, fun x hx => ?_, ?_⟩
   ·rcases List.mem_cons.mp hx with rfl | hx
    ·exact (List.getElem?_eq_some_iff.mp hp).1
    ·exact h3 x hx
   ·rw [List.pairwise_cons]
    refine ⟨fun b hb p' q' hp' hq' => ?_, h4⟩
    rw [hp] at hp'; cases hp'
    cases ks with
    | nil => simp at h1
    | cons x ks =>
     simp at h2
     subst h2
     rcases List.mem_cons.mp hb with rfl | hb
     ·rw [hq] at hq'; cases hq'; exact hi
     ·rw [List.pairwise_cons] at h4
      have := h4.1 b hb q q' hq hq'
      rw [innB_iff] at this hi ⊢
      lia
theorem pigeon {f : Nat → Int} {m : Nat} : ∀ {ks : List Nat}, ks.length = m + 1 → (∀ x ∈ ks, 0 ≤ f x ∧ f x < m) → ¬ ks.Pairwise (fun a b => f a ≠ f b) := by
 intro ks hl hf hp
 have h1 : (ks.map f).Nodup := by rw [List.nodup_iff_pairwise_ne, List.pairwise_map]; exact hp
 have h2 := nodup_len h1 (m := (List.range m).map fun i : Nat => (i : Int)) (fun x hx => by
  obtain ⟨y, hy, rfl⟩ := List.mem_map.mp hx
  have := hf y hy
  exact List.mem_map.mpr ⟨(f y).toNat, List.mem_range.mpr (by lia), by lia⟩)
 simp only [List.length_map, List.length_range] at h2
 lia
theorem IsDepth.meet {sp : List (Int × Int)} {rs ds : List Int} {m : Nat} (h : IsDepth sp rs) (hm : 0 < m) (hmax : (m : Int) ∈ rs) (hl : ds.length = sp.length) (hd : ∀ d ∈ ds, 0 ≤ d ∧ d < m) : ¬ ApartTo sp ds sp.length 0 := by
 intro hap
 obtain ⟨k, hk⟩ := List.getElem?_of_mem hmax
 have hkl : k < sp.length := by rw [← h.len]; exact (List.getElem?_eq_some_iff.mp hk).1
 obtain ⟨ks, h1, h2, h3, h4⟩ := h.chain m k sp[k] (by simp [hkl]) hk
 refine pigeon (f := fun x => ds.getD x 0) h1 (fun x hx => ?_) ?_
 ·have hx' : x < ds.length := by rw [hl]; exact h3 x hx
  rw [List.getD_eq_getElem?_getD, List.getElem?_eq_getElem hx']
  exact hd _ (List.getElem_mem hx')
 ·rw [List.pairwise_iff_getElem] at h4 ⊢
  intro i j hi hj hij he
  have a1 := h3 _ (List.getElem_mem hi)
  have a2 := h3 _ (List.getElem_mem hj)
  have := h4 i j hi hj hij sp[ks[i]] sp[ks[j]] (by simp [a1]) (by simp [a2])
  rw [innB_iff] at this
  have b1 : ks[i] < ds.length := by rw [hl]; exact a1
  have b2 : ks[j] < ds.length := by rw [hl]; exact a2
  simp only [List.getD_eq_getElem?_getD, List.getElem?_eq_getElem b1, List.getElem?_eq_getElem b2, Option.getD_some] at he
  exact hap ks[i] ks[j] sp[ks[i]] sp[ks[j]] ds[ks[i]] ds[ks[j]] (.inl a1) (by simp [a1]) (by simp [a2]) (by simp [b1]) (by simp [b2]) he.symm this.1 this.2
theorem IsDepth.zero {sp : List (Int × Int)} {rs ds : List Int} (h : IsDepth sp rs) (hz : ∀ r ∈ rs, r ≤ 0) : ApartTo sp ds sp.length 0 := by
 intro k j p q dk dj _ hp hq _ _ _ h1 h2
 have hk : k < rs.length := by rw [h.len]; exact (List.getElem?_eq_some_iff.mp hp).1
 have hj : j < rs.length := by rw [h.len]; exact (List.getElem?_eq_some_iff.mp hq).1
 have := h.lt k j p q rs[k] rs[j] hp hq (innB_iff.mpr ⟨h1, h2⟩) (by simp [hk]) (by simp [hj])
 have := hz _ (List.getElem_mem hk)
 have := h.pos j rs[j] (by simp [hj])
 lia
end
section
theorem popN_succ : ∀ (n : Nat) (q : List Str), popN (n + 1) q = ((popN n q).1 ++ [(popN n q).2.head?.getD (Str.ofString "")], (popN n q).2.tail)
 | 0, [] => rfl
 | 0, x :: q => rfl
 | n + 1, [] => by
  have ih := popN_succ n []
  have e : (popN n []).2 = [] := by cases n <;> rfl
  show (Str.ofString "" :: (popN (n + 1) []).1, ([] : List Str)) = ((Str.ofString "" :: (popN n []).1) ++ [Str.ofString ""], [])
  rw [ih, e]; rfl
 | n + 1, x :: q => by
  have ih := popN_succ n q
  show (x :: (popN (n + 1) q).1, (popN (n + 1) q).2) = ((x :: (popN n q).1) ++ [(popN n q).2.head?.getD (Str.ofString "")], (popN n q).2.tail)
  rw [ih]; rfl
theorem dueF_take {rk : List Ar} {j : Nat} {z : Ar} (h : rk[j]? = some z) (d : Int) (p : Str) : dueF (rk.take (j + 1)) d p = dueF (rk.take j) d p ++ if z.2 = d ∧ one z.1.2 = p then [wrd z] else [] := by
 unfold dueF
 rw [List.take_add_one, h, Option.toList_some, List.filter_append, List.map_append]
 by_cases e : z.2 = d ∧ one z.1.2 = p <;> simp [List.filter_cons, e]
theorem pushF_take {rk : List Ar} {j : Nat} {z : Ar} (h : rk[j]? = some z) (d : Int) (p : Str) : pushF (rk.take (j + 1)) d p = pushF (rk.take j) d p ++ if z.2 = d ∧ one z.1.1 = p then [wrd z] else [] := by
 unfold pushF
 rw [List.take_add_one, h, Option.toList_some, List.filter_append, List.map_append]
 by_cases e : z.2 = d ∧ one z.1.1 = p <;> simp [List.filter_cons, e]
theorem dueF_len (rk : List Ar) (d : Int) (p : Str) : (dueF rk d p).length ≤ rk.length := by unfold dueF; rw [List.length_map]; exact List.length_filter_le ..
theorem pushF_len (rk : List Ar) (d : Int) (p : Str) : (pushF rk d p).length ≤ rk.length := by unfold pushF; rw [List.length_map]; exact List.length_filter_le ..
theorem popN_le : ∀ (n : Nat) (q : List Str), (popN n q).2.length ≤ q.length
 | 0, _ => Nat.le_refl _
 | n + 1, [] => by simp [popN]
 | n + 1, x :: q => by have := popN_le n q; simp [popN]; lia
noncomputable def linesQ (c' : Addr) : List Lx → (Nat → List Str) → Nat → List (Addr × O)
 | [], _, _ => []
 | a :: r, qs, k => lexL a c' [] (qs k) ++ linesQ c' r qs (k + 1)
theorem linesQ_congr (c' : Addr) {qs qs' : Nat → List Str} : ∀ (l : List Lx) (k : Nat), (∀ j, k ≤ j → j < k + l.length → qs' j = qs j) → linesQ c' l qs' k = linesQ c' l qs k
 | [], _, _ => rfl
 | a :: r, k, h => by
  rw [linesQ, linesQ, h k (Nat.le_refl _) (by simp), linesQ_congr c' r (k + 1) fun j h1 h2 => h j (by lia) (by simp; lia)]
theorem linesQ_pull (c' : Addr) (qs : Nat → List Str) : ∀ (l : List Lx) (k i : Nat) (a : Lx), l[i]? = some a → ∃ rest, ∀ qs' : Nat → List Str, (∀ j, j ≠ k + i → qs' j = qs j) → (linesQ c' l qs' k).Perm (lexL a c' [] (qs' (k + i)) ++ rest)
 | [], _, _, _, h => by simp at h
 | b :: r, k, 0, a, h => by
  simp at h; subst h
  refine ⟨linesQ c' r qs (k + 1), fun qs' hq => ?_⟩
  rw [linesQ, linesQ_congr c' r (k + 1) fun j h1 h2 => hq j (by lia)]
  exact .refl _
 | b :: r, k, i + 1, a, h => by
  rw [List.getElem?_cons_succ] at h
  obtain ⟨rest, hr⟩ := linesQ_pull c' qs r (k + 1) i a h
  refine ⟨lexL b c' [] (qs k) ++ rest, fun qs' hq => ?_⟩
  have := hr qs' (fun j hj => hq j (by lia))
  rw [show k + 1 + i = k + (i + 1) by lia] at this
  rw [linesQ, hq k (by lia)]
  exact (this.append_left _).trans (List.perm_append_comm_assoc ..)
noncomputable def qsAt (rk : List Ar) (p : Str) (qs : Nat → List Str) (k : Nat) : Nat → List Str := fun d => if d < k then (popN (dueF rk d p).length (qs d)).2 else qs d
noncomputable def qsTo (rk : List Ar) (p : Str) (qs : Nat → List Str) (j : Nat) : Nat → List Str := fun d => (popN (dueF rk d p).length (qs d)).2 ++ pushF (rk.take j) d p
theorem okS_two {c d : Nat} (hc : c ∈ alpha) (hd : d ∈ alpha) : okS (two c d) := by
 have : ∀ c ∈ alpha, ∀ d ∈ alpha, PyData.strOk (two c d) = true := by decide +kernel
 exact this c hc d hd
theorem okS_nil : okS (Str.ofString "") := by unfold okS; decide +kernel
theorem mem_dueF {rk : List Ar} {d : Int} {p x : Str} (h : x ∈ dueF rk d p) : ∃ z ∈ rk, x = wrd z := by
 unfold dueF at h; obtain ⟨z, hz, rfl⟩ := List.mem_map.mp h; exact ⟨z, (List.mem_filter.mp hz).1, rfl⟩
theorem mem_pushF {rk : List Ar} {d : Int} {p x : Str} (h : x ∈ pushF rk d p) : ∃ z ∈ rk, x = wrd z := by
 unfold pushF at h; obtain ⟨z, hz, rfl⟩ := List.mem_map.mp h; exact ⟨z, (List.mem_filter.mp hz).1, rfl⟩
theorem uldF_sub : ∀ (r act mis : List Str), (∀ x ∈ (uldF r act mis).1, x ∈ r ∨ x ∈ mis) ∧ (∀ x ∈ (uldF r act mis).2, x ∈ act) ∧ (uldF r act mis).1.length ≤ r.length + mis.length ∧ (uldF r act mis).2.length ≤ act.length
 | [], act, mis => by simp [uldF]
 | x :: r, act, mis => by
  rw [uldF]
  split
  ·obtain ⟨h1, h2, h3, h4⟩ := uldF_sub r (act.erase x) mis
   refine ⟨fun y hy => ?_, fun y hy => List.mem_of_mem_erase (h2 y hy), by simp; lia, Nat.le_trans h4 List.length_erase_le⟩
   rcases h1 y hy with h | h
   ·exact .inl (List.mem_cons_of_mem _ h)
   ·exact .inr h
  ·obtain ⟨h1, h2, h3, h4⟩ := uldF_sub r act (mis ++ [x])
   refine ⟨fun y hy => ?_, h2, by simp at h3 ⊢; lia, h4⟩
   rcases h1 y hy with h | h
   ·exact .inl (List.mem_cons_of_mem _ h)
   ·rcases List.mem_append.mp h with h | h
    ·exact .inr h
    ·simp at h; exact .inl (by simp [h])
end
section
noncomputable def lamOf : List Stmt → Option Pos
 | [] => none
 | .Assign _ (.Call _ _ [⟨_, .Lambda _ _ _ p, _⟩] _) _ :: _ => some p
 | _ :: r => lamOf r
noncomputable def wrkObj : {o : Obj // ∀ P, (KF P).lookup 245 = some o} := ⟨_, fun _ => rfl⟩
noncomputable def lamPos : {p : Pos // lamOf (stmtsOf wrkObj.1) = some p} := ⟨_, rfl⟩
noncomputable def lamQ : Str := "_law_works.<locals>.<lambda>"
noncomputable def linesL (c' : Addr) (lq : List (Lx × List Str)) : List (Addr × O) := lq.flatMap fun p => lexL p.1 c' [] p.2
theorem linesL_snoc (c' : Addr) (lq : List (Lx × List Str)) (p : Lx × List Str) : linesL c' (lq ++ [p]) = linesL c' lq ++ lexL p.1 c' [] p.2 := by simp [linesL]
theorem linesL_Q (c' : Addr) : ∀ (lq : List (Lx × List Str)) (k : Nat), (∀ p ∈ lq, p.2 = []) → linesL c' lq = linesQ c' (lq.map (·.1)) (fun _ => []) k
 | [], _, _ => rfl
 | p :: r, k, h => by
  have ih := linesL_Q c' r (k + 1) fun q hq => h q (List.mem_cons_of_mem _ hq)
  show lexL p.1 c' [] p.2 ++ linesL c' r = _
  rw [ih, h p List.mem_cons_self]; rfl
theorem perm6 {α : Type} (a b c1 c2 c3 c4 c5 : α) (X T Q Y : List α) : (a :: (X ++ (T ++ ((b :: (Q ++ [c1, c2, c3, c4, c5])) ++ Y)))).Perm (c1 :: c2 :: c3 :: c4 :: (Q ++ (a :: (X ++ (b :: c5 :: (T ++ Y)))))) := by
 classical
 rw [List.perm_iff_count]
 intro x
 simp only [List.count_append, List.count_cons, List.count_nil]
 lia
theorem permP {α : Type} (P : List α) {Q X R : List α} (K : List α) (h : Q.Perm (X ++ R)) : (P ++ (Q ++ K)).Perm (X ++ (P ++ (R ++ K))) := by
 refine ((h.append_right K).append_left P).trans ?_
 rw [List.append_assoc]
 exact List.perm_append_comm_assoc ..
theorem perm5 {α : Type} (x : α) (a z m e : List α) : (x :: (a ++ ((z ++ m) ++ e))).Perm (z ++ (x :: (a ++ (m ++ e)))) := by
 have := List.perm_append_comm_assoc (x :: a) z (m ++ e)
 simpa using this
theorem perm4 {α : Type} (a b c d e : List α) : (a ++ (b ++ ((c ++ d) ++ e))).Perm ((c ++ a) ++ (d ++ (b ++ e))) := by
 have h1 : (b ++ ((c ++ d) ++ e)).Perm ((c ++ d) ++ (b ++ e)) := List.perm_append_comm_assoc ..
 refine (h1.append_left a).trans ?_
 rw [List.append_assoc, List.append_assoc]
 exact List.perm_append_comm_assoc ..
section
variable {prog : Program} {w : World} {B : Bs} {fs : List Fm} {L L' M T2 : List (Addr × O)} {s : Shared} {A : Around} {E : Value → Shared → Prop} {n : Nat} {es : List Env}
end
noncomputable section
namespace works_spec_w
def Pw (prog : Program) (w : World) (B : Bs) (fs : List Fm) (L T2 : List (Addr × O)) (s : Shared) (A : Around) (n : Nat) (es : List Env) (wa da ra c0 : Addr) (ws : List (Nat × Nat)) (ds : List Int) (row : List Str) (R : Result → Shared → Prop) : Prop := ∀ (O : OkB B w) (S : St B fs (T2 ++ (tabF 199 pieQ piePos.1 c0 ++ L)) s) (hT2 : T2 = tabE 242 ∨ ∃ c, T2 = tabF 242 lamQ lamPos.1 c) (hA : AOk A (n + 8) es) (hF : FrOk es fs) (hw : (wa, lstR StrV (ws.map fun p => two p.1 p.2)) ∈ L) (hd : (da, lstR IntV ds) ∈ L) (hr : (ra, lstR StrV row) ∈ L) (hl : ds.length = ws.length) (hz : ws.length ≤ 7) (hz0 : 0 < ws.length) (hd0 : ∀ d ∈ ds, 0 ≤ d ∧ d ≤ 100) (hrl : row.length ≤ 6) (hnd : row.Nodup) (hm1 : ∀ p ∈ ws, one p.1 ∈ row) (hm2 : ∀ p ∈ ws, one p.2 ∈ row) (hlt : ∀ p ∈ ws, row.idxOf (one p.1) < row.idxOf (one p.2)) (hal : ∀ p ∈ ws, p.1 ∈ alpha ∧ p.2 ∈ alpha) (hR : ∀ b c2 s', (b = true ↔ ApartTo (spansOf (fun c => (row.idxOf (one c) : Int)) ws) ds (spansOf (fun c => (row.idxOf (one c) : Int)) ws).length 0) → St B fs (tabF 242 lamQ lamPos.1 c2 ++ (tabF 199 pieQ piePos.1 c0 ++ L)) s' → R (.ok (.ret (.bool b))) s'),
  codeAny (model prog w) A (.call (.ref 245) ⟨[.ref wa, .ref da, .ref ra], []⟩) R s
def Hw (x : Program × World × Bs × (List Fm) × (List (Addr × O)) × (List (Addr × O)) × Shared × Around × Nat × (List Env) × Addr × Addr × Addr × Addr × (List (Nat × Nat)) × (List Int) × (List Str) × (Result → Shared → Prop)) : Prop := Pw x.1 x.2.1 x.2.2.1 x.2.2.2.1 x.2.2.2.2.1 x.2.2.2.2.2.1 x.2.2.2.2.2.2.1 x.2.2.2.2.2.2.2.1 x.2.2.2.2.2.2.2.2.1 x.2.2.2.2.2.2.2.2.2.1 x.2.2.2.2.2.2.2.2.2.2.1 x.2.2.2.2.2.2.2.2.2.2.2.1 x.2.2.2.2.2.2.2.2.2.2.2.2.1 x.2.2.2.2.2.2.2.2.2.2.2.2.2.1 x.2.2.2.2.2.2.2.2.2.2.2.2.2.2.1 x.2.2.2.2.2.2.2.2.2.2.2.2.2.2.2.1 x.2.2.2.2.2.2.2.2.2.2.2.2.2.2.2.2.1 x.2.2.2.2.2.2.2.2.2.2.2.2.2.2.2.2.2
@[irreducible] def cw := worst (by repeat (first | refine ne5 ?_ ?_ | exact ne1 | exact ne2 | exact ne3 | exact ne4 | exact inferInstance | exact ne7 | exact ⟨⟨0, 0, 0, 0, 0, 0, 0, 0⟩⟩)) Hw
def prog := cw.1
def w := cw.2.1
def B := cw.2.2.1
def fs := cw.2.2.2.1
def L := cw.2.2.2.2.1
def T2 := cw.2.2.2.2.2.1
def s := cw.2.2.2.2.2.2.1
def A := cw.2.2.2.2.2.2.2.1
def n := cw.2.2.2.2.2.2.2.2.1
def es := cw.2.2.2.2.2.2.2.2.2.1
def wa := cw.2.2.2.2.2.2.2.2.2.2.1
def da := cw.2.2.2.2.2.2.2.2.2.2.2.1
def ra := cw.2.2.2.2.2.2.2.2.2.2.2.2.1
def c0 := cw.2.2.2.2.2.2.2.2.2.2.2.2.2.1
def ws := cw.2.2.2.2.2.2.2.2.2.2.2.2.2.2.1
def ds := cw.2.2.2.2.2.2.2.2.2.2.2.2.2.2.2.1
def row := cw.2.2.2.2.2.2.2.2.2.2.2.2.2.2.2.2.1
def R := cw.2.2.2.2.2.2.2.2.2.2.2.2.2.2.2.2.2
theorem run : Pw prog w B fs L T2 s A n es wa da ra c0 ws ds row R := by
 intro O S hT2 hA hF hw hd hr hl hz hz0 hd0 hrl hnd hm1 hm2 hlt hal hR
 refine call_cq (a := 245) (binds := [(Str.ofString "words", .ref wa), (Str.ofString "dealt", .ref da), (Str.ofString "row", .ref ra)]) ["words", "dealt", "lines", "ranked", "word", "told", "due", "came", "lacking"] [some (.ref wa), some (.ref da), none, none, none, none, none, none, none] ["strange", "number", "place", "line", "row"] (fun y => if y = "row" then some (.ref ra) else none) O.toOk S hA hF (fun _ => rfl) rfl (fun _ => by kernel_rfl) rfl rfl rfl ?_ (by kernel_rfl) (by decide +kernel) (by decide +kernel) ?_ ?_ (by decide +kernel) (by decide +kernel) rfl rfl rfl ?_
 ·intro x hx
  simp only [List.mem_cons, List.not_mem_nil, or_false] at hx
  rcases hx with rfl | rfl | rfl
  ·exact .inl (by kernel_rfl)
  ·exact .inl (by kernel_rfl)
  ·exact .inr (by kernel_rfl)
 ·rw [bindL_loc (by kernel_rfl), bindL_loc (by kernel_rfl), bindL_cel (by kernel_rfl), bindL_nil]
  funext y
  by_cases h1 : y = "words"
  ·subst h1; simp [lookV]; exact fun h => absurd h (by decide +kernel)
  ·by_cases h2 : y = "dealt"
   ·subst h2; simp [lookV, h1]
   ·simp [lookV, h1, h2]
 ·rw [bindC_loc (by kernel_rfl), bindC_loc (by kernel_rfl), bindC_cel (by kernel_rfl), bindC_nil]
 clear S; (try clear LL); (try clear LL); clear hA hF; intro env cs nd kd fn s hE hcs hcn hfr hcode hqual hF S hA E
 dsimp only at hE hcode hqual
 wtm_at "pk"
 obtain ⟨cG, cs1, rfl, hcn1⟩ := cs_cons hcn
 obtain ⟨cN, cs2, rfl, hcn2⟩ := cs_cons hcn1
 obtain ⟨cP, cs3, rfl, hcn3⟩ := cs_cons hcn2
 obtain ⟨cL, cs4, rfl, hcn4⟩ := cs_cons hcn3
 obtain ⟨cR, rfl⟩ := cs_one hcn4
 clear hcn hcn1 hcn2 hcn3 hcn4
 wtm_at "us"
 dsimp only [List.map, List.append, List.cons_append, List.nil_append] at S
 rw [if_neg (by decide +kernel), if_neg (by decide +kernel), if_neg (by decide +kernel), if_neg (by decide +kernel), if_pos rfl] at S
 have OB := O
 replace O := O.toOk
 refine xs_lcS S 2 ["line"] [] hE (closureFor_none (by decide +kernel)) (by decide +kernel) rfl (by decide +kernel) (by decide +kernel) (by decide +kernel) (by rw [swapsW_sc, hE.sc]; with_unfolding_all rfl) rfl (Nat.le_of_ble_eq_true rfl) ?_
 wtm_at "go"
 wtm_at "pk"
 obtain ⟨dv, hdv, hDl⟩ := S.isLR (a := da) (R := IntV) (xs := ds) (by wtm_at "mem")
 refine l_max hA.hand S hDl hdv (by lia) ?_
 clear S; (try clear LL); (try clear LL); clear hDl hdv dv; intro Mx mt s hM1 hM2 S
 wtm_at "go"
 have hMx := hd0 Mx hM1
 refine t_rng1 S ?_
 clear S; intro rg s S
 refine pi_rng (j := 0) (k := Mx + 1) (Mx + 1).toNat (by lia) (by lia) S (S.at (by wtm_at "mem")) ?_
 clear S; intro rit s S
 let bc : List (Addr × Mine.O) := (rg, rngO 0 (Mx + 1)) :: (cG, celO none) :: (cN, celO none) :: (cP, celO none) :: (cL, celO none) :: (cR, celO (some (.ref ra))) :: T2
 refine lc_u (Itr.range _ _ rit 0 (Mx + 1).toNat) hA.hand S (fun i ys L' => ∃ lq : List (Lx × List Str), ys = lq.map (fun p => .ref p.1.lx) ∧ lq.length = i ∧ i ≤ (Mx + 1).toNat ∧ (∀ p ∈ lq, p.2 = []) ∧ linesL c0 lq ++ (bc ++ (tabF 199 pieQ piePos.1 c0 ++ L)) = L')
  (by intro i ys L' _ p hp; simp at hp) ⟨[], rfl, rfl, Nat.zero_le _, by simp, rfl⟩ ?_ ?_ ?_
 ·rintro i ys _ ⟨lq, rfl, hlq, hi, _, _⟩
  rw [List.length_map]; lia
 ·clear S; intro D cenv cnd ckd cfn i vs ys _ v X s E hEc hcl hvl hi hJ1 hJ2 S
  wtm_at "pq"
  wtm_at "pk"
  obtain ⟨⟨tv, rfl⟩, rfl⟩ := hJ2
  obtain ⟨lq, rfl, hlq, hil, hlq0, rfl⟩ := hJ1
  wtm_at "ps"
  wtm_at "pk"
  obtain ⟨a', rfl⟩ := len1 hvl
  rw [relabel_sc, hE.sc] at hEc
  replace hE := hEc
  wtm_at "go"
  refine cw_K O (fun _ => by kernel_rfl) ?_
  wtm_at "go"
  refine ⟨S.K O, w_call ?_⟩
  have S1 := S.perm (L' := tabF 199 pieQ piePos.1 c0 ++ ((([(rit, ritO (0 + (i + 1 : Nat)) (((Mx + 1).toNat : Int) - (i + 1 : Nat)) 1), (D, lst (lq.map (fun p => .ref p.1.lx)))] ++ linesL c0 lq) ++ bc) ++ L)) (by
   have := List.perm_append_comm_assoc (([(rit, ritO (0 + (i + 1 : Nat)) (((Mx + 1).toNat : Int) - (i + 1 : Nat)) 1), (D, lst (lq.map (fun p => .ref p.1.lx)))] ++ linesL c0 lq) ++ bc) (tabF 199 pieQ piePos.1 c0) L
   simpa [LL] using this)
  refine lexer_spec (n := n + 4) OB S1 (.inr ⟨c0, rfl⟩) hA ((hF _).cons _) (by decide +kernel) ?_
  clear S; (try clear LL); (try clear LL); clear S1; intro a c' s hc' S
  have hcc := hc' c0 rfl
  wtm_at "us"
  rw [hcc] at S
  refine ret_ok ?_
  replace S := S.perm (perm4 _ _ _ _ _)
  have e0 : (Str.ofString "").cps.toList = [] := by decide +kernel
  wtm_at "us"
  rw [e0] at S
  have S' := S.perm (L' := [(rit, ritO (0 + (i + 1 : Nat)) (((Mx + 1).toNat : Int) - (i + 1 : Nat)) 1)] ++ (D, lst (lq.map (fun p => .ref p.1.lx))) :: (linesL c0 (lq ++ [(a, [])]) ++ (bc ++ (tabF 199 pieQ piePos.1 c0 ++ L)))) (List.Perm.of_eq (by rw [linesL_snoc]; simp))
  refine ⟨_, _, rfl, ⟨lq ++ [(a, [])], by simp, by simp [hlq], by lia, fun p hp => ?_, rfl⟩, S'⟩
  rcases List.mem_append.mp hp with hp | hp
  ·exact hlq0 p hp
  ·simp at hp; rw [hp]
 clear S; intro D ys _ s hJ1 S
 wtm_at "pq"
 wtm_at "pk"
 obtain ⟨lq, rfl, hlq, _, hlq0, rfl⟩ := hJ1
 wtm_at "ps"
 (try dsimp only [List.set] at S)
 let mid : List (Addr × Mine.O) := (D, lst (lq.map (fun p => .ref p.1.lx))) :: (linesL c0 lq ++ [(rg, rngO 0 (Mx + 1)), (cG, celO none), (cN, celO none), (cP, celO none), (cL, celO none), (cR, celO (some (.ref ra)))])
 replace S := S.perm (L' := mid ++ (T2 ++ (tabF 199 pieQ piePos.1 c0 ++ L))) (List.Perm.of_eq (by simp [LL, mid, bc]))
 refine xs_assign ?_
 refine e_callkw ?_
 wtm_at "go"
 refine callWith_kw ?_
 wtm_at "go"
 wtm_at "pk"
 obtain ⟨wv, hwv, hWl⟩ := S.isLR (a := wa) (R := StrV) (xs := ws.map fun p => two p.1 p.2) (by wtm_at "mem")
 obtain ⟨dv, hdv, hDl⟩ := S.isLR (a := da) (R := IntV) (xs := ds) (by wtm_at "mem")
 refine t_zip S hWl hDl ?_
 clear S; (try clear LL); (try clear LL); clear hWl hDl hwv hdv wv dv; intro zp s S
 wtm_at "go"
 refine kws_cons ?_
 refine kla_eval rfl ?_
 have hq : env.qual ++ Str.ofString "<lambda>" = lamQ := by rw [hqual]; decide +kernel
 rw [hq]
 refine lam_any (pos := lamPos.1) (T := T2) (P := 242) (L₂ := (zipI zp wa da 0 ++ mid) ++ (tabF 199 pieQ piePos.1 c0 ++ L)) OB S hT2 (by
  have := List.perm_append_comm_assoc (zipI zp wa da 0 ++ mid) T2 (tabF 199 pieQ piePos.1 c0 ++ L)
  simpa using this) hE hcode (fun _ => by kernel_rfl) (clos := [(Str.ofString "row", cR)]) (by rw [clos_cells, hcs]; with_unfolding_all rfl) ?_
 clear S; intro f c2 pm ctv s S
 refine kws_nil ?_
 show wpAny _ _ (call (.builtin "sorted") [.ref zp.z] [(Str.ofString "key", .ref f)]) _ _ _
 have S0 := S.perm (perm5 _ _ _ _ _)
 clear S
 refine sort_zip (n := ws.length) hA.hand (hs1 := (by have := Src.lstR StrV (ws.map fun p => two p.1 p.2); rw [List.length_map] at this; exact this)) (hs2 := (hl ▸ Src.lstR IntV ds)) S0 (by wtm_at "mem") (by wtm_at "mem") hz0 (by lia) fun ts X htl hX => ⟨ws.map fun p => (row.idxOf (one p.2) : Int), by simp, fun i t k s' L2 E' ht hk S' => ?_, fun ps D2 s' hp1 hp2 S' => ?_⟩
 ·have hi : i < ws.length := htl ▸ (List.getElem?_eq_some_iff.mp ht).1
  wtm_at "pk"
  obtain ⟨xv, yv, ⟨x, hx, xt, rfl⟩, ⟨y, hy, yt, rfl⟩, hmem⟩ := hX i t ht
  have hwi : ws[i]? = some ws[i] := by simp [hi]
  rw [List.getElem?_map, hwi] at hx hk
  cases hx; cases hk
  wtm_at "pk"
  obtain ⟨_, hfo, rfl⟩ := S'.at (a := f) (z := raw _) (List.mem_append_right _ (List.mem_append_right _ List.mem_cons_self))
  obtain ⟨oc, hoc, vc, tc, hd', hv'⟩ := S'.at (a := c2) (z := codO lamQ) (by (try dsimp only [LL]); unfold tabF; wtm_at "mem")
  refine w_call (call_lam (names := [Str.ofString "pair"]) (vals := [.ref t]) O S' hA.in1.in1 hfo rfl ⟨c2, oc, vc, tc, rfl, hoc, hd', hv'⟩ rfl (by with_unfolding_all rfl) rfl (by dsimp only [kla_fn]; decide +kernel) (by dsimp only [kla_fn]; decide +kernel) (by decide) rfl rfl rfl ?_)
  clear S'; intro lenv lnd lkd lfn s hEl hcl S hAl E
  dsimp only [kla_fn] at hEl hcl
  wtm_at "us"
  dsimp only [List.map] at S
  wtm_at "go"
  refine lF S hEl hcl (by rfl) (c := cR) rfl (by wtm_at "mem") ?_
  wtm_at "go"
  wtm_at "pk"
  obtain ⟨rv, hrv, hRl⟩ := S.isLR (a := ra) (R := StrV) (xs := row) (by wtm_at "mem")
  refine gm_list hRl PySem.F.slot_list_index PySem.F.type_list_index ?_
  clear hRl hrv rv
  wtm_at "go"
  refine sub_tup (j := 0) (S.isT (a := t) (by wtm_at "mem")) rfl rfl (by simp) ?_
  wtm_at "go"
  refine sub_str (k := 1) (c := ws[i].2) rfl rfl (show (2 : Nat) ≤ 10000 by decide) S ?_
  clear S; intro t1 s S
  wtm_at "go"
  wtm_at "pk"
  obtain ⟨rv, hrv, hRl⟩ := S.isLR (a := ra) (R := StrV) (xs := row) (by wtm_at "mem")
  refine l_index S hRl hrv (x := one ws[i].2) (hm2 _ (List.getElem_mem hi)) (by lia) ?_
  clear S; (try clear LL); (try clear LL); clear hRl hrv rv; intro t2 s S
  exact ⟨t2, rfl, S.pop⟩
 have htl2 : ts.length = (ws.zip ds).length := by rw [List.length_zip, hl, Nat.min_self, htl]
 wtm_at "pk"
 obtain ⟨rt, hrt, rfl⟩ := perm_map_inv (fun z : Addr × Ar => ((row.idxOf (one z.2.1.2) : Int), Value.ref z.1)) hp1 (l := ts.zip (ws.zip ds)) (by
  apply List.ext_getElem?
  intro i
  rw [List.getElem?_map]
  by_cases hi : i < ws.length
  ·have h1 : ts[i]? = some (ts[i]'(by lia)) := by simp [htl, hi]
   have h2 : ws[i]? = some ws[i] := by simp [hi]
   have h3 : ds[i]? = some (ds[i]'(by lia)) := by simp [hl, hi]
   have e1 : (ts.zip (ws.zip ds))[i]? = some (ts[i]'(by lia), (ws[i], ds[i]'(by lia))) := by
    rw [List.getElem?_zip_eq_some, List.getElem?_zip_eq_some]; exact ⟨h1, h2, h3⟩
   have e2 : ((ws.map fun p => (row.idxOf (one p.2) : Int)).zip (ts.map Value.ref))[i]? = some ((row.idxOf (one ws[i].2) : Int), Value.ref (ts[i]'(by lia))) := by
    rw [List.getElem?_zip_eq_some, List.getElem?_map, List.getElem?_map, h1, h2]; exact ⟨rfl, rfl⟩
   rw [e1, e2]; rfl
  ·rw [List.getElem?_eq_none (by simp [htl]; lia), List.getElem?_eq_none (by simp [htl, hl]; lia)]; rfl)
 have hrk : (rt.map (·.2)).Perm (ws.zip ds) := by
  have := hrt.map (·.2)
  rwa [List.map_snd_zip (by lia)] at this
 have hrl2 : rt.length = ws.length := by
  have := hrk.length_eq
  simpa [hl] using this
 have htup : ∀ z ∈ rt, ∃ xt yt, (z.1, tup [.str (wrd z.2) xt, .int z.2.2 yt]) ∈ X := fun z hz' => by
  wtm_at "pk"
  obtain ⟨i, hi⟩ := List.getElem?_of_mem (hrt.subset hz')
  rw [List.getElem?_zip_eq_some, List.getElem?_zip_eq_some] at hi
  wtm_at "pk"
  obtain ⟨xv, yv, ⟨x, hx, xt, rfl⟩, ⟨y, hy, yt, rfl⟩, hmem⟩ := hX i z.1 hi.1
  rw [List.getElem?_map, hi.2.1] at hx
  rw [hi.2.2] at hy
  cases hx; cases hy
  exact ⟨xt, yt, hmem⟩
 have hin : ∀ z ∈ rt, z.2.1 ∈ ws ∧ z.2.2 ∈ ds := fun z hz' => by
  wtm_at "pk"
  obtain ⟨i, hi⟩ := List.getElem?_of_mem (hrk.subset (List.mem_map_of_mem hz'))
  rw [List.getElem?_zip_eq_some] at hi
  exact ⟨List.mem_of_getElem? hi.1, List.mem_of_getElem? hi.2⟩
 have hRO : RowOk row (rt.map (·.2)) := by
  refine ⟨hnd, fun z hz' => ?_, fun z hz' => ?_, fun z hz' => ?_, ?_⟩
  ·wtm_at "pk"
   obtain ⟨y, hy, rfl⟩ := List.mem_map.mp hz'; exact hm1 _ (hin y hy).1
  ·obtain ⟨y, hy, rfl⟩ := List.mem_map.mp hz'; exact hm2 _ (hin y hy).1
  ·wtm_at "pk"
   obtain ⟨y, hy, rfl⟩ := List.mem_map.mp hz'; exact hlt _ (hin y hy).1
  ·rw [List.pairwise_map] at hp2 ⊢
   exact hp2.imp fun {a b} h => by
    have h' : (row.idxOf (one a.2.1.2) : Int) ≤ (row.idxOf (one b.2.1.2) : Int) := h
    show row.idxOf (one a.2.1.2) ≤ row.idxOf (one b.2.1.2)
    lia
 have hAp := works_apart (m := (Mx + 1).toNat) hRO hrk hl (fun d hd' => by have := hM2 d hd'; have := hd0 d hd'; lia)
 have hokz : ∀ z ∈ rt, okS (wrd z.2) := fun z hz' => okS_two (hal _ (hin z hz').1).1 (hal _ (hin z hz').1).2
 clear hp1 hp2 hX hrt S0 htl2
 have S := S'
 clear S'
 wtm_at "pk"
 obtain ⟨lxs, hlxs⟩ : ∃ lxs, lxs = lq.map (·.1) := ⟨_, rfl⟩
 have hlen : lxs.length = (Mx + 1).toNat := by rw [hlxs, List.length_map, hlq]
 have hlref : lq.map (fun p => Value.ref p.1.lx) = lxs.map (fun a => Value.ref a.lx) := by rw [hlxs, List.map_map]; rfl
 have hlnQ : linesL c0 lq = linesQ c0 lxs (fun _ => []) 0 := by rw [hlxs]; exact linesL_Q c0 lq 0 hlq0
 wtm_at "us"
 rw [List.map_map] at S
 let K : List (Addr × Mine.O) := (D2, lst (rt.map fun z => .ref z.1)) :: (X ++ ((D, lst (lxs.map fun a => .ref a.lx)) :: (cR, celO (some (.ref ra))) :: (tabF 242 lamQ lamPos.1 c2 ++ (tabF 199 pieQ piePos.1 c0 ++ L))))
 replace S := S.less (L' := (D2, lst (rt.map fun z => .ref z.1)) :: (X ++ (tabF 242 lamQ lamPos.1 c2 ++ (((D, lst (lxs.map fun a => .ref a.lx)) :: (linesQ c0 lxs (fun _ => []) 0 ++ [(cG, celO none), (cN, celO none), (cP, celO none), (cL, celO none), (cR, celO (some (.ref ra)))])) ++ (tabF 199 pieQ piePos.1 c0 ++ L))))) (by
  rw [← hlnQ, ← hlref]
  refine List.Sublist.cons_cons _ (List.Sublist.append_left ?_ _)
  refine List.Sublist.cons _ (List.Sublist.append_left ?_ _)
  refine List.Sublist.append_right (List.Sublist.cons_cons _ (List.Sublist.append_left ?_ _)) _
  exact List.Sublist.cons _ (.refl _))
 replace S := S.perm (L' := (cG, celO none) :: (cN, celO none) :: (cP, celO none) :: (cL, celO none) :: (linesQ c0 lxs (fun _ => []) 0 ++ K)) (perm6 ..)
 wtm_at "go"
 wtm_at "cell"
 have hKD : (D, lst (lxs.map fun a => .ref a.lx)) ∈ K := by simp only [K]; wtm_at "mem"
 have hKR : (D2, lst (rt.map fun z => .ref z.1)) ∈ K := List.mem_cons_self
 have hKX : ∀ q ∈ X, q ∈ K := fun q hq' => List.mem_cons_of_mem _ (List.mem_append_left _ hq')
 have hKL : ∀ q ∈ L, q ∈ K := fun q hq' => by simp only [K]; wtm_at "mem"
 have hKC : (c0, codO pieQ) ∈ K := by simp only [K]; unfold tabF; wtm_at "mem"
 have hKr : (ra, lstR StrV row) ∈ K := hKL _ hr
 have hKend : (tabF 242 lamQ lamPos.1 c2 ++ (tabF 199 pieQ piePos.1 c0 ++ L)).Sublist K := by
  simp only [K]
  refine List.Sublist.cons _ ?_
  refine (List.Sublist.trans ?_ (List.sublist_append_right _ _))
  exact List.Sublist.cons _ (List.Sublist.cons _ (.refl _))
 clear_value K
 wtm_at "pk"
 obtain ⟨rv, hrv, hRl⟩ := S.isLR (a := ra) (R := StrV) (xs := row) (by wtm_at "mem")
 refine pi_list S hRl ?_
 clear S; (try clear LL); (try clear LL); clear hRl hrv rv; intro it s S
 wtm_at "un"
 let V1 := fun (_ : Nat) (_ : Nat → List Str) (_ _ _ _ a1 a2 a3 a4 a5 : Option Value) => [some (Value.ref wa), some (.ref da), some (.ref D), some (.ref D2), a1, a2, a3, a4, a5]
 let G1 := fun (_ : Nat) (qs : Nat → List Str) (g nv pv lv _ _ _ _ _ : Option Value) => (cG, celO g) :: (cN, celO nv) :: (cP, celO pv) :: (cL, celO lv) :: (linesQ c0 lxs qs 0 ++ K)
 refine for10 (Itr.list _ _ it ra (Src.lstR StrV row)) hA.hand V1 G1 (fun i qs _ _ _ _ _ _ _ _ _ => A4 (worksF (rt.map (·.2)) (Mx + 1).toNat row (fun _ => []) = worksF (rt.map (·.2)) (Mx + 1).toNat (row.drop i) qs) (∀ d, (qs d).length ≤ 7 * i) (∀ d, ∀ x ∈ qs d, okS x) (i ≤ row.length))
  (fun _ _ _ _ _ _ _ _ _ _ _ _ => one_src (by wtm_at "mem")) _ _ _ _ _ _ _ _ _ _ S ⟨rfl, by simp, by simp, by lia⟩ ?_ ?_
 ·clear S; intro i qs g nv pv lv a1 a2 a3 a4 a5 v X' s E K1 fin1 hi hH hJ2 S
  wtm_at "pq"
  wtm_at "pk"
  obtain ⟨⟨p, hp, tp, rfl⟩, rfl⟩ := hJ2
  obtain ⟨hwk, hql, hqo, hil⟩ := hH
  wtm_at "ps"
  wtm_at "go"
  refine sC S hE hcs (by rfl) rfl (.there (.there (.there .here))) ?_
  clear S; intro s S
  wtm_at "go"
  refine t_enum S (S.isL (a := D) (by wtm_at "mem")) ?_
  clear S; intro e1 it1 s S
  refine pi_enum S (it := it1) (by wtm_at "mem") ?_
  have hq0 : qsAt (rt.map (·.2)) p qs 0 = qs := by funext d; simp [qsAt]
  wtm_at "un"
  let V2 := fun (_ : Nat) (_ _ _ b3 b4 b5 : Option Value) => [some (Value.ref wa), some (.ref da), some (.ref D), some (.ref D2), a1, a2, b3, b4, b5]
  let G2 := fun (k : Nat) (g nv lv _ _ _ : Option Value) => (it, litO ra (i + 1)) :: (cG, celO g) :: (cN, celO nv) :: (cP, celO (some (.str p tp))) :: (cL, celO lv) :: (linesQ c0 lxs (qsAt (rt.map (·.2)) p qs k) 0 ++ K)
  refine for6 (Itr.enum _ _ _ e1 it1 D (Src.lst (lxs.map fun a => .ref a.lx))) hA.hand V2 G2 (fun k _ _ _ _ _ _ => ∀ d, d < k → okAt (rt.map (·.2)) d p (qs d) = true)
   (fun _ _ _ _ _ _ _ _ => one_src (by wtm_at "mem")) g nv lv a3 a4 a5 (by simp only [G2]; rw [hq0]; exact S) (by simp) ?_ ?_
  ·clear S; intro k g nv lv b3 b4 b5 v X' s E K2 fin2 hk hok hJ2 S
   wtm_at "pq"
   wtm_at "pk"
   obtain ⟨t, tk, x, rfl, hx, rfl⟩ := hJ2
   wtm_at "ps"
   simp only [List.getElem?_map, Option.map_eq_some_iff] at hx
   wtm_at "pk"
   obtain ⟨la, hla, rfl⟩ := hx
   refine as_tup2 hA.hand S (S.isT (by wtm_at "mem")) ?_
   clear S; intro s S
   wtm_at "go"
   refine sC S hE hcs (by rfl) rfl (.there (.there (.there (.there (.there .here))))) ?_
   clear S; intro s S
   wtm_at "go"
   refine sC S hE hcs (by rfl) rfl (.there (.there (.there (.there (.there (.there (.there .here))))))) ?_
   clear S; intro s S
   refine xs_lcS S 6 ["word", "told"] [(Str.ofString "place", cP), (Str.ofString "number", cN)] hE (by rw [clos_cells, hcs]; with_unfolding_all rfl) (by decide +kernel) rfl (by decide +kernel) (by decide +kernel) (by decide +kernel) (by rw [swapsW_sc, hE.sc]; with_unfolding_all rfl) rfl (Nat.le_of_ble_eq_true rfl) ?_
   wtm_at "go"
   refine pi_list S (S.isL (a := D2) (by wtm_at "mem")) ?_
   clear S; intro dit s S
   refine lci_u (Itr.listT _ _ _ dit D2 (Src.lst (rt.map fun z => .ref z.1))) hA.hand S (fun m ys L' => _ = L' ∧ F2 StrV (dueF ((rt.map (·.2)).take m) k p) ys ∧ m ≤ rt.length)
    (by rintro m ys _ ⟨rfl, _⟩ q hq'; simp only [List.mem_singleton] at hq'; subst hq'; wtm_at "mem") ⟨rfl, .nil, Nat.zero_le _⟩ ?_ ?_ ?_
   ·rintro m ys _ ⟨_, hy, hm⟩
    have := hy.len
    have := dueF_len ((rt.map (·.2)).take m) k p
    simp only [List.length_take, List.length_map] at this
    lia
   ·clear S; intro DD cenv cnd ckd cfn m vs ys _ v X' s E hEc hcl hvl hm hJ1 hJ2 S
    wtm_at "pq"
    wtm_at "pk"
    obtain ⟨hv, rfl⟩ := hJ2
    obtain ⟨rfl, hy, hml⟩ := hJ1
    wtm_at "ps"
    wtm_at "pk"
    obtain ⟨w1, w2, rfl⟩ := len2 hvl
    rw [List.length_map] at hm
    rw [relabel_sc, hE.sc] at hEc
    simp only [List.getElem?_map, Option.map_eq_some_iff] at hv
    wtm_at "pk"
    obtain ⟨z, hz', rfl⟩ := hv
    obtain ⟨xt, yt, hzt⟩ := htup z (List.mem_of_getElem? hz')
    replace hzt := hKX _ hzt
    refine as_tup2 hA.hand S (S.isT (by wtm_at "mem")) ?_
    clear S; intro s S
    have hdt := dueF_take (rk := rt.map (·.2)) (j := m) (z := z.2) (by rw [List.getElem?_map, hz']; rfl) k p
    wtm_at "go"
    refine lC S hEc hcl (by rfl) (c := cN) rfl (by wtm_at "mem") ?_
    wtm_at "go"
    refine ⟨fun h1 => ?_, fun h1 => ?_⟩
    ·have h1' := of_decide_eq_true h1
     wtm_at "go"
     refine sub_str (k := 1) (c := z.2.1.2) rfl rfl (show (2 : Nat) ≤ 10000 by decide) S ?_
     clear S; intro t1 s S
     refine lC S hEc hcl (by rfl) (c := cP) rfl (by wtm_at "mem") ?_
     wtm_at "go"
     refine ⟨fun h2 => ?_, fun h2 => ?_⟩
     ·have h2' : one z.2.1.2 = p := eq_of_beq h2
      wtm_at "go"
      refine ⟨_, _, rfl, ⟨rfl, ?_, by lia⟩, S⟩
      rw [hdt, if_pos ⟨h1', h2'⟩]
      exact hy.append (.cons ⟨_, rfl⟩ .nil)
     ·have h2' : ¬ one z.2.1.2 = p := fun h => by rw [show ({ cps := #[z.2.1.2] } : Str) = p from h, beq_self_eq_true] at h2; cases h2
      wtm_at "go"
      refine ⟨_, _, rfl, ⟨rfl, ?_, by lia⟩, S⟩
      rw [hdt, if_neg (fun h => h2' h.2), List.append_nil]
      exact hy
    ·have h1' := of_decide_eq_false h1
     wtm_at "go"
     refine ⟨_, _, rfl, ⟨rfl, ?_, by lia⟩, S⟩
     rw [hdt, if_neg (fun h => h1' h.1), List.append_nil]
     exact hy
   clear S; intro du dys _ s hJ1 S
   wtm_at "pq"
   wtm_at "pk"
   obtain ⟨rfl, hdy, _⟩ := hJ1
   wtm_at "ps"
   rw [List.length_map, List.take_of_length_le (by simp)] at hdy
   (try dsimp only [List.set] at S)
   wtm_at "pk"
   obtain ⟨rest, hrest⟩ := linesQ_pull c0 (qsAt (rt.map (·.2)) p qs k) lxs 0 k la hla
   rw [Nat.zero_add] at hrest
   have hqk : qsAt (rt.map (·.2)) p qs k k = qs k := by simp [qsAt]
   have hr0 := hrest _ (fun _ _ => rfl)
   rw [hqk] at hr0
   let P : List (Addr × Mine.O) := [(du, lst dys), (t, tup [.int k tk, .ref la.lx]), (e1, enuO it1 (k + 1 : Nat)), (it1, litO D (k + 1)), (it, litO ra (i + 1)), (cG, celO g), (cN, celO (some (.int k tk))), (cP, celO (some (.str p tp))), (cL, celO (some (.ref la.lx)))]
   replace S := S.perm (L' := lexL la c0 [] (qs k) ++ (P ++ (rest ++ K))) (permP P K hr0)
   wtm_at "pk"
   obtain ⟨N, hN⟩ : ∃ N, N = P ++ (rest ++ K) := ⟨_, rfl⟩
   have hNL : (cL, celO (some (.ref la.lx))) ∈ N := by rw [hN]; simp [P]
   have hNd : (du, lst dys) ∈ N := by rw [hN]; simp [P]
   have hNC : (c0, codO pieQ) ∈ N := by rw [hN]; simp [hKC]
   wtm_at "us"
   rw [← hN] at S
   have hdl := hdy.len
   have hdl2 := dueF_len (rt.map (·.2)) k p
   rw [List.length_map] at hdl2
   refine xs_lcS S 7 ["word"] [(Str.ofString "line", cL)] hE (by rw [clos_cells, hcs]; with_unfolding_all rfl) (by decide +kernel) rfl (by decide +kernel) (by decide +kernel) (by decide +kernel) (by rw [swapsW_sc, hE.sc]; with_unfolding_all rfl) rfl (Nat.le_of_ble_eq_true rfl) ?_
   wtm_at "go"
   refine pi_list S (S.isL (a := du) (by wtm_at "mem")) ?_
   clear S; intro cit s S
   refine lc_u (Itr.list _ _ cit du (Src.lst dys)) hA.hand S (fun m ys L' => lexL la c0 [] (popN m (qs k)).2 ++ N = L' ∧ F2 StrV (popN m (qs k)).1 ys ∧ m ≤ dys.length)
    (by rintro m ys _ ⟨rfl, _⟩ q hq'; simp only [List.mem_singleton] at hq'; subst hq'; wtm_at "mem") ⟨rfl, .nil, Nat.zero_le _⟩ ?_ ?_ ?_
   ·rintro m ys _ ⟨_, hy, hm⟩
    have := hy.len
    have := popN_len m (qs k)
    lia
   ·clear S; intro DD cenv cnd ckd cfn m vs ys _ v X' s E hEc hcl hvl hm hJ1 hJ2 S
    wtm_at "pq"
    wtm_at "pk"
    obtain ⟨hv, rfl⟩ := hJ2
    obtain ⟨rfl, hy, hml⟩ := hJ1
    wtm_at "ps"
    wtm_at "pk"
    obtain ⟨w1, rfl⟩ := len1 hvl
    rw [relabel_sc, hE.sc] at hEc
    wtm_at "go"
    refine lC S hEc hcl (by rfl) (c := cL) rfl (by wtm_at "mem") ?_
    wtm_at "go"
    refine lex_meth (f := 183) O S (S.at (by wtm_at "lex")) (S.at (z := lexN (.ref la.st) la.pb none) (by wtm_at "lex")) (by decide +kernel) (fun _ => by kernel_rfl) (fun _ => by kernel_rfl) ?_
    refine cw_K0 O S (fun _ => by kernel_rfl) ?_
    have hps := popN_succ m (qs k)
    have hpl := popN_le m (qs k)
    have hqk' := hql k
    have S1 := S.perm (List.perm_append_comm_assoc [_, _] (lexL la c0 [] (popN m (qs k)).2) N)
    cases hq2 : (popN m (qs k)).2 with
    | nil =>
     rw [hq2] at S1 hps
     refine w_call (gettok_read (n := n + 3) O S1 hA (by wtm_at "mem") (by simp) (by simp [AL]) ?_)
     clear S; (try clear LL); (try clear LL); clear S1; intro t3 s S
     refine ret_ok ?_
     replace S := S.perm (List.perm_append_comm_assoc (lexL la c0 [] []) [_, _] N)
     refine ⟨[some v], _, rfl, ⟨rfl, ?_, by lia⟩, ?_⟩
     ·rw [hps]; exact hy.append (.cons ⟨_, rfl⟩ .nil)
     ·rw [hps]; exact S
    | cons x q2 =>
     rw [hq2] at S1 hps hpl
     refine w_call (gettok_back (n := n + 6) O S1 hA (by simp at hpl; lia) ?_)
     clear S; (try clear LL); (try clear LL); clear S1; intro t3 s S
     refine ret_ok ?_
     replace S := S.perm (List.perm_append_comm_assoc (lexL la c0 [] q2) [_, _] N)
     refine ⟨[some v], _, rfl, ⟨rfl, ?_, by lia⟩, ?_⟩
     ·rw [hps]; exact hy.append (.cons ⟨_, rfl⟩ .nil)
     ·rw [hps]; exact S
   clear S; intro ca cys _ s hJ1 S
   wtm_at "pq"
   wtm_at "pk"
   obtain ⟨rfl, hcy, _⟩ := hJ1
   wtm_at "ps"
   (try dsimp only [List.set] at S)
   refine xs_tup ?_ (by with_unfolding_all rfl) (by with_unfolding_all rfl) (by with_unfolding_all rfl)
   wtm_at "go"
   have hcl' := hcy.len
   have hcl2 := popN_len dys.length (qs k)
   refine cw_K O (fun _ => by kernel_rfl) ?_
   wtm_at "go"
   refine t_list S (S.isL (a := du) (by wtm_at "mem")) (by lia) ?_
   clear S; intro l1 s S
   wtm_at "go"
   refine t_list S (S.isL (a := ca) (by wtm_at "mem")) (by lia) ?_
   clear S; intro l2 s S
   wtm_at "go"
   refine ⟨S.K O, w_call ?_⟩
   replace S := S.perm (.swap ..)
   replace S := (S.weak (a := l1) (y := lstR StrV (dueF (rt.map (·.2)) k p)) .here (fun o h => ⟨_, hdy, h⟩)).weak (a := l2) (y := lstR StrV (popN dys.length (qs k)).1) (.there .here) (fun o h => ⟨_, hcy, h⟩)
   refine uld_spec (n := n + 6) O S hA (hF _) ⟨by lia, by lia⟩ ?_
   clear S; intro tt ma s S
   refine ret_ok ?_
   refine as_tup2 hA.hand S (S.isT (a := tt) (by wtm_at "mem")) ?_
   clear S; intro s S
   wtm_at "go"
   wtm_at "us"
   rw [hdl] at S
   wtm_at "us"
   generalize hU : uldF (dueF (rt.map (·.2)) k p).reverse (popN (dueF (rt.map (·.2)) k p).length (qs k)).1 [] = U at S
   have hr1 := hrest (qsAt (rt.map (·.2)) p qs (k + 1)) (fun j hj => by
    unfold qsAt
    by_cases h1 : j < k
    ·rw [if_pos h1, if_pos (by lia)]
    ·rw [if_neg h1, if_neg (by lia)])
   have hqk1 : qsAt (rt.map (·.2)) p qs (k + 1) k = (popN (dueF (rt.map (·.2)) k p).length (qs k)).2 := by simp [qsAt]
   rw [hqk1] at hr1
   wtm_at "us"
   rw [hN] at S
   replace S := S.perm (L' := (tt, tup [.ref ma, .ref l2]) :: (ma, lstR StrV U.1) :: (l1, lstR StrV []) :: (l2, lstR StrV U.2) :: (ca, lst cys) :: (du, lst dys) :: (t, tup [.int k tk, .ref la.lx]) :: (e1, enuO it1 (k + 1 : Nat)) :: (it1, litO D (k + 1)) :: (it, litO ra (i + 1)) :: (cG, celO g) :: (cN, celO (some (.int k tk))) :: (cP, celO (some (.str p tp))) :: (cL, celO (some (.ref la.lx))) :: (linesQ c0 lxs (qsAt (rt.map (·.2)) p qs (k + 1)) 0 ++ K))
    ((permP P K hr1).symm.append_left [(tt, tup [.ref ma, .ref l2]), (ma, lstR StrV U.1), (l1, lstR StrV []), (l2, lstR StrV U.2), (ca, lst cys)])
   (try clear LL); (try clear LL)
   clear hN hNL hNd hNC N P hr0 hrest hr1
   refine sC S hE hcs (by rfl) rfl (.there (.there (.there (.there (.there (.there (.there (.there (.there (.there .here)))))))))) ?_
   clear S; intro s S
   have hperm := uldF_perm (dueF (rt.map (·.2)) k p).reverse (popN (dueF (rt.map (·.2)) k p).length (qs k)).1 []
   have hdisj := uldF_disj (dueF (rt.map (·.2)) k p).reverse (popN (dueF (rt.map (·.2)) k p).length (qs k)).1 [] (by simp)
   rw [hU] at hperm hdisj
   rw [hdl] at hcy
   generalize hdue : dueF (rt.map (·.2)) k p = due at hdy hcy hperm hdisj hU hqk1 hdl hdl2 hcl2
   generalize hcame : (popN due.length (qs k)).1 = came at hcy hperm hdisj hU
   wtm_at "if"
   wtm_at "go"
   wtm_at "cell"
   have hsub := uldF_sub due.reverse came []
   rw [hU] at hsub
   wtm_at "pk"
   obtain ⟨hs1, hs2, hs3, hs4⟩ := hsub
   rw [List.append_nil] at hperm
   simp only [List.length_reverse, List.length_nil, Nat.add_zero] at hs3
   have hcl3 : came.length = due.length := by rw [← hcame]; exact popN_len _ _
   have hoD : ∀ x ∈ due, okS x := fun x hx => by
    rw [← hdue] at hx
    wtm_at "pk"
    obtain ⟨z, hz', rfl⟩ := mem_dueF hx
    obtain ⟨y, hy, rfl⟩ := List.mem_map.mp hz'
    exact hokz y hy
   have hoC : ∀ x ∈ came, okS x := fun x hx => by
    rw [← hcame] at hx
    rcases popN_mem _ _ x hx with rfl | hx
    ·exact okS_nil
    ·exact hqo k x hx
   have hoU1 : ∀ x ∈ U.1, okS x := fun x hx => by
    rcases hs1 x hx with h | h
    ·exact hoD x (List.mem_reverse.mp h)
    ·simp at h
   have hoU2 : ∀ x ∈ U.2, okS x := fun x hx => hoC x (hs2 x hx)
   wtm_at "pk"
   obtain ⟨uv, huv, hUl⟩ := S.isLR (a := l2) (R := StrV) (xs := U.2) (by wtm_at "mem")
   have huvl := huv.len
   refine l_addl S (S.isL (a := du) (by wtm_at "mem")) hUl (by lia) ?_
   clear S; (try clear LL); (try clear LL); clear hUl; intro y1 s S
   wtm_at "go"
   refine s_sort S (S.isL (a := y1) (by wtm_at "mem")) (hdy.append huv) (by simp; lia) ?_
   clear S; intro y2 z1 s hz1 hz1s S
   wtm_at "go"
   wtm_at "pk"
   obtain ⟨vv, hvv, hVl⟩ := S.isLR (a := ma) (R := StrV) (xs := U.1) (by wtm_at "mem")
   have hvvl := hvv.len
   refine l_addl S (S.isL (a := ca) (by wtm_at "mem")) hVl (by lia) ?_
   clear S; (try clear LL); (try clear LL); clear hVl; intro y3 s S
   wtm_at "go"
   refine s_sort S (S.isL (a := y3) (by wtm_at "mem")) (hcy.append hvv) (by simp; lia) ?_
   clear S; intro y4 z2 s hz2 hz2s S
   wtm_at "go"
   have hzz : z1 = z2 := by
    refine sorted_uniq (hz1.trans (List.Perm.trans ?_ hz2.symm)) hz1s hz2s
    refine List.perm_append_comm.trans (List.Perm.trans ?_ hperm)
    exact List.Perm.append_left _ (List.reverse_perm _).symm
   wtm_at "pk"
   obtain ⟨p1, hp1, hP1⟩ := S.isLR (a := y2) (R := StrV) (xs := z1) (by wtm_at "mem")
   obtain ⟨p2, hp2, hP2⟩ := S.isLR (a := y4) (R := StrV) (xs := z2) (by wtm_at "mem")
   refine ne_strs hA.c64 hP1 hP2 hp1 hp2 (fun x hx => ?_) (fun x hx => ?_) ?_
   ·rcases List.mem_append.mp (hz1.subset hx) with h | h
    ·exact hoD x h
    ·exact hoU2 x h
   ·rcases List.mem_append.mp (hz2.subset hx) with h | h
    ·exact hoC x h
    ·exact hoU1 x h
   clear hP1 hP2 hp1 hp2 p1 p2
   wtm_at "go"
   refine ⟨fun h => absurd h (by simp [hzz]), fun _ => ?_⟩
   wtm_at "go"
   replace S := S.less (.cons _ (.cons _ (.cons _ (.cons _ (.refl _)))))
   clear hz1 hz2 hz1s hz2s
   refine e_lcS S ["word"] [(Str.ofString "strange", cG)] hE (by rw [clos_cells, hcs]; with_unfolding_all rfl) (by decide +kernel) rfl (by decide +kernel) (by decide +kernel) (by decide +kernel) ?_
   wtm_at "go"
   wtm_at "pk"
   obtain ⟨vv', hvv', hVl⟩ := S.isLR (a := ma) (R := StrV) (xs := U.1) (by wtm_at "mem")
   refine pi_list S hVl ?_
   clear S; (try clear LL); (try clear LL); clear hVl hvv' vv'; intro wit s S
   refine lci_e (Itr.list _ _ wit ma (Src.lstR StrV U.1)) hA.hand S (fun m ys L' => _ = L' ∧ ys = [])
    (by rintro m ys _ ⟨rfl, _⟩ q hq'; simp only [List.mem_singleton] at hq'; subst hq'; wtm_at "mem") ⟨rfl, rfl⟩ ?_ ?_ ?_
   ·rintro m ys _ ⟨_, rfl⟩
    simp
   ·clear S; intro DD cenv cnd ckd cfn m vs ys _ v X' s E hEc hcl hvl hm hJ1 hJ2 S
    wtm_at "pq"
    wtm_at "pk"
    obtain ⟨⟨x, hx, xt, rfl⟩, rfl⟩ := hJ2
    obtain ⟨rfl, rfl⟩ := hJ1
    wtm_at "ps"
    wtm_at "pk"
    obtain ⟨w1, rfl⟩ := len1 hvl
    rw [relabel_sc, hE.sc] at hEc
    wtm_at "go"
    refine lC S hEc hcl (by rfl) (c := cG) rfl (by wtm_at "mem") ?_
    wtm_at "pk"
    obtain ⟨uv', huv', hUl⟩ := S.isLR (a := l2) (R := StrV) (xs := U.2) (by wtm_at "mem")
    refine l_in S hUl huv' ?_
    wtm_at "go"
    rw [decide_eq_false (hdisj x (List.mem_of_getElem? hx))]
    exact ⟨fun h => absurd h (by simp), fun _ => ⟨_, _, rfl, ⟨rfl, rfl⟩, S⟩⟩
   clear S; intro y1 _ _ s hJ1 S
   wtm_at "pq"
   wtm_at "pk"
   obtain ⟨rfl, rfl⟩ := hJ1
   wtm_at "ps"
   wtm_at "go"
   refine n_list S (line_le (by simp)) ?_
   clear S; intro y2 s S
   wtm_at "go"
   refine ne_strs (xs := []) (ys := []) hA.c64 (S.isL (a := y1) (by wtm_at "mem")) (S.isL (a := y2) (by wtm_at "mem")) .nil .nil (by simp) (by simp) ?_
   wtm_at "go"
   refine ⟨fun h => by simp at h, fun _ => ?_⟩
   wtm_at "go"
   wtm_at "if"
   wtm_at "go"
   wtm_at "cell"
   wtm_at "go"
   refine n_tup S (line_le (by simp)) ?_
   clear S; intro y3 s S
   wtm_at "go"
   refine n_list S (line_le (by simp)) ?_
   clear S; intro y4 s S
   wtm_at "go"
   refine n_list S (line_le (by simp)) ?_
   clear S; intro y5 s S
   wtm_at "go"
   refine n_tup S (line_le (by simp)) ?_
   clear S; intro y6 s S
   wtm_at "go"
   wtm_at "pk"
   obtain ⟨uv', huv', hUl⟩ := S.isLR (a := l2) (R := StrV) (xs := U.2) (by wtm_at "mem")
   obtain ⟨vv', hvv', hVl⟩ := S.isLR (a := ma) (R := StrV) (xs := U.1) (by wtm_at "mem")
   refine ne_pair (us' := []) hA.c64 (S.isT (a := y3) (by wtm_at "mem")) hVl hUl hvv' huv' hoU1 hoU2 (S.isT (a := y6) (by wtm_at "mem")) (S.isL (a := y4) (by wtm_at "mem")) (S.isL (a := y5) (by wtm_at "mem")) ?_
   clear hUl hVl huv' hvv' uv' vv'
   wtm_at "go"
   have hokk : okAt (rt.map (·.2)) k p (qs k) = (decide (U.1 = []) && decide (U.2 = [])) := by
    unfold okAt
    rw [hdue, hcame, hU]
    obtain ⟨u1, u2⟩ := U
    by_cases e1 : u1 = [] <;> by_cases e2 : u2 = [] <;> simp [e1, e2]
   rw [← hokk]
   refine ⟨fun h => ?_, fun h => ?_⟩
   ·wtm_at "go"
    refine hR false c2 _ ?_ (S.less (List.Sublist.trans hKend (by wtm_at "sub"))).pop
    rw [← hAp, hwk, drop_cons hi, worksF]
    have hpi : row[i] = p := by rw [List.getElem?_eq_getElem hi] at hp; exact Option.some.inj hp
    rw [hpi, show ((List.range (Mx + 1).toNat).all fun d => okAt (rt.map (·.2)) d p (qs d)) = false from ?_]
    ·simp
    ·rw [List.all_eq_false]
     refine ⟨k, List.mem_range.mpr ?_, by simpa using h⟩
     have := (List.getElem?_eq_some_iff.mp hla).1
     lia
   ·wtm_at "go"
    have S2 := S.less (L' := (e1, enuO it1 (k + 1 : Nat)) :: (it1, litO D (k + 1)) :: (it, litO ra (i + 1)) :: (cG, celO (some (.ref l2))) :: (cN, celO (some (.int k tk))) :: (cP, celO (some (.str p tp))) :: (cL, celO (some (.ref la.lx))) :: (linesQ c0 lxs (qsAt (rt.map (·.2)) p qs (k + 1)) 0 ++ K)) (by wtm_at "sub")
    refine fin2 _ _ _ _ _ _ _ (fun d hd' => ?_) S2
    by_cases e : d = k
    ·subst e; simpa using h
    ·exact hok d (by lia)
  clear S; intro g2 nv2 lv2 b3 b4 b5 s hok S
  wtm_at "ps"
  wtm_at "us"
  (try dsimp only [G2] at S)
  rw [List.length_map] at S hok
  have hq1 : linesQ c0 lxs (qsAt (rt.map (·.2)) p qs lxs.length) 0 = linesQ c0 lxs (qsTo (rt.map (·.2)) p qs 0) 0 := linesQ_congr c0 lxs 0 fun j _ hj => by
   unfold qsAt qsTo
   rw [if_pos (by lia), List.take_zero]
   simp [pushF]
  wtm_at "us"
  rw [hq1] at S
  have hqb : ∀ m d, (qsTo (rt.map (·.2)) p qs m d).length ≤ 7 * i + 7 := fun m d => by
   unfold qsTo
   have h1 := popN_le (dueF (rt.map (·.2)) d p).length (qs d)
   have h2 := pushF_len ((rt.map (·.2)).take m) d p
   have h3 := hql d
   rw [List.length_take, List.length_map] at h2
   rw [List.length_append]
   lia
  wtm_at "go"
  refine pi_list S (S.isL (a := D2) (by wtm_at "mem")) ?_
  clear S; intro rit2 s S
  wtm_at "un"
  let V3 := fun (_ : Nat) (b1 b2 : Option Value) => [some (Value.ref wa), some (.ref da), some (.ref D), some (.ref D2), b1, b2, b3, b4, b5]
  let G3 := fun (m : Nat) (_ _ : Option Value) => (it, litO ra (i + 1)) :: (cG, celO g2) :: (cN, celO nv2) :: (cP, celO (some (.str p tp))) :: (cL, celO lv2) :: (linesQ c0 lxs (qsTo (rt.map (·.2)) p qs m) 0 ++ K)
  refine for2 (Itr.listT _ _ _ rit2 D2 (Src.lst (rt.map fun z => .ref z.1))) hA.hand V3 G3 (fun m _ _ => m ≤ rt.length)
   (fun _ _ _ _ => one_src (by wtm_at "mem")) _ _ S (Nat.zero_le _) ?_ ?_
  ·clear S; intro m b1 b2 v X' s E K2 fin2 hm hml hJ2 S
   wtm_at "pq"
   wtm_at "pk"
   obtain ⟨hv, rfl⟩ := hJ2
   wtm_at "ps"
   rw [List.length_map] at hm
   simp only [List.getElem?_map, Option.map_eq_some_iff] at hv
   wtm_at "pk"
   obtain ⟨z, hz', rfl⟩ := hv
   have hzm := List.mem_of_getElem? hz'
   wtm_at "pk"
   obtain ⟨xt, yt, hzt⟩ := htup z hzm
   replace hzt := hKX _ hzt
   have hdt := fun d : Int => pushF_take (rk := rt.map (·.2)) (j := m) (z := z.2) (by rw [List.getElem?_map, hz']; rfl) d p
   refine as_tup2 hA.hand S (S.isT (by wtm_at "mem")) ?_
   clear S; intro s S
   wtm_at "go"
   wtm_at "if"
   wtm_at "go"
   refine sub_str (k := 0) (c := z.2.1.1) rfl rfl (show (2 : Nat) ≤ 10000 by decide) S ?_
   clear S; intro t1 s S
   wtm_at "cell"
   wtm_at "go"
   refine ⟨fun h1 => ?_, fun h1 => ?_⟩
   ·have h1' : one z.2.1.1 = p := eq_of_beq h1
    have hb2 := hd0 _ (hin z hzm).2
    have hb3 := hM2 _ (hin z hzm).2
    have hzl : z.2.2.toNat < lxs.length := by lia
    wtm_at "pk"
    obtain ⟨la, hla⟩ : ∃ la, lxs[z.2.2.toNat]? = some la := ⟨lxs[z.2.2.toNat], by simp [hzl]⟩
    obtain ⟨rest, hrest⟩ := linesQ_pull c0 (qsTo (rt.map (·.2)) p qs m) lxs 0 z.2.2.toNat la hla
    rw [Nat.zero_add] at hrest
    have hr0 := hrest _ (fun _ _ => rfl)
    have hr1 := hrest (qsTo (rt.map (·.2)) p qs (m + 1)) (fun j hj => by
     unfold qsTo
     rw [hdt, if_neg (fun h => hj (by lia)), List.append_nil])
    have hqm : qsTo (rt.map (·.2)) p qs (m + 1) z.2.2.toNat = qsTo (rt.map (·.2)) p qs m z.2.2.toNat ++ [wrd z.2] := by
     unfold qsTo
     rw [hdt, if_pos ⟨by lia, h1'⟩, List.append_assoc]
    rw [hqm] at hr1
    let P : List (Addr × Mine.O) := [(rit2, litO D2 (m + 1)), (it, litO ra (i + 1)), (cG, celO g2), (cN, celO nv2), (cP, celO (some (.str p tp))), (cL, celO lv2)]
    replace S := S.perm (L' := lexL la c0 [] (qsTo (rt.map (·.2)) p qs m z.2.2.toNat) ++ (P ++ (rest ++ K))) (permP P K hr0)
    wtm_at "go"
    refine sub_list (S.isL (a := D) (by wtm_at "mem")) (by lia) (v := .ref la.lx) (by rw [List.getElem?_map, hla]; rfl) ?_ (hsz := by simp; lia)
    wtm_at "go"
    refine lex_meth (f := 190) O S (S.at (by wtm_at "lex")) (S.at (z := lexN (.ref la.st) la.pb none) (by wtm_at "lex")) (by decide +kernel) (fun _ => by kernel_rfl) (fun _ => by kernel_rfl) ?_
    refine cw_K O (fun _ => by kernel_rfl) ?_
    wtm_at "go"
    refine ⟨S.K O, w_call ?_⟩
    refine push_spec (n := n + 6) O S hA (by have := hqb m z.2.2.toNat; lia) ?_
    clear S; intro s S
    refine ret_ok ⟨rfl, ?_⟩
    wtm_at "go"
    replace S := S.perm (permP P K hr1).symm
    exact fin2 _ _ _ (by lia) S
   ·have h1' : ¬ one z.2.1.1 = p := fun h => by rw [show ({ cps := #[z.2.1.1] } : Str) = p from h, beq_self_eq_true] at h1; cases h1
    have hqm : qsTo (rt.map (·.2)) p qs (m + 1) = qsTo (rt.map (·.2)) p qs m := by
     funext d
     unfold qsTo
     rw [hdt, if_neg (fun h => h1' h.2), List.append_nil]
    wtm_at "go"
    wtm_at "us"
    (try dsimp only [G3] at S); rw [← hqm] at S
    exact fin2 _ _ _ (by lia) S
  clear S; intro b1 b2 s _ S
  wtm_at "ps"
  wtm_at "us"
  rw [List.length_map] at S
  wtm_at "go"
  have hpi : row[i] = p := by rw [List.getElem?_eq_getElem hi] at hp; exact Option.some.inj hp
  have hqe : qsTo (rt.map (·.2)) p qs rt.length = nextQ (rt.map (·.2)) p qs := by
   funext d
   unfold qsTo nextQ
   rw [List.take_of_length_le (by simp)]
  refine fin1 (qsTo (rt.map (·.2)) p qs rt.length) _ _ _ _ _ _ _ _ _ _ ⟨?_, fun d => ?_, fun d x hx => ?_, by lia⟩ S
  ·rw [hwk, drop_cons hi, worksF, hpi, hqe]
   rw [show ((List.range (Mx + 1).toNat).all fun d => okAt (rt.map (·.2)) d p (qs d)) = true from ?_]
   ·rw [Bool.true_and]
   ·rw [List.all_eq_true]
    intro d hd'
    rw [List.mem_range] at hd'
    exact hok d (by lia)
  ·have := hqb rt.length d
   lia
  ·unfold qsTo at hx
   rcases List.mem_append.mp hx with h | h
   ·exact hqo d x (popN_sub _ _ x h)
   ·wtm_at "pk"
    obtain ⟨z, hz', rfl⟩ := mem_pushF h
    obtain ⟨y, hy, rfl⟩ := List.mem_map.mp (List.mem_of_mem_take hz')
    exact hokz y hy
 clear S; intro qs g nv pv lv a1 a2 a3 a4 a5 s hH S
 have hwk := hH.1
 wtm_at "ps"
 wtm_at "go"
 refine hR true c2 _ ?_ (S.less (List.Sublist.trans hKend (by wtm_at "sub"))).pop
 rw [← hAp, hwk, List.drop_length]
 rfl
end works_spec_w
end
theorem works_spec {prog : Program} {w : World} {B : Bs} {fs : List Fm} {L T2 : List (Addr × O)} {s : Shared} {A : Around} {n : Nat} {es : List Env} {wa da ra c0 : Addr} {ws : List (Nat × Nat)} {ds : List Int} {row : List Str} {R : Result → Shared → Prop} : works_spec_w.Pw prog w B fs L T2 s A n es wa da ra c0 ws ds row R := worst_of (Q := works_spec_w.Hw) (by with_unfolding_all rfl) works_spec_w.run ⟨prog, w, B, fs, L, T2, s, A, n, es, wa, da, ra, c0, ws, ds, row, R⟩
section
end
end
section
theorem quoF_esc (c : Nat) (r tok : List Nat) : quoF (esc c ++ r) tok = quoF r (tok ++ [c]) := by
 unfold esc
 by_cases h : c = 34 ∨ c = 92
 ·rw [if_pos h]
  show quoF (92 :: c :: r) tok = _
  rw [quoF_b]; rfl
 ·rw [if_neg h]
  show quoF (c :: r) tok = _
  rw [quoF_c (fun e => h (.inl e)) (fun e => h (.inr e))]
theorem tok_word (p : Nat × Nat) (n : Int) (r : List Nat) : tokF (wordF p n ++ r) = ([p.1, p.2], r) := by
 unfold wordF
 split
 ·show tokF (34 :: ((esc p.1 ++ esc p.2) ++ [34] ++ r)) = _
  rw [tokF, if_neg (by decide), if_pos rfl, List.append_assoc, List.append_assoc, quoF_esc, quoF_esc]
  show quoF (34 :: r) _ = _
  rw [quoF_q]; rfl
 ·show tokF (92 :: p.1 :: 92 :: p.2 :: 10 :: r) = _
  rw [tokF, if_neg (by decide), if_neg (by decide), if_pos rfl]
  show plaF (92 :: p.2 :: 10 :: r) [p.1] = _
  rw [plaF_b]
  show plaF (10 :: r) [p.1, p.2] = _
  rw [plaF_w (by decide)]
theorem textF_drop : ∀ (ws : List (Nat × Nat)) (ns : List Int) (i : Nat) (p : Nat × Nat), ns.length = ws.length → ws[i]? = some p → ∃ n, textF (ws.drop i) (ns.drop i) = wordF p n ++ textF (ws.drop (i + 1)) (ns.drop (i + 1))
 | [], _, _, _, _, h => by simp at h
 | w :: ws, [], _, _, hl, _ => by simp at hl
 | w :: ws, m :: ns, 0, p, _, h => by simp at h; subst h; exact ⟨m, rfl⟩
 | w :: ws, m :: ns, i + 1, p, hl, h => by
  simp at h hl
  exact textF_drop ws ns i p hl h
theorem wordF_AL {p : Nat × Nat} (h1 : p.1 ∈ alpha) (h2 : p.2 ∈ alpha) (n : Int) : AL (wordF p n) := by
 have e : ∀ c ∈ alpha, AL (esc c) := by unfold AL; decide +kernel
 intro c hc
 unfold wordF at hc
 split at hc
 ·simp only [List.cons_append, List.mem_cons, List.mem_append, List.not_mem_nil, or_false] at hc
  rcases hc with rfl | (h | h) | rfl
  ·decide
  ·exact e _ h1 c h
  ·exact e _ h2 c h
  ·decide
 ·simp only [List.mem_cons, List.not_mem_nil, or_false] at hc
  rcases hc with rfl | rfl | rfl | rfl | rfl
  ·decide
  ·exact h1
  ·decide
  ·exact h2
  ·decide
theorem textF_AL : ∀ (ws : List (Nat × Nat)) (ns : List Int), (∀ p ∈ ws, p.1 ∈ alpha ∧ p.2 ∈ alpha) → AL (textF ws ns)
 | [], _, _ => by simp [textF, AL]
 | w :: ws, [], _ => by simp [textF, AL]
 | w :: ws, n :: ns, h => by
  intro c hc
  rw [textF] at hc
  rcases List.mem_append.mp hc with hc | hc
  ·exact wordF_AL (h w List.mem_cons_self).1 (h w List.mem_cons_self).2 n c hc
  ·exact textF_AL ws ns (fun p hp => h p (List.mem_cons_of_mem _ hp)) c hc
end
section
noncomputable def lawObj : {o : Obj // ∀ P, (KF P).lookup 250 = some o} := ⟨_, fun _ => rfl⟩
noncomputable def scOf (o : Obj) : Scope := match o.data with | .func fd => fd.scope | _ => { kind := .module, names := [], isGenerator := false, isCoroutine := false }
noncomputable def nmL : List Nat := [97, 32, 35, 34, 92, 98]
noncomputable def nmS : Str := Str.ofString "a #\"\\b"
theorem nm_cps : nmS.cps.toList = nmL := by decide +kernel
noncomputable def poolRow (l : Nat) : List (Nat × Nat) := (List.range l).map fun e => (nmL.getD e 0, nmL.getD l 0)
noncomputable def poolTo : Nat → List (Nat × Nat)
 | 0 => []
 | l + 1 => poolTo l ++ poolRow l
theorem pool_slice : ∀ i : Nat, i ≤ 6 → Txt.slice nmS none (some (i : Int)) = ofL (nmL.take i) := by decide +kernel
theorem ascii_take : ∀ i : Nat, i ≤ 6 → ascii (ofL (nmL.take i)) := by unfold ascii; decide +kernel
theorem poolTo_len : ∀ l, l ≤ 6 → (poolTo l).length ≤ 15 := by decide
theorem pool_len : (poolTo 6).length = 15 := by decide
theorem pool_nm : ∀ p ∈ poolTo 6, p.1 ∈ nmL ∧ p.2 ∈ nmL ∧ nmL.idxOf p.1 < nmL.idxOf p.2 := by decide
theorem ofIntsAre : ∀ {vs : List Value} {xs : List Int}, IntsAre vs xs → F2 IntV xs vs
 | _, _, .nil => .nil
 | _, _, .cons x t r => .cons ⟨t, rfl⟩ (ofIntsAre r)
noncomputable abbrev lawF (env : Env) (nd : (["script", "numbers", "written", "at", "spans", "rounds", "two", "fewer", "works"] : List Str).Nodup) (kd : ∀ x ∈ (["script", "numbers", "written", "at", "spans", "rounds", "two", "fewer", "works"] : List Str), env.kindOf x = some .local) (fn : env.scope.kind = .function) (sa : Addr) (v1 v2 v3 v4 v5 v6 v7 v8 : Option Value) : Fm :=
 (⟨env, ["script", "numbers", "written", "at", "spans", "rounds", "two", "fewer", "works"], nd, kd, fn⟩, [some (.ref sa), v1, v2, v3, v4, v5, v6, v7, v8])
noncomputable abbrev lawC (cM cR cW cX cP cN cC : Addr) (vM vR vW vX vP vN vC : Option Value) (L : List (Addr × O)) : List (Addr × O) :=
 (cM, celO vM) :: (cR, celO vR) :: (cW, celO vW) :: (cX, celO vX) :: (cP, celO vP) :: (cN, celO vN) :: (cC, celO vC) :: L
structure LawH (B : Bs) (w : World) (A : Around) (n : Nat) (es : List Env) (env : Env) (nd : (["script", "numbers", "written", "at", "spans", "rounds", "two", "fewer", "works"] : List Str).Nodup) (kd : ∀ x ∈ (["script", "numbers", "written", "at", "spans", "rounds", "two", "fewer", "works"] : List Str), env.kindOf x = some .local) (fn : env.scope.kind = .function) (fs : List Fm) (cM cR cW cX cP cN cC : Addr) : Prop where
 O : OkB B w
 hA : AOk A (n + 8) es
 hE : EnvIs env (scOf lawObj.1)
 hcs : env.cells = [(Str.ofString "most", cM), (Str.ofString "row", cR), (Str.ofString "words", cW), (Str.ofString "lexer", cX), (Str.ofString "pool", cP), (Str.ofString "names", cN), (Str.ofString "cells", cC)]
 hF : ∀ vs, FrOk es ((⟨env, ["script", "numbers", "written", "at", "spans", "rounds", "two", "fewer", "works"], nd, kd, fn⟩, vs) :: fs)
section
variable {prog : Program} {w : World} {B : Bs} {fs : List Fm} {L : List (Addr × O)} {s : Shared} {A : Around}
theorem start_H {elt tgt iter : Expr} {ifs : List Expr} {rest : List Comprehension} {scope : Scope} {pos : Pos} {it : Addr} {acc : Value} {env : Env} {n : Nat} {I : Nat → List (Addr × O)} {src : List (Addr × O)} {P : Nat → Value → List (Addr × O) → Prop} {R : Result → Shared → Prop} (W : ItrH prog w tgt it n I src P) (S : St B fs (I 0 ++ L) s)
  (run : codeAny (model prog w) A (.compLoop (.ListComp elt (⟨tgt, iter, ifs, 0⟩ :: rest) scope pos) 0 (.ref it) acc env) R s) : codeAny (model prog w) A (.compStart (.ListComp elt (⟨tgt, iter, ifs, 0⟩ :: rest) scope pos) 0 (.ref it) acc env) R s := codeAny_compStart_list run (W.self S run)
end
end
section
section
variable {prog : Program} {w : World} {B : Bs} {fs : List Fm} {L : List (Addr × O)} {s : Shared} {A : Around} {E : Value → Shared → Prop}
theorem isList_ty {a : Addr} {vs : List Value} (h : s.heap.IsList a vs.toArray) : s.TypeIs (.ref a) "list" := by
 obtain ⟨o, e, hc, _⟩ := h
 exact ⟨_, e, hc⟩
theorem sub_sliceA {a : Addr} {vs : List Value} {value slice : Expr} {vl vu vk : Value} {lo hi st : Option Int} {sl : Addr} {ops : List Value} {Q : Value → Shared → Prop} (S : St B fs L s) (hl : s.heap.IsList a vs.toArray) (hsl : At s sl (sliO vl vu vk)) (pl : IsPart vl lo) (pu : IsPart vu hi) (pk : IsPart vk st) (h0 : st ≠ some 0) (hz : vs.length ≤ 10000)
  (h : ∀ D s', St B fs ((D, lst (slicePick vs.toArray lo hi st).toList) :: L) s' → Q (.ref D) s')
  (hs : subscripted slice false (.ref a) (.ref sl) = operate ops (getItem (.ref a) (.ref sl)) := by with_unfolding_all rfl) :
  wpAny (model prog w) A (subscriptTail value slice (.ref a) (.ref sl)) Q E s := by
 wtm_at "pk"
 obtain ⟨o, ho, rfl⟩ := hsl
 refine st_any (isList_ty hl) list_getitem_lookup (wpAny_getItem_list_slice hl ⟨_, ho, rfl, rfl⟩ pl pu pk h0 ?_ (line_le (by simpa using hz))) hs
 exact h _ _ (S.alloc (o := { cls := .type "list", data := .seq (slicePick vs.toArray lo hi st) }) ⟨0, by simp⟩ rfl)
end
theorem take_cps : ∀ i : Nat, i ≤ 6 → (ofL (nmL.take i)).cps.size = i := by decide +kernel
theorem poolTo_succ (i : Nat) : (poolTo i ++ (List.range i).map fun e => (nmL.getD e 0, nmL.getD i 0)) = poolTo (i + 1) := rfl
section
variable {prog : Program} {w : World} {B : Bs} {fs : List Fm} {M : List (Addr × O)} {s : Shared} {A : Around} {E : Value → Shared → Prop} {n : Nat} {es : List Env} {env : Env} {sa cM cR cW cX cP cN cC : Addr} {Q : Flow → Shared → Prop}
 {nd : (["script", "numbers", "written", "at", "spans", "rounds", "two", "fewer", "works"] : List Str).Nodup} {kd : ∀ x ∈ (["script", "numbers", "written", "at", "spans", "rounds", "two", "fewer", "works"] : List Str), env.kindOf x = some .local} {fn : env.scope.kind = .function}
end
noncomputable section
namespace law1_w
def Pw (prog : Program) (w : World) (B : Bs) (fs : List Fm) (M : List (Addr × O)) (s : Shared) (A : Around) (E : Value → Shared → Prop) (n : Nat) (es : List Env) (env : Env) (sa cM cR cW cX cP cN cC : Addr) (Q : Flow → Shared → Prop) (vs : List Value) (ns : List Int) : Prop := ∀ {nd : (["script", "numbers", "written", "at", "spans", "rounds", "two", "fewer", "works"] : List Str).Nodup} {kd : ∀ x ∈ (["script", "numbers", "written", "at", "spans", "rounds", "two", "fewer", "works"] : List Str), env.kindOf x = some .local} {fn : env.scope.kind = .function} (H : LawH B w A n es env nd kd fn fs cM cR cW cX cP cN cC) (S : St B (lawF env nd kd fn sa none none none none none none none none :: fs) (lawC cM cR cW cX cP cN cC none none none none none none none M) s) (hB : ∀ s' : Shared, (∀ a o, B.h.get? a = some o → s'.heap.get? a = some o) → s'.heap.IsList sa vs.toArray) (hv : F2 IntV ns vs) (hz : vs.length ≤ 63) (h : ∀ ca pa t cells s', St B (lawF env nd kd fn sa none none none none none none none none :: fs) (lawC cM cR cW cX cP cN cC none none none none (some (.ref pa)) (some (.str nmS t)) (some (.ref ca)) ((ca, lstR IntV cells) :: (pa, lstR StrV ((poolTo 6).map fun p => two p.1 p.2)) :: M)) s' → cells.length ≤ 63 →
   wpAny (model prog w) A (execs ((stmtsOf lawObj.1).drop 3) env) Q E s'),
  wpAny (model prog w) A (execs (stmtsOf lawObj.1) env) Q E s
def Hw (x : Program × World × Bs × (List Fm) × (List (Addr × O)) × Shared × Around × (Value → Shared → Prop) × Nat × (List Env) × Env × Addr × Addr × Addr × Addr × Addr × Addr × Addr × Addr × (Flow → Shared → Prop) × (List Value) × (List Int)) : Prop := Pw x.1 x.2.1 x.2.2.1 x.2.2.2.1 x.2.2.2.2.1 x.2.2.2.2.2.1 x.2.2.2.2.2.2.1 x.2.2.2.2.2.2.2.1 x.2.2.2.2.2.2.2.2.1 x.2.2.2.2.2.2.2.2.2.1 x.2.2.2.2.2.2.2.2.2.2.1 x.2.2.2.2.2.2.2.2.2.2.2.1 x.2.2.2.2.2.2.2.2.2.2.2.2.1 x.2.2.2.2.2.2.2.2.2.2.2.2.2.1 x.2.2.2.2.2.2.2.2.2.2.2.2.2.2.1 x.2.2.2.2.2.2.2.2.2.2.2.2.2.2.2.1 x.2.2.2.2.2.2.2.2.2.2.2.2.2.2.2.2.1 x.2.2.2.2.2.2.2.2.2.2.2.2.2.2.2.2.2.1 x.2.2.2.2.2.2.2.2.2.2.2.2.2.2.2.2.2.2.1 x.2.2.2.2.2.2.2.2.2.2.2.2.2.2.2.2.2.2.2.1 x.2.2.2.2.2.2.2.2.2.2.2.2.2.2.2.2.2.2.2.2.1 x.2.2.2.2.2.2.2.2.2.2.2.2.2.2.2.2.2.2.2.2.2
@[irreducible] def cw := worst (by repeat (first | refine ne5 ?_ ?_ | exact ne1 | exact ne2 | exact ne3 | exact ne4 | exact inferInstance | exact ne7 | exact ⟨⟨0, 0, 0, 0, 0, 0, 0, 0⟩⟩)) Hw
def prog := cw.1
def w := cw.2.1
def B := cw.2.2.1
def fs := cw.2.2.2.1
def M := cw.2.2.2.2.1
def s := cw.2.2.2.2.2.1
def A := cw.2.2.2.2.2.2.1
def E := cw.2.2.2.2.2.2.2.1
def n := cw.2.2.2.2.2.2.2.2.1
def es := cw.2.2.2.2.2.2.2.2.2.1
def env := cw.2.2.2.2.2.2.2.2.2.2.1
def sa := cw.2.2.2.2.2.2.2.2.2.2.2.1
def cM := cw.2.2.2.2.2.2.2.2.2.2.2.2.1
def cR := cw.2.2.2.2.2.2.2.2.2.2.2.2.2.1
def cW := cw.2.2.2.2.2.2.2.2.2.2.2.2.2.2.1
def cX := cw.2.2.2.2.2.2.2.2.2.2.2.2.2.2.2.1
def cP := cw.2.2.2.2.2.2.2.2.2.2.2.2.2.2.2.2.1
def cN := cw.2.2.2.2.2.2.2.2.2.2.2.2.2.2.2.2.2.1
def cC := cw.2.2.2.2.2.2.2.2.2.2.2.2.2.2.2.2.2.2.1
def Q := cw.2.2.2.2.2.2.2.2.2.2.2.2.2.2.2.2.2.2.2.1
def vs := cw.2.2.2.2.2.2.2.2.2.2.2.2.2.2.2.2.2.2.2.2.1
def ns := cw.2.2.2.2.2.2.2.2.2.2.2.2.2.2.2.2.2.2.2.2.2
theorem run : Pw prog w B fs M s A E n es env sa cM cR cW cX cP cN cC Q vs ns := by
 intro nd kd fn H S hB hv hz h
 obtain ⟨OB, hA, hE, hcs, hF⟩ := H
 have O := OB.toOk
 wtm_at "us"
 dsimp only [lawF, lawC] at S h
 with_unfolding_all (dsimp only [scOf, lawObj] at hE)
 with_unfolding_all (dsimp only [stmtsOf, lawObj])
 refine xs_assign (hs := by rw [swapsW_sc, hE.sc]; with_unfolding_all rfl) ?_
 refine e_lcS S ["cell"] [] hE (closureFor_none (by decide +kernel)) (by decide +kernel) rfl (by decide +kernel) (by decide +kernel) (by decide +kernel) ?_
 wtm_at "go"
 refine ⟨_, _, S, fun sl s S => ?_⟩
 refine sub_sliceA S (hB s S.old) (S.at (by wtm_at "mem")) .none (.int 12 _) .none (by simp) (by lia) ?_
 clear S; intro D s S
 have hms := ofIntsAre (kmk_upto (intsAre hv) (y := 12) (by lia))
 wtm_at "us"
 generalize (slicePick vs.toArray none (some 12) none).toList = us at S hms
 generalize hm : ns.take (12 : Int).toNat = ms at hms
 have hml : ms.length ≤ 12 := by rw [← hm, List.length_take]; exact Nat.min_le_left _ _
 have hul := hms.len
 refine pi_list S (S.isL (a := D) (by wtm_at "mem")) ?_
 clear S; intro it s S
 refine lc_e (Itr.list _ _ it D (Src.lst us)) hA.hand S (fun i ys L' => _ = L' ∧ (∃ cs, F2 IntV cs ys) ∧ ys.length = i ∧ i ≤ us.length)
  (by rintro i ys _ ⟨rfl, _⟩ q hq'; simp only [List.mem_singleton] at hq'; subst hq'; wtm_at "mem") ⟨rfl, ⟨[], .nil⟩, rfl, Nat.zero_le _⟩ ?_ ?_ ?_
 ·rintro i ys _ ⟨_, _, rfl, hi⟩
  lia
 ·clear S; intro DD cenv cnd ckd cfn i vs' ys _ v X s E hEc hcl hvl hi hJ1 hJ2 S
  wtm_at "pq"
  wtm_at "pk"
  obtain ⟨hv', rfl⟩ := hJ2
  obtain ⟨rfl, ⟨cs', hcs'⟩, rfl, hil⟩ := hJ1
  wtm_at "ps"
  wtm_at "pk"
  obtain ⟨a1, rfl⟩ := len1 hvl
  obtain ⟨x, _, ⟨tx, rfl⟩⟩ := hms.tge hv'
  rw [relabel_sc, hE.sc] at hEc
  replace hE := hEc
  wtm_at "go"
  refine call_int_int ?_
  wtm_at "go"
  refine b_pow (by lia) (by decide +kernel) S ?_
  clear S; intro t1 s S
  refine b_mod (by decide +kernel) S ?_
  clear S; intro t2 s S
  exact ⟨_, _, rfl, ⟨rfl, ⟨_, hcs'.append (.cons ⟨t2, rfl⟩ .nil)⟩, by simp, by lia⟩, S⟩
 clear S; intro ca ys _ s hJ1 S
 wtm_at "pq"
 wtm_at "pk"
 obtain ⟨rfl, ⟨cells, hcl⟩, hyl, _⟩ := hJ1
 wtm_at "ps"
 have hcll := hcl.len
 refine sC S hE hcs (by rfl) rfl (.there (.there (.there (.there (.there (.there (.there (.there (.there .here))))))))) ?_
 clear S; intro s S
 wtm_at "go"
 refine sC S hE hcs (by rfl) rfl (.there (.there (.there (.there (.there (.there (.there (.there .here)))))))) ?_
 clear S; intro s S
 replace S := S.less (.cons_cons _ (.cons _ (.cons _ (.refl _))))
 replace S := S.perm (L' := (cM, celO none) :: (cR, celO none) :: (cW, celO none) :: (cX, celO none) :: (cP, celO none) :: (cN, celO (some (.str (Str.ofString "a #\"\\b") tok))) :: (cC, celO (some (.ref ca))) :: (ca, lst ys) :: M) (by wtm_at "perm")
 replace S := S.weak (a := ca) (y := lstR IntV cells) (.there (.there (.there (.there (.there (.there (.there .here))))))) (fun o h => ⟨_, hcl, h⟩)
 wtm_at "us"
 rw [show Str.ofString "a #\"\\b" = nmS from rfl] at S
 refine xs_assign (hs := by rw [swapsW_sc, hE.sc]; with_unfolding_all rfl) ?_
 refine e_lcS S ["place", "late", "early"] [(Str.ofString "names", cN)] hE (by rw [clos_cells, hcs]; with_unfolding_all rfl) (by decide +kernel) rfl (by decide +kernel) (by decide +kernel) (by decide +kernel) ?_
 wtm_at "go"
 wtm_at "cell"
 wtm_at "go"
 refine t_enumS (by (try dsimp only [LL]); unfold ascii; decide +kernel) S ?_
 clear S; intro e1 it1 s S
 refine pi_enum S (it := it1) (by wtm_at "mem") ?_
 refine n_list S (by decide) fun DD s S => ⟨_, S, fun cenv nd2 kd2 fn2 s hEc hcl S => ?_⟩
 wtm_at "us"
 generalize hbase : (cM, celO none) :: (cR, celO none) :: (cW, celO none) :: (cX, celO none) :: (cP, celO none) :: (cN, celO (some (.str nmS tok))) :: (cC, celO (some (.ref ca))) :: (ca, lstR IntV cells) :: M = base at S
 have hnm : (cN, celO (some (.str nmS tok))) ∈ base := by subst hbase; wtm_at "mem"
 replace S := S.perm (L' := [(e1, enuO it1 (0 : Nat)), (it1, sitO nmS tok 0)] ++ (DD, lst []) :: base) List.perm_middle.symm
 rw [relabel_sc, hE.sc] at hEc
 refine start_H (ItrH.enumS _ _ _ e1 it1 nmS tok) S ?_
 refine comp_loopH (ItrH.enumS _ _ _ e1 it1 nmS tok) (turns_2 (by intro _; with_unfolding_all rfl)) hA.hand (fun i vs L => ∃ ys, (DD, lst ys) :: base = L ∧ F2 StrV ((poolTo i).map fun p => two p.1 p.2) ys ∧ vs.length = 3 ∧ i ≤ 6) (by intro i vs L _ p hp; simp at hp) S ⟨[], rfl, .nil, rfl, by lia⟩ ?_ ?_ Bd2_mono rfl rfl rfl
 ·clear S; intro i vs _ v X s E hi hJ1 hJ2 S
  wtm_at "pq"
  wtm_at "pk"
  obtain ⟨t, tk, c, u, rfl, hc, rfl⟩ := hJ2
  obtain ⟨ys, rfl, hy, hvl, hi6⟩ := hJ1
  wtm_at "ps"
  wtm_at "pk"
  obtain ⟨a1, a2, a3, rfl⟩ := len3 hvl
  refine as_tup2 hA.hand S (S.isT (by wtm_at "mem")) ?_
  clear S; intro s S
  wtm_at "go"
  (try show wpAny _ _ (eval _ cenv) _ _ _)
  wtm_at "go"
  refine lC S hEc hcl (by rfl) (c := cN) rfl (by wtm_at "mem") ?_
  wtm_at "go"
  refine ⟨_, _, S, fun sl s S => ?_⟩
  refine sub_sslice S (S.at (by wtm_at "mem")) (show (6 : Nat) ≤ 1000 by decide) ?_
  clear S; intro t3 s S
  have hi' : i < 6 := hi
  rw [pool_slice i (by lia)]
  refine pi_str (ascii_take i (by lia)) S ?_
  clear S; intro it2 s S
  refine (fun run => start_21 run ((Itr.str (prog := prog) (w := w) (Str.ofString "early") default it2 _ t3).self S run)) ?_
  have hc' : nmL[i]? = some c := by rw [← nm_cps]; simpa using hc
  replace S := S.less (L' := [(it2, sitO (ofL (nmL.take i)) t3 0)] ++ ([(e1, enuO it1 ((i + 1 : Nat) : Int)), (it1, sitO nmS tok (i + 1))] ++ (DD, lst ys) :: base)) (by wtm_at "sub")
  replace S := S.perm (L' := [(it2, sitO (ofL (nmL.take i)) t3 0)] ++ (DD, lst ys) :: ([(e1, enuO it1 ((i + 1 : Nat) : Int)), (it1, sitO nmS tok (i + 1))] ++ base)) (by wtm_at "permc")
  refine comp_loop (Itr.str _ _ it2 (ofL (nmL.take i)) t3) turns_21 hA.hand (fun j vs L => ∃ zs, L = (DD, lst zs) :: ([(e1, enuO it1 ((i + 1 : Nat) : Int)), (it1, sitO nmS tok (i + 1))] ++ base) ∧ F2 StrV ((poolTo i ++ (List.range j).map fun e => (nmL.getD e 0, nmL.getD i 0)).map fun p => two p.1 p.2) zs ∧ vs.length = 3 ∧ vs[1]? = some (some (.str ⟨#[c]⟩ u)) ∧ j ≤ i) (by intro i vs L _ p hp; simp at hp) S ⟨ys, rfl, by simpa using hy, rfl, rfl, by lia⟩ ?_ ?_ BdL_mono rfl rfl rfl
  ·clear S; intro j vs _ v X s E hj hJ1 hJ2 S
   wtm_at "pq"
   wtm_at "pk"
   obtain ⟨⟨c2, u2, hc2, rfl⟩, rfl⟩ := hJ2
   obtain ⟨zs, rfl, hz, hvl, hv1, hji⟩ := hJ1
   wtm_at "ps"
   wtm_at "pk"
   obtain ⟨b1, b2, b3, rfl⟩ := len3 hvl
   simp only [List.getElem?_cons_succ, List.getElem?_cons_zero, Option.some.injEq] at hv1
   subst hv1
   rw [take_cps i (by lia)] at hj
   have hc2' : nmL[j]? = some c2 := by
    have h2 : (nmL.take i)[j]? = some c2 := by simpa [ofL] using hc2
    rw [List.getElem?_take] at h2
    rwa [if_pos hj] at h2
   wtm_at "go"
   (try show wpAny _ _ (eval _ cenv) _ _ _)
   wtm_at "go"
   refine s_add (by show 1 + 1 ≤ 10000; decide) S ?_
   clear S; intro t4 s S
   have hzl := hz.len
   have hpl := poolTo_len i (by lia)
   simp only [List.length_map, List.length_append, List.length_range] at hzl
   wtm_at "un"
   refine l_append (y := lst (zs ++ [.str (⟨#[c2]⟩ ++ ⟨#[c]⟩) t4])) (Upd.here.left _) S (S.isL (by wtm_at "mem")) (fun _ h => h) (line_le (by lia)) fun s S => ⟨_, _, ⟨zs ++ [.str (⟨#[c2]⟩ ++ ⟨#[c]⟩) t4], rfl, ?_, rfl, rfl, by lia⟩, S⟩
   rw [List.range_succ, List.map_append (l₁ := List.range j), ← List.append_assoc, List.map_append]
   refine hz.append (.cons ⟨t4, ?_⟩ .nil)
   show Value.str (⟨#[c2]⟩ ++ ⟨#[c]⟩) t4 = Value.str (two (nmL.getD j 0) (nmL.getD i 0)) t4
   rw [List.getD_eq_getElem?_getD, List.getD_eq_getElem?_getD, hc2', hc']
   rfl
  ·clear S; intro vs _ s hJ1 S
   wtm_at "pq"
   wtm_at "pk"
   obtain ⟨zs, rfl, hz, hvl, hv1, hji⟩ := hJ1
   wtm_at "ps"
   rw [take_cps i (by lia), poolTo_succ] at hz
   refine ⟨_, _, ⟨zs, rfl, hz, hvl, by lia⟩, S.perm (by wtm_at "permc")⟩
 ·clear S; intro vs _ s hJ1 S
  wtm_at "pq"
  wtm_at "pk"
  obtain ⟨ys, rfl, hy, hvl, _⟩ := hJ1
  wtm_at "ps"
  rw [show nmS.cps.size = 6 from by decide +kernel] at hy
  refine cend S fun s S => ?_
  subst hbase
  refine sC S hE hcs (by rfl) rfl (.there (.there (.there (.there (.there .here))))) ?_
  clear S; intro s S
  refine h ca DD tok cells s ?_ (by lia)
  replace S := S.weak (a := DD) (y := lstR StrV ((poolTo 6).map fun p => two p.1 p.2)) .here (fun o h => ⟨_, hy, h⟩)
  exact S.perm (by wtm_at "permc")
end law1_w
end
theorem law1 {prog : Program} {w : World} {B : Bs} {fs : List Fm} {M : List (Addr × O)} {s : Shared} {A : Around} {E : Value → Shared → Prop} {n : Nat} {es : List Env} {env : Env} {sa cM cR cW cX cP cN cC : Addr} {Q : Flow → Shared → Prop} {vs : List Value} {ns : List Int} : law1_w.Pw prog w B fs M s A E n es env sa cM cR cW cX cP cN cC Q vs ns := worst_of (Q := law1_w.Hw) (by with_unfolding_all rfl) law1_w.run ⟨prog, w, B, fs, M, s, A, E, n, es, env, sa, cM, cR, cW, cX, cP, cN, cC, Q, vs, ns⟩
section
end
end
section
section
variable {prog : Program} {w : World} {B : Bs} {fs : List Fm} {M : List (Addr × O)} {s : Shared} {A : Around} {E : Value → Shared → Prop} {n : Nat} {es : List Env} {env : Env} {sa cM cR cW cX cP cN cC : Addr} {Q : Flow → Shared → Prop}
 {nd : (["script", "numbers", "written", "at", "spans", "rounds", "two", "fewer", "works"] : List Str).Nodup} {kd : ∀ x ∈ (["script", "numbers", "written", "at", "spans", "rounds", "two", "fewer", "works"] : List Str), env.kindOf x = some .local} {fn : env.scope.kind = .function}
end
noncomputable section
namespace law2_w
def Pw (prog : Program) (w : World) (B : Bs) (fs : List Fm) (M : List (Addr × O)) (s : Shared) (A : Around) (E : Value → Shared → Prop) (n : Nat) (es : List Env) (env : Env) (sa cM cR cW cX cP cN cC : Addr) (Q : Flow → Shared → Prop) (pv nv : Option Value) (ca : Addr) (cells : List Int) : Prop := ∀ {nd : (["script", "numbers", "written", "at", "spans", "rounds", "two", "fewer", "works"] : List Str).Nodup} {kd : ∀ x ∈ (["script", "numbers", "written", "at", "spans", "rounds", "two", "fewer", "works"] : List Str), env.kindOf x = some .local} {fn : env.scope.kind = .function} (H : LawH B w A n es env nd kd fn fs cM cR cW cX cP cN cC) (S : St B (lawF env nd kd fn sa none none none none none none none none :: fs) (lawC cM cR cW cX cP cN cC none none none none pv nv (some (.ref ca)) M) s) (hcm : (ca, lstR IntV cells) ∈ M) (hcz : cells.length ≤ 63) (h : ∀ na ns s', ns.length = 7 → St B (lawF env nd kd fn sa (some (.ref na)) none none none none none none none :: fs) (lawC cM cR cW cX cP cN cC none none none none pv nv (some (.ref ca)) ((na, lstR IntV ns) :: M)) s' →
   wpAny (model prog w) A (execs ((stmtsOf lawObj.1).drop 4) env) Q E s'),
  wpAny (model prog w) A (execs ((stmtsOf lawObj.1).drop 3) env) Q E s
def Hw (x : Program × World × Bs × (List Fm) × (List (Addr × O)) × Shared × Around × (Value → Shared → Prop) × Nat × (List Env) × Env × Addr × Addr × Addr × Addr × Addr × Addr × Addr × Addr × (Flow → Shared → Prop) × (Option Value) × (Option Value) × Addr × (List Int)) : Prop := Pw x.1 x.2.1 x.2.2.1 x.2.2.2.1 x.2.2.2.2.1 x.2.2.2.2.2.1 x.2.2.2.2.2.2.1 x.2.2.2.2.2.2.2.1 x.2.2.2.2.2.2.2.2.1 x.2.2.2.2.2.2.2.2.2.1 x.2.2.2.2.2.2.2.2.2.2.1 x.2.2.2.2.2.2.2.2.2.2.2.1 x.2.2.2.2.2.2.2.2.2.2.2.2.1 x.2.2.2.2.2.2.2.2.2.2.2.2.2.1 x.2.2.2.2.2.2.2.2.2.2.2.2.2.2.1 x.2.2.2.2.2.2.2.2.2.2.2.2.2.2.2.1 x.2.2.2.2.2.2.2.2.2.2.2.2.2.2.2.2.1 x.2.2.2.2.2.2.2.2.2.2.2.2.2.2.2.2.2.1 x.2.2.2.2.2.2.2.2.2.2.2.2.2.2.2.2.2.2.1 x.2.2.2.2.2.2.2.2.2.2.2.2.2.2.2.2.2.2.2.1 x.2.2.2.2.2.2.2.2.2.2.2.2.2.2.2.2.2.2.2.2.1 x.2.2.2.2.2.2.2.2.2.2.2.2.2.2.2.2.2.2.2.2.2.1 x.2.2.2.2.2.2.2.2.2.2.2.2.2.2.2.2.2.2.2.2.2.2.1 x.2.2.2.2.2.2.2.2.2.2.2.2.2.2.2.2.2.2.2.2.2.2.2
@[irreducible] def cw := worst (by repeat (first | refine ne5 ?_ ?_ | exact ne1 | exact ne2 | exact ne3 | exact ne4 | exact inferInstance | exact ne7 | exact ⟨⟨0, 0, 0, 0, 0, 0, 0, 0⟩⟩)) Hw
def prog := cw.1
def w := cw.2.1
def B := cw.2.2.1
def fs := cw.2.2.2.1
def M := cw.2.2.2.2.1
def s := cw.2.2.2.2.2.1
def A := cw.2.2.2.2.2.2.1
def E := cw.2.2.2.2.2.2.2.1
def n := cw.2.2.2.2.2.2.2.2.1
def es := cw.2.2.2.2.2.2.2.2.2.1
def env := cw.2.2.2.2.2.2.2.2.2.2.1
def sa := cw.2.2.2.2.2.2.2.2.2.2.2.1
def cM := cw.2.2.2.2.2.2.2.2.2.2.2.2.1
def cR := cw.2.2.2.2.2.2.2.2.2.2.2.2.2.1
def cW := cw.2.2.2.2.2.2.2.2.2.2.2.2.2.2.1
def cX := cw.2.2.2.2.2.2.2.2.2.2.2.2.2.2.2.1
def cP := cw.2.2.2.2.2.2.2.2.2.2.2.2.2.2.2.2.1
def cN := cw.2.2.2.2.2.2.2.2.2.2.2.2.2.2.2.2.2.1
def cC := cw.2.2.2.2.2.2.2.2.2.2.2.2.2.2.2.2.2.2.1
def Q := cw.2.2.2.2.2.2.2.2.2.2.2.2.2.2.2.2.2.2.2.1
def pv := cw.2.2.2.2.2.2.2.2.2.2.2.2.2.2.2.2.2.2.2.2.1
def nv := cw.2.2.2.2.2.2.2.2.2.2.2.2.2.2.2.2.2.2.2.2.2.1
def ca := cw.2.2.2.2.2.2.2.2.2.2.2.2.2.2.2.2.2.2.2.2.2.2.1
def cells := cw.2.2.2.2.2.2.2.2.2.2.2.2.2.2.2.2.2.2.2.2.2.2.2
theorem run : Pw prog w B fs M s A E n es env sa cM cR cW cX cP cN cC Q pv nv ca cells := by
 intro nd kd fn H S hcm hcz h
 obtain ⟨OB, hA, hE, hcs, hF⟩ := H
 have O := OB.toOk
 wtm_at "us"
 dsimp only [lawF, lawC] at S h
 with_unfolding_all (dsimp only [scOf, lawObj] at hE)
 with_unfolding_all (dsimp only [stmtsOf, lawObj, List.drop])
 refine xs_lcS S 1 ["k", "start"] [(Str.ofString "cells", cC)] hE (by rw [clos_cells, hcs]; with_unfolding_all rfl) (by decide +kernel) rfl (by decide +kernel) (by decide +kernel) (by decide +kernel) (by rw [swapsW_sc, hE.sc]; with_unfolding_all rfl) rfl (by simp) ?_
 wtm_at "go"
 refine n_list S (line_le (by simp)) ?_
 clear S; intro la s S
 wtm_at "go"
 replace S := S.weak (a := la) (y := lstR IntV [0, 17, 5, 24, 14, 25, 7]) .here (fun o h => ⟨_, .cons ⟨_, rfl⟩ (.cons ⟨_, rfl⟩ (.cons ⟨_, rfl⟩ (.cons ⟨_, rfl⟩ (.cons ⟨_, rfl⟩ (.cons ⟨_, rfl⟩ (.cons ⟨_, rfl⟩ .nil)))))), h⟩)
 wtm_at "pk"
 obtain ⟨lv, hlv, hLl⟩ := S.isLR (a := la) (R := IntV) (xs := [0, 17, 5, 24, 14, 25, 7]) (by wtm_at "mem")
 refine t_enum S hLl ?_
 clear S; (try clear LL); (try clear LL); clear hLl hlv lv; intro e1 it1 s S
 refine pi_enum S (it := it1) (by wtm_at "mem") ?_
 refine lc_u (Itr.enum _ _ _ e1 it1 la (Src.lstR IntV [0, 17, 5, 24, 14, 25, 7])) hA.hand S (fun i ys L' => _ = L' ∧ (∃ cs, F2 IntV cs ys) ∧ ys.length = i ∧ i ≤ 7)
  (by rintro i ys _ ⟨rfl, _⟩ q hq'; simp only [List.mem_singleton] at hq'; subst hq'; wtm_at "mem") ⟨rfl, ⟨[], .nil⟩, rfl, Nat.zero_le _⟩ ?_ ?_ ?_
 ·rintro i ys _ ⟨_, _, rfl, hi⟩
  lia
 ·clear S; intro DD cenv cnd ckd cfn i vs' ys _ v X s E hEc hcl hvl hi hJ1 hJ2 S
  wtm_at "pq"
  wtm_at "pk"
  obtain ⟨t, tk, x, rfl, ⟨xi, hx, ⟨tx, rfl⟩⟩, rfl⟩ := hJ2
  obtain ⟨rfl, ⟨cs', hcs'⟩, rfl, hil⟩ := hJ1
  wtm_at "ps"
  wtm_at "pk"
  obtain ⟨a1, a2, rfl⟩ := len2 hvl
  rw [relabel_sc, hE.sc] at hEc
  replace hE := hEc
  refine as_tup2 hA.hand S (S.isT (by wtm_at "mem")) ?_
  clear S; intro s S
  wtm_at "go"
  refine lC S hEc hcl (by rfl) (c := cC) rfl (by wtm_at "mem") ?_
  wtm_at "go"
  refine ⟨_, _, S, fun sl s S => ?_⟩
  wtm_at "pk"
  obtain ⟨cv, hcv, hCl⟩ := S.isLR (a := ca) (R := IntV) (xs := cells) (by wtm_at "mem")
  have hcvl := hcv.len
  refine sub_slice S hCl (S.at (by wtm_at "mem")) (.int _ _) .none (.int 7 _) (by simp) (by lia) ?_
  clear S; (try clear LL); (try clear LL); clear hCl; intro D s S
  wtm_at "pk"
  obtain ⟨ms, hms⟩ := pick_ints hcv (some ((ys.length : Nat) : Int)) none (some 7)
  wtm_at "go"
  refine l_sum hA.hand S (S.isL (a := D) (by wtm_at "mem")) hms ?_
  clear S; intro t1 s S
  wtm_at "go"
  exact ⟨_, _, rfl, ⟨rfl, ⟨_, hcs'.append (.cons ⟨_, rfl⟩ .nil)⟩, by simp, by simp at hi; lia⟩, S.less (by wtm_at "sub")⟩
 clear S; intro na ys _ s hJ1 S
 wtm_at "pq"
 wtm_at "pk"
 obtain ⟨rfl, ⟨ns, hns⟩, hyl, _⟩ := hJ1
 wtm_at "ps"
 (try dsimp only [List.set] at S)
 have hnl := hns.len
 replace S := S.weak (a := na) (y := lstR IntV ns) .here (fun o h => ⟨_, hns, h⟩)
 refine h na ns s (by rw [← hnl, hyl]; rfl) ?_
 exact (S.less (L' := (na, lstR IntV ns) :: (cM, celO none) :: (cR, celO none) :: (cW, celO none) :: (cX, celO none) :: (cP, celO pv) :: (cN, celO nv) :: (cC, celO (some (.ref ca))) :: M) (by wtm_at "sub")).perm (by wtm_at "perm")
end law2_w
end
theorem law2 {prog : Program} {w : World} {B : Bs} {fs : List Fm} {M : List (Addr × O)} {s : Shared} {A : Around} {E : Value → Shared → Prop} {n : Nat} {es : List Env} {env : Env} {sa cM cR cW cX cP cN cC : Addr} {Q : Flow → Shared → Prop} {pv nv : Option Value} {ca : Addr} {cells : List Int} : law2_w.Pw prog w B fs M s A E n es env sa cM cR cW cX cP cN cC Q pv nv ca cells := worst_of (Q := law2_w.Hw) (by with_unfolding_all rfl) law2_w.run ⟨prog, w, B, fs, M, s, A, E, n, es, env, sa, cM, cR, cW, cX, cP, cN, cC, Q, pv, nv, ca, cells⟩
section
end
end
section
section
variable {prog : Program} {w : World} {B : Bs} {fs : List Fm} {M : List (Addr × O)} {s : Shared} {A : Around} {E : Value → Shared → Prop} {n : Nat} {es : List Env} {env : Env} {sa cM cR cW cX cP cN cC : Addr} {Q : Flow → Shared → Prop}
 {nd : (["script", "numbers", "written", "at", "spans", "rounds", "two", "fewer", "works"] : List Str).Nodup} {kd : ∀ x ∈ (["script", "numbers", "written", "at", "spans", "rounds", "two", "fewer", "works"] : List Str), env.kindOf x = some .local} {fn : env.scope.kind = .function}
end
noncomputable section
namespace law3_w
def Pw (prog : Program) (w : World) (B : Bs) (fs : List Fm) (M : List (Addr × O)) (s : Shared) (A : Around) (E : Value → Shared → Prop) (n : Nat) (es : List Env) (env : Env) (sa cM cR cW cX cP cN cC : Addr) (Q : Flow → Shared → Prop) (nv cv : Option Value) (pa na : Addr) (ns : List Int) : Prop := ∀ {nd : (["script", "numbers", "written", "at", "spans", "rounds", "two", "fewer", "works"] : List Str).Nodup} {kd : ∀ x ∈ (["script", "numbers", "written", "at", "spans", "rounds", "two", "fewer", "works"] : List Str), env.kindOf x = some .local} {fn : env.scope.kind = .function} (H : LawH B w A n es env nd kd fn fs cM cR cW cX cP cN cC) (S : St B (lawF env nd kd fn sa (some (.ref na)) none none none none none none none :: fs) (lawC cM cR cW cX cP cN cC none none none none (some (.ref pa)) nv cv M) s) (hpm : (pa, lstR StrV ((poolTo 6).map fun p => two p.1 p.2)) ∈ M) (hnm : (na, lstR IntV ns) ∈ M) (hnz : ns.length = 7) (h : ∀ ra (ws : List (Nat × Nat)) s', ws.length = 7 → (∀ p ∈ ws, p ∈ poolTo 6) → St B (lawF env nd kd fn sa (some (.ref na)) (some (.ref ra)) none none none none none none :: fs) (lawC cM cR cW cX cP cN cC none none none none (some (.ref pa)) nv cv ((ra, lstR StrV (ws.map fun p => two p.1 p.2)) :: M)) s' →
   wpAny (model prog w) A (execs ((stmtsOf lawObj.1).drop 5) env) Q E s'),
  wpAny (model prog w) A (execs ((stmtsOf lawObj.1).drop 4) env) Q E s
def Hw (x : Program × World × Bs × (List Fm) × (List (Addr × O)) × Shared × Around × (Value → Shared → Prop) × Nat × (List Env) × Env × Addr × Addr × Addr × Addr × Addr × Addr × Addr × Addr × (Flow → Shared → Prop) × (Option Value) × (Option Value) × Addr × Addr × (List Int)) : Prop := Pw x.1 x.2.1 x.2.2.1 x.2.2.2.1 x.2.2.2.2.1 x.2.2.2.2.2.1 x.2.2.2.2.2.2.1 x.2.2.2.2.2.2.2.1 x.2.2.2.2.2.2.2.2.1 x.2.2.2.2.2.2.2.2.2.1 x.2.2.2.2.2.2.2.2.2.2.1 x.2.2.2.2.2.2.2.2.2.2.2.1 x.2.2.2.2.2.2.2.2.2.2.2.2.1 x.2.2.2.2.2.2.2.2.2.2.2.2.2.1 x.2.2.2.2.2.2.2.2.2.2.2.2.2.2.1 x.2.2.2.2.2.2.2.2.2.2.2.2.2.2.2.1 x.2.2.2.2.2.2.2.2.2.2.2.2.2.2.2.2.1 x.2.2.2.2.2.2.2.2.2.2.2.2.2.2.2.2.2.1 x.2.2.2.2.2.2.2.2.2.2.2.2.2.2.2.2.2.2.1 x.2.2.2.2.2.2.2.2.2.2.2.2.2.2.2.2.2.2.2.1 x.2.2.2.2.2.2.2.2.2.2.2.2.2.2.2.2.2.2.2.2.1 x.2.2.2.2.2.2.2.2.2.2.2.2.2.2.2.2.2.2.2.2.2.1 x.2.2.2.2.2.2.2.2.2.2.2.2.2.2.2.2.2.2.2.2.2.2.1 x.2.2.2.2.2.2.2.2.2.2.2.2.2.2.2.2.2.2.2.2.2.2.2.1 x.2.2.2.2.2.2.2.2.2.2.2.2.2.2.2.2.2.2.2.2.2.2.2.2
@[irreducible] def cw := worst (by repeat (first | refine ne5 ?_ ?_ | exact ne1 | exact ne2 | exact ne3 | exact ne4 | exact inferInstance | exact ne7 | exact ⟨⟨0, 0, 0, 0, 0, 0, 0, 0⟩⟩)) Hw
def prog := cw.1
def w := cw.2.1
def B := cw.2.2.1
def fs := cw.2.2.2.1
def M := cw.2.2.2.2.1
def s := cw.2.2.2.2.2.1
def A := cw.2.2.2.2.2.2.1
def E := cw.2.2.2.2.2.2.2.1
def n := cw.2.2.2.2.2.2.2.2.1
def es := cw.2.2.2.2.2.2.2.2.2.1
def env := cw.2.2.2.2.2.2.2.2.2.2.1
def sa := cw.2.2.2.2.2.2.2.2.2.2.2.1
def cM := cw.2.2.2.2.2.2.2.2.2.2.2.2.1
def cR := cw.2.2.2.2.2.2.2.2.2.2.2.2.2.1
def cW := cw.2.2.2.2.2.2.2.2.2.2.2.2.2.2.1
def cX := cw.2.2.2.2.2.2.2.2.2.2.2.2.2.2.2.1
def cP := cw.2.2.2.2.2.2.2.2.2.2.2.2.2.2.2.2.1
def cN := cw.2.2.2.2.2.2.2.2.2.2.2.2.2.2.2.2.2.1
def cC := cw.2.2.2.2.2.2.2.2.2.2.2.2.2.2.2.2.2.2.1
def Q := cw.2.2.2.2.2.2.2.2.2.2.2.2.2.2.2.2.2.2.2.1
def nv := cw.2.2.2.2.2.2.2.2.2.2.2.2.2.2.2.2.2.2.2.2.1
def cv := cw.2.2.2.2.2.2.2.2.2.2.2.2.2.2.2.2.2.2.2.2.2.1
def pa := cw.2.2.2.2.2.2.2.2.2.2.2.2.2.2.2.2.2.2.2.2.2.2.1
def na := cw.2.2.2.2.2.2.2.2.2.2.2.2.2.2.2.2.2.2.2.2.2.2.2.1
def ns := cw.2.2.2.2.2.2.2.2.2.2.2.2.2.2.2.2.2.2.2.2.2.2.2.2
theorem run : Pw prog w B fs M s A E n es env sa cM cR cW cX cP cN cC Q nv cv pa na ns := by
 intro nd kd fn H S hpm hnm hnz h
 obtain ⟨OB, hA, hE, hcs, hF⟩ := H
 have O := OB.toOk
 wtm_at "us"
 dsimp only [lawF, lawC] at S h
 with_unfolding_all (dsimp only [scOf, lawObj] at hE)
 with_unfolding_all (dsimp only [stmtsOf, lawObj, List.drop])
 refine xs_lcS S 2 ["number"] [(Str.ofString "pool", cP)] hE (by rw [clos_cells, hcs]; with_unfolding_all rfl) (by decide +kernel) rfl (by decide +kernel) (by decide +kernel) (by decide +kernel) (by rw [swapsW_sc, hE.sc]; with_unfolding_all rfl) rfl (by simp) ?_
 wtm_at "go"
 wtm_at "pk"
 obtain ⟨lv, hlv, hLl⟩ := S.isLR (a := na) (R := IntV) (xs := ns) (by wtm_at "mem")
 refine pi_list S hLl ?_
 clear S; (try clear LL); (try clear LL); clear hLl hlv lv; intro it s S
 refine lc_u (Itr.list _ _ it na (Src.lstR IntV ns)) hA.hand S (fun i ys L' => _ = L' ∧ (∃ ws : List (Nat × Nat), F2 StrV (ws.map fun p => two p.1 p.2) ys ∧ ∀ p ∈ ws, p ∈ poolTo 6) ∧ ys.length = i ∧ i ≤ ns.length)
  (by rintro i ys _ ⟨rfl, _⟩ q hq'; simp only [List.mem_singleton] at hq'; subst hq'; wtm_at "mem") ⟨rfl, ⟨[], .nil, by simp⟩, rfl, Nat.zero_le _⟩ ?_ ?_ ?_
 ·rintro i ys _ ⟨_, _, rfl, hi⟩
  lia
 ·clear S; intro DD cenv cnd ckd cfn i vs' ys _ v X s E hEc hcl hvl hi hJ1 hJ2 S
  wtm_at "pq"
  wtm_at "pk"
  obtain ⟨⟨x, hx, ⟨tx, rfl⟩⟩, rfl⟩ := hJ2
  obtain ⟨rfl, ⟨ws, hws, hwp⟩, rfl, hil⟩ := hJ1
  wtm_at "ps"
  wtm_at "pk"
  obtain ⟨a1, rfl⟩ := len1 hvl
  rw [relabel_sc, hE.sc] at hEc
  replace hE := hEc
  wtm_at "go"
  refine lC S hEc hcl (by rfl) (c := cP) rfl (by wtm_at "mem") ?_
  wtm_at "go"
  refine b_mod (by decide +kernel) S ?_
  clear S; intro t1 s S
  have h0 : 0 ≤ x.fmod 15 := Int.fmod_nonneg_of_pos _ (by decide)
  have h15 : x.fmod 15 < 15 := Int.fmod_lt_of_pos _ (by decide)
  wtm_at "us"
  generalize x.fmod 15 = k at h0 h15 S
  wtm_at "pk"
  obtain ⟨pv, hpv, hPl⟩ := S.isLR (a := pa) (R := StrV) (xs := (poolTo 6).map fun p => two p.1 p.2) (by wtm_at "mem")
  have hpvl := hpv.len
  rw [List.length_map, pool_len] at hpvl
  have hkl : k.toNat < (poolTo 6).length := by rw [pool_len]; lia
  wtm_at "pk"
  obtain ⟨pw, hpw, ⟨tp, rfl⟩⟩ := hpv.get (i := k.toNat) (x := two (poolTo 6)[k.toNat].1 (poolTo 6)[k.toNat].2) (by rw [List.getElem?_map, List.getElem?_eq_getElem hkl]; rfl)
  refine sub_list hPl h0 hpw ?_ (hsz := by lia)
  clear hPl hpv
  refine ⟨_, _, rfl, ⟨rfl, ⟨ws ++ [(poolTo 6)[k.toNat]], ?_, fun p hp => ?_⟩, by simp, by lia⟩, S⟩
  ·rw [List.map_append]; exact hws.append (.cons ⟨_, rfl⟩ .nil)
  ·rcases List.mem_append.mp hp with hp | hp
   ·exact hwp p hp
   ·simp only [List.mem_singleton] at hp; subst hp; exact List.getElem_mem _
 clear S; intro ra ys _ s hJ1 S
 wtm_at "pq"
 wtm_at "pk"
 obtain ⟨rfl, ⟨ws, hws, hwp⟩, hyl, _⟩ := hJ1
 wtm_at "ps"
 (try dsimp only [List.set] at S)
 have hnl := hws.len
 rw [List.length_map] at hnl
 replace S := S.weak (a := ra) (y := lstR StrV (ws.map fun p => two p.1 p.2)) .here (fun o h => ⟨_, hws, h⟩)
 refine h ra ws s (by lia) hwp ?_
 exact S.perm (by wtm_at "perm")
end law3_w
end
theorem law3 {prog : Program} {w : World} {B : Bs} {fs : List Fm} {M : List (Addr × O)} {s : Shared} {A : Around} {E : Value → Shared → Prop} {n : Nat} {es : List Env} {env : Env} {sa cM cR cW cX cP cN cC : Addr} {Q : Flow → Shared → Prop} {nv cv : Option Value} {pa na : Addr} {ns : List Int} : law3_w.Pw prog w B fs M s A E n es env sa cM cR cW cX cP cN cC Q nv cv pa na ns := worst_of (Q := law3_w.Hw) (by with_unfolding_all rfl) law3_w.run ⟨prog, w, B, fs, M, s, A, E, n, es, env, sa, cM, cR, cW, cX, cP, cN, cC, Q, nv, cv, pa, na, ns⟩
section
end
end
section
theorem textF_nil (ns : List Int) : textF [] ns = [] := by simp [textF]
theorem nm_alpha : ∀ c ∈ nmL, c ∈ alpha := by decide
theorem pool_alpha {ws : List (Nat × Nat)} (h : ∀ p ∈ ws, p ∈ poolTo 6) : ∀ p ∈ ws, p.1 ∈ alpha ∧ p.2 ∈ alpha := fun p hp =>
 have := pool_nm p (h p hp)
 ⟨nm_alpha _ this.1, nm_alpha _ this.2.1⟩
section
variable {prog : Program} {w : World} {B : Bs} {fs : List Fm} {M : List (Addr × O)} {s : Shared} {A : Around} {E : Value → Shared → Prop} {n : Nat} {es : List Env} {env : Env} {sa cM cR cW cX cP cN cC : Addr} {Q : Flow → Shared → Prop}
 {nd : (["script", "numbers", "written", "at", "spans", "rounds", "two", "fewer", "works"] : List Str).Nodup} {kd : ∀ x ∈ (["script", "numbers", "written", "at", "spans", "rounds", "two", "fewer", "works"] : List Str), env.kindOf x = some .local} {fn : env.scope.kind = .function}
end
noncomputable section
namespace law4_w
def Pw (prog : Program) (w : World) (B : Bs) (fs : List Fm) (M : List (Addr × O)) (s : Shared) (A : Around) (E : Value → Shared → Prop) (n : Nat) (es : List Env) (env : Env) (sa cM cR cW cX cP cN cC : Addr) (Q : Flow → Shared → Prop) (pv nv cv : Option Value) (na ra : Addr) (ns : List Int) (ws : List (Nat × Nat)) : Prop := ∀ {nd : (["script", "numbers", "written", "at", "spans", "rounds", "two", "fewer", "works"] : List Str).Nodup} {kd : ∀ x ∈ (["script", "numbers", "written", "at", "spans", "rounds", "two", "fewer", "works"] : List Str), env.kindOf x = some .local} {fn : env.scope.kind = .function} (H : LawH B w A n es env nd kd fn fs cM cR cW cX cP cN cC) (S : St B (lawF env nd kd fn sa (some (.ref na)) (some (.ref ra)) none none none none none none :: fs) (lawC cM cR cW cX cP cN cC none none none none pv nv cv (tabE 199 ++ M)) s) (hnm : (na, lstR IntV ns) ∈ M) (hrm : (ra, lstR StrV (ws.map fun p => two p.1 p.2)) ∈ M) (hnz : ns.length = 7) (hwz : ws.length = 7) (hwp : ∀ p ∈ ws, p ∈ poolTo 6) (h : ∀ xv wa c' s', St B (lawF env nd kd fn sa (some (.ref na)) (some (.ref ra)) none none none none none none :: fs) (lawC cM cR cW cX cP cN cC none none (some (.ref wa)) xv pv nv cv ((wa, lstR StrV (ws.map fun p => two p.1 p.2)) :: (tabF 199 pieQ piePos.1 c' ++ M))) s' →
   wpAny (model prog w) A (execs ((stmtsOf lawObj.1).drop 8) env) Q E s'),
  wpAny (model prog w) A (execs ((stmtsOf lawObj.1).drop 5) env) Q E s
def Hw (x : Program × World × Bs × (List Fm) × (List (Addr × O)) × Shared × Around × (Value → Shared → Prop) × Nat × (List Env) × Env × Addr × Addr × Addr × Addr × Addr × Addr × Addr × Addr × (Flow → Shared → Prop) × (Option Value) × (Option Value) × (Option Value) × Addr × Addr × (List Int) × (List (Nat × Nat))) : Prop := Pw x.1 x.2.1 x.2.2.1 x.2.2.2.1 x.2.2.2.2.1 x.2.2.2.2.2.1 x.2.2.2.2.2.2.1 x.2.2.2.2.2.2.2.1 x.2.2.2.2.2.2.2.2.1 x.2.2.2.2.2.2.2.2.2.1 x.2.2.2.2.2.2.2.2.2.2.1 x.2.2.2.2.2.2.2.2.2.2.2.1 x.2.2.2.2.2.2.2.2.2.2.2.2.1 x.2.2.2.2.2.2.2.2.2.2.2.2.2.1 x.2.2.2.2.2.2.2.2.2.2.2.2.2.2.1 x.2.2.2.2.2.2.2.2.2.2.2.2.2.2.2.1 x.2.2.2.2.2.2.2.2.2.2.2.2.2.2.2.2.1 x.2.2.2.2.2.2.2.2.2.2.2.2.2.2.2.2.2.1 x.2.2.2.2.2.2.2.2.2.2.2.2.2.2.2.2.2.2.1 x.2.2.2.2.2.2.2.2.2.2.2.2.2.2.2.2.2.2.2.1 x.2.2.2.2.2.2.2.2.2.2.2.2.2.2.2.2.2.2.2.2.1 x.2.2.2.2.2.2.2.2.2.2.2.2.2.2.2.2.2.2.2.2.2.1 x.2.2.2.2.2.2.2.2.2.2.2.2.2.2.2.2.2.2.2.2.2.2.1 x.2.2.2.2.2.2.2.2.2.2.2.2.2.2.2.2.2.2.2.2.2.2.2.1 x.2.2.2.2.2.2.2.2.2.2.2.2.2.2.2.2.2.2.2.2.2.2.2.2.1 x.2.2.2.2.2.2.2.2.2.2.2.2.2.2.2.2.2.2.2.2.2.2.2.2.2.1 x.2.2.2.2.2.2.2.2.2.2.2.2.2.2.2.2.2.2.2.2.2.2.2.2.2.2
@[irreducible] def cw := worst (by repeat (first | refine ne5 ?_ ?_ | exact ne1 | exact ne2 | exact ne3 | exact ne4 | exact inferInstance | exact ne7 | exact ⟨⟨0, 0, 0, 0, 0, 0, 0, 0⟩⟩)) Hw
def prog := cw.1
def w := cw.2.1
def B := cw.2.2.1
def fs := cw.2.2.2.1
def M := cw.2.2.2.2.1
def s := cw.2.2.2.2.2.1
def A := cw.2.2.2.2.2.2.1
def E := cw.2.2.2.2.2.2.2.1
def n := cw.2.2.2.2.2.2.2.2.1
def es := cw.2.2.2.2.2.2.2.2.2.1
def env := cw.2.2.2.2.2.2.2.2.2.2.1
def sa := cw.2.2.2.2.2.2.2.2.2.2.2.1
def cM := cw.2.2.2.2.2.2.2.2.2.2.2.2.1
def cR := cw.2.2.2.2.2.2.2.2.2.2.2.2.2.1
def cW := cw.2.2.2.2.2.2.2.2.2.2.2.2.2.2.1
def cX := cw.2.2.2.2.2.2.2.2.2.2.2.2.2.2.2.1
def cP := cw.2.2.2.2.2.2.2.2.2.2.2.2.2.2.2.2.1
def cN := cw.2.2.2.2.2.2.2.2.2.2.2.2.2.2.2.2.2.1
def cC := cw.2.2.2.2.2.2.2.2.2.2.2.2.2.2.2.2.2.2.1
def Q := cw.2.2.2.2.2.2.2.2.2.2.2.2.2.2.2.2.2.2.2.1
def pv := cw.2.2.2.2.2.2.2.2.2.2.2.2.2.2.2.2.2.2.2.2.1
def nv := cw.2.2.2.2.2.2.2.2.2.2.2.2.2.2.2.2.2.2.2.2.2.1
def cv := cw.2.2.2.2.2.2.2.2.2.2.2.2.2.2.2.2.2.2.2.2.2.2.1
def na := cw.2.2.2.2.2.2.2.2.2.2.2.2.2.2.2.2.2.2.2.2.2.2.2.1
def ra := cw.2.2.2.2.2.2.2.2.2.2.2.2.2.2.2.2.2.2.2.2.2.2.2.2.1
def ns := cw.2.2.2.2.2.2.2.2.2.2.2.2.2.2.2.2.2.2.2.2.2.2.2.2.2.1
def ws := cw.2.2.2.2.2.2.2.2.2.2.2.2.2.2.2.2.2.2.2.2.2.2.2.2.2.2
theorem run : Pw prog w B fs M s A E n es env sa cM cR cW cX cP cN cC Q pv nv cv na ra ns ws := by
 intro nd kd fn H S hnm hrm hnz hwz hwp h
 obtain ⟨OB, hA, hE, hcs, hF⟩ := H
 have O := OB.toOk
 have hal := pool_alpha hwp
 wtm_at "us"
 dsimp only [lawF, lawC] at S h
 with_unfolding_all (dsimp only [scOf, lawObj] at hE)
 with_unfolding_all (dsimp only [stmtsOf, lawObj, List.drop])
 refine xs_assign (hs := by rw [swapsW_sc, hE.sc]; with_unfolding_all rfl) ?_
 wtm_at "go"
 refine cw_K O (fun _ => by kernel_rfl) ?_
 wtm_at "go"
 refine cw_K O (fun _ => by kernel_rfl) ?_
 wtm_at "go"
 refine ⟨S.K O, w_call ?_⟩
 refine text_spec (n := n + 7) (ws := ws) (ns := ns) O S hA (hF _) (by have hrm' : (ra, lstR StrV (ws.map fun p => ofL [p.1, p.2])) ∈ M := hrm; wtm_at "mem") (by wtm_at "mem") (by lia) (by lia) hal ?_
 clear S; intro t s S
 refine ret_ok ?_
 wtm_at "go"
 refine ⟨S.K O, w_call ?_⟩
 have S1 := S.perm (L' := tabE 199 ++ ((cM, celO none) :: (cR, celO none) :: (cW, celO none) :: (cX, celO none) :: (cP, celO pv) :: (cN, celO nv) :: (cC, celO cv) :: M)) (by wtm_at "permc")
 have htl := textF_len ws ns
 refine lexer_spec (n := n + 5) OB S1 (.inl rfl) hA (hF _) (by show (textF ws ns).toArray.size ≤ 1000; rw [List.size_toArray]; lia) ?_
 clear S; (try clear LL); (try clear LL); clear S1; intro a c' s _ S
 refine ret_ok ?_
 have e0 : (ofL (textF ws ns)).cps.toList = textF ws ns := by simp [ofL]
 wtm_at "us"
 rw [e0] at S
 replace S := S.perm (L' := (cM, celO none) :: (cR, celO none) :: (cW, celO none) :: (cX, celO none) :: (lexL a c' (textF ws ns) [] ++ ((cP, celO pv) :: (cN, celO nv) :: (cC, celO cv) :: (tabF 199 pieQ piePos.1 c' ++ M)))) (by wtm_at "permc")
 refine sC S hE hcs (by rfl) rfl (.there (.there (.there .here))) ?_
 clear S; intro s S
 refine xs_assign (hs := by rw [swapsW_sc, hE.sc]; with_unfolding_all rfl) ?_
 refine e_lcS S ["word"] [(Str.ofString "lexer", cX)] hE (by rw [clos_cells, hcs]; with_unfolding_all rfl) (by decide +kernel) rfl (by decide +kernel) (by decide +kernel) (by decide +kernel) ?_
 wtm_at "go"
 wtm_at "pk"
 obtain ⟨wv, hwv, hWl⟩ := S.isLR (a := ra) (R := StrV) (xs := ws.map fun p => two p.1 p.2) (by wtm_at "mem")
 refine pi_list S hWl ?_
 clear S; (try clear LL); (try clear LL); clear hWl hwv wv; intro it s S
 refine lc_e (Itr.list _ _ it ra (Src.lstR StrV (ws.map fun p => two p.1 p.2))) hA.hand S (fun i ys L' => (cM, celO none) :: (cR, celO none) :: (cW, celO none) :: (cX, celO (some (.ref a.lx))) :: (lexL a c' (textF (ws.drop i) (ns.drop i)) [] ++ ((cP, celO pv) :: (cN, celO nv) :: (cC, celO cv) :: (tabF 199 pieQ piePos.1 c' ++ M))) = L' ∧ F2 StrV ((ws.take i).map fun p => two p.1 p.2) ys ∧ i ≤ ws.length)
  (by rintro i ys _ ⟨rfl, _⟩ q hq'; simp only [List.mem_singleton] at hq'; subst hq'; wtm_at "mem") ⟨rfl, .nil, Nat.zero_le _⟩ ?_ ?_ ?_
 ·rintro i ys _ ⟨_, hy, hi⟩
  have := hy.len
  rw [List.length_map, List.length_take] at this
  lia
 ·clear S; intro DD cenv cnd ckd cfn i vs' ys _ v X s E hEc hcl hvl hi hJ1 hJ2 S
  wtm_at "pq"
  wtm_at "pk"
  obtain ⟨⟨x, hx, ⟨tx, rfl⟩⟩, rfl⟩ := hJ2
  obtain ⟨rfl, hy, hil⟩ := hJ1
  wtm_at "ps"
  wtm_at "pk"
  obtain ⟨a1, rfl⟩ := len1 hvl
  rw [relabel_sc, hE.sc] at hEc
  rw [List.getElem?_map] at hx
  wtm_at "pk"
  obtain ⟨p, hp, rfl⟩ := Option.map_eq_some_iff.mp hx
  obtain ⟨m, htx⟩ := textF_drop ws ns i p (by lia) hp
  wtm_at "go"
  refine lC S hEc hcl (by rfl) (c := cX) rfl (by wtm_at "mem") ?_
  wtm_at "go"
  refine lex_meth (f := 183) O S (S.at (by wtm_at "lex")) (S.at (z := lexN (.ref a.st) a.pb none) (by wtm_at "lex")) (by decide +kernel) (fun _ => by kernel_rfl) (fun _ => by kernel_rfl) ?_
  refine cw_K0 O S (fun _ => by kernel_rfl) ?_
  have S1 := S.perm (L' := lexL a c' (textF (ws.drop i) (ns.drop i)) [] ++ ((it, litO ra (i + 1)) :: (DD, lst ys) :: (cM, celO none) :: (cR, celO none) :: (cW, celO none) :: (cX, celO (some (.ref a.lx))) :: (cP, celO pv) :: (cN, celO nv) :: (cC, celO cv) :: (tabF 199 pieQ piePos.1 c' ++ M))) (by wtm_at "permc")
  have htl2 := textF_len (ws.drop i) (ns.drop i)
  rw [List.length_drop] at htl2
  refine w_call (gettok_read (n := n + 4) O S1 hA (by (try dsimp only [LL]); unfold tabF; wtm_at "mem") (by lia) (textF_AL _ _ fun p hp => hal p (List.mem_of_mem_drop hp)) ?_)
  clear S; (try clear LL); (try clear LL); clear S1; intro t3 s S
  refine ret_ok ?_
  wtm_at "us"
  rw [htx, tok_word] at S ⊢
  replace S := S.perm (L' := [(it, litO ra (i + 1))] ++ (DD, lst ys) :: (cM, celO none) :: (cR, celO none) :: (cW, celO none) :: (cX, celO (some (.ref a.lx))) :: (lexL a c' (textF (ws.drop (i + 1)) (ns.drop (i + 1))) [] ++ ((cP, celO pv) :: (cN, celO nv) :: (cC, celO cv) :: (tabF 199 pieQ piePos.1 c' ++ M)))) (by wtm_at "permc")
  rw [List.length_map] at hi
  refine ⟨_, _, rfl, ⟨rfl, ?_, by lia⟩, S⟩
  rw [List.take_add_one, hp]
  simp only [Option.toList_some, List.map_append, List.map_cons, List.map_nil]
  exact hy.append (.cons ⟨t3, rfl⟩ .nil)
 clear S; intro wa ys _ s hJ1 S
 wtm_at "pq"
 wtm_at "pk"
 obtain ⟨rfl, hy, _⟩ := hJ1
 wtm_at "ps"
 have hyl := hy.len
 wtm_at "us"
 simp only [List.length_map, List.take_length, List.drop_length] at hy hyl S
 wtm_at "us"
 rw [textF_nil] at S
 replace S := S.weak (a := wa) (y := lstR StrV (ws.map fun p => two p.1 p.2)) .here (fun o h => ⟨_, hy, h⟩)
 refine sC S hE hcs (by rfl) rfl (.there (.there (.there .here))) ?_
 clear S; intro s S
 wtm_at "if"
 wtm_at "go"
 wtm_at "cell"
 wtm_at "go"
 wtm_at "pk"
 obtain ⟨v1, hv1, hL1⟩ := S.isLR (a := wa) (R := StrV) (xs := ws.map fun p => two p.1 p.2) (by wtm_at "mem")
 obtain ⟨v2, hv2, hL2⟩ := S.isLR (a := ra) (R := StrV) (xs := ws.map fun p => two p.1 p.2) (by wtm_at "mem")
 have hok : ∀ x ∈ ws.map fun p => two p.1 p.2, okS x := fun x hx => by
  wtm_at "pk"
  obtain ⟨p, hp, rfl⟩ := List.mem_map.mp hx
  exact okS_two (hal p hp).1 (hal p hp).2
 refine ne_strs hA.c64 hL1 hL2 hv1 hv2 hok hok ?_
 rw [show (!decide ((ws.map fun p => two p.1 p.2) = ws.map fun p => two p.1 p.2)) = false by simp]
 wtm_at "go"
 wtm_at "cell"
 wtm_at "go"
 refine lex_meth (f := 183) O S (S.at (by wtm_at "lex")) (S.at (z := lexN (.ref a.st) a.pb none) (by wtm_at "lex")) (by decide +kernel) (fun _ => by kernel_rfl) (fun _ => by kernel_rfl) ?_
 refine cw_K0 O S (fun _ => by kernel_rfl) ?_
 have S1 := S.perm (L' := lexL a c' [] [] ++ ((wa, lstR StrV (ws.map fun p => two p.1 p.2)) :: (cM, celO none) :: (cR, celO none) :: (cW, celO (some (.ref wa))) :: (cX, celO (some (.ref a.lx))) :: (cP, celO pv) :: (cN, celO nv) :: (cC, celO cv) :: (tabF 199 pieQ piePos.1 c' ++ M))) (by wtm_at "permc")
 refine w_call (gettok_read (n := n + 4) O S1 hA (by (try dsimp only [LL]); unfold tabF; wtm_at "mem") (by simp) (by simp [AL]) ?_)
 clear S; (try clear LL); (try clear LL); clear S1; intro t3 s S
 refine ret_ok ?_
 wtm_at "us"
 rw [show tokF [] = ([], []) from rfl] at S ⊢
 rw [show ofL [] = Str.ofString "" from rfl]
 wtm_at "go"
 refine ⟨fun q => absurd q (by decide +kernel), fun _ => ?_⟩
 repeat (first | with_reducible refine wpAny_truthy_bool ?_ | with_reducible refine isTrue_or_nil ?_ | with_reducible refine if_ff ?_ | with_reducible refine xs_nil ?_)
 with_reducible refine cont_next ?_
 refine h (some (.ref a.lx)) wa c' s ?_
 replace S := S.perm (L' := (cM, celO none) :: (cR, celO none) :: (cW, celO (some (.ref wa))) :: (cX, celO (some (.ref a.lx))) :: (cP, celO pv) :: (cN, celO nv) :: (cC, celO cv) :: (wa, lstR StrV (ws.map fun p => two p.1 p.2)) :: (tabF 199 pieQ piePos.1 c' ++ M) ++ lexL a c' [] []) (by wtm_at "permc")
 exact S.less (List.sublist_append_left ..)
end law4_w
end
theorem law4 {prog : Program} {w : World} {B : Bs} {fs : List Fm} {M : List (Addr × O)} {s : Shared} {A : Around} {E : Value → Shared → Prop} {n : Nat} {es : List Env} {env : Env} {sa cM cR cW cX cP cN cC : Addr} {Q : Flow → Shared → Prop} {pv nv cv : Option Value} {na ra : Addr} {ns : List Int} {ws : List (Nat × Nat)} : law4_w.Pw prog w B fs M s A E n es env sa cM cR cW cX cP cN cC Q pv nv cv na ra ns ws := worst_of (Q := law4_w.Hw) (by with_unfolding_all rfl) law4_w.run ⟨prog, w, B, fs, M, s, A, E, n, es, env, sa, cM, cR, cW, cX, cP, cN, cC, Q, pv, nv, cv, na, ra, ns, ws⟩
section
end
end
section
noncomputable def PlI (row : List Str) (i : Nat) (kvs : List (Str × Value)) : Prop := kvs.map (·.1) = row.take i ∧ ∀ (j : Nat) (x : Str), j < i → row[j]? = some x → ∃ t, kvs[j]? = some (x, .int j t)
theorem PlI.len {row : List Str} {i : Nat} {kvs : List (Str × Value)} (h : PlI row i kvs) (hi : i ≤ row.length) : kvs.length = i := by
 have := congrArg List.length h.1
 rw [List.length_map, List.length_take] at this
 lia
theorem PlI.snoc {row : List Str} {i : Nat} {kvs : List (Str × Value)} {x : Str} (h : PlI row i kvs) (hn : row.Nodup) (hx : row[i]? = some x) (t : Tok) : PlI row (i + 1) (stored kvs x (.int i t)) := by
 have hil : i < row.length := (List.getElem?_eq_some_iff.mp hx).1
 have hkl := h.len (Nat.le_of_lt hil)
 have hnx : x ∉ row.take i := fun hm => by
  obtain ⟨j, hj, e⟩ := List.getElem_of_mem hm
  rw [List.length_take] at hj
  have hj' : row[j]? = some x := by rw [← e, List.getElem_take]; exact List.getElem?_eq_getElem (by lia)
  have := (List.getElem?_inj (by lia) hn).mp (hj'.trans hx.symm)
  lia
 have hne : kvs.any (fun kv => kv.1 = x) = false := by
  rw [Bool.eq_false_iff]
  intro hc
  rw [List.any_eq_true] at hc
  obtain ⟨kv, hm, he⟩ := hc
  refine hnx ?_
  rw [← h.1, ← of_decide_eq_true he]
  exact List.mem_map_of_mem hm
 have e : stored kvs x (.int i t) = kvs ++ [(x, .int i t)] := by unfold stored; rw [hne]; rfl
 rw [e]
 refine ⟨?_, fun j y hj hy => ?_⟩
 ·rw [List.map_append, h.1, List.take_add_one, hx]; rfl
 ·by_cases q : j < i
  ·obtain ⟨u, hu⟩ := h.2 j y q hy
   exact ⟨u, by rw [List.getElem?_append_left (by lia)]; exact hu⟩
  ·have : j = i := by lia
   subst this
   rw [hx] at hy; cases hy
   exact ⟨t, by rw [List.getElem?_append_right (by lia), hkl]; simp⟩
theorem PlI.at {row : List Str} {kvs : List (Str × Value)} {x : Str} (h : PlI row row.length kvs) (hn : row.Nodup) (hx : x ∈ row) : ∃ t, valueAt kvs x = some (.int (row.idxOf x : Nat) t) := by
 have hl := List.idxOf_lt_length_of_mem hx
 obtain ⟨t, ht⟩ := h.2 (row.idxOf x) x hl (by rw [List.getElem?_eq_getElem hl, List.getElem_idxOf hl])
 exact ⟨t, valueAt_of_get (by rw [h.1, List.take_length]; exact hn) ht⟩
theorem nm_one : ∀ p ∈ poolTo 6, one p.1 ∈ nmO nmS ∧ one p.2 ∈ nmO nmS ∧ (nmO nmS).idxOf (one p.1) < (nmO nmS).idxOf (one p.2) := by decide +kernel
theorem nm_nodup : (nmO nmS).Nodup := by decide +kernel
theorem nm_len : (nmO nmS).length = 6 := by decide +kernel
theorem Spans.mono {L L' : List (Addr × O)} {sa : Addr} {sp : List (Int × Int)} (h : Spans L sa sp) (hm : ∀ p ∈ L, p ∈ L') : Spans L' sa sp := by
 obtain ⟨ts, h1, h2, h3⟩ := h
 exact ⟨ts, hm _ h1, h2, fun i t p a b => hm _ (h3 i t p a b)⟩
section
variable {prog : Program} {w : World} {B : Bs} {fs : List Fm} {M : List (Addr × O)} {s : Shared} {A : Around} {E : Value → Shared → Prop} {n : Nat} {es : List Env} {env : Env} {sa cM cR cW cX cP cN cC : Addr} {Q : Flow → Shared → Prop}
 {nd : (["script", "numbers", "written", "at", "spans", "rounds", "two", "fewer", "works"] : List Str).Nodup} {kd : ∀ x ∈ (["script", "numbers", "written", "at", "spans", "rounds", "two", "fewer", "works"] : List Str), env.kindOf x = some .local} {fn : env.scope.kind = .function}
end
noncomputable section
namespace law5_w
def Pw (prog : Program) (w : World) (B : Bs) (fs : List Fm) (M : List (Addr × O)) (s : Shared) (A : Around) (E : Value → Shared → Prop) (n : Nat) (es : List Env) (env : Env) (sa cM cR cW cX cP cN cC : Addr) (Q : Flow → Shared → Prop) (xv pv : Option Value) (tn : Tok) (ca na ra wa : Addr) (ws : List (Nat × Nat)) (cells : List Int) : Prop := ∀ {nd : (["script", "numbers", "written", "at", "spans", "rounds", "two", "fewer", "works"] : List Str).Nodup} {kd : ∀ x ∈ (["script", "numbers", "written", "at", "spans", "rounds", "two", "fewer", "works"] : List Str), env.kindOf x = some .local} {fn : env.scope.kind = .function} (H : LawH B w A n es env nd kd fn fs cM cR cW cX cP cN cC) (S : St B (lawF env nd kd fn sa (some (.ref na)) (some (.ref ra)) none none none none none none :: fs) (lawC cM cR cW cX cP cN cC none none (some (.ref wa)) xv pv (some (.str nmS tn)) (some (.ref ca)) M) s) (hcm : (ca, lstR IntV cells) ∈ M) (hwm : (wa, lstR StrV (ws.map fun p => two p.1 p.2)) ∈ M) (hcz : cells.length ≤ 63) (hwz : ws.length = 7) (hwp : ∀ p ∈ ws, p ∈ poolTo 6) (h : ∀ rwa row da spa rda rs Y s', row.Nodup → row.length = 6 → (∀ p ∈ ws, one p.1 ∈ row ∧ one p.2 ∈ row ∧ row.idxOf (one p.1) < row.idxOf (one p.2)) → IsDepth (spansOf (fun c => (row.idxOf (one c) : Int)) ws) rs → Spans Y spa (spansOf (fun c => (row.idxOf (one c) : Int)) ws) → (rwa, lstR StrV row) ∈ Y → (rda, lstR IntV rs) ∈ Y →
   St B (lawF env nd kd fn sa (some (.ref na)) (some (.ref ra)) (some (.ref da)) (some (.ref spa)) (some (.ref rda)) none none none :: fs) (lawC cM cR cW cX cP cN cC none (some (.ref rwa)) (some (.ref wa)) xv pv (some (.str nmS tn)) (some (.ref ca)) (Y ++ M)) s' →
   wpAny (model prog w) A (execs ((stmtsOf lawObj.1).drop 13) env) Q E s'),
  wpAny (model prog w) A (execs ((stmtsOf lawObj.1).drop 8) env) Q E s
def Hw (x : Program × World × Bs × (List Fm) × (List (Addr × O)) × Shared × Around × (Value → Shared → Prop) × Nat × (List Env) × Env × Addr × Addr × Addr × Addr × Addr × Addr × Addr × Addr × (Flow → Shared → Prop) × (Option Value) × (Option Value) × Tok × Addr × Addr × Addr × Addr × (List (Nat × Nat)) × (List Int)) : Prop := Pw x.1 x.2.1 x.2.2.1 x.2.2.2.1 x.2.2.2.2.1 x.2.2.2.2.2.1 x.2.2.2.2.2.2.1 x.2.2.2.2.2.2.2.1 x.2.2.2.2.2.2.2.2.1 x.2.2.2.2.2.2.2.2.2.1 x.2.2.2.2.2.2.2.2.2.2.1 x.2.2.2.2.2.2.2.2.2.2.2.1 x.2.2.2.2.2.2.2.2.2.2.2.2.1 x.2.2.2.2.2.2.2.2.2.2.2.2.2.1 x.2.2.2.2.2.2.2.2.2.2.2.2.2.2.1 x.2.2.2.2.2.2.2.2.2.2.2.2.2.2.2.1 x.2.2.2.2.2.2.2.2.2.2.2.2.2.2.2.2.1 x.2.2.2.2.2.2.2.2.2.2.2.2.2.2.2.2.2.1 x.2.2.2.2.2.2.2.2.2.2.2.2.2.2.2.2.2.2.1 x.2.2.2.2.2.2.2.2.2.2.2.2.2.2.2.2.2.2.2.1 x.2.2.2.2.2.2.2.2.2.2.2.2.2.2.2.2.2.2.2.2.1 x.2.2.2.2.2.2.2.2.2.2.2.2.2.2.2.2.2.2.2.2.2.1 x.2.2.2.2.2.2.2.2.2.2.2.2.2.2.2.2.2.2.2.2.2.2.1 x.2.2.2.2.2.2.2.2.2.2.2.2.2.2.2.2.2.2.2.2.2.2.2.1 x.2.2.2.2.2.2.2.2.2.2.2.2.2.2.2.2.2.2.2.2.2.2.2.2.1 x.2.2.2.2.2.2.2.2.2.2.2.2.2.2.2.2.2.2.2.2.2.2.2.2.2.1 x.2.2.2.2.2.2.2.2.2.2.2.2.2.2.2.2.2.2.2.2.2.2.2.2.2.2.1 x.2.2.2.2.2.2.2.2.2.2.2.2.2.2.2.2.2.2.2.2.2.2.2.2.2.2.2.1 x.2.2.2.2.2.2.2.2.2.2.2.2.2.2.2.2.2.2.2.2.2.2.2.2.2.2.2.2
@[irreducible] def cw := worst (by repeat (first | refine ne5 ?_ ?_ | exact ne1 | exact ne2 | exact ne3 | exact ne4 | exact inferInstance | exact ne7 | exact ⟨⟨0, 0, 0, 0, 0, 0, 0, 0⟩⟩)) Hw
def prog := cw.1
def w := cw.2.1
def B := cw.2.2.1
def fs := cw.2.2.2.1
def M := cw.2.2.2.2.1
def s := cw.2.2.2.2.2.1
def A := cw.2.2.2.2.2.2.1
def E := cw.2.2.2.2.2.2.2.1
def n := cw.2.2.2.2.2.2.2.2.1
def es := cw.2.2.2.2.2.2.2.2.2.1
def env := cw.2.2.2.2.2.2.2.2.2.2.1
def sa := cw.2.2.2.2.2.2.2.2.2.2.2.1
def cM := cw.2.2.2.2.2.2.2.2.2.2.2.2.1
def cR := cw.2.2.2.2.2.2.2.2.2.2.2.2.2.1
def cW := cw.2.2.2.2.2.2.2.2.2.2.2.2.2.2.1
def cX := cw.2.2.2.2.2.2.2.2.2.2.2.2.2.2.2.1
def cP := cw.2.2.2.2.2.2.2.2.2.2.2.2.2.2.2.2.1
def cN := cw.2.2.2.2.2.2.2.2.2.2.2.2.2.2.2.2.2.1
def cC := cw.2.2.2.2.2.2.2.2.2.2.2.2.2.2.2.2.2.2.1
def Q := cw.2.2.2.2.2.2.2.2.2.2.2.2.2.2.2.2.2.2.2.1
def xv := cw.2.2.2.2.2.2.2.2.2.2.2.2.2.2.2.2.2.2.2.2.1
def pv := cw.2.2.2.2.2.2.2.2.2.2.2.2.2.2.2.2.2.2.2.2.2.1
def tn := cw.2.2.2.2.2.2.2.2.2.2.2.2.2.2.2.2.2.2.2.2.2.2.1
def ca := cw.2.2.2.2.2.2.2.2.2.2.2.2.2.2.2.2.2.2.2.2.2.2.2.1
def na := cw.2.2.2.2.2.2.2.2.2.2.2.2.2.2.2.2.2.2.2.2.2.2.2.2.1
def ra := cw.2.2.2.2.2.2.2.2.2.2.2.2.2.2.2.2.2.2.2.2.2.2.2.2.2.1
def wa := cw.2.2.2.2.2.2.2.2.2.2.2.2.2.2.2.2.2.2.2.2.2.2.2.2.2.2.1
def ws := cw.2.2.2.2.2.2.2.2.2.2.2.2.2.2.2.2.2.2.2.2.2.2.2.2.2.2.2.1
def cells := cw.2.2.2.2.2.2.2.2.2.2.2.2.2.2.2.2.2.2.2.2.2.2.2.2.2.2.2.2
theorem run : Pw prog w B fs M s A E n es env sa cM cR cW cX cP cN cC Q xv pv tn ca na ra wa ws cells := by
 intro nd kd fn H S hcm hwm hcz hwz hwp h
 obtain ⟨OB, hA, hE, hcs, hF⟩ := H
 have O := OB.toOk
 wtm_at "us"
 dsimp only [lawF, lawC] at S h
 with_unfolding_all (dsimp only [scOf, lawObj] at hE)
 with_unfolding_all (dsimp only [stmtsOf, lawObj, List.drop])
 refine xs_assign (hs := by rw [swapsW_sc, hE.sc]; with_unfolding_all rfl) ?_
 wtm_at "go"
 refine cw_K O (fun _ => by kernel_rfl) ?_
 wtm_at "go"
 wtm_at "cell"
 wtm_at "go"
 wtm_at "cell"
 wtm_at "go"
 wtm_at "cell"
 wtm_at "go"
 wtm_at "pk"
 obtain ⟨cv, hcv, hCl⟩ := S.isLR (a := ca) (R := IntV) (xs := cells) (by wtm_at "mem")
 refine l_sum hA.hand S hCl hcv ?_
 clear S; (try clear LL); (try clear LL); clear hCl hcv; intro t1 s S
 wtm_at "go"
 refine ⟨S.K O, w_call ?_⟩
 refine row_spec (n := n + 2) (ws := ws) (rk := fun x => (nmO nmS).idxOf x) O S hA (hF _) (by wtm_at "mem") (by (try dsimp only [LL]); unfold ascii; decide +kernel) (by decide +kernel) (by lia) (fun p hp => ⟨(nm_one p (hwp p hp)).1, (nm_one p (hwp p hp)).2.1⟩) (fun p hp => (nm_one p (hwp p hp)).2.2) ?_
 clear S; intro rwa row s hrn hrm hrt S
 refine ret_ok ?_
 have hrl : row.length = 6 := by
  rw [← nm_len]
  exact ((List.perm_ext_iff_of_nodup hrn nm_nodup).mpr hrm).length_eq
 have hro : ∀ p ∈ ws, one p.1 ∈ row ∧ one p.2 ∈ row ∧ row.idxOf (one p.1) < row.idxOf (one p.2) := fun p hp => by
  have h1 := nm_one p (hwp p hp)
  have h2 := (hrm _).mpr h1.2.1
  exact ⟨(hrm _).mpr h1.1, h2, hrt (one p.1, one p.2) (List.mem_map.mpr ⟨p, hp, rfl⟩) h2⟩
 refine sC S hE hcs (by rfl) rfl (.there (.there .here)) ?_
 clear S; intro s S
 refine xs_dcS S 3 ["place", "name"] [] hE (closureFor_none (by decide +kernel)) (by decide +kernel) rfl (by decide +kernel) (by decide +kernel) (by decide +kernel) (by rw [swapsW_sc, hE.sc]; with_unfolding_all rfl) rfl (by simp) ?_
 wtm_at "go"
 wtm_at "cell"
 wtm_at "go"
 wtm_at "pk"
 obtain ⟨rv, hrv, hRl⟩ := S.isLR (a := rwa) (R := StrV) (xs := row) (by wtm_at "mem")
 refine t_enum S hRl ?_
 clear S; (try clear LL); (try clear LL); clear hRl hrv rv; intro e1 it1 s S
 refine pi_enum S (it := it1) (by wtm_at "mem") ?_
 refine dc_u (strKind prog w) (Itr.enum _ _ _ e1 it1 rwa (Src.lstR StrV row)) hA.hand S (fun i kvs L' => _ = L' ∧ PlI row i kvs ∧ i ≤ row.length)
  (by rintro i ys _ ⟨rfl, _⟩ q hq'; simp only [List.mem_singleton] at hq'; subst hq'; wtm_at "mem") ⟨rfl, ⟨rfl, by lia⟩, Nat.zero_le _⟩ ?_ ?_ ?_
 ·rintro i kvs _ ⟨_, hp, hi⟩
  rw [hp.len hi]; lia
 ·clear S; intro DD cenv cnd ckd cfn i vs' kvs _ v X s E hEc hcl hvl hi hJ1 hJ2 S
  wtm_at "pq"
  wtm_at "pk"
  obtain ⟨t, tk, x, rfl, ⟨xi, hx, ⟨tx, rfl⟩⟩, rfl⟩ := hJ2
  obtain ⟨rfl, hpl, hil⟩ := hJ1
  wtm_at "ps"
  wtm_at "pk"
  obtain ⟨a1, a2, rfl⟩ := len2 hvl
  rw [relabel_sc, hE.sc] at hEc
  replace hE := hEc
  refine as_tup2 hA.hand S (S.isT (by wtm_at "mem")) ?_
  clear S; intro s S
  wtm_at "go"
  exact ⟨xi, _, _, skind, rfl, ⟨rfl, hpl.snoc hrn hx _, by lia⟩, S.less (by wtm_at "sub")⟩
 clear S; intro da kvs _ s hJ1 S
 wtm_at "pq"
 wtm_at "pk"
 obtain ⟨rfl, hpl, _⟩ := hJ1
 wtm_at "ps"
 (try dsimp only [List.set] at S)
 have hPk : ∀ p ∈ ws, (∃ t, valueAt kvs (one p.1) = some (.int (row.idxOf (one p.1) : Nat) t)) ∧ ∃ t, valueAt kvs (one p.2) = some (.int (row.idxOf (one p.2) : Nat) t) := fun p hp => ⟨hpl.at hrn (hro p hp).1, hpl.at hrn (hro p hp).2.1⟩
 have hsl : (spansOf (fun c => (row.idxOf (one c) : Int)) ws).length ≤ 7 := by (try dsimp only [LL]); unfold spansOf; rw [List.length_map]; lia
 have hslt : ∀ p ∈ spansOf (fun c => (row.idxOf (one c) : Int)) ws, p.1 < p.2 := fun p hp => by
  wtm_at "pk"
  obtain ⟨q, hq, rfl⟩ := List.mem_map.mp hp
  have := (hro q hq).2.2
  show (row.idxOf (one q.1) : Int) < (row.idxOf (one q.2) : Int)
  lia
 have hsle : ∀ p ∈ spansOf (fun c => (row.idxOf (one c) : Int)) ws, p.2 - p.1 ≤ 5 := fun p hp => by
  wtm_at "pk"
  obtain ⟨q, hq, rfl⟩ := List.mem_map.mp hp
  have := List.idxOf_lt_length_of_mem (hro q hq).2.1
  show (row.idxOf (one q.2) : Int) - (row.idxOf (one q.1) : Int) ≤ 5
  lia
 wtm_at "go"
 refine cw_K O (fun _ => by kernel_rfl) ?_
 wtm_at "go"
 wtm_at "cell"
 wtm_at "go"
 refine ⟨S.K O, w_call ?_⟩
 refine spans_spec (n := n + 7) (ws := ws) (atv := fun c => (row.idxOf (one c) : Int)) O S hA (hF _) (by wtm_at "mem") ⟨kvs, by wtm_at "mem", hPk⟩ (by lia) ?_
 clear S; intro spa X s hsp S
 refine ret_ok ?_
 wtm_at "go"
 refine cw_K O (fun _ => by kernel_rfl) ?_
 wtm_at "go"
 wtm_at "cell"
 wtm_at "go"
 refine ⟨S.K O, w_call ?_⟩
 refine rounds_spec (n := n + 2) (ws := ws) (atv := fun c => (row.idxOf (one c) : Int)) O S hA (hF _) (by wtm_at "mem") ⟨kvs, by wtm_at "mem", hPk⟩ (by lia) (fun p hp => by have := (hro p hp).2.2; show (row.idxOf (one p.1) : Int) < (row.idxOf (one p.2) : Int); lia) ?_
 clear S; intro rda rs s hrs S
 refine ret_ok ?_
 wtm_at "go"
 wtm_at "if"
 wtm_at "go"
 refine cw_K O (fun _ => by kernel_rfl) ?_
 wtm_at "go"
 refine ⟨S.K O, w_call ?_⟩
 refine depths_spec (n := n + 7) O S hA (hF _) (hsp.mono fun p hp => by wtm_at "mem") hsl hslt hsle ?_
 clear S; intro dd ds s hds S
 refine ret_ok ?_
 wtm_at "go"
 wtm_at "pk"
 obtain ⟨v1, hv1, hL1⟩ := S.isLR (a := rda) (R := IntV) (xs := rs) (by wtm_at "mem")
 obtain ⟨v2, hv2, hL2⟩ := S.isLR (a := dd) (R := IntV) (xs := ds) (by wtm_at "mem")
 refine ne_ints hA.c64 hL1 hL2 hv1 hv2 ?_
 clear hL1 hL2
 have hrd : rs = ds := hrs.uniq hslt hds
 subst hrd
 rw [show (!decide (rs = rs)) = false by simp]
 repeat (first | with_reducible refine wpAny_truthy_bool ?_ | with_reducible refine isTrue_or_nil ?_ | with_reducible refine if_ff ?_ | with_reducible refine xs_nil ?_)
 with_reducible refine cont_next ?_
 refine h rwa row da spa rda rs ((dd, lstR IntV rs) :: (rda, lstR IntV rs) :: (X ++ [(da, dicO (strKind prog w) kvs), (rwa, lstR StrV row)])) s hrn hrl hro hrs (hsp.mono fun p hp => by wtm_at "mem") (by wtm_at "mem") (by wtm_at "mem") ?_
 exact S.perm (by wtm_at "permc")
end law5_w
end
theorem law5 {prog : Program} {w : World} {B : Bs} {fs : List Fm} {M : List (Addr × O)} {s : Shared} {A : Around} {E : Value → Shared → Prop} {n : Nat} {es : List Env} {env : Env} {sa cM cR cW cX cP cN cC : Addr} {Q : Flow → Shared → Prop} {xv pv : Option Value} {tn : Tok} {ca na ra wa : Addr} {ws : List (Nat × Nat)} {cells : List Int} : law5_w.Pw prog w B fs M s A E n es env sa cM cR cW cX cP cN cC Q xv pv tn ca na ra wa ws cells := worst_of (Q := law5_w.Hw) (by with_unfolding_all rfl) law5_w.run ⟨prog, w, B, fs, M, s, A, E, n, es, env, sa, cM, cR, cW, cX, cP, cN, cC, Q, xv, pv, tn, ca, na, ra, wa, ws, cells⟩
section
end
end
section
theorem IsDepth.bound {sp : List (Int × Int)} {rs : List Int} (h : IsDepth sp rs) (hlt : ∀ p ∈ sp, p.1 < p.2) : ∀ (m : Nat) (k : Nat) (p : Int × Int) (r : Int), (p.2 - p.1).toNat < m → sp[k]? = some p → rs[k]? = some r → r < p.2 - p.1 := by
 intro m
 induction m with
 | zero => intro k p r h; lia
 | succ m ih =>
  intro k p r hm hp hr
  have hp1 := hlt p (List.mem_of_getElem? hp)
  rcases h.ex k p r hp hr with rfl | ⟨j, q, t, hq, hi, ht, rfl⟩
  ·lia
  ·have hq1 := hlt q (List.mem_of_getElem? hq)
   rw [innB_iff] at hi
   have := ih j q t (by lia) hq ht
   lia
theorem IsDepth.le5 {sp : List (Int × Int)} {rs : List Int} (h : IsDepth sp rs) (hlt : ∀ p ∈ sp, p.1 < p.2) (hle : ∀ p ∈ sp, p.2 - p.1 ≤ 5) : ∀ r ∈ rs, 0 ≤ r ∧ r ≤ 5 := by
 intro r hr
 obtain ⟨k, hk⟩ := List.getElem?_of_mem hr
 have hkl := (List.getElem?_eq_some_iff.mp hk).1
 rw [h.len] at hkl
 have hp : sp[k]? = some sp[k] := List.getElem?_eq_getElem hkl
 have := h.bound hlt _ k _ r (Nat.lt_succ_self _) hp hk
 have h5 := hle _ (List.getElem_mem hkl)
 exact ⟨h.pos k r hk, by lia⟩
section
variable {prog : Program} {w : World} {B : Bs} {fs : List Fm} {M : List (Addr × O)} {s : Shared} {A : Around} {E : Value → Shared → Prop} {n : Nat} {es : List Env} {env : Env} {sa cM cR cW cX cP cN cC : Addr} {Q : Flow → Shared → Prop}
 {nd : (["script", "numbers", "written", "at", "spans", "rounds", "two", "fewer", "works"] : List Str).Nodup} {kd : ∀ x ∈ (["script", "numbers", "written", "at", "spans", "rounds", "two", "fewer", "works"] : List Str), env.kindOf x = some .local} {fn : env.scope.kind = .function}
end
noncomputable section
namespace law6_w
def Pw (prog : Program) (w : World) (B : Bs) (fs : List Fm) (M : List (Addr × O)) (s : Shared) (A : Around) (E : Value → Shared → Prop) (n : Nat) (es : List Env) (env : Env) (sa cM cR cW cX cP cN cC : Addr) (Q : Flow → Shared → Prop) (xv pv nv cv : Option Value) (na ra rwa da spa rda wa : Addr) (rs ns : List Int) : Prop := ∀ {nd : (["script", "numbers", "written", "at", "spans", "rounds", "two", "fewer", "works"] : List Str).Nodup} {kd : ∀ x ∈ (["script", "numbers", "written", "at", "spans", "rounds", "two", "fewer", "works"] : List Str), env.kindOf x = some .local} {fn : env.scope.kind = .function} (H : LawH B w A n es env nd kd fn fs cM cR cW cX cP cN cC) (S : St B (lawF env nd kd fn sa (some (.ref na)) (some (.ref ra)) (some (.ref da)) (some (.ref spa)) (some (.ref rda)) none none none :: fs) (lawC cM cR cW cX cP cN cC none (some (.ref rwa)) (some (.ref wa)) xv pv nv cv M) s) (hnm : (na, lstR IntV ns) ∈ M) (hrm : (rda, lstR IntV rs) ∈ M) (hnz : ns.length = 7) (hrz : rs.length = 7) (hrb : ∀ r ∈ rs, 0 ≤ r ∧ r ≤ 5) (h : ∀ mo t ta fa tw fw s', mo ∈ rs → (∀ r ∈ rs, r ≤ mo) → tw.length = 7 → (∀ d ∈ tw, 0 ≤ d ∧ d < 2) → fw.length = 7 → (∀ d ∈ fw, 0 ≤ d ∧ d < if 1 > mo then 1 else mo) →
   St B (lawF env nd kd fn sa (some (.ref na)) (some (.ref ra)) (some (.ref da)) (some (.ref spa)) (some (.ref rda)) (some (.ref ta)) (some (.ref fa)) none :: fs) (lawC cM cR cW cX cP cN cC (some (.int mo t)) (some (.ref rwa)) (some (.ref wa)) xv pv nv cv ((ta, lstR IntV tw) :: (fa, lstR IntV fw) :: M)) s' →
   wpAny (model prog w) A (execs ((stmtsOf lawObj.1).drop 16) env) Q E s'),
  wpAny (model prog w) A (execs ((stmtsOf lawObj.1).drop 13) env) Q E s
def Hw (x : Program × World × Bs × (List Fm) × (List (Addr × O)) × Shared × Around × (Value → Shared → Prop) × Nat × (List Env) × Env × Addr × Addr × Addr × Addr × Addr × Addr × Addr × Addr × (Flow → Shared → Prop) × (Option Value) × (Option Value) × (Option Value) × (Option Value) × Addr × Addr × Addr × Addr × Addr × Addr × Addr × (List Int) × (List Int)) : Prop := Pw x.1 x.2.1 x.2.2.1 x.2.2.2.1 x.2.2.2.2.1 x.2.2.2.2.2.1 x.2.2.2.2.2.2.1 x.2.2.2.2.2.2.2.1 x.2.2.2.2.2.2.2.2.1 x.2.2.2.2.2.2.2.2.2.1 x.2.2.2.2.2.2.2.2.2.2.1 x.2.2.2.2.2.2.2.2.2.2.2.1 x.2.2.2.2.2.2.2.2.2.2.2.2.1 x.2.2.2.2.2.2.2.2.2.2.2.2.2.1 x.2.2.2.2.2.2.2.2.2.2.2.2.2.2.1 x.2.2.2.2.2.2.2.2.2.2.2.2.2.2.2.1 x.2.2.2.2.2.2.2.2.2.2.2.2.2.2.2.2.1 x.2.2.2.2.2.2.2.2.2.2.2.2.2.2.2.2.2.1 x.2.2.2.2.2.2.2.2.2.2.2.2.2.2.2.2.2.2.1 x.2.2.2.2.2.2.2.2.2.2.2.2.2.2.2.2.2.2.2.1 x.2.2.2.2.2.2.2.2.2.2.2.2.2.2.2.2.2.2.2.2.1 x.2.2.2.2.2.2.2.2.2.2.2.2.2.2.2.2.2.2.2.2.2.1 x.2.2.2.2.2.2.2.2.2.2.2.2.2.2.2.2.2.2.2.2.2.2.1 x.2.2.2.2.2.2.2.2.2.2.2.2.2.2.2.2.2.2.2.2.2.2.2.1 x.2.2.2.2.2.2.2.2.2.2.2.2.2.2.2.2.2.2.2.2.2.2.2.2.1 x.2.2.2.2.2.2.2.2.2.2.2.2.2.2.2.2.2.2.2.2.2.2.2.2.2.1 x.2.2.2.2.2.2.2.2.2.2.2.2.2.2.2.2.2.2.2.2.2.2.2.2.2.2.1 x.2.2.2.2.2.2.2.2.2.2.2.2.2.2.2.2.2.2.2.2.2.2.2.2.2.2.2.1 x.2.2.2.2.2.2.2.2.2.2.2.2.2.2.2.2.2.2.2.2.2.2.2.2.2.2.2.2.1 x.2.2.2.2.2.2.2.2.2.2.2.2.2.2.2.2.2.2.2.2.2.2.2.2.2.2.2.2.2.1 x.2.2.2.2.2.2.2.2.2.2.2.2.2.2.2.2.2.2.2.2.2.2.2.2.2.2.2.2.2.2.1 x.2.2.2.2.2.2.2.2.2.2.2.2.2.2.2.2.2.2.2.2.2.2.2.2.2.2.2.2.2.2.2.1 x.2.2.2.2.2.2.2.2.2.2.2.2.2.2.2.2.2.2.2.2.2.2.2.2.2.2.2.2.2.2.2.2
@[irreducible] def cw := worst (by repeat (first | refine ne5 ?_ ?_ | exact ne1 | exact ne2 | exact ne3 | exact ne4 | exact inferInstance | exact ne7 | exact ⟨⟨0, 0, 0, 0, 0, 0, 0, 0⟩⟩)) Hw
def prog := cw.1
def w := cw.2.1
def B := cw.2.2.1
def fs := cw.2.2.2.1
def M := cw.2.2.2.2.1
def s := cw.2.2.2.2.2.1
def A := cw.2.2.2.2.2.2.1
def E := cw.2.2.2.2.2.2.2.1
def n := cw.2.2.2.2.2.2.2.2.1
def es := cw.2.2.2.2.2.2.2.2.2.1
def env := cw.2.2.2.2.2.2.2.2.2.2.1
def sa := cw.2.2.2.2.2.2.2.2.2.2.2.1
def cM := cw.2.2.2.2.2.2.2.2.2.2.2.2.1
def cR := cw.2.2.2.2.2.2.2.2.2.2.2.2.2.1
def cW := cw.2.2.2.2.2.2.2.2.2.2.2.2.2.2.1
def cX := cw.2.2.2.2.2.2.2.2.2.2.2.2.2.2.2.1
def cP := cw.2.2.2.2.2.2.2.2.2.2.2.2.2.2.2.2.1
def cN := cw.2.2.2.2.2.2.2.2.2.2.2.2.2.2.2.2.2.1
def cC := cw.2.2.2.2.2.2.2.2.2.2.2.2.2.2.2.2.2.2.1
def Q := cw.2.2.2.2.2.2.2.2.2.2.2.2.2.2.2.2.2.2.2.1
def xv := cw.2.2.2.2.2.2.2.2.2.2.2.2.2.2.2.2.2.2.2.2.1
def pv := cw.2.2.2.2.2.2.2.2.2.2.2.2.2.2.2.2.2.2.2.2.2.1
def nv := cw.2.2.2.2.2.2.2.2.2.2.2.2.2.2.2.2.2.2.2.2.2.2.1
def cv := cw.2.2.2.2.2.2.2.2.2.2.2.2.2.2.2.2.2.2.2.2.2.2.2.1
def na := cw.2.2.2.2.2.2.2.2.2.2.2.2.2.2.2.2.2.2.2.2.2.2.2.2.1
def ra := cw.2.2.2.2.2.2.2.2.2.2.2.2.2.2.2.2.2.2.2.2.2.2.2.2.2.1
def rwa := cw.2.2.2.2.2.2.2.2.2.2.2.2.2.2.2.2.2.2.2.2.2.2.2.2.2.2.1
def da := cw.2.2.2.2.2.2.2.2.2.2.2.2.2.2.2.2.2.2.2.2.2.2.2.2.2.2.2.1
def spa := cw.2.2.2.2.2.2.2.2.2.2.2.2.2.2.2.2.2.2.2.2.2.2.2.2.2.2.2.2.1
def rda := cw.2.2.2.2.2.2.2.2.2.2.2.2.2.2.2.2.2.2.2.2.2.2.2.2.2.2.2.2.2.1
def wa := cw.2.2.2.2.2.2.2.2.2.2.2.2.2.2.2.2.2.2.2.2.2.2.2.2.2.2.2.2.2.2.1
def rs := cw.2.2.2.2.2.2.2.2.2.2.2.2.2.2.2.2.2.2.2.2.2.2.2.2.2.2.2.2.2.2.2.1
def ns := cw.2.2.2.2.2.2.2.2.2.2.2.2.2.2.2.2.2.2.2.2.2.2.2.2.2.2.2.2.2.2.2.2
theorem run : Pw prog w B fs M s A E n es env sa cM cR cW cX cP cN cC Q xv pv nv cv na ra rwa da spa rda wa rs ns := by
 intro nd kd fn H S hnm hrm hnz hrz hrb h
 obtain ⟨OB, hA, hE, hcs, hF⟩ := H
 have O := OB.toOk
 wtm_at "us"
 dsimp only [lawF, lawC] at S h
 with_unfolding_all (dsimp only [scOf, lawObj] at hE)
 with_unfolding_all (dsimp only [stmtsOf, lawObj, List.drop])
 refine xs_assign (hs := by rw [swapsW_sc, hE.sc]; with_unfolding_all rfl) ?_
 wtm_at "go"
 wtm_at "pk"
 obtain ⟨rv, hrv, hRl⟩ := S.isLR (a := rda) (R := IntV) (xs := rs) (by wtm_at "mem")
 refine l_max hA.hand S hRl hrv (by lia) ?_
 clear S; (try clear LL); (try clear LL); clear hRl hrv; intro mo mt s hM1 hM2 S
 refine sC S hE hcs (by rfl) rfl .here ?_
 clear S; intro s S
 have hmo := hrb mo hM1
 refine xs_lcS S 6 ["number"] [] hE (closureFor_none (by decide +kernel)) (by decide +kernel) rfl (by decide +kernel) (by decide +kernel) (by decide +kernel) (by rw [swapsW_sc, hE.sc]; with_unfolding_all rfl) rfl (by simp) ?_
 wtm_at "go"
 wtm_at "pk"
 obtain ⟨lv, hlv, hLl⟩ := S.isLR (a := na) (R := IntV) (xs := ns) (by wtm_at "mem")
 refine pi_list S hLl ?_
 clear S; (try clear LL); (try clear LL); clear hLl hlv lv; intro it s S
 refine lc_u (Itr.list _ _ it na (Src.lstR IntV ns)) hA.hand S (fun i ys L' => _ = L' ∧ (∃ cs : List Int, F2 IntV cs ys ∧ ∀ d ∈ cs, 0 ≤ d ∧ d < 2) ∧ ys.length = i ∧ i ≤ ns.length)
  (by rintro i ys _ ⟨rfl, _⟩ q hq'; simp only [List.mem_singleton] at hq'; subst hq'; wtm_at "mem") ⟨rfl, ⟨[], .nil, by simp⟩, rfl, Nat.zero_le _⟩ ?_ ?_ ?_
 ·rintro i ys _ ⟨_, _, rfl, hi⟩
  lia
 ·clear S; intro DD cenv cnd ckd cfn i vs' ys _ v X s E hEc hcl hvl hi hJ1 hJ2 S
  wtm_at "pq"
  wtm_at "pk"
  obtain ⟨⟨x, hx, ⟨tx, rfl⟩⟩, rfl⟩ := hJ2
  obtain ⟨rfl, ⟨cs, hcs', hcb⟩, rfl, hil⟩ := hJ1
  wtm_at "ps"
  wtm_at "pk"
  obtain ⟨a1, rfl⟩ := len1 hvl
  rw [relabel_sc, hE.sc] at hEc
  replace hE := hEc
  wtm_at "go"
  refine b_fdiv (by decide) (PyProof.noPylong_small (by decide)) S ?_
  clear S; intro t1 s S
  wtm_at "go"
  refine b_mod (by decide) S ?_
  clear S; intro t2 s S
  exact ⟨_, _, rfl, ⟨rfl, ⟨cs ++ [(x.fdiv 30).fmod 2], hcs'.append (.cons ⟨_, rfl⟩ .nil), fun d hd => by
   rcases List.mem_append.mp hd with hd | hd
   ·exact hcb d hd
   ·simp only [List.mem_singleton] at hd; subst hd
    exact ⟨Int.fmod_nonneg_of_pos _ (by decide), Int.fmod_lt_of_pos _ (by decide)⟩⟩, by simp, by lia⟩, S⟩
 clear S; intro ta ys _ s hJ1 S
 wtm_at "pq"
 wtm_at "pk"
 obtain ⟨rfl, ⟨tw, htw, htb⟩, hyl, _⟩ := hJ1
 wtm_at "ps"
 (try dsimp only [List.set] at S)
 have htl := htw.len
 replace S := S.weak (a := ta) (y := lstR IntV tw) .here (fun o h => ⟨_, htw, h⟩)
 refine xs_lcS S 7 ["number"] [(Str.ofString "most", cM)] hE (by rw [clos_cells, hcs]; with_unfolding_all rfl) (by decide +kernel) rfl (by decide +kernel) (by decide +kernel) (by decide +kernel) (by rw [swapsW_sc, hE.sc]; with_unfolding_all rfl) rfl (by simp) ?_
 wtm_at "go"
 wtm_at "pk"
 obtain ⟨lv, hlv, hLl⟩ := S.isLR (a := na) (R := IntV) (xs := ns) (by wtm_at "mem")
 refine pi_list S hLl ?_
 clear S; (try clear LL); (try clear LL); clear hLl hlv lv; intro it s S
 refine lc_u (Itr.list _ _ it na (Src.lstR IntV ns)) hA.hand S (fun i ys L' => _ = L' ∧ (∃ cs : List Int, F2 IntV cs ys ∧ ∀ d ∈ cs, 0 ≤ d ∧ d < if 1 > mo then 1 else mo) ∧ ys.length = i ∧ i ≤ ns.length)
  (by rintro i ys _ ⟨rfl, _⟩ q hq'; simp only [List.mem_singleton] at hq'; subst hq'; wtm_at "mem") ⟨rfl, ⟨[], .nil, by simp⟩, rfl, Nat.zero_le _⟩ ?_ ?_ ?_
 ·rintro i ys _ ⟨_, _, rfl, hi⟩
  lia
 ·clear S; intro DD cenv cnd ckd cfn i vs' ys _ v X s E hEc hcl hvl hi hJ1 hJ2 S
  wtm_at "pq"
  wtm_at "pk"
  obtain ⟨⟨x, hx, ⟨tx, rfl⟩⟩, rfl⟩ := hJ2
  obtain ⟨rfl, ⟨cs, hcs', hcb⟩, rfl, hil⟩ := hJ1
  wtm_at "ps"
  wtm_at "pk"
  obtain ⟨a1, rfl⟩ := len1 hvl
  rw [relabel_sc, hE.sc] at hEc
  replace hE := hEc
  wtm_at "go"
  refine b_fdiv (by decide) (PyProof.noPylong_small (by decide)) S ?_
  clear S; intro t1 s S
  wtm_at "go"
  refine lC S hEc hcl (by rfl) (c := cM) rfl (by wtm_at "mem") ?_
  wtm_at "go"
  refine max2 hA.hand S ?_
  clear S; intro t3 s S
  have hj : 0 < (if (1 : Int) > mo then (1 : Int) else mo) := by split <;> lia
  refine b_mod (by lia) S ?_
  clear S; intro t2 s S
  exact ⟨_, _, rfl, ⟨rfl, ⟨cs ++ [(x.fdiv 30).fmod (if (1 : Int) > mo then (1 : Int) else mo)], hcs'.append (.cons ⟨_, rfl⟩ .nil), fun d hd => by
   rcases List.mem_append.mp hd with hd | hd
   ·exact hcb d hd
   ·simp only [List.mem_singleton] at hd; subst hd
    exact ⟨Int.fmod_nonneg_of_pos _ hj, Int.fmod_lt_of_pos _ hj⟩⟩, by simp, by lia⟩, S⟩
 clear S; intro fa ys' _ s hJ1 S
 wtm_at "pq"
 wtm_at "pk"
 obtain ⟨rfl, ⟨fw, hfw, hfb⟩, hyl', _⟩ := hJ1
 wtm_at "ps"
 (try dsimp only [List.set] at S)
 have hfl := hfw.len
 replace S := S.weak (a := fa) (y := lstR IntV fw) .here (fun o h => ⟨_, hfw, h⟩)
 refine h mo mt ta fa tw fw s hM1 hM2 (by lia) htb (by lia) hfb ?_
 exact S.perm (by wtm_at "perm")
end law6_w
end
theorem law6 {prog : Program} {w : World} {B : Bs} {fs : List Fm} {M : List (Addr × O)} {s : Shared} {A : Around} {E : Value → Shared → Prop} {n : Nat} {es : List Env} {env : Env} {sa cM cR cW cX cP cN cC : Addr} {Q : Flow → Shared → Prop} {xv pv nv cv : Option Value} {na ra rwa da spa rda wa : Addr} {rs ns : List Int} : law6_w.Pw prog w B fs M s A E n es env sa cM cR cW cX cP cN cC Q xv pv nv cv na ra rwa da spa rda wa rs ns := worst_of (Q := law6_w.Hw) (by with_unfolding_all rfl) law6_w.run ⟨prog, w, B, fs, M, s, A, E, n, es, env, sa, cM, cR, cW, cX, cP, cN, cC, Q, xv, pv, nv, cv, na, ra, rwa, da, spa, rda, wa, rs, ns⟩
section
end
end
section
noncomputable def dealtAt (rs tw fw : List Int) : Nat → List Int
 | 0 => rs
 | 1 => tw
 | _ => fw
section
variable {prog : Program} {w : World} {B : Bs} {fs : List Fm} {M : List (Addr × O)} {s : Shared} {A : Around} {E : Value → Shared → Prop} {n : Nat} {es : List Env} {env : Env} {sa cM cR cW cX cP cN cC : Addr} {Q : Flow → Shared → Prop}
 {nd : (["script", "numbers", "written", "at", "spans", "rounds", "two", "fewer", "works"] : List Str).Nodup} {kd : ∀ x ∈ (["script", "numbers", "written", "at", "spans", "rounds", "two", "fewer", "works"] : List Str), env.kindOf x = some .local} {fn : env.scope.kind = .function}
end
noncomputable section
namespace law7_w
def Pw (prog : Program) (w : World) (B : Bs) (fs : List Fm) (M : List (Addr × O)) (s : Shared) (A : Around) (E : Value → Shared → Prop) (n : Nat) (es : List Env) (env : Env) (sa cM cR cW cX cP cN cC : Addr) (Q : Flow → Shared → Prop) (xv pv nv cv : Option Value) (mo : Int) (mt : Tok) (na ra rwa da spa rda wa c0 ta fa : Addr) (rs tw fw : List Int) (ws : List (Nat × Nat)) (row : List Str) : Prop := ∀ {nd : (["script", "numbers", "written", "at", "spans", "rounds", "two", "fewer", "works"] : List Str).Nodup} {kd : ∀ x ∈ (["script", "numbers", "written", "at", "spans", "rounds", "two", "fewer", "works"] : List Str), env.kindOf x = some .local} {fn : env.scope.kind = .function} (H : LawH B w A n es env nd kd fn fs cM cR cW cX cP cN cC) (S : St B (lawF env nd kd fn sa (some (.ref na)) (some (.ref ra)) (some (.ref da)) (some (.ref spa)) (some (.ref rda)) (some (.ref ta)) (some (.ref fa)) none :: fs) (lawC cM cR cW cX cP cN cC (some (.int mo mt)) (some (.ref rwa)) (some (.ref wa)) xv pv nv cv (tabE 242 ++ (tabF 199 pieQ piePos.1 c0 ++ M))) s) (hwm : (wa, lstR StrV (ws.map fun p => two p.1 p.2)) ∈ M) (hrwm : (rwa, lstR StrV row) ∈ M) (hrm : (rda, lstR IntV rs) ∈ M) (htm : (ta, lstR IntV tw) ∈ M) (hfm : (fa, lstR IntV fw) ∈ M) (hsp : Spans M spa (spansOf (fun c => (row.idxOf (one c) : Int)) ws)) (hwz : ws.length = 7) (hrz : rs.length = 7) (htz : tw.length = 7) (hfz : fw.length = 7) (hrb : ∀ r ∈ rs, 0 ≤ r ∧ r ≤ 5) (htb : ∀ d ∈ tw, 0 ≤ d ∧ d < 2) (hfb : ∀ d ∈ fw, 0 ≤ d ∧ d < if 1 > mo then 1 else mo) (hm1 : mo ∈ rs) (hm2 : ∀ r ∈ rs, r ≤ mo) (hwp : ∀ p ∈ ws, p ∈ poolTo 6) (hnd : row.Nodup) (hrl : row.length = 6) (hro : ∀ p ∈ ws, one p.1 ∈ row ∧ one p.2 ∈ row ∧ row.idxOf (one p.1) < row.idxOf (one p.2)) (hD : IsDepth (spansOf (fun c => (row.idxOf (one c) : Int)) ws) rs) (h : ∀ c2 fs' L' s', St B ((⟨env, ["script", "numbers", "written", "at", "spans", "rounds", "two", "fewer", "works"], nd, kd, fn⟩, fs') :: fs) (L' ++ (tabF 242 lamQ lamPos.1 c2 ++ (tabF 199 pieQ piePos.1 c0 ++ M))) s' → Q (.ret (.bool true)) s'),
  wpAny (model prog w) A (execs ((stmtsOf lawObj.1).drop 16) env) Q E s
def Hw (x : Program × World × Bs × (List Fm) × (List (Addr × O)) × Shared × Around × (Value → Shared → Prop) × Nat × (List Env) × Env × Addr × Addr × Addr × Addr × Addr × Addr × Addr × Addr × (Flow → Shared → Prop) × (Option Value) × (Option Value) × (Option Value) × (Option Value) × Int × Tok × Addr × Addr × Addr × Addr × Addr × Addr × Addr × Addr × Addr × Addr × (List Int) × (List Int) × (List Int) × (List (Nat × Nat)) × (List Str)) : Prop := Pw x.1 x.2.1 x.2.2.1 x.2.2.2.1 x.2.2.2.2.1 x.2.2.2.2.2.1 x.2.2.2.2.2.2.1 x.2.2.2.2.2.2.2.1 x.2.2.2.2.2.2.2.2.1 x.2.2.2.2.2.2.2.2.2.1 x.2.2.2.2.2.2.2.2.2.2.1 x.2.2.2.2.2.2.2.2.2.2.2.1 x.2.2.2.2.2.2.2.2.2.2.2.2.1 x.2.2.2.2.2.2.2.2.2.2.2.2.2.1 x.2.2.2.2.2.2.2.2.2.2.2.2.2.2.1 x.2.2.2.2.2.2.2.2.2.2.2.2.2.2.2.1 x.2.2.2.2.2.2.2.2.2.2.2.2.2.2.2.2.1 x.2.2.2.2.2.2.2.2.2.2.2.2.2.2.2.2.2.1 x.2.2.2.2.2.2.2.2.2.2.2.2.2.2.2.2.2.2.1 x.2.2.2.2.2.2.2.2.2.2.2.2.2.2.2.2.2.2.2.1 x.2.2.2.2.2.2.2.2.2.2.2.2.2.2.2.2.2.2.2.2.1 x.2.2.2.2.2.2.2.2.2.2.2.2.2.2.2.2.2.2.2.2.2.1 x.2.2.2.2.2.2.2.2.2.2.2.2.2.2.2.2.2.2.2.2.2.2.1 x.2.2.2.2.2.2.2.2.2.2.2.2.2.2.2.2.2.2.2.2.2.2.2.1 x.2.2.2.2.2.2.2.2.2.2.2.2.2.2.2.2.2.2.2.2.2.2.2.2.1 x.2.2.2.2.2.2.2.2.2.2.2.2.2.2.2.2.2.2.2.2.2.2.2.2.2.1 x.2.2.2.2.2.2.2.2.2.2.2.2.2.2.2.2.2.2.2.2.2.2.2.2.2.2.1 x.2.2.2.2.2.2.2.2.2.2.2.2.2.2.2.2.2.2.2.2.2.2.2.2.2.2.2.1 x.2.2.2.2.2.2.2.2.2.2.2.2.2.2.2.2.2.2.2.2.2.2.2.2.2.2.2.2.1 x.2.2.2.2.2.2.2.2.2.2.2.2.2.2.2.2.2.2.2.2.2.2.2.2.2.2.2.2.2.1 x.2.2.2.2.2.2.2.2.2.2.2.2.2.2.2.2.2.2.2.2.2.2.2.2.2.2.2.2.2.2.1 x.2.2.2.2.2.2.2.2.2.2.2.2.2.2.2.2.2.2.2.2.2.2.2.2.2.2.2.2.2.2.2.1 x.2.2.2.2.2.2.2.2.2.2.2.2.2.2.2.2.2.2.2.2.2.2.2.2.2.2.2.2.2.2.2.2.1 x.2.2.2.2.2.2.2.2.2.2.2.2.2.2.2.2.2.2.2.2.2.2.2.2.2.2.2.2.2.2.2.2.2.1 x.2.2.2.2.2.2.2.2.2.2.2.2.2.2.2.2.2.2.2.2.2.2.2.2.2.2.2.2.2.2.2.2.2.2.1 x.2.2.2.2.2.2.2.2.2.2.2.2.2.2.2.2.2.2.2.2.2.2.2.2.2.2.2.2.2.2.2.2.2.2.2.1 x.2.2.2.2.2.2.2.2.2.2.2.2.2.2.2.2.2.2.2.2.2.2.2.2.2.2.2.2.2.2.2.2.2.2.2.2.1 x.2.2.2.2.2.2.2.2.2.2.2.2.2.2.2.2.2.2.2.2.2.2.2.2.2.2.2.2.2.2.2.2.2.2.2.2.2.1 x.2.2.2.2.2.2.2.2.2.2.2.2.2.2.2.2.2.2.2.2.2.2.2.2.2.2.2.2.2.2.2.2.2.2.2.2.2.2.1 x.2.2.2.2.2.2.2.2.2.2.2.2.2.2.2.2.2.2.2.2.2.2.2.2.2.2.2.2.2.2.2.2.2.2.2.2.2.2.2.1 x.2.2.2.2.2.2.2.2.2.2.2.2.2.2.2.2.2.2.2.2.2.2.2.2.2.2.2.2.2.2.2.2.2.2.2.2.2.2.2.2
@[irreducible] def cw := worst (by repeat (first | refine ne5 ?_ ?_ | exact ne1 | exact ne2 | exact ne3 | exact ne4 | exact inferInstance | exact ne7 | exact ⟨⟨0, 0, 0, 0, 0, 0, 0, 0⟩⟩)) Hw
def prog := cw.1
def w := cw.2.1
def B := cw.2.2.1
def fs := cw.2.2.2.1
def M := cw.2.2.2.2.1
def s := cw.2.2.2.2.2.1
def A := cw.2.2.2.2.2.2.1
def E := cw.2.2.2.2.2.2.2.1
def n := cw.2.2.2.2.2.2.2.2.1
def es := cw.2.2.2.2.2.2.2.2.2.1
def env := cw.2.2.2.2.2.2.2.2.2.2.1
def sa := cw.2.2.2.2.2.2.2.2.2.2.2.1
def cM := cw.2.2.2.2.2.2.2.2.2.2.2.2.1
def cR := cw.2.2.2.2.2.2.2.2.2.2.2.2.2.1
def cW := cw.2.2.2.2.2.2.2.2.2.2.2.2.2.2.1
def cX := cw.2.2.2.2.2.2.2.2.2.2.2.2.2.2.2.1
def cP := cw.2.2.2.2.2.2.2.2.2.2.2.2.2.2.2.2.1
def cN := cw.2.2.2.2.2.2.2.2.2.2.2.2.2.2.2.2.2.1
def cC := cw.2.2.2.2.2.2.2.2.2.2.2.2.2.2.2.2.2.2.1
def Q := cw.2.2.2.2.2.2.2.2.2.2.2.2.2.2.2.2.2.2.2.1
def xv := cw.2.2.2.2.2.2.2.2.2.2.2.2.2.2.2.2.2.2.2.2.1
def pv := cw.2.2.2.2.2.2.2.2.2.2.2.2.2.2.2.2.2.2.2.2.2.1
def nv := cw.2.2.2.2.2.2.2.2.2.2.2.2.2.2.2.2.2.2.2.2.2.2.1
def cv := cw.2.2.2.2.2.2.2.2.2.2.2.2.2.2.2.2.2.2.2.2.2.2.2.1
def mo := cw.2.2.2.2.2.2.2.2.2.2.2.2.2.2.2.2.2.2.2.2.2.2.2.2.1
def mt := cw.2.2.2.2.2.2.2.2.2.2.2.2.2.2.2.2.2.2.2.2.2.2.2.2.2.1
def na := cw.2.2.2.2.2.2.2.2.2.2.2.2.2.2.2.2.2.2.2.2.2.2.2.2.2.2.1
def ra := cw.2.2.2.2.2.2.2.2.2.2.2.2.2.2.2.2.2.2.2.2.2.2.2.2.2.2.2.1
def rwa := cw.2.2.2.2.2.2.2.2.2.2.2.2.2.2.2.2.2.2.2.2.2.2.2.2.2.2.2.2.1
def da := cw.2.2.2.2.2.2.2.2.2.2.2.2.2.2.2.2.2.2.2.2.2.2.2.2.2.2.2.2.2.1
def spa := cw.2.2.2.2.2.2.2.2.2.2.2.2.2.2.2.2.2.2.2.2.2.2.2.2.2.2.2.2.2.2.1
def rda := cw.2.2.2.2.2.2.2.2.2.2.2.2.2.2.2.2.2.2.2.2.2.2.2.2.2.2.2.2.2.2.2.1
def wa := cw.2.2.2.2.2.2.2.2.2.2.2.2.2.2.2.2.2.2.2.2.2.2.2.2.2.2.2.2.2.2.2.2.1
def c0 := cw.2.2.2.2.2.2.2.2.2.2.2.2.2.2.2.2.2.2.2.2.2.2.2.2.2.2.2.2.2.2.2.2.2.1
def ta := cw.2.2.2.2.2.2.2.2.2.2.2.2.2.2.2.2.2.2.2.2.2.2.2.2.2.2.2.2.2.2.2.2.2.2.1
def fa := cw.2.2.2.2.2.2.2.2.2.2.2.2.2.2.2.2.2.2.2.2.2.2.2.2.2.2.2.2.2.2.2.2.2.2.2.1
def rs := cw.2.2.2.2.2.2.2.2.2.2.2.2.2.2.2.2.2.2.2.2.2.2.2.2.2.2.2.2.2.2.2.2.2.2.2.2.1
def tw := cw.2.2.2.2.2.2.2.2.2.2.2.2.2.2.2.2.2.2.2.2.2.2.2.2.2.2.2.2.2.2.2.2.2.2.2.2.2.1
def fw := cw.2.2.2.2.2.2.2.2.2.2.2.2.2.2.2.2.2.2.2.2.2.2.2.2.2.2.2.2.2.2.2.2.2.2.2.2.2.2.1
def ws := cw.2.2.2.2.2.2.2.2.2.2.2.2.2.2.2.2.2.2.2.2.2.2.2.2.2.2.2.2.2.2.2.2.2.2.2.2.2.2.2.1
def row := cw.2.2.2.2.2.2.2.2.2.2.2.2.2.2.2.2.2.2.2.2.2.2.2.2.2.2.2.2.2.2.2.2.2.2.2.2.2.2.2.2
theorem run : Pw prog w B fs M s A E n es env sa cM cR cW cX cP cN cC Q xv pv nv cv mo mt na ra rwa da spa rda wa c0 ta fa rs tw fw ws row := by
 intro nd kd fn H S hwm hrwm hrm htm hfm hsp hwz hrz htz hfz hrb htb hfb hm1 hm2 hwp hnd hrl hro hD h
 obtain ⟨OB, hA, hE, hcs, hF⟩ := H
 have O := OB.toOk
 have hal := pool_alpha hwp
 have hmo := hrb mo hm1
 wtm_at "us"
 dsimp only [lawF, lawC] at S h
 with_unfolding_all (dsimp only [scOf, lawObj] at hE)
 with_unfolding_all (dsimp only [stmtsOf, lawObj, List.drop])
 refine xs_lcS S 8 ["dealt"] [(Str.ofString "words", cW), (Str.ofString "row", cR)] hE (by rw [clos_cells, hcs]; with_unfolding_all rfl) (by decide +kernel) rfl (by decide +kernel) (by decide +kernel) (by decide +kernel) (by rw [swapsW_sc, hE.sc]; with_unfolding_all rfl) rfl (by simp) ?_
 wtm_at "go"
 refine n_tup S (line_le (by simp)) ?_
 clear S; intro tt s S
 refine pi_tup S (S.isT (a := tt) (by wtm_at "mem")) ?_
 clear S; intro it s S
 generalize hap : (fun i => ApartTo (spansOf (fun c => (row.idxOf (one c) : Int)) ws) (dealtAt rs tw fw i) (spansOf (fun c => (row.idxOf (one c) : Int)) ws).length 0) = AP
 refine lc_u (Itr.tup _ _ it tt (Src.tup [.ref rda, .ref ta, .ref fa])) hA.hand S (fun i ys L' => ∃ (T2 : List (Addr × Mine.O)) (bs : List Bool), (T2 = tabE 242 ∨ ∃ c, T2 = tabF 242 lamQ lamPos.1 c) ∧ (0 < i → ∃ c, T2 = tabF 242 lamQ lamPos.1 c) ∧
   (tt, Mine.tup [.ref rda, .ref ta, .ref fa]) :: (cM, celO (some (.int mo mt))) :: (cR, celO (some (.ref rwa))) :: (cW, celO (some (.ref wa))) :: (cX, celO xv) :: (cP, celO pv) :: (cN, celO nv) :: (cC, celO cv) :: (T2 ++ (tabF 199 pieQ piePos.1 c0 ++ M)) = L' ∧
   ys = bs.map .bool ∧ bs.length = i ∧ i ≤ 3 ∧ ∀ (j : Nat) (b : Bool), bs[j]? = some b → (b = true ↔ AP j))
  (by rintro i ys _ ⟨T2, bs, _, _, rfl, _⟩ q hq'; simp only [List.mem_singleton] at hq'; subst hq'; wtm_at "mem") ⟨tabE 242, [], .inl rfl, by lia, rfl, rfl, rfl, by lia, by simp⟩ ?_ ?_ ?_
 ·rintro i ys _ ⟨_, bs, _, _, _, rfl, hbl, hi, _⟩
  rw [List.length_map]; lia
 ·clear S; intro DD cenv cnd ckd cfn i vs' ys _ v X s E hEc hcl hvl hi hJ1 hJ2 S
  wtm_at "pq"
  wtm_at "pk"
  obtain ⟨hv, rfl⟩ := hJ2
  obtain ⟨T2, bs, hT2, _, rfl, rfl, hbl, hi3, hbs⟩ := hJ1
  wtm_at "ps"
  wtm_at "pk"
  obtain ⟨a1, rfl⟩ := len1 hvl
  rw [relabel_sc, hE.sc] at hEc
  replace hE := hEc
  have hdl : ∃ d, v = .ref d ∧ (d, lstR IntV (dealtAt rs tw fw i)) ∈ M ∧ (dealtAt rs tw fw i).length = 7 ∧ ∀ x ∈ dealtAt rs tw fw i, 0 ≤ x ∧ x ≤ 100 := by
   match i, hv with
   | 0, hv => simp at hv; exact ⟨rda, hv.symm, hrm, hrz, fun x hx => by have := hrb x hx; lia⟩
   | 1, hv => simp at hv; exact ⟨ta, hv.symm, htm, htz, fun x hx => by have := htb x hx; lia⟩
   | 2, hv => simp at hv; exact ⟨fa, hv.symm, hfm, hfz, fun x hx => by have := hfb x hx; have h2 : (if (1 : Int) > mo then (1 : Int) else mo) ≤ 5 := by { split <;> lia }; lia⟩
   | i + 3, hv => simp at hv
  wtm_at "pk"
  obtain ⟨d, rfl, hdm, hdz, hdb⟩ := hdl
  wtm_at "go"
  refine cw_K O (fun _ => by kernel_rfl) ?_
  wtm_at "go"
  refine lC S hEc hcl (by rfl) (c := cW) rfl (by wtm_at "mem") ?_
  wtm_at "go"
  refine lC S hEc hcl (by rfl) (c := cR) rfl (by wtm_at "mem") ?_
  wtm_at "go"
  refine ⟨S.K O, w_call ?_⟩
  have S1 := S.perm (L' := T2 ++ (tabF 199 pieQ piePos.1 c0 ++ ((it, titO tt (i + 1)) :: (DD, lst (bs.map .bool)) :: (tt, Mine.tup [.ref rda, .ref ta, .ref fa]) :: (cM, celO (some (.int mo mt))) :: (cR, celO (some (.ref rwa))) :: (cW, celO (some (.ref wa))) :: (cX, celO xv) :: (cP, celO pv) :: (cN, celO nv) :: (cC, celO cv) :: M))) (by wtm_at "permc")
  refine works_spec (n := n) (ws := ws) (ds := dealtAt rs tw fw i) (row := row) OB S1 hT2 hA ((hF _).cons _) (by wtm_at "mem") (by wtm_at "mem") (by wtm_at "mem") (by lia) (by lia) (by lia) hdb (by lia) hnd (fun p hp => (hro p hp).1) (fun p hp => (hro p hp).2.1) (fun p hp => (hro p hp).2.2) hal ?_
  clear S; (try clear LL); (try clear LL); clear S1; intro b c2 s hb S
  refine ret_ok ?_
  have hbi : b = true ↔ AP i := by rw [← hap]; exact hb
  replace S := S.perm (L' := [(it, titO tt (i + 1))] ++ (DD, lst (bs.map .bool)) :: (tt, Mine.tup [.ref rda, .ref ta, .ref fa]) :: (cM, celO (some (.int mo mt))) :: (cR, celO (some (.ref rwa))) :: (cW, celO (some (.ref wa))) :: (cX, celO xv) :: (cP, celO pv) :: (cN, celO nv) :: (cC, celO cv) :: (tabF 242 lamQ lamPos.1 c2 ++ (tabF 199 pieQ piePos.1 c0 ++ M))) (by wtm_at "permc")
  have hi' : i < 3 := hi
  refine ⟨_, _, rfl, ⟨tabF 242 lamQ lamPos.1 c2, bs ++ [b], .inr ⟨_, rfl⟩, fun _ => ⟨_, rfl⟩, rfl, by simp, by simp; lia, by lia, fun j b' hj => ?_⟩, S⟩
  by_cases q : j < bs.length
  ·rw [List.getElem?_append_left q] at hj
   exact hbs j b' hj
  ·rw [List.getElem?_append_right (by lia)] at hj
   have : j - bs.length = 0 := by
    by_cases z : j - bs.length = 0
    ·exact z
    ·rw [List.getElem?_eq_none (by simp; lia)] at hj; cases hj
   rw [this] at hj
   simp at hj; subst hj
   rw [show j = i by lia]
   exact hbi
 clear S; intro wka ys _ s hJ1 S
 wtm_at "pq"
 wtm_at "pk"
 obtain ⟨T2, bs, _, hTc, rfl, rfl, hbl, _, hbs⟩ := hJ1
 wtm_at "ps"
 wtm_at "pk"
 obtain ⟨c2, rfl⟩ := hTc (Nat.succ_pos _)
 (try dsimp only [List.set] at S)
 have hbl3 : bs.length = 3 := hbl
 wtm_at "pk"
 obtain ⟨b1, b2, b3, rfl⟩ := len3 hbl3
 have h1 := hbs 0 b1 rfl
 have h2 := hbs 1 b2 rfl
 have h3 := hbs 2 b3 rfl
 rw [← hap] at h1 h2 h3
 simp only [dealtAt] at h1 h2 h3
 clear hbs hbl
 wtm_at "go"
 refine cw_K O (fun _ => by kernel_rfl) ?_
 wtm_at "go"
 refine ⟨S.K O, w_call ?_⟩
 refine apart_spec (n := n + 7) O S hA (hsp.mono fun p hp => by wtm_at "mem") (by wtm_at "mem") (by (try dsimp only [LL]); unfold spansOf; rw [List.length_map]; lia) (by (try dsimp only [LL]); unfold spansOf; rw [List.length_map]; lia) ?_
 clear S; intro bb s hbb S
 refine ret_ok ?_
 wtm_at "go"
 wtm_at "cell"
 wtm_at "go"
 refine n_list S (line_le (by simp)) ?_
 clear S; intro la s S
 wtm_at "go"
 have hy1 : b1 = true := h1.mpr hD.apart
 have hy2 : b2 = bb := Bool.eq_iff_iff.mpr (h2.trans hbb.symm)
 have hlen : (spansOf (fun c => (row.idxOf (one c) : Int)) ws).length = 7 := by (try dsimp only [LL]); unfold spansOf; rw [List.length_map]; exact hwz
 have hy3 : b3 = decide (mo = 0) := by
  by_cases hz : mo = 0
  ·rw [decide_eq_true hz]
   exact h3.mpr (hD.zero fun r hr => by have := hm2 r hr; lia)
  ·rw [decide_eq_false hz, Bool.eq_false_iff]
   intro hc
   have hme : mo = ((mo.toNat : Nat) : Int) := by lia
   refine hD.meet (m := mo.toNat) (ds := fw) (by lia) (by rw [← hme]; exact hm1) (by lia) (fun d hd => ?_) (h3.mp hc)
   have := hfb d hd
   rw [if_neg (by lia)] at this
   lia
 subst hy1 hy2 hy3
 have hw1 : IsL s wka ([true, b2, decide (mo = 0)].map .bool) := S.isL (by wtm_at "mem")
 have hw2 : IsL s la ([true, b2, (mo == 0)].map .bool) := S.isL (a := la) (vs := [Value.bool true, Value.bool b2, Value.bool (mo == 0)]) (by wtm_at "mem")
 refine eq_bools hA.c64 hw1 hw2 ?_
 have hbe : decide (mo = 0) = (mo == 0) := by by_cases q : mo = 0 <;> simp [q]
 rw [show decide ([true, b2, decide (mo = 0)] = [true, b2, (mo == 0)]) = true by rw [hbe]; simp]
 exact h c2 _ ((la, lst [Value.bool true, Value.bool b2, Value.bool (mo == 0)]) :: (wka, lst (List.map Value.bool [true, b2, decide (mo = 0)])) :: (tt, tup [Value.ref rda, Value.ref ta, Value.ref fa]) :: (cM, celO (some (Value.int mo mt))) :: (cR, celO (some (Value.ref rwa))) :: (cW, celO (some (Value.ref wa))) :: (cX, celO xv) :: (cP, celO pv) :: (cN, celO nv) :: (cC, celO cv) :: []) s (by simpa [LL, FF] using S)
end law7_w
end
theorem law7 {prog : Program} {w : World} {B : Bs} {fs : List Fm} {M : List (Addr × O)} {s : Shared} {A : Around} {E : Value → Shared → Prop} {n : Nat} {es : List Env} {env : Env} {sa cM cR cW cX cP cN cC : Addr} {Q : Flow → Shared → Prop} {xv pv nv cv : Option Value} {mo : Int} {mt : Tok} {na ra rwa da spa rda wa c0 ta fa : Addr} {rs tw fw : List Int} {ws : List (Nat × Nat)} {row : List Str} : law7_w.Pw prog w B fs M s A E n es env sa cM cR cW cX cP cN cC Q xv pv nv cv mo mt na ra rwa da spa rda wa c0 ta fa rs tw fw ws row := worst_of (Q := law7_w.Hw) (by with_unfolding_all rfl) law7_w.run ⟨prog, w, B, fs, M, s, A, E, n, es, env, sa, cM, cR, cW, cX, cP, cN, cC, Q, xv, pv, nv, cv, mo, mt, na, ra, rwa, da, spa, rda, wa, c0, ta, fa, rs, tw, fw, ws, row⟩
section
end
end
section
section
variable {prog : Program} {w : World} {B : Bs} {s : Shared} {A : Around} {n : Nat}
theorem law_spec {sa : Addr} {vs : List Value} {ns : List Int} {R : Result → Shared → Prop} (O : OkB B w) (S : St B [] (tabE 242 ++ (tabE 199 ++ [])) s) (hA : AOk A (n + 9) [])
  (hB : ∀ s' : Shared, (∀ a o, B.h.get? a = some o → s'.heap.get? a = some o) → s'.heap.IsList sa vs.toArray) (hv : IntsAre vs ns) (hz : vs.length ≤ 63)
  (hR : ∀ c1 c2 q1 q2 p1 p2 s', St B [] (tabF 242 q1 p1 c1 ++ (tabF 199 q2 p2 c2 ++ [])) s' → R (.ok (.ret (.bool true))) s') :
  codeAny (model prog w) A (.call (.ref 250) ⟨[.ref sa], []⟩) R s := by
 have hF : FrOk [] [] := fun _ h => nomatch h
 refine call_cq (a := 250) (binds := [(Str.ofString "script", .ref sa)]) ["script", "numbers", "written", "at", "spans", "rounds", "two", "fewer", "works"] [some (.ref sa), none, none, none, none, none, none, none, none] ["most", "row", "words", "lexer", "pool", "names", "cells"] (fun _ => none) O.toOk S hA hF (fun _ => rfl) rfl (fun _ => by kernel_rfl) rfl rfl rfl (by intro x hx; simp at hx; subst hx; exact .inl (by kernel_rfl)) (by kernel_rfl) (by decide +kernel) (by decide +kernel) (by simp only [bindL]; rw [if_pos (by kernel_rfl)]; funext y; simp [lookV]) (by simp only [bindC]; rw [if_pos (by kernel_rfl)]) (by decide +kernel) (by decide +kernel) rfl rfl rfl ?_
 clear S; (try clear LL); (try clear LL); clear hA hF; intro env cs nd kd fn s hE hcs hcn hfr hcode hqual hF S hA E
 wtm_at "pk"
 obtain ⟨cM, cs1, rfl, hcn1⟩ := cs_cons hcn
 obtain ⟨cR, cs2, rfl, hcn2⟩ := cs_cons hcn1
 obtain ⟨cW, cs3, rfl, hcn3⟩ := cs_cons hcn2
 obtain ⟨cX, cs4, rfl, hcn4⟩ := cs_cons hcn3
 obtain ⟨cP, cs5, rfl, hcn5⟩ := cs_cons hcn4
 obtain ⟨cN, cs6, rfl, hcn6⟩ := cs_cons hcn5
 obtain ⟨cC, rfl⟩ := cs_one hcn6
 clear hcn hcn1 hcn2 hcn3 hcn4 hcn5 hcn6
 wtm_at "us"
 dsimp only [List.map, List.append, List.cons_append, List.nil_append] at S
 have hE' : EnvIs env (scOf lawObj.1) := hE
 have H : LawH B w (A.deeper env) n (env :: []) env nd kd fn [] cM cR cW cX cP cN cC := ⟨O, hA, hE', hcs, hF⟩
 show wpAny (model prog w) (A.deeper env) (execs (stmtsOf lawObj.1) env) (BodyQ R) E s
 refine law1 H S hB (ofIntsAre hv) hz fun ca pa t cells s S hcz => ?_
 refine law2 (cells := cells) H S (by wtm_at "mem") hcz fun na ns s hns S => ?_
 refine law3 (ns := ns) H S (by wtm_at "mem") (by wtm_at "mem") hns fun ra ws s hws hwp S => ?_
 refine law4 (pv := some (.ref pa)) (nv := some (.str nmS t)) (cv := some (.ref ca)) (ns := ns) (ws := ws) (M := (ra, lstR StrV (ws.map fun p => two p.1 p.2)) :: (na, lstR IntV ns) :: (ca, lstR IntV cells) :: (pa, lstR StrV ((poolTo 6).map fun p => two p.1 p.2)) :: tabE 242) H (S.perm (by dsimp only [lawC]; wtm_at "permc")) (by wtm_at "mem") (by wtm_at "mem") hns hws hwp fun xv wa c' s S => ?_
 refine law5 (ws := ws) (cells := cells) H S (by wtm_at "mem") (by wtm_at "mem") hcz hws hwp fun rwa row da spa rda rs Y s hnd hrl hro hD hsp hrwm hrdm S => ?_
 have hsl : ∀ p ∈ spansOf (fun c => (row.idxOf (one c) : Int)) ws, p.1 < p.2 ∧ p.2 - p.1 ≤ 5 := fun p hp => by
  wtm_at "pk"
  obtain ⟨q, hq, rfl⟩ := List.mem_map.mp hp
  have h1 := hro q hq
  have h2 := List.idxOf_lt_length_of_mem h1.2.1
  show (row.idxOf (one q.1) : Int) < (row.idxOf (one q.2) : Int) ∧ (row.idxOf (one q.2) : Int) - (row.idxOf (one q.1) : Int) ≤ 5
  lia
 have hrz : rs.length = 7 := by rw [hD.len]; unfold spansOf; rw [List.length_map]; exact hws
 have hrb := hD.le5 (fun p hp => (hsl p hp).1) (fun p hp => (hsl p hp).2)
 refine law6 (ns := ns) (rs := rs) H S (by wtm_at "mem") (by wtm_at "mem") hns hrz hrb fun mo mt ta fa tw fw s hm1 hm2 htz htb hfz hfb S => ?_
 refine law7 (xv := xv) (pv := some (.ref pa)) (nv := some (.str nmS t)) (cv := some (.ref ca)) (mo := mo) (mt := mt) (na := na) (ra := ra) (rwa := rwa) (da := da) (spa := spa) (rda := rda) (wa := wa) (ta := ta) (fa := fa) (ws := ws) (row := row) (rs := rs) (tw := tw) (fw := fw) (c0 := c') (M := (ta, lstR IntV tw) :: (fa, lstR IntV fw) :: (Y ++ (wa, lstR StrV (ws.map fun p => two p.1 p.2)) :: (ra, lstR StrV (ws.map fun p => two p.1 p.2)) :: (na, lstR IntV ns) :: (ca, lstR IntV cells) :: (pa, lstR StrV ((poolTo 6).map fun p => two p.1 p.2)) :: [])) H (S.perm (by dsimp only [lawC]; wtm_at "permc"))
  (by wtm_at "mem") (by wtm_at "mem") (by wtm_at "mem") (by wtm_at "mem") (by wtm_at "mem") (hsp.mono fun p hp => by wtm_at "mem") hws hrz htz hfz hrb htb hfb hm1 hm2 hwp hnd hrl hro hD fun c2 ls L' s S => ?_
 exact body_ret (hR c2 c' _ _ _ _ s (S.less ((List.Sublist.append (.refl _) (List.Sublist.append (.refl _) (List.nil_sublist _))).trans (List.sublist_append_right _ _))).pop)
end
end
end
end Mine
theorem PySem.Challenge.cw_oc0201_01_holds : PySem.Challenge.rw_oc0201_01.Holds := by
 exact Mine.join fun O S hB hv hz hR => Mine.law_spec (n := 0) O S ⟨by decide +kernel, by decide +kernel, rfl, rfl⟩ hB hv hz hR

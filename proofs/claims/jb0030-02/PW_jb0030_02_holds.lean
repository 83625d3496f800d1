import PyProof.Rows.All
import Wide.All
import OpenK.AllK
import Wide.FinOn
import KE.KSortTup
import KE.KMinKey
import KE.KParD
import KE.KSuper
import KE.KStar
import KE.KNestM
import Lean
import PySem.Challenge.RW_jb0030_02
set_option Elab.async false
set_option maxRecDepth 100000
set_option bootstrap.genMatcherCode false
set_option genSizeOf false
set_option genInjectivity false
set_option tactic.hygienic false
open PySem PySem.W PySem.Calls PyProof.Rows
namespace J
noncomputable def nth : List Stmt → Nat → Stmt
 | [], _ => .Pass ⟨0, 0, 0, 0⟩
 | a :: _, 0 => a
 | _ :: r, n + 1 => nth r n
noncomputable def bodyS : Stmt → List Stmt
 | .FunctionDef _ _ b _ _ _ _ _ _ _ => b
 | .ClassDef _ _ _ b _ _ _ _ _ _ _ => b
 | _ => []
noncomputable def argsS : Stmt → Arguments
 | .FunctionDef _ a _ _ _ _ _ _ _ _ => a
 | _ => ⟨[], [], none, [], [], none, []⟩
noncomputable def scopeS : Stmt → Scope
 | .FunctionDef _ _ _ _ _ _ s _ _ _ => s
 | _ => { kind := .function, names := [], isGenerator := false, isCoroutine := false }
noncomputable abbrev st (i : Nat) : Stmt := nth PySem.Challenge.pw_jb0030_02.main.body i
noncomputable abbrev sb (i j : Nat) : Stmt := nth (bodyS (st i)) j
noncomputable abbrev fo (n q : Str) (s : Stmt) (g : Addr) (cl : List (Str × Addr)) (a b c d : Value) (e : Option Addr) (f h : Value) (k : Nat) : FuncData := FuncData.mk n q (argsS s) (.stmts (bodyS s)) (scopeS s) g cl a b c d e f h k
noncomputable abbrev tp (l : Array Value) : Obj := .mk (.type "tuple") none (.seq l 0) #[]
noncomputable abbrev cd (n q : Str) (i : Nat) (l k f : Int) (a b : Addr) (c d : Value) (e : Addr) (m : Int) (j : Nat) : Obj := .mk (.type "code") none (.fields #[.str n i, .str q (i + 1), .str "/claim/cut.py" (i + 2), .int l 0, .int k 0, .int 0 0, .int 0 0, .int f 0, .ref a, .bool true, .int 181 0, .ref b, .none, c, d, .ref e, .int m 0, .int l 0, .str "/claim/cut.py" j]) #[]
noncomputable abbrev fu (n q : Str) (s : Stmt) (d : Value) (m : Str) (k : Nat) (c : Addr) : Obj := .mk (.type "function") none (.func (fo n q s 3 [] d .none .none (.str m k) none (.ref c) .none 0)) #[]
noncomputable def K1 (P : Params) : Frag := [
 (2, (.mk .none none (.dict #[] 0) #[])),
 (3, (.mk (.type "dict") none (.dict #[(.mk (PyData.keyHash P "__name__") (.str "__name__" 165) (.str "law_jb0030_02" 784)), (.mk (PyData.keyHash P "__doc__") (.str "__doc__" 166) .none), (.mk (PyData.keyHash P "__package__") (.str "__package__" 167) .none), (.mk (PyData.keyHash P "__loader__") (.str "__loader__" 168) (.builtin "__main__.__loader__#opaque")), (.mk (PyData.keyHash P "__spec__") (.str "__spec__" 169) .none), (.mk (PyData.keyHash P "__annotations__") (.str "__annotations__" 170) (.ref 6)), (.mk (PyData.keyHash P "__builtins__") (.str "__builtins__" 171) (.ref 4)), (.mk (PyData.keyHash P "__file__") (.str "__file__" 173) (.str "/claim/cut.py" 172)), (.mk (PyData.keyHash P "__cached__") (.str "__cached__" 174) .none), (.mk (PyData.keyHash P "_wall") (.str "_wall" 193) (.ref 21)), (.mk (PyData.keyHash P "Point") (.str "Point" 243) (.ref 52)), (.mk (PyData.keyHash P "Rectangle") (.str "Rectangle" 418) (.ref 203)), (.mk (PyData.keyHash P "PackingAlgorithm") (.str "PackingAlgorithm" 548) (.ref 304)), (.mk (PyData.keyHash P "first_item") (.str "first_item" 557) (.ref 315)), (.mk (PyData.keyHash P "MaxRects") (.str "MaxRects" 672) (.ref 391)), (.mk (PyData.keyHash P "MaxRectsBl") (.str "MaxRectsBl" 705) (.ref 410)), (.mk (PyData.keyHash P "MaxRectsBssf") (.str "MaxRectsBssf" 731) (.ref 429)), (.mk (PyData.keyHash P "MaxRectsBaf") (.str "MaxRectsBaf" 757) (.ref 448)), (.mk (PyData.keyHash P "MaxRectsBlsf") (.str "MaxRectsBlsf" 783) (.ref 467)), (.mk (PyData.keyHash P "_law_side") (.str "_law_side" 793) (.ref 476)), (.mk (PyData.keyHash P "_law_lies") (.str "_law_lies" 811) (.ref 483)), (.mk (PyData.keyHash P "_law_held") (.str "_law_held" 817) (.ref 488)), (.mk (PyData.keyHash P "_law_maximal") (.str "_law_maximal" 823) (.ref 493)), (.mk (PyData.keyHash P "_law_box") (.str "_law_box" 833) (.ref 500)), (.mk (PyData.keyHash P "_law_kept") (.str "_law_kept" 839) (.ref 505)), (.mk (PyData.keyHash P "law") (.str "law" 845) (.ref 510))] 26) #[])),
 (15, tp #[]),
 (17, tp #[(.str "k" 190)]),
 (18, tp #[]),
 (20, cd "_wall" "_wall" 187 1 1 3 15 16 (.ref 17) (.ref 18) 19 191 192),
 (21, fu "_wall" "_wall" (st 0) .none "__main__" 164 20),
 (22, tp #[(.type "object")]),
 (29, tp #[]),
 (31, tp #[(.str "self" 211), (.str "x" 212), (.str "y" 213)]),
 (32, tp #[]),
 (34, cd "__init__" "Point.__init__" 208 7 3 3 29 30 (.ref 31) (.ref 32) 33 214 215),
 (35, fu "__init__" "Point.__init__" (sb 2 0) .none "rectpack.geometry" 194 34),
 (36, tp #[]),
 (38, tp #[(.str "self" 220), (.str "other" 221)]),
 (39, tp #[]),
 (41, cd "__eq__" "Point.__eq__" 217 11 2 3 36 37 (.ref 38) (.ref 39) 40 222 223),
 (42, fu "__eq__" "Point.__eq__" (sb 2 1) .none "rectpack.geometry" 194 41),
 (43, tp #[]),
 (45, tp #[(.str "self" 228), (.str "point" 229)]),
 (46, tp #[]),
 (48, cd "distance_squared" "Point.distance_squared" 225 14 2 3 43 44 (.ref 45) (.ref 46) 47 230 231),
 (49, fu "distance_squared" "Point.distance_squared" (sb 2 2) .none "rectpack.geometry" 194 48),
 (50, tp #[(.str "x" 233), (.str "y" 234)]),
 (51, (.mk (.type "dict") none (.dict #[(.mk (PyData.keyHash P "__module__") (.str "__module__" 203) (.str "rectpack.geometry" 194)), (.mk (PyData.keyHash P "__firstlineno__") (.str "__firstlineno__" 207) (.int 5 206)), (.mk (PyData.keyHash P "__init__") (.str "__init__" 216) (.ref 35)), (.mk (PyData.keyHash P "__eq__") (.str "__eq__" 224) (.ref 42)), (.mk (PyData.keyHash P "distance_squared") (.str "distance_squared" 232) (.ref 49)), (.mk (PyData.keyHash P "__static_attributes__") (.str "__static_attributes__" 235) (.ref 50)), (.mk (PyData.keyHash P "__dict__") (.str "__dict__" 237) (.ref 53)), (.mk (PyData.keyHash P "__weakref__") (.str "__weakref__" 239) (.ref 54)), (.mk (PyData.keyHash P "__doc__") (.str "__doc__" 240) .none), (.mk (PyData.keyHash P "__hash__") (.str "__hash__" 241) .none)] 5) #[])),
 (52, (.mk (.type "type") none (.cls (ClassData.mk "Point" [(.type "object")] [(.ref 52), (.type "object")] 51 "Point" true [] [] false none false)) #[(some (.ref 22)), none, (some (.str "Point" 196)), (some (.str "Point" 204)), (some (.builtin "object.__new__")), (some (.bool true))])),
 (53, (.mk (.type "getset_descriptor") none (.fields #[(.str "__dict__" 236), (.ref 52), (.builtin "function.__dict__"), (.builtin "function.__dict__#set")]) #[])),
 (54, (.mk (.type "getset_descriptor") none (.fields #[(.str "__weakref__" 238), (.ref 52), (.builtin "ExceptionGroup.__weakref__"), .none]) #[])),
 (57, tp #[(.type "object")]),
 (64, tp #[.none]),
 (65, tp #[]),
 (67, tp #[(.str "self" 259), (.str "x" 260), (.str "y" 261), (.str "width" 262), (.str "height" 263), (.str "rid" 264)]),
 (68, tp #[]),
 (70, cd "__init__" "Rectangle.__init__" 256 18 6 3 65 66 (.ref 67) (.ref 68) 69 265 266),
 (71, fu "__init__" "Rectangle.__init__" (sb 3 0) (.ref 64) "rectpack.geometry" 194 70),
 (72, tp #[]),
 (74, tp #[(.str "self" 271)]),
 (75, tp #[]),
 (77, cd "bottom" "Rectangle.bottom" 268 26 1 3 72 73 (.ref 74) (.ref 75) 76 272 273),
 (78, fu "bottom" "Rectangle.bottom" (sb 3 1) .none "rectpack.geometry" 194 77),
 (79, (.mk (.type "property") none (.fields #[(.ref 78), .none, .none, .none, (.str "bottom" 275), (.bool false)]) #[])),
 (80, tp #[]),
 (82, tp #[(.str "self" 279)]),
 (83, tp #[]),
 (85, cd "top" "Rectangle.top" 276 30 1 3 80 81 (.ref 82) (.ref 83) 84 280 281),
 (86, fu "top" "Rectangle.top" (sb 3 2) .none "rectpack.geometry" 194 85),
 (87, (.mk (.type "property") none (.fields #[(.ref 86), .none, .none, .none, (.str "top" 283), (.bool false)]) #[])),
 (88, tp #[]),
 (90, tp #[(.str "self" 287)]),
 (91, tp #[]),
 (93, cd "left" "Rectangle.left" 284 34 1 3 88 89 (.ref 90) (.ref 91) 92 288 289),
 (94, fu "left" "Rectangle.left" (sb 3 3) .none "rectpack.geometry" 194 93),
 (95, (.mk (.type "property") none (.fields #[(.ref 94), .none, .none, .none, (.str "left" 291), (.bool false)]) #[])),
 (96, tp #[]),
 (98, tp #[(.str "self" 295)]),
 (99, tp #[]),
 (101, cd "right" "Rectangle.right" 292 38 1 3 96 97 (.ref 98) (.ref 99) 100 296 297),
 (102, fu "right" "Rectangle.right" (sb 3 4) .none "rectpack.geometry" 194 101),
 (103, (.mk (.type "property") none (.fields #[(.ref 102), .none, .none, .none, (.str "right" 299), (.bool false)]) #[])),
 (104, tp #[]),
 (106, tp #[(.str "self" 303)]),
 (107, tp #[]),
 (109, cd "corner_top_l" "Rectangle.corner_top_l" 300 42 1 3 104 105 (.ref 106) (.ref 107) 108 304 305),
 (110, fu "corner_top_l" "Rectangle.corner_top_l" (sb 3 5) .none "rectpack.geometry" 194 109),
 (111, (.mk (.type "property") none (.fields #[(.ref 110), .none, .none, .none, (.str "corner_top_l" 307), (.bool false)]) #[])),
 (112, tp #[]),
 (114, tp #[(.str "self" 311)]),
 (115, tp #[]),
 (117, cd "corner_top_r" "Rectangle.corner_top_r" 308 46 1 3 112 113 (.ref 114) (.ref 115) 116 312 313),
 (118, fu "corner_top_r" "Rectangle.corner_top_r" (sb 3 6) .none "rectpack.geometry" 194 117),
 (119, (.mk (.type "property") none (.fields #[(.ref 118), .none, .none, .none, (.str "corner_top_r" 315), (.bool false)]) #[])),
 (120, tp #[]),
 (122, tp #[(.str "self" 319)]),
 (123, tp #[]),
 (125, cd "corner_bot_r" "Rectangle.corner_bot_r" 316 50 1 3 120 121 (.ref 122) (.ref 123) 124 320 321),
 (126, fu "corner_bot_r" "Rectangle.corner_bot_r" (sb 3 7) .none "rectpack.geometry" 194 125),
 (127, (.mk (.type "property") none (.fields #[(.ref 126), .none, .none, .none, (.str "corner_bot_r" 323), (.bool false)]) #[])),
 (128, tp #[]),
 (130, tp #[(.str "self" 327)]),
 (131, tp #[]),
 (133, cd "corner_bot_l" "Rectangle.corner_bot_l" 324 54 1 3 128 129 (.ref 130) (.ref 131) 132 328 329),
 (134, fu "corner_bot_l" "Rectangle.corner_bot_l" (sb 3 8) .none "rectpack.geometry" 194 133),
 (135, (.mk (.type "property") none (.fields #[(.ref 134), .none, .none, .none, (.str "corner_bot_l" 331), (.bool false)]) #[])),
 (136, tp #[]),
 (138, tp #[(.str "self" 335), (.str "other" 336)]),
 (139, tp #[]),
 (141, cd "__lt__" "Rectangle.__lt__" 332 58 2 3 136 137 (.ref 138) (.ref 139) 140 337 338),
 (142, fu "__lt__" "Rectangle.__lt__" (sb 3 9) .none "rectpack.geometry" 194 141),
 (143, tp #[]),
 (145, tp #[(.str "self" 343), (.str "other" 344)]),
 (146, tp #[]),
 (148, cd "__eq__" "Rectangle.__eq__" 340 61 2 3 143 144 (.ref 145) (.ref 146) 147 345 346),
 (149, fu "__eq__" "Rectangle.__eq__" (sb 3 10) .none "rectpack.geometry" 194 148),
 (150, tp #[]),
 (152, tp #[(.str "self" 351)]),
 (153, tp #[]),
 (155, cd "__iter__" "Rectangle.__iter__" 348 66 1 35 150 151 (.ref 152) (.ref 153) 154 352 353),
 (156, fu "__iter__" "Rectangle.__iter__" (sb 3 11) .none "rectpack.geometry" 194 155),
 (157, tp #[]),
 (159, tp #[(.str "self" 358)]),
 (160, tp #[]),
 (162, cd "area" "Rectangle.area" 355 72 1 3 157 158 (.ref 159) (.ref 160) 161 359 360),
 (163, fu "area" "Rectangle.area" (sb 3 12) .none "rectpack.geometry" 194 162),
 (164, tp #[]),
 (166, tp #[(.str "self" 365), (.str "x" 366), (.str "y" 367)]),
 (167, tp #[]),
 (169, cd "move" "Rectangle.move" 362 75 3 3 164 165 (.ref 166) (.ref 167) 168 368 369),
 (170, fu "move" "Rectangle.move" (sb 3 13) .none "rectpack.geometry" 194 169),
 (171, tp #[]),
 (173, tp #[(.str "self" 374), (.str "rect" 375)]),
 (174, tp #[]),
 (176, cd "contains" "Rectangle.contains" 371 78 2 3 171 172 (.ref 173) (.ref 174) 175 376 377),
 (177, fu "contains" "Rectangle.contains" (sb 3 14) .none "rectpack.geometry" 194 176),
 (178, tp #[(.bool false)]),
 (179, tp #[]),
 (181, tp #[(.str "self" 382), (.str "rect" 383), (.str "edges" 384)]),
 (182, tp #[]),
 (184, cd "intersects" "Rectangle.intersects" 379 81 3 3 179 180 (.ref 181) (.ref 182) 183 385 386),
 (185, fu "intersects" "Rectangle.intersects" (sb 3 15) (.ref 178) "rectpack.geometry" 194 184),
 (186, tp #[(.bool false)]),
 (187, tp #[]),
 (189, tp #[(.str "self" 391), (.str "rect" 392), (.str "edges" 393)]),
 (190, tp #[]),
 (192, cd "intersection" "Rectangle.intersection" 388 89 3 3 187 188 (.ref 189) (.ref 190) 191 394 395),
 (193, fu "intersection" "Rectangle.intersection" (sb 3 16) (.ref 186) "rectpack.geometry" 194 192),
 (194, tp #[]),
 (196, tp #[(.str "self" 400), (.str "other" 401)]),
 (197, tp #[]),
 (199, cd "join" "Rectangle.join" 397 92 2 3 194 195 (.ref 196) (.ref 197) 198 402 403),
 (200, fu "join" "Rectangle.join" (sb 3 17) .none "rectpack.geometry" 194 199),
 (201, tp #[(.str "height" 405), (.str "rid" 406), (.str "width" 407), (.str "x" 408), (.str "y" 409)]),
 (202, (.mk (.type "dict") none (.dict #[(.mk (PyData.keyHash P "__module__") (.str "__module__" 251) (.str "rectpack.geometry" 194)), (.mk (PyData.keyHash P "__firstlineno__") (.str "__firstlineno__" 255) (.int 16 254)), (.mk (PyData.keyHash P "__init__") (.str "__init__" 267) (.ref 71)), (.mk (PyData.keyHash P "bottom") (.str "bottom" 275) (.ref 79)), (.mk (PyData.keyHash P "top") (.str "top" 283) (.ref 87)), (.mk (PyData.keyHash P "left") (.str "left" 291) (.ref 95)), (.mk (PyData.keyHash P "right") (.str "right" 299) (.ref 103)), (.mk (PyData.keyHash P "corner_top_l") (.str "corner_top_l" 307) (.ref 111)), (.mk (PyData.keyHash P "corner_top_r") (.str "corner_top_r" 315) (.ref 119)), (.mk (PyData.keyHash P "corner_bot_r") (.str "corner_bot_r" 323) (.ref 127)), (.mk (PyData.keyHash P "corner_bot_l") (.str "corner_bot_l" 331) (.ref 135)), (.mk (PyData.keyHash P "__lt__") (.str "__lt__" 339) (.ref 142)), (.mk (PyData.keyHash P "__eq__") (.str "__eq__" 347) (.ref 149)), (.mk (PyData.keyHash P "__iter__") (.str "__iter__" 354) (.ref 156)), (.mk (PyData.keyHash P "area") (.str "area" 361) (.ref 163)), (.mk (PyData.keyHash P "move") (.str "move" 370) (.ref 170)), (.mk (PyData.keyHash P "contains") (.str "contains" 378) (.ref 177)), (.mk (PyData.keyHash P "intersects") (.str "intersects" 387) (.ref 185)), (.mk (PyData.keyHash P "intersection") (.str "intersection" 396) (.ref 193)), (.mk (PyData.keyHash P "join") (.str "join" 404) (.ref 200)), (.mk (PyData.keyHash P "__static_attributes__") (.str "__static_attributes__" 410) (.ref 201)), (.mk (PyData.keyHash P "__dict__") (.str "__dict__" 412) (.ref 204)), (.mk (PyData.keyHash P "__weakref__") (.str "__weakref__" 414) (.ref 205)), (.mk (PyData.keyHash P "__doc__") (.str "__doc__" 415) .none), (.mk (PyData.keyHash P "__hash__") (.str "__hash__" 416) .none)] 5) #[])),
 (203, (.mk (.type "type") none (.cls (ClassData.mk "Rectangle" [(.type "object")] [(.ref 203), (.type "object")] 202 "Rectangle" true [] [] false none false)) #[(some (.ref 57)), none, (some (.str "Rectangle" 244)), (some (.str "Rectangle" 252)), (some (.builtin "object.__new__")), (some (.bool true))])),
 (204, (.mk (.type "getset_descriptor") none (.fields #[(.str "__dict__" 411), (.ref 203), (.builtin "function.__dict__"), (.builtin "function.__dict__#set")]) #[])),
 (205, (.mk (.type "getset_descriptor") none (.fields #[(.str "__weakref__" 413), (.ref 203), (.builtin "ExceptionGroup.__weakref__"), .none]) #[])),
 (208, tp #[(.type "object")]),
 (215, tp #[(.bool true), .none]),
 (216, tp #[]),
 (218, tp #[(.str "self" 436), (.str "width" 437), (.str "height" 438), (.str "rot" 439), (.str "bid" 440), (.str "args" 441), (.str "kwargs" 442)]),
 (219, tp #[]),
 (221, cd "__init__" "PackingAlgorithm.__init__" 433 97 5 15 216 217 (.ref 218) (.ref 219) 220 443 444),
 (222, fu "__init__" "PackingAlgorithm.__init__" (sb 5 0) (.ref 215) "rectpack.pack_algo" 419 221),
 (223, tp #[]),
 (225, tp #[(.str "self" 449)]),
 (226, tp #[]),
 (228, cd "__len__" "PackingAlgorithm.__len__" 446 106 1 3 223 224 (.ref 225) (.ref 226) 227 450 451),
 (229, fu "__len__" "PackingAlgorithm.__len__" (sb 5 1) .none "rectpack.pack_algo" 419 228),
 (230, tp #[]),
 (232, tp #[(.str "self" 456), (.str "r" 457)]),
 (233, tp #[]),
 (235, cd "__iter__" "PackingAlgorithm.__iter__" 453 109 1 35 230 231 (.ref 232) (.ref 233) 234 458 459),
 (236, fu "__iter__" "PackingAlgorithm.__iter__" (sb 5 2) .none "rectpack.pack_algo" 419 235),
 (237, tp #[]),
 (239, tp #[(.str "self" 464), (.str "width" 465), (.str "height" 466)]),
 (240, tp #[]),
 (242, cd "_fits_surface" "PackingAlgorithm._fits_surface" 461 113 3 3 237 238 (.ref 239) (.ref 240) 241 467 468),
 (243, fu "_fits_surface" "PackingAlgorithm._fits_surface" (sb 5 3) .none "rectpack.pack_algo" 419 242),
 (244, tp #[]),
 (246, tp #[(.str "self" 473), (.str "key" 474)]),
 (247, tp #[]),
 (249, cd "__getitem__" "PackingAlgorithm.__getitem__" 470 116 2 3 244 245 (.ref 246) (.ref 247) 248 475 476),
 (250, fu "__getitem__" "PackingAlgorithm.__getitem__" (sb 5 4) .none "rectpack.pack_algo" 419 249),
 (251, tp #[]),
 (253, tp #[(.str "self" 481)]),
 (254, tp #[]),
 (256, cd "used_area" "PackingAlgorithm.used_area" 478 119 1 3 251 252 (.ref 253) (.ref 254) 255 482 483),
 (257, fu "used_area" "PackingAlgorithm.used_area" (sb 5 5) .none "rectpack.pack_algo" 419 256),
 (258, tp #[(.bool false)]),
 (259, tp #[]),
 (261, tp #[(.str "self" 488), (.str "width" 489), (.str "height" 490), (.str "rot" 491)]),
 (262, tp #[]),
 (264, cd "fitness" "PackingAlgorithm.fitness" 485 122 4 3 259 260 (.ref 261) (.ref 262) 263 492 493),
 (265, fu "fitness" "PackingAlgorithm.fitness" (sb 5 6) (.ref 258) "rectpack.pack_algo" 419 264),
 (266, tp #[.none]),
 (267, tp #[]),
 (269, tp #[(.str "self" 498), (.str "width" 499), (.str "height" 500), (.str "rid" 501)]),
 (270, tp #[]),
 (272, cd "add_rect" "PackingAlgorithm.add_rect" 495 125 4 3 267 268 (.ref 269) (.ref 270) 271 502 503),
 (273, fu "add_rect" "PackingAlgorithm.add_rect" (sb 5 7) (.ref 266) "rectpack.pack_algo" 419 272),
 (274, tp #[]),
 (276, tp #[(.str "self" 508), (.str "rectangle_list" 509), (.str "r" 510)]),
 (277, tp #[]),
 (279, cd "rect_list" "PackingAlgorithm.rect_list" 505 128 1 3 274 275 (.ref 276) (.ref 277) 278 511 512),
 (280, fu "rect_list" "PackingAlgorithm.rect_list" (sb 5 8) .none "rectpack.pack_algo" 419 279),
 (281, tp #[]),
 (283, tp #[(.str "self" 517)]),
 (284, tp #[]),
 (286, cd "validate_packing" "PackingAlgorithm.validate_packing" 514 134 1 3 281 282 (.ref 283) (.ref 284) 285 518 519),
 (287, fu "validate_packing" "PackingAlgorithm.validate_packing" (sb 5 9) .none "rectpack.pack_algo" 419 286),
 (288, tp #[]),
 (290, tp #[(.str "self" 524)]),
 (291, tp #[]),
 (293, cd "is_empty" "PackingAlgorithm.is_empty" 521 137 1 3 288 289 (.ref 290) (.ref 291) 292 525 526),
 (294, fu "is_empty" "PackingAlgorithm.is_empty" (sb 5 10) .none "rectpack.pack_algo" 419 293),
 (295, tp #[]),
 (297, tp #[(.str "self" 531)]),
 (298, tp #[]),
 (300, cd "reset" "PackingAlgorithm.reset" 528 140 1 3 295 296 (.ref 297) (.ref 298) 299 532 533),
 (301, fu "reset" "PackingAlgorithm.reset" (sb 5 11) .none "rectpack.pack_algo" 419 300),
 (302, tp #[(.str "_surface" 535), (.str "bid" 536), (.str "height" 537), (.str "rectangles" 538), (.str "rot" 539), (.str "width" 540)]),
 (303, (.mk (.type "dict") none (.dict #[(.mk (PyData.keyHash P "__module__") (.str "__module__" 428) (.str "rectpack.pack_algo" 419)), (.mk (PyData.keyHash P "__firstlineno__") (.str "__firstlineno__" 432) (.int 95 431)), (.mk (PyData.keyHash P "__init__") (.str "__init__" 445) (.ref 222)), (.mk (PyData.keyHash P "__len__") (.str "__len__" 452) (.ref 229)), (.mk (PyData.keyHash P "__iter__") (.str "__iter__" 460) (.ref 236)), (.mk (PyData.keyHash P "_fits_surface") (.str "_fits_surface" 469) (.ref 243)), (.mk (PyData.keyHash P "__getitem__") (.str "__getitem__" 477) (.ref 250)), (.mk (PyData.keyHash P "used_area") (.str "used_area" 484) (.ref 257)), (.mk (PyData.keyHash P "fitness") (.str "fitness" 494) (.ref 265)), (.mk (PyData.keyHash P "add_rect") (.str "add_rect" 504) (.ref 273)), (.mk (PyData.keyHash P "rect_list") (.str "rect_list" 513) (.ref 280)), (.mk (PyData.keyHash P "validate_packing") (.str "validate_packing" 520) (.ref 287)), (.mk (PyData.keyHash P "is_empty") (.str "is_empty" 527) (.ref 294)), (.mk (PyData.keyHash P "reset") (.str "reset" 534) (.ref 301)), (.mk (PyData.keyHash P "__static_attributes__") (.str "__static_attributes__" 541) (.ref 302)), (.mk (PyData.keyHash P "__dict__") (.str "__dict__" 543) (.ref 305)), (.mk (PyData.keyHash P "__weakref__") (.str "__weakref__" 545) (.ref 306)), (.mk (PyData.keyHash P "__doc__") (.str "__doc__" 546) .none)] 4) #[])),
 (304, (.mk (.type "type") none (.cls (ClassData.mk "PackingAlgorithm" [(.type "object")] [(.ref 304), (.type "object")] 303 "PackingAlgorithm" true [] [(.ref 391)] false none false)) #[(some (.ref 208)), none, (some (.str "PackingAlgorithm" 421)), (some (.str "PackingAlgorithm" 429)), (some (.builtin "object.__new__")), (some (.bool true))])),
 (305, (.mk (.type "getset_descriptor") none (.fields #[(.str "__dict__" 542), (.ref 304), (.builtin "function.__dict__"), (.builtin "function.__dict__#set")]) #[])),
 (306, (.mk (.type "getset_descriptor") none (.fields #[(.str "__weakref__" 544), (.ref 304), (.builtin "ExceptionGroup.__weakref__"), .none]) #[])),
 (309, tp #[]),
 (311, tp #[(.str "one" 554)]),
 (312, tp #[]),
 (314, cd "first_item" "first_item" 551 143 1 3 309 310 (.ref 311) (.ref 312) 313 555 556),
 (315, fu "first_item" "first_item" (st 7) .none "rectpack.maxrects" 549 314),
 (316, tp #[(.ref 304)]),
 (319, (.mk (.type "cell") none (.cell (some (.ref 391))) #[])),
 (324, tp #[(.bool true)]),
 (325, tp #[(.ref 319)]),
 (326, tp #[(.str "__class__" 573)]),
 (328, tp #[(.str "self" 574), (.str "width" 575), (.str "height" 576), (.str "rot" 577), (.str "args" 578), (.str "kwargs" 579)]),
 (329, tp #[]),
 (331, cd "__init__" "MaxRects.__init__" 570 147 4 15 326 327 (.ref 328) (.ref 329) 330 580 581),
 (332, (.mk (.type "function") none (.func (fo "__init__" "MaxRects.__init__" (sb 8 0) 3 [("__class__", 319)] (.ref 324) .none .none (.str "rectpack.maxrects" 549) none (.ref 331) (.ref 325) 0)) #[])),
 (333, tp #[]),
 (335, tp #[(.str "self" 586), (.str "max_rect" 587), (.str "width" 588), (.str "height" 589)]),
 (336, tp #[]),
 (338, cd "_rect_fitness" "MaxRects._rect_fitness" 583 150 4 3 333 334 (.ref 335) (.ref 336) 337 590 591),
 (339, fu "_rect_fitness" "MaxRects._rect_fitness" (sb 8 1) .none "rectpack.maxrects" 549 338),
 (340, tp #[]),
 (342, tp #[(.str "self" 596), (.str "w" 597), (.str "h" 598), (.str "fitn" 599), (.str "fitr" 600), (.str "fit" 601), (.str "_" 602), (.str "m" 603)]),
 (343, tp #[(.str "self" 604), (.str "w" 605), (.str "h" 606)]),
 (345, cd "_select_position" "MaxRects._select_position" 593 156 3 3 340 341 (.ref 342) (.ref 343) 344 607 608),
 (346, fu "_select_position" "MaxRects._select_position" (sb 8 2) .none "rectpack.maxrects" 549 345),
 (347, tp #[]),
 (349, tp #[(.str "self" 613), (.str "m" 614), (.str "r" 615), (.str "new_rects" 616)]),
 (350, tp #[]),
 (352, cd "_generate_splits" "MaxRects._generate_splits" 610 170 3 3 347 348 (.ref 349) (.ref 350) 351 617 618),
 (353, fu "_generate_splits" "MaxRects._generate_splits" (sb 8 3) .none "rectpack.maxrects" 549 352),
 (354, tp #[]),
 (356, tp #[(.str "self" 623), (.str "rect" 624), (.str "max_rects" 625), (.str "r" 626)]),
 (357, tp #[]),
 (359, cd "_split" "MaxRects._split" 620 182 2 3 354 355 (.ref 356) (.ref 357) 358 627 628),
 (360, fu "_split" "MaxRects._split" (sb 8 4) .none "rectpack.maxrects" 549 359),
 (361, tp #[]),
 (364, cd "_remove_duplicates" "MaxRects._remove_duplicates" 630 191 1 3 361 362 .none .none 363 633 634),
 (365, fu "_remove_duplicates" "MaxRects._remove_duplicates" (sb 8 5) .none "rectpack.maxrects" 549 364),
 (366, tp #[]),
 (368, tp #[(.str "self" 639), (.str "width" 640), (.str "height" 641), (.str "rect" 642), (.str "max_rect" 643)]),
 (369, tp #[]),
 (371, cd "fitness" "MaxRects.fitness" 636 200 3 3 366 367 (.ref 368) (.ref 369) 370 644 645),
 (372, fu "fitness" "MaxRects.fitness" (sb 8 6) .none "rectpack.maxrects" 549 371),
 (373, tp #[.none]),
 (374, tp #[]),
 (376, tp #[(.str "self" 650), (.str "width" 651), (.str "height" 652), (.str "rid" 653), (.str "rect" 654), (.str "_" 655)]),
 (377, tp #[]),
 (379, cd "add_rect" "MaxRects.add_rect" 647 207 4 3 374 375 (.ref 376) (.ref 377) 378 656 657),
 (380, fu "add_rect" "MaxRects.add_rect" (sb 8 7) (.ref 373) "rectpack.maxrects" 549 379),
 (381, tp #[(.ref 319)]),
 (382, tp #[(.str "__class__" 662)]),
 (384, tp #[(.str "self" 663)]),
 (385, tp #[]),
 (387, cd "reset" "MaxRects.reset" 659 218 1 3 382 383 (.ref 384) (.ref 385) 386 664 665),
 (388, (.mk (.type "function") none (.func (fo "reset" "MaxRects.reset" (sb 8 8) 3 [("__class__", 319)] .none .none .none (.str "rectpack.maxrects" 549) none (.ref 387) (.ref 381) 0)) #[])),
 (389, tp #[(.str "_max_rects" 667)]),
 (390, (.mk (.type "dict") none (.dict #[(.mk (PyData.keyHash P "__module__") (.str "__module__" 565) (.str "rectpack.maxrects" 549)), (.mk (PyData.keyHash P "__firstlineno__") (.str "__firstlineno__" 569) (.int 145 568)), (.mk (PyData.keyHash P "__init__") (.str "__init__" 582) (.ref 332)), (.mk (PyData.keyHash P "_rect_fitness") (.str "_rect_fitness" 592) (.ref 339)), (.mk (PyData.keyHash P "_select_position") (.str "_select_position" 609) (.ref 346)), (.mk (PyData.keyHash P "_generate_splits") (.str "_generate_splits" 619) (.ref 353)), (.mk (PyData.keyHash P "_split") (.str "_split" 629) (.ref 360)), (.mk (PyData.keyHash P "_remove_duplicates") (.str "_remove_duplicates" 635) (.ref 365)), (.mk (PyData.keyHash P "fitness") (.str "fitness" 646) (.ref 372)), (.mk (PyData.keyHash P "add_rect") (.str "add_rect" 658) (.ref 380)), (.mk (PyData.keyHash P "reset") (.str "reset" 666) (.ref 388)), (.mk (PyData.keyHash P "__static_attributes__") (.str "__static_attributes__" 668) (.ref 389)), (.mk (PyData.keyHash P "__doc__") (.str "__doc__" 670) .none)] 3) #[])),
 (391, (.mk (.type "type") none (.cls (ClassData.mk "MaxRects" [(.ref 304)] [(.ref 391), (.ref 304), (.type "object")] 390 "MaxRects" true [] [(.ref 410), (.ref 429), (.ref 448), (.ref 467)] false none false)) #[(some (.ref 316)), none, (some (.str "MaxRects" 558)), (some (.str "MaxRects" 566)), (some (.builtin "object.__new__")), (some (.bool true))])),
 (394, tp #[(.ref 391)]),
 (401, tp #[]),
 (403, tp #[(.str "self" 688), (.str "w" 689), (.str "h" 690), (.str "fitn" 691), (.str "fitr" 692), (.str "fit" 693), (.str "_" 694), (.str "m" 695)]),
 (404, tp #[(.str "self" 696), (.str "w" 697), (.str "h" 698)]),
 (406, cd "_select_position" "MaxRectsBl._select_position" 685 223 3 3 401 402 (.ref 403) (.ref 404) 405 699 700),
 (407, fu "_select_position" "MaxRectsBl._select_position" (sb 9 0) .none "rectpack.maxrects" 549 406),
 (408, tp #[]),
 (409, (.mk (.type "dict") none (.dict #[(.mk (PyData.keyHash P "__module__") (.str "__module__" 680) (.str "rectpack.maxrects" 549)), (.mk (PyData.keyHash P "__firstlineno__") (.str "__firstlineno__" 684) (.int 221 683)), (.mk (PyData.keyHash P "_select_position") (.str "_select_position" 701) (.ref 407)), (.mk (PyData.keyHash P "__static_attributes__") (.str "__static_attributes__" 702) (.ref 408)), (.mk (PyData.keyHash P "__doc__") (.str "__doc__" 703) .none)] 2) #[])),
 (410, (.mk (.type "type") none (.cls (ClassData.mk "MaxRectsBl" [(.ref 391)] [(.ref 410), (.ref 391), (.ref 304), (.type "object")] 409 "MaxRectsBl" true [] [] false none false)) #[(some (.ref 394)), none, (some (.str "MaxRectsBl" 673)), (some (.str "MaxRectsBl" 681)), (some (.builtin "object.__new__")), (some (.bool true))])),
 (413, tp #[(.ref 391)]),
 (420, tp #[]),
 (422, tp #[(.str "self" 721), (.str "max_rect" 722), (.str "width" 723), (.str "height" 724)]),
 (423, tp #[]),
 (425, cd "_rect_fitness" "MaxRectsBssf._rect_fitness" 718 236 4 3 420 421 (.ref 422) (.ref 423) 424 725 726),
 (426, fu "_rect_fitness" "MaxRectsBssf._rect_fitness" (sb 10 0) .none "rectpack.maxrects" 549 425),
 (427, tp #[]),
 (428, (.mk (.type "dict") none (.dict #[(.mk (PyData.keyHash P "__module__") (.str "__module__" 713) (.str "rectpack.maxrects" 549)), (.mk (PyData.keyHash P "__firstlineno__") (.str "__firstlineno__" 717) (.int 234 716)), (.mk (PyData.keyHash P "_rect_fitness") (.str "_rect_fitness" 727) (.ref 426)), (.mk (PyData.keyHash P "__static_attributes__") (.str "__static_attributes__" 728) (.ref 427)), (.mk (PyData.keyHash P "__doc__") (.str "__doc__" 729) .none)] 2) #[])),
 (429, (.mk (.type "type") none (.cls (ClassData.mk "MaxRectsBssf" [(.ref 391)] [(.ref 429), (.ref 391), (.ref 304), (.type "object")] 428 "MaxRectsBssf" true [] [] false none false)) #[(some (.ref 413)), none, (some (.str "MaxRectsBssf" 706)), (some (.str "MaxRectsBssf" 714)), (some (.builtin "object.__new__")), (some (.bool true))])),
 (432, tp #[(.ref 391)]),
 (439, tp #[]),
 (441, tp #[(.str "self" 747), (.str "max_rect" 748), (.str "width" 749), (.str "height" 750)]),
 (442, tp #[]),
 (444, cd "_rect_fitness" "MaxRectsBaf._rect_fitness" 744 242 4 3 439 440 (.ref 441) (.ref 442) 443 751 752),
 (445, fu "_rect_fitness" "MaxRectsBaf._rect_fitness" (sb 11 0) .none "rectpack.maxrects" 549 444),
 (446, tp #[]),
 (447, (.mk (.type "dict") none (.dict #[(.mk (PyData.keyHash P "__module__") (.str "__module__" 739) (.str "rectpack.maxrects" 549)), (.mk (PyData.keyHash P "__firstlineno__") (.str "__firstlineno__" 743) (.int 240 742)), (.mk (PyData.keyHash P "_rect_fitness") (.str "_rect_fitness" 753) (.ref 445)), (.mk (PyData.keyHash P "__static_attributes__") (.str "__static_attributes__" 754) (.ref 446)), (.mk (PyData.keyHash P "__doc__") (.str "__doc__" 755) .none)] 2) #[])),
 (448, (.mk (.type "type") none (.cls (ClassData.mk "MaxRectsBaf" [(.ref 391)] [(.ref 448), (.ref 391), (.ref 304), (.type "object")] 447 "MaxRectsBaf" true [] [] false none false)) #[(some (.ref 432)), none, (some (.str "MaxRectsBaf" 732)), (some (.str "MaxRectsBaf" 740)), (some (.builtin "object.__new__")), (some (.bool true))])),
 (451, tp #[(.ref 391)]),
 (458, tp #[]),
 (460, tp #[(.str "self" 773), (.str "max_rect" 774), (.str "width" 775), (.str "height" 776)]),
 (461, tp #[]),
 (463, cd "_rect_fitness" "MaxRectsBlsf._rect_fitness" 770 248 4 3 458 459 (.ref 460) (.ref 461) 462 777 778),
 (464, fu "_rect_fitness" "MaxRectsBlsf._rect_fitness" (sb 12 0) .none "rectpack.maxrects" 549 463),
 (465, tp #[]),
 (466, (.mk (.type "dict") none (.dict #[(.mk (PyData.keyHash P "__module__") (.str "__module__" 765) (.str "rectpack.maxrects" 549)), (.mk (PyData.keyHash P "__firstlineno__") (.str "__firstlineno__" 769) (.int 246 768)), (.mk (PyData.keyHash P "_rect_fitness") (.str "_rect_fitness" 779) (.ref 464)), (.mk (PyData.keyHash P "__static_attributes__") (.str "__static_attributes__" 780) (.ref 465)), (.mk (PyData.keyHash P "__doc__") (.str "__doc__" 781) .none)] 2) #[])),
 (467, (.mk (.type "type") none (.cls (ClassData.mk "MaxRectsBlsf" [(.ref 391)] [(.ref 467), (.ref 391), (.ref 304), (.type "object")] 466 "MaxRectsBlsf" true [] [] false none false)) #[(some (.ref 451)), none, (some (.str "MaxRectsBlsf" 758)), (some (.str "MaxRectsBlsf" 766)), (some (.builtin "object.__new__")), (some (.bool true))])),
 (470, tp #[]),
 (472, tp #[(.str "number" 789), (.str "side" 790)]),
 (473, tp #[]),
 (475, cd "_law_side" "_law_side" 786 253 2 3 470 471 (.ref 472) (.ref 473) 474 791 792),
 (476, fu "_law_side" "_law_side" (st 14) .none "law_jb0030_02" 784 475),
 (477, tp #[]),
 (479, tp #[(.str "one" 797), (.str "placed" 798), (.str "width" 799), (.str "height" 800), (.str "x" 801), (.str "y" 802), (.str "w" 803), (.str "h" 804), (.str "a" 805), (.str "b" 806), (.str "c" 807), (.str "d" 808)]),
 (480, tp #[]),
 (482, cd "_law_lies" "_law_lies" 794 255 4 3 477 478 (.ref 479) (.ref 480) 481 809 810),
 (483, fu "_law_lies" "_law_lies" (st 15) .none "law_jb0030_02" 784 482),
 (484, tp #[]),
 (487, cd "_law_held" "_law_held" 812 263 6 3 484 485 .none .none 486 815 816),
 (488, fu "_law_held" "_law_held" (st 16) .none "law_jb0030_02" 784 487),
 (489, tp #[]),
 (492, cd "_law_maximal" "_law_maximal" 818 266 3 3 489 490 .none .none 491 821 822),
 (493, fu "_law_maximal" "_law_maximal" (st 17) .none "law_jb0030_02" 784 492),
 (494, tp #[]),
 (496, tp #[(.str "way" 827), (.str "width" 828), (.str "height" 829), (.str "rot" 830)]),
 (497, tp #[]),
 (499, cd "_law_box" "_law_box" 824 285 4 3 494 495 (.ref 496) (.ref 497) 498 831 832),
 (500, fu "_law_box" "_law_box" (st 18) .none "law_jb0030_02" 784 499),
 (501, tp #[]),
 (504, cd "_law_kept" "_law_kept" 834 295 1 3 501 502 .none .none 503 837 838),
 (505, fu "_law_kept" "_law_kept" (st 19) .none "law_jb0030_02" 784 504),
 (506, tp #[]),
 (509, cd "law" "law" 840 297 1 3 506 507 .none .none 508 843 844),
 (510, fu "law" "law" (st 20) .none "law_jb0030_02" 784 509)]
end J
set_option bootstrap.genMatcherCode false
namespace J
theorem A2  {p0 p1 : Prop} {r : Prop} (h : p0 ∧ p1) (k : p0 → p1 → r) : r := k h.1 h.2
theorem A3  {p0 p1 p2 : Prop} {r : Prop} (h : p0 ∧ p1 ∧ p2) (k : p0 → p1 → p2 → r) : r := k h.1 h.2.1 h.2.2
theorem A4  {p0 p1 p2 p3 : Prop} {r : Prop} (h : p0 ∧ p1 ∧ p2 ∧ p3) (k : p0 → p1 → p2 → p3 → r) : r := k h.1 h.2.1 h.2.2.1 h.2.2.2
theorem A5  {p0 p1 p2 p3 p4 : Prop} {r : Prop} (h : p0 ∧ p1 ∧ p2 ∧ p3 ∧ p4) (k : p0 → p1 → p2 → p3 → p4 → r) : r := k h.1 h.2.1 h.2.2.1 h.2.2.2.1 h.2.2.2.2
theorem A6  {p0 p1 p2 p3 p4 p5 : Prop} {r : Prop} (h : p0 ∧ p1 ∧ p2 ∧ p3 ∧ p4 ∧ p5) (k : p0 → p1 → p2 → p3 → p4 → p5 → r) : r := k h.1 h.2.1 h.2.2.1 h.2.2.2.1 h.2.2.2.2.1 h.2.2.2.2.2
theorem A7  {p0 p1 p2 p3 p4 p5 p6 : Prop} {r : Prop} (h : p0 ∧ p1 ∧ p2 ∧ p3 ∧ p4 ∧ p5 ∧ p6) (k : p0 → p1 → p2 → p3 → p4 → p5 → p6 → r) : r := k h.1 h.2.1 h.2.2.1 h.2.2.2.1 h.2.2.2.2.1 h.2.2.2.2.2.1 h.2.2.2.2.2.2
theorem A8  {p0 p1 p2 p3 p4 p5 p6 p7 : Prop} {r : Prop} (h : p0 ∧ p1 ∧ p2 ∧ p3 ∧ p4 ∧ p5 ∧ p6 ∧ p7) (k : p0 → p1 → p2 → p3 → p4 → p5 → p6 → p7 → r) : r := k h.1 h.2.1 h.2.2.1 h.2.2.2.1 h.2.2.2.2.1 h.2.2.2.2.2.1 h.2.2.2.2.2.2.1 h.2.2.2.2.2.2.2
theorem A9  {p0 p1 p2 p3 p4 p5 p6 p7 p8 : Prop} {r : Prop} (h : p0 ∧ p1 ∧ p2 ∧ p3 ∧ p4 ∧ p5 ∧ p6 ∧ p7 ∧ p8) (k : p0 → p1 → p2 → p3 → p4 → p5 → p6 → p7 → p8 → r) : r := k h.1 h.2.1 h.2.2.1 h.2.2.2.1 h.2.2.2.2.1 h.2.2.2.2.2.1 h.2.2.2.2.2.2.1 h.2.2.2.2.2.2.2.1 h.2.2.2.2.2.2.2.2
theorem E1.{u0} {α0 : Sort u0} {p0 : α0 → Prop} {r : Prop} (h : ∃ x0, p0 x0) (k : ∀ x0, p0 x0 → r) : r := h.elim fun x0 h => k x0 h
theorem E1A2.{u0} {α0 : Sort u0} {p0 p1 : α0 → Prop} {r : Prop} (h : ∃ x0, p0 x0 ∧ p1 x0) (k : ∀ x0, p0 x0 → p1 x0 → r) : r := h.elim fun x0 h => k x0 h.1 h.2
theorem E1A3.{u0} {α0 : Sort u0} {p0 p1 p2 : α0 → Prop} {r : Prop} (h : ∃ x0, p0 x0 ∧ p1 x0 ∧ p2 x0) (k : ∀ x0, p0 x0 → p1 x0 → p2 x0 → r) : r := h.elim fun x0 h => k x0 h.1 h.2.1 h.2.2
theorem E1A4.{u0} {α0 : Sort u0} {p0 p1 p2 p3 : α0 → Prop} {r : Prop} (h : ∃ x0, p0 x0 ∧ p1 x0 ∧ p2 x0 ∧ p3 x0) (k : ∀ x0, p0 x0 → p1 x0 → p2 x0 → p3 x0 → r) : r := h.elim fun x0 h => k x0 h.1 h.2.1 h.2.2.1 h.2.2.2
theorem E1A5.{u0} {α0 : Sort u0} {p0 p1 p2 p3 p4 : α0 → Prop} {r : Prop} (h : ∃ x0, p0 x0 ∧ p1 x0 ∧ p2 x0 ∧ p3 x0 ∧ p4 x0) (k : ∀ x0, p0 x0 → p1 x0 → p2 x0 → p3 x0 → p4 x0 → r) : r := h.elim fun x0 h => k x0 h.1 h.2.1 h.2.2.1 h.2.2.2.1 h.2.2.2.2
theorem E1A8.{u0} {α0 : Sort u0} {p0 p1 p2 p3 p4 p5 p6 p7 : α0 → Prop} {r : Prop} (h : ∃ x0, p0 x0 ∧ p1 x0 ∧ p2 x0 ∧ p3 x0 ∧ p4 x0 ∧ p5 x0 ∧ p6 x0 ∧ p7 x0) (k : ∀ x0, p0 x0 → p1 x0 → p2 x0 → p3 x0 → p4 x0 → p5 x0 → p6 x0 → p7 x0 → r) : r := h.elim fun x0 h => k x0 h.1 h.2.1 h.2.2.1 h.2.2.2.1 h.2.2.2.2.1 h.2.2.2.2.2.1 h.2.2.2.2.2.2.1 h.2.2.2.2.2.2.2
theorem E1A9.{u0} {α0 : Sort u0} {p0 p1 p2 p3 p4 p5 p6 p7 p8 : α0 → Prop} {r : Prop} (h : ∃ x0, p0 x0 ∧ p1 x0 ∧ p2 x0 ∧ p3 x0 ∧ p4 x0 ∧ p5 x0 ∧ p6 x0 ∧ p7 x0 ∧ p8 x0) (k : ∀ x0, p0 x0 → p1 x0 → p2 x0 → p3 x0 → p4 x0 → p5 x0 → p6 x0 → p7 x0 → p8 x0 → r) : r := h.elim fun x0 h => k x0 h.1 h.2.1 h.2.2.1 h.2.2.2.1 h.2.2.2.2.1 h.2.2.2.2.2.1 h.2.2.2.2.2.2.1 h.2.2.2.2.2.2.2.1 h.2.2.2.2.2.2.2.2
theorem E2.{u0, u1} {α0 : Sort u0} {α1 : Sort u1} {p0 : α0 → α1 → Prop} {r : Prop} (h : ∃ x0 x1, p0 x0 x1) (k : ∀ x0 x1, p0 x0 x1 → r) : r := h.elim fun x0 h => h.elim fun x1 h => k x0 x1 h
theorem E2A2.{u0, u1} {α0 : Sort u0} {α1 : Sort u1} {p0 p1 : α0 → α1 → Prop} {r : Prop} (h : ∃ x0 x1, p0 x0 x1 ∧ p1 x0 x1) (k : ∀ x0 x1, p0 x0 x1 → p1 x0 x1 → r) : r := h.elim fun x0 h => h.elim fun x1 h => k x0 x1 h.1 h.2
theorem E2A3.{u0, u1} {α0 : Sort u0} {α1 : Sort u1} {p0 p1 p2 : α0 → α1 → Prop} {r : Prop} (h : ∃ x0 x1, p0 x0 x1 ∧ p1 x0 x1 ∧ p2 x0 x1) (k : ∀ x0 x1, p0 x0 x1 → p1 x0 x1 → p2 x0 x1 → r) : r := h.elim fun x0 h => h.elim fun x1 h => k x0 x1 h.1 h.2.1 h.2.2
theorem E2A4.{u0, u1} {α0 : Sort u0} {α1 : Sort u1} {p0 p1 p2 p3 : α0 → α1 → Prop} {r : Prop} (h : ∃ x0 x1, p0 x0 x1 ∧ p1 x0 x1 ∧ p2 x0 x1 ∧ p3 x0 x1) (k : ∀ x0 x1, p0 x0 x1 → p1 x0 x1 → p2 x0 x1 → p3 x0 x1 → r) : r := h.elim fun x0 h => h.elim fun x1 h => k x0 x1 h.1 h.2.1 h.2.2.1 h.2.2.2
theorem E2A5.{u0, u1} {α0 : Sort u0} {α1 : Sort u1} {p0 p1 p2 p3 p4 : α0 → α1 → Prop} {r : Prop} (h : ∃ x0 x1, p0 x0 x1 ∧ p1 x0 x1 ∧ p2 x0 x1 ∧ p3 x0 x1 ∧ p4 x0 x1) (k : ∀ x0 x1, p0 x0 x1 → p1 x0 x1 → p2 x0 x1 → p3 x0 x1 → p4 x0 x1 → r) : r := h.elim fun x0 h => h.elim fun x1 h => k x0 x1 h.1 h.2.1 h.2.2.1 h.2.2.2.1 h.2.2.2.2
theorem E2A6.{u0, u1} {α0 : Sort u0} {α1 : Sort u1} {p0 p1 p2 p3 p4 p5 : α0 → α1 → Prop} {r : Prop} (h : ∃ x0 x1, p0 x0 x1 ∧ p1 x0 x1 ∧ p2 x0 x1 ∧ p3 x0 x1 ∧ p4 x0 x1 ∧ p5 x0 x1) (k : ∀ x0 x1, p0 x0 x1 → p1 x0 x1 → p2 x0 x1 → p3 x0 x1 → p4 x0 x1 → p5 x0 x1 → r) : r := h.elim fun x0 h => h.elim fun x1 h => k x0 x1 h.1 h.2.1 h.2.2.1 h.2.2.2.1 h.2.2.2.2.1 h.2.2.2.2.2
theorem E2A8.{u0, u1} {α0 : Sort u0} {α1 : Sort u1} {p0 p1 p2 p3 p4 p5 p6 p7 : α0 → α1 → Prop} {r : Prop} (h : ∃ x0 x1, p0 x0 x1 ∧ p1 x0 x1 ∧ p2 x0 x1 ∧ p3 x0 x1 ∧ p4 x0 x1 ∧ p5 x0 x1 ∧ p6 x0 x1 ∧ p7 x0 x1) (k : ∀ x0 x1, p0 x0 x1 → p1 x0 x1 → p2 x0 x1 → p3 x0 x1 → p4 x0 x1 → p5 x0 x1 → p6 x0 x1 → p7 x0 x1 → r) : r := h.elim fun x0 h => h.elim fun x1 h => k x0 x1 h.1 h.2.1 h.2.2.1 h.2.2.2.1 h.2.2.2.2.1 h.2.2.2.2.2.1 h.2.2.2.2.2.2.1 h.2.2.2.2.2.2.2
theorem E3A2.{u0, u1, u2} {α0 : Sort u0} {α1 : Sort u1} {α2 : Sort u2} {p0 p1 : α0 → α1 → α2 → Prop} {r : Prop} (h : ∃ x0 x1 x2, p0 x0 x1 x2 ∧ p1 x0 x1 x2) (k : ∀ x0 x1 x2, p0 x0 x1 x2 → p1 x0 x1 x2 → r) : r := h.elim fun x0 h => h.elim fun x1 h => h.elim fun x2 h => k x0 x1 x2 h.1 h.2
theorem E3A3.{u0, u1, u2} {α0 : Sort u0} {α1 : Sort u1} {α2 : Sort u2} {p0 p1 p2 : α0 → α1 → α2 → Prop} {r : Prop} (h : ∃ x0 x1 x2, p0 x0 x1 x2 ∧ p1 x0 x1 x2 ∧ p2 x0 x1 x2) (k : ∀ x0 x1 x2, p0 x0 x1 x2 → p1 x0 x1 x2 → p2 x0 x1 x2 → r) : r := h.elim fun x0 h => h.elim fun x1 h => h.elim fun x2 h => k x0 x1 x2 h.1 h.2.1 h.2.2
theorem E3A4.{u0, u1, u2} {α0 : Sort u0} {α1 : Sort u1} {α2 : Sort u2} {p0 p1 p2 p3 : α0 → α1 → α2 → Prop} {r : Prop} (h : ∃ x0 x1 x2, p0 x0 x1 x2 ∧ p1 x0 x1 x2 ∧ p2 x0 x1 x2 ∧ p3 x0 x1 x2) (k : ∀ x0 x1 x2, p0 x0 x1 x2 → p1 x0 x1 x2 → p2 x0 x1 x2 → p3 x0 x1 x2 → r) : r := h.elim fun x0 h => h.elim fun x1 h => h.elim fun x2 h => k x0 x1 x2 h.1 h.2.1 h.2.2.1 h.2.2.2
theorem E3A5.{u0, u1, u2} {α0 : Sort u0} {α1 : Sort u1} {α2 : Sort u2} {p0 p1 p2 p3 p4 : α0 → α1 → α2 → Prop} {r : Prop} (h : ∃ x0 x1 x2, p0 x0 x1 x2 ∧ p1 x0 x1 x2 ∧ p2 x0 x1 x2 ∧ p3 x0 x1 x2 ∧ p4 x0 x1 x2) (k : ∀ x0 x1 x2, p0 x0 x1 x2 → p1 x0 x1 x2 → p2 x0 x1 x2 → p3 x0 x1 x2 → p4 x0 x1 x2 → r) : r := h.elim fun x0 h => h.elim fun x1 h => h.elim fun x2 h => k x0 x1 x2 h.1 h.2.1 h.2.2.1 h.2.2.2.1 h.2.2.2.2
theorem E3A7.{u0, u1, u2} {α0 : Sort u0} {α1 : Sort u1} {α2 : Sort u2} {p0 p1 p2 p3 p4 p5 p6 : α0 → α1 → α2 → Prop} {r : Prop} (h : ∃ x0 x1 x2, p0 x0 x1 x2 ∧ p1 x0 x1 x2 ∧ p2 x0 x1 x2 ∧ p3 x0 x1 x2 ∧ p4 x0 x1 x2 ∧ p5 x0 x1 x2 ∧ p6 x0 x1 x2) (k : ∀ x0 x1 x2, p0 x0 x1 x2 → p1 x0 x1 x2 → p2 x0 x1 x2 → p3 x0 x1 x2 → p4 x0 x1 x2 → p5 x0 x1 x2 → p6 x0 x1 x2 → r) : r := h.elim fun x0 h => h.elim fun x1 h => h.elim fun x2 h => k x0 x1 x2 h.1 h.2.1 h.2.2.1 h.2.2.2.1 h.2.2.2.2.1 h.2.2.2.2.2.1 h.2.2.2.2.2.2
theorem E3A8.{u0, u1, u2} {α0 : Sort u0} {α1 : Sort u1} {α2 : Sort u2} {p0 p1 p2 p3 p4 p5 p6 p7 : α0 → α1 → α2 → Prop} {r : Prop} (h : ∃ x0 x1 x2, p0 x0 x1 x2 ∧ p1 x0 x1 x2 ∧ p2 x0 x1 x2 ∧ p3 x0 x1 x2 ∧ p4 x0 x1 x2 ∧ p5 x0 x1 x2 ∧ p6 x0 x1 x2 ∧ p7 x0 x1 x2) (k : ∀ x0 x1 x2, p0 x0 x1 x2 → p1 x0 x1 x2 → p2 x0 x1 x2 → p3 x0 x1 x2 → p4 x0 x1 x2 → p5 x0 x1 x2 → p6 x0 x1 x2 → p7 x0 x1 x2 → r) : r := h.elim fun x0 h => h.elim fun x1 h => h.elim fun x2 h => k x0 x1 x2 h.1 h.2.1 h.2.2.1 h.2.2.2.1 h.2.2.2.2.1 h.2.2.2.2.2.1 h.2.2.2.2.2.2.1 h.2.2.2.2.2.2.2
theorem E4A2.{u0, u1, u2, u3} {α0 : Sort u0} {α1 : Sort u1} {α2 : Sort u2} {α3 : Sort u3} {p0 p1 : α0 → α1 → α2 → α3 → Prop} {r : Prop} (h : ∃ x0 x1 x2 x3, p0 x0 x1 x2 x3 ∧ p1 x0 x1 x2 x3) (k : ∀ x0 x1 x2 x3, p0 x0 x1 x2 x3 → p1 x0 x1 x2 x3 → r) : r := h.elim fun x0 h => h.elim fun x1 h => h.elim fun x2 h => h.elim fun x3 h => k x0 x1 x2 x3 h.1 h.2
theorem E4A5.{u0, u1, u2, u3} {α0 : Sort u0} {α1 : Sort u1} {α2 : Sort u2} {α3 : Sort u3} {p0 p1 p2 p3 p4 : α0 → α1 → α2 → α3 → Prop} {r : Prop} (h : ∃ x0 x1 x2 x3, p0 x0 x1 x2 x3 ∧ p1 x0 x1 x2 x3 ∧ p2 x0 x1 x2 x3 ∧ p3 x0 x1 x2 x3 ∧ p4 x0 x1 x2 x3) (k : ∀ x0 x1 x2 x3, p0 x0 x1 x2 x3 → p1 x0 x1 x2 x3 → p2 x0 x1 x2 x3 → p3 x0 x1 x2 x3 → p4 x0 x1 x2 x3 → r) : r := h.elim fun x0 h => h.elim fun x1 h => h.elim fun x2 h => h.elim fun x3 h => k x0 x1 x2 x3 h.1 h.2.1 h.2.2.1 h.2.2.2.1 h.2.2.2.2
theorem E5A2.{u0, u1, u2, u3, u4} {α0 : Sort u0} {α1 : Sort u1} {α2 : Sort u2} {α3 : Sort u3} {α4 : Sort u4} {p0 p1 : α0 → α1 → α2 → α3 → α4 → Prop} {r : Prop} (h : ∃ x0 x1 x2 x3 x4, p0 x0 x1 x2 x3 x4 ∧ p1 x0 x1 x2 x3 x4) (k : ∀ x0 x1 x2 x3 x4, p0 x0 x1 x2 x3 x4 → p1 x0 x1 x2 x3 x4 → r) : r := h.elim fun x0 h => h.elim fun x1 h => h.elim fun x2 h => h.elim fun x3 h => h.elim fun x4 h => k x0 x1 x2 x3 x4 h.1 h.2
theorem E5A3.{u0, u1, u2, u3, u4} {α0 : Sort u0} {α1 : Sort u1} {α2 : Sort u2} {α3 : Sort u3} {α4 : Sort u4} {p0 p1 p2 : α0 → α1 → α2 → α3 → α4 → Prop} {r : Prop} (h : ∃ x0 x1 x2 x3 x4, p0 x0 x1 x2 x3 x4 ∧ p1 x0 x1 x2 x3 x4 ∧ p2 x0 x1 x2 x3 x4) (k : ∀ x0 x1 x2 x3 x4, p0 x0 x1 x2 x3 x4 → p1 x0 x1 x2 x3 x4 → p2 x0 x1 x2 x3 x4 → r) : r := h.elim fun x0 h => h.elim fun x1 h => h.elim fun x2 h => h.elim fun x3 h => h.elim fun x4 h => k x0 x1 x2 x3 x4 h.1 h.2.1 h.2.2
theorem E5A8.{u0, u1, u2, u3, u4} {α0 : Sort u0} {α1 : Sort u1} {α2 : Sort u2} {α3 : Sort u3} {α4 : Sort u4} {p0 p1 p2 p3 p4 p5 p6 p7 : α0 → α1 → α2 → α3 → α4 → Prop} {r : Prop} (h : ∃ x0 x1 x2 x3 x4, p0 x0 x1 x2 x3 x4 ∧ p1 x0 x1 x2 x3 x4 ∧ p2 x0 x1 x2 x3 x4 ∧ p3 x0 x1 x2 x3 x4 ∧ p4 x0 x1 x2 x3 x4 ∧ p5 x0 x1 x2 x3 x4 ∧ p6 x0 x1 x2 x3 x4 ∧ p7 x0 x1 x2 x3 x4) (k : ∀ x0 x1 x2 x3 x4, p0 x0 x1 x2 x3 x4 → p1 x0 x1 x2 x3 x4 → p2 x0 x1 x2 x3 x4 → p3 x0 x1 x2 x3 x4 → p4 x0 x1 x2 x3 x4 → p5 x0 x1 x2 x3 x4 → p6 x0 x1 x2 x3 x4 → p7 x0 x1 x2 x3 x4 → r) : r := h.elim fun x0 h => h.elim fun x1 h => h.elim fun x2 h => h.elim fun x3 h => h.elim fun x4 h => k x0 x1 x2 x3 x4 h.1 h.2.1 h.2.2.1 h.2.2.2.1 h.2.2.2.2.1 h.2.2.2.2.2.1 h.2.2.2.2.2.2.1 h.2.2.2.2.2.2.2
theorem sn {α : Type _} {a : α} {r : Prop} (h : some a = none) : r := nomatch h
theorem ns {α : Type _} {a : α} {r : Prop} (h : none = some a) : r := nomatch h
theorem mn {α : Type _} {a : α} {r : Prop} (h : a ∈ ([] : List α)) : r := nomatch h
theorem tf {r : Prop} (h : true = false) : r := nomatch h
theorem ft {r : Prop} (h : false = true) : r := nomatch h
theorem sse {α : Type _} {a b : α} {r : Prop} (k : a = b → r) (h : some a = some b) : r := k (Option.some.inj h)
theorem G1 {α : Sort _} (a : α) {r : Prop} (k : ∀ x, x = a → r) : r := k a rfl
theorem lb {n m : Nat} (h : Nat.ble n m = true) : n ≤ m := Nat.le_of_ble_eq_true h
theorem O2 {a b r : Prop} (h : a ∨ b) (k : a → r) (l : b → r) : r := Or.elim h k l
theorem O3 {a b c r : Prop} (h : a ∨ b ∨ c) (k : a → r) (l : b → r) (m : c → r) : r := Or.elim h k (Or.elim · l m)
theorem O4 {a b c d r : Prop} (h : a ∨ b ∨ c ∨ d) (k : a → r) (l : b → r) (m : c → r) (n : d → r) : r := Or.elim h k (O3 · l m n)
theorem nS {a b c : Nat} (h : a - b = c + 1) : a - (b + 1) = c := by rw [Nat.sub_add_eq, h]; rfl
theorem nL {a b c : Nat} (h : a - b = c + 1) : b < a := Nat.lt_of_sub_eq_succ h
theorem nE {a b : Nat} (h : a - b = 0) (g : b ≤ a) : b = a := Nat.le_antisymm g (Nat.le_of_sub_eq_zero h)
theorem nD {n i : Nat} (h : i < n) : n - (i + 1) < n - i := Nat.sub_lt_sub_left h (Nat.lt_succ_self i)
theorem n1 {n i r : Nat} (h : n - i = r + 1) : n - 1 - r = i := by rw [Nat.sub_sub, Nat.add_comm 1 r, ← h, Nat.sub_sub_self (Nat.le_of_lt (Nat.lt_of_sub_eq_succ h))]
theorem n2 {n i r : Nat} (h : n - i = r + 1) : n - r = i + 1 := by lia
theorem n3 {n i r : Nat} (h : n - i = r + 1) : r < n := by lia
theorem n4 {n i : Nat} (h : i < n) : n - i = n - (i + 1) + 1 := by lia
theorem n5 {m n i : Nat} (e : m = n) (h : i < n) : m - (n - i - 1) = i + 1 := by lia
theorem n6 {m n i : Nat} (e : m = n) (h : i < n) : m - 1 - (n - i - 1) = i := by lia
theorem n7 {a b : Nat} : a + (b + 1) - 1 - b - a = 0 := by lia
theorem n8 {a b : Nat} : a ≤ a + (b + 1) - 1 - b := by lia
theorem n9 {a k m : Nat} (h : a + (k + 1) = m) : m - 1 - (k + 1 - 1) = a := by lia
theorem z1 {p : Int} (h : 1 ≤ p) : 0 ≤ p := Int.le_trans (by decide) h
theorem z2 {x w W : Int} (a : 0 ≤ x) (b : x + w ≤ W) : w ≤ W + 1 := by lia
theorem z3 {W : Int} : W ≤ W + 1 := Int.le_add_one (Int.le_refl W)
end J
namespace J
inductive AV where
 | none
 | bool (b : Bool)
 | int (i : Int)
 | ref (a : Addr)
 | val (v : Value)
 | tup (l : List AV)
 | lst (l : List AV)
 | inst (C : Addr) (ns : List Str) (l : List AV)
 | obj (v : Value) (a : AV)
 deriving Inhabited
inductive Ents : List DictEntry → List Str → List Value → Prop
 | nil : Ents [] [] []
 | cons {hash : Int} {t : Tok} {n : Str} {v : Value} {es : List DictEntry} {ns : List Str} {vs : List Value} : Ents es ns vs → Ents (⟨hash, .str n t, v⟩ :: es) (n :: ns) (v :: vs)
noncomputable def DictAt (h : Heap) (d : Addr) (ns : List Str) (vs : List Value) : Prop :=
 ∃ es n, h.get? d = some ⟨.type "dict", none, .dict es.toArray n, #[]⟩ ∧ Ents es ns vs
mutual
inductive VR (D : Addr → Prop) (h : Heap) : Value → AV → Prop
 | none : VR D h .none .none
 | bool (b : Bool) : VR D h (.bool b) (.bool b)
 | int (i : Int) (t : Tok) : VR D h (.int i t) (.int i)
 | ref (a : Addr) : VR D h (.ref a) (.ref a)
 | val {v : Value} : handedIn v = true → (v == .none) = false → VR D h v (.val v)
 | tup {a : Addr} {vs : List Value} {l : List AV} : ¬ D a → IsTup h a vs.toArray → VRs D h vs l → VR D h (.ref a) (.tup l)
 | lst {a : Addr} {vs : List Value} {l : List AV} : ¬ D a → h.PlainList a vs.toArray → VRs D h vs l → VR D h (.ref a) (.lst l)
 | obj {v : Value} {a : AV} : VR D h v a → VR D h v (.obj v a)
 | inst {a C : Addr} {ns : List Str} {vs : List Value} {l : List AV} : ¬ D (a + 1) → ¬ D a → h.get? (a + 1) = some (instObj C a) → DictAt h a ns vs → VRs D h vs l → VR D h (.ref (a + 1)) (.inst C ns l)
inductive VRs (D : Addr → Prop) (h : Heap) : List Value → List AV → Prop
 | nil : VRs D h [] []
 | cons {v : Value} {a : AV} {vs : List Value} {l : List AV} : VR D h v a → VRs D h vs l → VRs D h (v :: vs) (a :: l)
end
theorem VR.noneE {D : Addr → Prop} {h : Heap} {motive : (v : Value) → VR D h v .none → Prop} (none : motive .none .none) {v : Value} (r : VR D h v .none) : motive v r := by cases r; exact none
theorem VR.boolE {D : Addr → Prop} {h : Heap} {b : Bool} {motive : (v : Value) → VR D h v (.bool b) → Prop} (bool : motive (.bool b) (.bool b)) {v : Value} (r : VR D h v (.bool b)) : motive v r := by cases r; exact bool
theorem VR.intE {D : Addr → Prop} {h : Heap} {i : Int} {motive : (v : Value) → VR D h v (.int i) → Prop} (int : ∀ t, motive (.int i t) (.int i t)) {v : Value} (r : VR D h v (.int i)) : motive v r := by cases r; exact int _
theorem VR.refE {D : Addr → Prop} {h : Heap} {a : Addr} {motive : (v : Value) → VR D h v (.ref a) → Prop} (ref : motive (.ref a) (.ref a)) {v : Value} (r : VR D h v (.ref a)) : motive v r := by cases r; exact ref
theorem VR.tupE {D : Addr → Prop} {h : Heap} {l : List AV} {motive : (v : Value) → VR D h v (.tup l) → Prop} (tup : ∀ {a : Addr} {vs : List Value} (nd : ¬ D a) (x : IsTup h a vs.toArray) (r : VRs D h vs l), motive (.ref a) (.tup nd x r)) {v : Value} (r : VR D h v (.tup l)) : motive v r := by
 cases r with | tup nd x r => exact tup nd x r
theorem VR.lstE {D : Addr → Prop} {h : Heap} {l : List AV} {motive : (v : Value) → VR D h v (.lst l) → Prop} (lst : ∀ {a : Addr} {vs : List Value} (nd : ¬ D a) (x : h.PlainList a vs.toArray) (r : VRs D h vs l), motive (.ref a) (.lst nd x r)) {v : Value} (r : VR D h v (.lst l)) : motive v r := by
 cases r with | lst nd x r => exact lst nd x r
theorem VR.objE {D : Addr → Prop} {h : Heap} {u : Value} {a : AV} {motive : (v : Value) → VR D h v (.obj u a) → Prop} (obj : ∀ r : VR D h u a, motive u (.obj r)) {v : Value} (r : VR D h v (.obj u a)) : motive v r := by
 cases r with | obj r => exact obj r
theorem VRs.nilE {D : Addr → Prop} {h : Heap} {motive : (vs : List Value) → VRs D h vs [] → Prop} (nil : motive [] .nil) {vs : List Value} (r : VRs D h vs []) : motive vs r := by cases r; exact nil
theorem VRs.consE {D : Addr → Prop} {h : Heap} {a : AV} {l : List AV} {motive : (vs : List Value) → VRs D h vs (a :: l) → Prop} (cons : ∀ {v : Value} {vs : List Value} (x : VR D h v a) (r : VRs D h vs l), motive (v :: vs) (.cons x r)) {vs : List Value} (r : VRs D h vs (a :: l)) : motive vs r := by
 cases r with | cons x r => exact cons x r
noncomputable def VRo (D : Addr → Prop) (h : Heap) : Option Value → Option AV → Prop
 | some v, some a => VR D h v a
 | _, none => True
 | none, some _ => False
theorem PlainList.isList {h : Heap} {a : Addr} {vs : Array Value} (x : h.PlainList a vs) : h.IsList a vs := let ⟨n, e⟩ := x; ⟨_, e, rfl, n, rfl⟩
noncomputable def Step (D : Addr → Prop) (h h' : Heap) : Prop := ∀ b o, h.get? b = some o → ¬ D b → h'.get? b = some o
noncomputable def Gr (h : Heap) (D D' : Addr → Prop) : Prop := ∀ b o, h.get? b = some o → D' b → D b
theorem Gr.refl (h : Heap) (D : Addr → Prop) : Gr h D D := fun _ _ _ d => d
theorem Step.refl (D : Addr → Prop) (h : Heap) : Step D h h := fun _ _ e _ => e
theorem Step.of_keeps {D : Addr → Prop} {h h' : Heap} (k : ∀ b o, h.get? b = some o → h'.get? b = some o) : Step D h h' := fun b o e _ => k b o e
theorem Step.trans {D D' : Addr → Prop} {h h' h'' : Heap} (x : Step D h h') (y : Step D' h' h'') (g : Gr h D D') : Step D h h'' :=
 fun b o e nd => y b o (x b o e nd) fun d => nd (g b o e d)
theorem Step.on {D : Addr → Prop} {h h' h'' : Heap} (x : Step D h h') (y : Step D h' h'') : Step D h h'' := x.trans y (Gr.refl _ _)
theorem Step.mono {D D' : Addr → Prop} {h h' : Heap} (x : Step D h h') (g : Gr h D' D) : Step D' h h' := fun b o e nd => x b o e fun d => nd (g b o e d)
theorem DictAt.keep {h h' : Heap} {d : Addr} {ns : List Str} {vs : List Value} (x : DictAt h d ns vs) (k : ∀ o, h.get? d = some o → h'.get? d = some o) : DictAt h' d ns vs :=
 let ⟨es, n, e, r⟩ := x; ⟨es, n, k _ e, r⟩
section
variable {D D' : Addr → Prop} {h h' : Heap}
theorem VR.move (S : ∀ b o, h.get? b = some o → ¬ D b → h'.get? b = some o ∧ ¬ D' b) {v a} (x : VR D h v a) : VR D' h' v a := by
 refine VR.rec (motive_1 := fun v a _ => VR D' h' v a) (motive_2 := fun vs l _ => VRs D' h' vs l) .none (fun b => .bool b) (fun i t => .int i t) (fun a => .ref a) (fun e n => .val e n) (fun nd x _ r => ?_) (fun nd x _ r => ?_) (fun _ r => .obj r) (fun nd1 nd2 e x _ r => ?_) .nil (fun _ _ x r => .cons x r) x
 ·refine E1A2 x fun o e q => ?_
  refine A2 (S _ _ e nd) fun e' nd' => ?_
  exact .tup nd' ⟨o, e', q⟩ r
 ·refine E1 x fun n e => ?_
  refine A2 (S _ _ e nd) fun e' nd' => ?_
  exact .lst nd' ⟨n, e'⟩ r
 ·refine E2A2 x fun es n e2 q => ?_
  refine A2 (S _ _ e nd1) fun e' nd' => ?_
  refine A2 (S _ _ e2 nd2) fun e2' nd2' => ?_
  exact .inst nd' nd2' e' ⟨es, n, e2', q⟩ r
theorem VRs.ind {M : List Value → List AV → Prop} (n : M [] []) (c : ∀ {v a vs l}, VR D h v a → VRs D h vs l → M vs l → M (v :: vs) (a :: l)) {vs l} (x : VRs D h vs l) : M vs l := by
 refine VRs.rec (motive_1 := fun _ _ _ => True) (motive_2 := fun vs l _ => M vs l) ?_ ?_ ?_ ?_ ?_ ?_ ?_ ?_ ?_ n (fun x r _ ih => c x r ih) x <;> intros <;> trivial
theorem VRs.consV {v : Value} {vs : List Value} {M : List AV → Prop} (c : ∀ {a l}, VR D h v a → VRs D h vs l → M (a :: l)) {l} (x : VRs D h (v :: vs) l) : M l := by cases x with | cons x r => exact c x r
theorem VRs.move (S : ∀ b o, h.get? b = some o → ¬ D b → h'.get? b = some o ∧ ¬ D' b) {vs l} (x : VRs D h vs l) : VRs D' h' vs l := x.ind (M := fun vs l => VRs D' h' vs l) .nil fun x _ ih => .cons (x.move S) ih
theorem VRo.move (S : ∀ b o, h.get? b = some o → ¬ D b → h'.get? b = some o ∧ ¬ D' b) : ∀ {v a}, VRo D h v a → VRo D' h' v a
 | some _, some _, x => VR.move S x
 | some _, .none, _ => trivial
 | .none, .none, _ => trivial
theorem VR.keeps (k : ∀ b o, h.get? b = some o → h'.get? b = some o) {v a} (x : VR D h v a) : VR D h' v a := x.move fun b o e nd => ⟨k b o e, nd⟩
theorem VRs.keeps (k : ∀ b o, h.get? b = some o → h'.get? b = some o) {v a} (x : VRs D h v a) : VRs D h' v a := x.move fun b o e nd => ⟨k b o e, nd⟩
theorem VR.step (S : Step D h h') (g : Gr h D D') {v a} (x : VR D h v a) : VR D' h' v a :=
 x.move fun b o e nd => ⟨S b o e nd, fun d => nd (g b o e d)⟩
theorem VRs.step (S : Step D h h') (g : Gr h D D') {v a} (x : VRs D h v a) : VRs D' h' v a :=
 x.move fun b o e nd => ⟨S b o e nd, fun d => nd (g b o e d)⟩
theorem VR.anti (g : ∀ b, D' b → D b) {v a} (x : VR D h v a) : VR D' h v a := x.move fun b _ e nd => ⟨e, fun d => nd (g b d)⟩
theorem VRs.anti (g : ∀ b, D' b → D b) {v a} (x : VRs D h v a) : VRs D' h v a := x.move fun b _ e nd => ⟨e, fun d => nd (g b d)⟩
theorem VRs.length {vs l} (x : VRs D h vs l) : vs.length = l.length := x.ind (M := fun vs l => vs.length = l.length) rfl fun _ _ ih => congrArg (· + 1) ih
theorem VRs.get {vs : List Value} {l : List AV} (x : VRs D h vs l) : ∀ (i : Nat) (a : AV), l[i]? = some a → ∃ v, vs[i]? = some v ∧ VR D h v a :=
 x.ind (M := fun vs l => ∀ (i : Nat) (a : AV), l[i]? = some a → ∃ v, vs[i]? = some v ∧ VR D h v a) (fun _ _ e => J.ns e) fun x _ ih i a e => by
  cases i with
  | zero => exact ⟨_, rfl, Option.some.inj e ▸ x⟩
  | succ i => exact ih i a e
theorem VRs.append {vs l us m} (x : VRs D h vs l) (y : VRs D h us m) : VRs D h (vs ++ us) (l ++ m) := x.ind (M := fun vs l => VRs D h (vs ++ us) (l ++ m)) y fun x _ ih => .cons x ih
theorem VRs.drop {vs l} (x : VRs D h vs l) : ∀ n, VRs D h (vs.drop n) (l.drop n) :=
 x.ind (M := fun vs l => ∀ n, VRs D h (vs.drop n) (l.drop n)) (fun n => by cases n <;> exact .nil) fun x r ih n => by
  cases n with
  | zero => exact .cons x r
  | succ n => exact ih n
theorem VRs.take {vs l} (x : VRs D h vs l) : ∀ n, VRs D h (vs.take n) (l.take n) :=
 x.ind (M := fun vs l => ∀ n, VRs D h (vs.take n) (l.take n)) (fun n => by cases n <;> exact .nil) fun x r ih n => by
  cases n with
  | zero => exact .nil
  | succ n => exact .cons x (ih n)
end
inductive AO where
 | list (l : List AV)
 | inst (C : Addr) (ns : List Str) (l : List AV)
noncomputable abbrev AS := Addr → Option AO
noncomputable abbrev AM := Str → Option AV
noncomputable def AO.foot (a : Addr) : AO → List Addr
 | .list _ => [a]
 | .inst .. => [a, a - 1]
noncomputable def Dom (st : AS) (b : Addr) : Prop := ∃ a o, st a = some o ∧ b ∈ AO.foot a o
noncomputable abbrev PL := List (Addr × Obj)
noncomputable def AOAt (D : Addr → Prop) (h : Heap) (a : Addr) : AO → Prop
 | .list l => ∃ vs n, h.get? a = some ⟨.type "list", none, .seq vs.toArray n, #[]⟩ ∧ VRs D h vs l
 | .inst C ns l => ∃ d vs, a = d + 1 ∧ h.get? a = some (instObj C d) ∧ DictAt h d ns vs ∧ VRs D h vs l
structure Cx where
 prog : Program
 w : World
 K : Frag
 g0 : Heap
 tabs : List (Addr × Addr × Array Value)
 os : OsState
 pg : List (Nat × GenState) := []
structure Cx.Ok (X : Cx) : Prop where
 kin : X.K.In X.g0
 glob : ∃ mg, X.g0.Ns mainGlobals mg
 bi : ∃ mb, X.g0.Ns builtinsNs mb ∧ ∀ x : Str, x ≠ "__name__" → mb x = bootBuiltins x
noncomputable def Cx.isTab (X : Cx) (b : Addr) : Prop := b ∈ X.tabs.map (·.2.1)
noncomputable def DD (X : Cx) (st : AS) (P : PL) (own : Addr → Prop) (b : Addr) : Prop := Dom st b ∨ b ∈ P.map (·.1) ∨ own b ∨ X.isTab b
noncomputable def Near (o o' : Obj) : Prop := o' = o ∨ ((∃ es n, o.data = .dict es n) ∧ ∃ sl, o' = { o with slots := sl })
noncomputable def Pv (h : Heap) (p : Addr × Obj) : Prop := ∃ o', h.get? p.1 = some o' ∧ Near p.2 o'
theorem Pv.by {h h' : Heap} {p : Addr × Obj} (x : Pv h p) (k : ∀ o, h.get? p.1 = some o → h'.get? p.1 = some o) : Pv h' p := let ⟨o, e, n⟩ := x; ⟨o, k o e, n⟩
theorem Pv.of {h : Heap} {p : Addr × Obj} (e : h.get? p.1 = some p.2) : Pv h p := ⟨_, e, .inl rfl⟩
theorem Pv.exact {h : Heap} {p : Addr × Obj} (x : Pv h p) (hd : ∀ es n, p.2.data ≠ .dict es n) : h.get? p.1 = some p.2 := by
 refine E1A2 x fun o e n => ?_; clear x
 rcases n with rfl | ⟨⟨es, n, q⟩, _⟩
 ·exact e
 ·exact absurd q (hd es n)
theorem Pv.data {h : Heap} {p : Addr × Obj} (x : Pv h p) : ∃ o, h.get? p.1 = some o ∧ o.data = p.2.data := by
 refine E1A2 x fun o e n => ?_; clear x
 rcases n with rfl | ⟨_, sl, rfl⟩
 ·exact ⟨_, e, rfl⟩
 ·exact ⟨_, e, rfl⟩
theorem Near.trans {a b c : Obj} (x : Near a b) (y : Near b c) : Near a c := by
 rcases x with rfl | ⟨⟨es, n, q⟩, sl, rfl⟩
 ·exact y
 ·rcases y with rfl | ⟨_, sl', rfl⟩
  ·exact .inr ⟨⟨es, n, q⟩, sl, rfl⟩
  ·exact .inr ⟨⟨es, n, q⟩, sl', rfl⟩
structure GRel (X : Cx) (D : Addr → Prop) (st : AS) (P : PL) (s : Shared) : Prop where
 base : ∀ b o, X.g0.get? b = some o → s.heap.get? b = some o
 tabs : ∀ t ∈ X.tabs, ∃ more, s.heap.TableAt t.1 t.2.1 (t.2.2 ++ more) ∧ s.heap.IsCode t.1 t.2.1 (t.2.2 ++ more)
 objs : ∀ a o, st a = some o → AOAt D s.heap a o
 lo : ∀ b, D b → X.g0.get? b = none
 priv : ∀ p ∈ P, Pv s.heap p
 off : ∀ b, Dom st b → b ∉ P.map (·.1) ∧ ¬ X.isTab b
 gens : AllBare s.gens ∧ ∀ p ∈ X.pg, s.gens[p.1]? = some p.2
 os : s.os = X.os
 tabc : ∀ t ∈ X.tabs, ∃ o, X.g0.get? t.1 = some o
 nolim : X.g0.NoLimit
 tabp : ∀ t ∈ X.tabs, t.2.1 ∉ P.map (·.1)
noncomputable def ownOf (env : Env) (b : Addr) : Prop := b = env.locals ∨ ∃ x, env.kindOf x = some .cell ∧ env.cells.lookup x = some b
structure FrAt (D : Addr → Prop) (env : Env) (m : AM) (h : Heap) : Prop where
 kind : env.scope.kind = .function
 glob : env.globals = mainGlobals
 bi : env.builtins = builtinsNs
 ns : ∃ mv, h.Ns env.locals mv ∧ ∀ x, env.kindOf x = some .local → VRo D h (mv x) (m x)
 cl : ∀ x, (env.kindOf x = some .cell ∨ env.kindOf x = some .free) → ∃ c ov, env.cells.lookup x = some c ∧ h.IsCell c ov ∧ VRo D h ov (m x)
 apart : ∀ x y c, env.kindOf x = some .cell → env.kindOf y = some .cell ∨ env.kindOf y = some .free → env.cells.lookup x = some c → env.cells.lookup y = some c → x = y
 apartL : ∀ x c, env.kindOf x = some .cell ∨ env.kindOf x = some .free → env.cells.lookup x = some c → c ≠ env.locals
structure FRel (X : Cx) (P : PL) (env : Env) (st : AS) (m : AM) (s : Shared) : Prop where
 g : GRel X (DD X st P (ownOf env)) st P s
 f : FrAt (DD X st P (ownOf env)) env m s.heap
 own : ∀ b, ownOf env b → ¬ Dom st b ∧ b ∉ P.map (·.1) ∧ ¬ X.isTab b
theorem AOAt.keeps {D : Addr → Prop} {h h' : Heap} (k : ∀ b o, h.get? b = some o → h'.get? b = some o) {a : Addr} : ∀ {o : AO}, AOAt D h a o → AOAt D h' a o
 | .list _, ⟨vs, n, e, r⟩ => ⟨vs, n, k _ _ e, r.keeps k⟩
 | .inst .., ⟨d, vs, e1, e2, x, r⟩ => ⟨d, vs, e1, k _ _ e2, x.keep (k _), r.keeps k⟩
theorem AOAt.anti {D D' : Addr → Prop} {h : Heap} (g : ∀ b, D' b → D b) {a : Addr} : ∀ {o : AO}, AOAt D h a o → AOAt D' h a o
 | .list _, ⟨vs, n, e, r⟩ => ⟨vs, n, e, r.anti g⟩
 | .inst .., ⟨d, vs, e1, e2, x, r⟩ => ⟨d, vs, e1, e2, x, r.anti g⟩
theorem AOAt.foot_in {D : Addr → Prop} {h : Heap} {a : Addr} : ∀ {o : AO}, AOAt D h a o → ∀ b ∈ AO.foot a o, ∃ x, h.get? b = some x
 | .list _, ⟨_, _, e, _⟩, b, hb => by simp only [AO.foot, List.mem_singleton] at hb; subst hb; exact ⟨_, e⟩
 | .inst .., ⟨d, _, e1, e2, x, _⟩, b, hb => by
  subst e1
  simp only [AO.foot, List.mem_cons, List.not_mem_nil, or_false, Nat.add_sub_cancel] at hb
  rcases hb with rfl | rfl
  ·exact ⟨_, e2⟩
  ·refine E2A2 x fun _ _ e _ => ?_; clear x; exact ⟨_, e⟩
theorem GRel.keeps {X : Cx} {D : Addr → Prop} {st : AS} {P : PL} {s : Shared} (g : GRel X D st P s) {h' : Heap} {d : Drawn} {tk : Nat} (k : ∀ b o, s.heap.get? b = some o → h'.get? b = some o) :
 GRel X D st P { s with heap := h', drawn := d, toks := tk } :=
 ⟨fun b o e => k b o (g.base b o e), fun t ht => let ⟨more, a, b⟩ := g.tabs t ht; ⟨more, a.keeps k, b.keeps k⟩, fun a o e => (g.objs a o e).keeps k, g.lo, fun p hp => (g.priv p hp).by (k _), g.off, g.gens, g.os, g.tabc, g.nolim, g.tabp⟩
theorem FrAt.keeps {D : Addr → Prop} {env : Env} {m : AM} {h h' : Heap} (f : FrAt D env m h) (k : ∀ b o, h.get? b = some o → h'.get? b = some o) : FrAt D env m h' :=
 ⟨f.kind, f.glob, f.bi, let ⟨mv, a, b⟩ := f.ns; ⟨mv, a.keeps k, fun x e => (b x e).move fun b o e nd => ⟨k b o e, nd⟩⟩,
  fun x e => let ⟨c, ov, a, b, r⟩ := f.cl x e; ⟨c, ov, a, b.keeps k, r.move fun b o e nd => ⟨k b o e, nd⟩⟩, f.apart, f.apartL⟩
theorem FRel.keeps {X : Cx} {P : PL} {env : Env} {st : AS} {m : AM} {s : Shared} (r : FRel X P env st m s) {h' : Heap} {d : Drawn} {tk : Nat} (k : ∀ b o, s.heap.get? b = some o → h'.get? b = some o) :
 FRel X P env st m { s with heap := h', drawn := d, toks := tk } := ⟨r.g.keeps k, r.f.keeps k, r.own⟩
theorem FRel.tok {X : Cx} {P : PL} {env : Env} {st : AS} {m : AM} {s : Shared} (r : FRel X P env st m s) {tk : Nat} : FRel X P env st m { s with toks := tk } := r.keeps (h' := s.heap) (d := s.drawn) fun _ _ e => e
theorem FRel.push {X : Cx} {P : PL} {env : Env} {st : AS} {m : AM} {s : Shared} (r : FRel X P env st m s) (o : Obj) {tk : Nat} : FRel X P env st m { s with heap := s.heap.push o, toks := tk } :=
 r.keeps (d := s.drawn) fun _ _ e => Heap.get?_push_of_some _ e
theorem FRel.din {X : Cx} {P : PL} {env : Env} {st : AS} {m : AM} {s : Shared} (r : FRel X P env st m s) {b : Addr} (d : DD X st P (ownOf env) b) : ∃ o, s.heap.get? b = some o := by
 refine O4 d (fun hr1 => E2A2 hr1 fun a o e hb => ?_) (fun hp => ?_) (fun ho => ?_) (fun ht => ?_); all_goals clear d
 ·exact (r.g.objs a o e).foot_in b hb
 ·refine E1A2 (List.mem_map.mp hp) fun p hp' hn1 => ?_; obtain rfl := hn1
  refine E1A2 (r.g.priv p hp') fun o e _ => ?_; exact ⟨o, e⟩
 ·rcases ho with rfl | ⟨x, hk, hc⟩
  ·refine E1A2 (r.f.ns) fun mv hn2 _ => ?_; refine E3A2 hn2 fun o _ _ e _ => ?_; clear hn2; exact ⟨o, e⟩
  ·refine E2A3 (r.f.cl x (.inl hk)) fun c ov a hn3 _ => ?_; refine E1A2 hn3 fun o e _ => ?_; clear hn3
   rw [hc] at a; revert a; refine J.sse ?_; rintro rfl; exact ⟨o, e⟩
 ·refine E1A2 (List.mem_map.mp ht) fun t ht' hn4 => ?_; obtain rfl := hn4
  refine E1A2 (r.g.tabs t ht') fun _ a _ => ?_
  exact ⟨_, a.2⟩
theorem get_size (h : Heap) : h.get? h.objs.size = none := by
 cases e : h.get? h.objs.size with
 | none => rfl
 | some o => exact absurd (Heap.lt_size e) (Nat.lt_irrefl _)
theorem FRel.dno {X : Cx} {P : PL} {env : Env} {st : AS} {m : AM} {s : Shared} (r : FRel X P env st m s) {b : Addr} (e : s.heap.get? b = none) : ¬ DD X st P (ownOf env) b :=
 fun d => by refine E1 (r.din d) fun o h => ?_; rw [e] at h; exact J.ns h
inductive Post {α β : Type} (X : Cx) (P : PL) (env : Env) (st : AS) (s : Shared) (R : (Addr → Prop) → Heap → α → β → Prop) (Q : β → AS → AM → Prop) (v : α) (s' : Shared) : Prop
 | mk (b : β) (st' : AS) (m' : AM) (r : R (DD X st' P (ownOf env)) s'.heap v b) (f : FRel X P env st' m' s') (S : Step (DD X st P (ownOf env)) s.heap s'.heap) (g : Gr s.heap (Dom st) (Dom st')) (q : Q b st' m') : Post X P env st s R Q v s'
noncomputable def W {α β : Type} (X : Cx) (P : PL) (A : Around) (env : Env) (st : AS) (m : AM) (R : (Addr → Prop) → Heap → α → β → Prop) (t : Sem α) (Q : β → AS → AM → Prop) : Prop :=
 ∀ s, FRel X P env st m s → wpAny (model X.prog X.w) A t (Post X P env st s R Q) (fun _ _ => False) s
noncomputable def EB (_ : Addr → Prop) (_ : Heap) (a b : Bool) : Prop := a = b
inductive AF where
 | next | brk | cont
 | ret (a : AV)
noncomputable def EF (D : Addr → Prop) (h : Heap) : Flow → AF → Prop
 | .next, .next => True
 | .brk, .brk => True
 | .cont, .cont => True
 | .ret v, .ret a => VR D h v a
 | _, _ => False
noncomputable abbrev Is {β : Type} (b : β) (st : AS) (m : AM) : β → AS → AM → Prop := fun b' st' m' => b' = b ∧ st' = st ∧ m' = m
noncomputable def EV (X : Cx) (P : PL) (A : Around) (env : Env) (st : AS) (m : AM) (t : Sem Value) (a : AV) : Prop := W X P A env st m VR t (Is a st m)
noncomputable def EvB (X : Cx) (P : PL) (A : Around) (env : Env) (st : AS) (m : AM) (t : Sem Bool) (b : Bool) : Prop := W X P A env st m EB t (Is b st m)
section
variable {α β γ δ : Type} {X : Cx} {P : PL} {A : Around} {env : Env} {st st₁ : AS} {m : AM} {s s₁ : Shared}
theorem DD.grow {own : Addr → Prop} {h : Heap} (g : Gr h (Dom st) (Dom st₁)) : Gr h (DD X st P own) (DD X st₁ P own) := fun b o e d => d.imp (g b o e) id
theorem Post.mono {R : (Addr → Prop) → Heap → α → β → Prop} {Q Q' : β → AS → AM → Prop} (h : ∀ b st' m', Q b st' m' → Q' b st' m') {v : α} {s' : Shared} (x : Post X P env st s R Q v s') : Post X P env st s R Q' v s' :=
 let ⟨b, st', m', r, f, S, g, q⟩ := x; ⟨b, st', m', r, f, S, g, h _ _ _ q⟩
theorem grow_on {st₂ : AS} {m₂ : AM} {s₂ : Shared} (S : Step (DD X st P (ownOf env)) s.heap s₁.heap) (g : Gr s.heap (Dom st) (Dom st₁)) (f₂ : FRel X P env st₂ m₂ s₂) (g₂ : Gr s₁.heap (Dom st₁) (Dom st₂)) : Gr s.heap (Dom st) (Dom st₂) := fun b o e d => by
 by_cases q : DD X st P (ownOf env) b
 ·rcases q with q | q | q | q
  ·exact q
  ·exact absurd q (f₂.g.off b d).1
  ·exact absurd d (f₂.own b q).1
  ·exact absurd q (f₂.g.off b d).2
 ·exact g b o e (g₂ b o (S b o e q) d)
theorem Post.after {R : (Addr → Prop) → Heap → α → β → Prop} {Q : β → AS → AM → Prop} (S : Step (DD X st P (ownOf env)) s.heap s₁.heap) (g : Gr s.heap (Dom st) (Dom st₁)) {v : α} {s' : Shared}
 (x : Post X P env st₁ s₁ R Q v s') : Post X P env st s R Q v s' := by
 obtain ⟨b, st', m', r, f, S', g', q⟩ := x
 exact ⟨b, st', m', r, f, S.trans S' (DD.grow g), grow_on S g f g', q⟩
theorem W.mono {R : (Addr → Prop) → Heap → α → β → Prop} {Q Q' : β → AS → AM → Prop} {t : Sem α} (x : W X P A env st m R t Q) (h : ∀ b st' m', Q b st' m' → Q' b st' m') : W X P A env st m R t Q' :=
 fun s r => wpAny_mono (x s r) (fun _ _ p => p.mono h) fun _ _ e => e
theorem W.on {R : (Addr → Prop) → Heap → α → β → Prop} {Q : β → AS → AM → Prop} {t : Sem α} {G : α → Shared → Prop} (x : W X P A env st m R t Q) (r : FRel X P env st m s)
 (k : ∀ v b st₁ m₁ s₁, Q b st₁ m₁ → FRel X P env st₁ m₁ s₁ → R (DD X st₁ P (ownOf env)) s₁.heap v b → Step (DD X st P (ownOf env)) s.heap s₁.heap → Gr s.heap (Dom st) (Dom st₁) → G v s₁) :
 wpAny (model X.prog X.w) A t G (fun _ _ => False) s :=
 wpAny_mono (x s r) (fun v s' ⟨b, st', m', hr, f, S, g, q⟩ => k v b st' m' s' q f hr S g) fun _ _ e => e
theorem EV.on {t : Sem Value} {a : AV} {G : Value → Shared → Prop} (x : EV X P A env st m t a) (r : FRel X P env st m s)
 (k : ∀ v s₁, FRel X P env st m s₁ → VR (DD X st P (ownOf env)) s₁.heap v a → Step (DD X st P (ownOf env)) s.heap s₁.heap → G v s₁) :
 wpAny (model X.prog X.w) A t G (fun _ _ => False) s :=
 W.on x r fun v b st₁ m₁ s₁ q f hr S g => by refine A2 q fun hn5 hn6 => ?_; clear q; obtain rfl := hn5; refine A2 hn6 fun hn7 hn8 => ?_; clear hn6; obtain rfl := hn7; obtain rfl := hn8; exact k v s₁ f hr S
theorem EvB.on {t : Sem Bool} {b : Bool} {G : Bool → Shared → Prop} (x : EvB X P A env st m t b) (r : FRel X P env st m s)
 (k : ∀ s₁, FRel X P env st m s₁ → Step (DD X st P (ownOf env)) s.heap s₁.heap → G b s₁) :
 wpAny (model X.prog X.w) A t G (fun _ _ => False) s :=
 W.on x r fun v b st₁ m₁ s₁ q f hr S g => by refine A2 q fun hn9 hn10 => ?_; clear q; obtain rfl := hn9; refine A2 hn10 fun hn11 hn12 => ?_; clear hn10; obtain rfl := hn11; obtain rfl := hn12; subst hr; exact k s₁ f S
theorem Post.here {R : (Addr → Prop) → Heap → α → β → Prop} {b : β} {v : α} {s' : Shared} (f : FRel X P env st m s') (S : Step (DD X st P (ownOf env)) s.heap s'.heap) (r : R (DD X st P (ownOf env)) s'.heap v b) :
 Post X P env st s R (Is b st m) v s' := ⟨b, st, m, r, f, S, Gr.refl _ _, rfl, rfl, rfl⟩
theorem VR.held {v : Value} {a : AV} (x : VR (DD X st P (ownOf env)) s.heap v a) (S : Step (DD X st P (ownOf env)) s.heap s₁.heap) : VR (DD X st P (ownOf env)) s₁.heap v a := x.step S (Gr.refl _ _)
end
end J
namespace J
section
variable {X : Cx} {P : PL} {A : Around} {env : Env} {st : AS} {m : AM}
noncomputable def Op2 (X : Cx) (P : PL) (A : Around) (env : Env) (st : AS) (m : AM) (f : Value → Value → Sem Value) (a b c : AV) : Prop :=
 ∀ s va vb, FRel X P env st m s → VR (DD X st P (ownOf env)) s.heap va a → VR (DD X st P (ownOf env)) s.heap vb b →
  wpAny (model X.prog X.w) A (f va vb) (Post X P env st s VR (Is c st m)) (fun _ _ => False) s
theorem Post.same {β α : Type} {R : (Addr → Prop) → Heap → α → β → Prop} {s : Shared} {tk : Nat} {b : β} {v : α} (f : FRel X P env st m s) (r : R (DD X st P (ownOf env)) s.heap v b) :
 Post X P env st s R (Is b st m) v { s with toks := tk } := Post.here (s' := { s with toks := tk }) f.tok (Step.refl _ _) r
theorem Post.eq {β α : Type} {R : (Addr → Prop) → Heap → α → β → Prop} {s : Shared} {b : β} {v : α} (f : FRel X P env st m s) (r : R (DD X st P (ownOf env)) s.heap v b) :
 Post X P env st s R (Is b st m) v s := Post.here f (Step.refl _ _) r
noncomputable def nameOk (env : Env) (x : Str) : Bool := (env.kindOf x == some .local || env.kindOf x == some .cell || env.kindOf x == some .free) && !(x == ("__debug__" : Str)) && !(x == ("__classdict__" : Str))
theorem e_name {x : Str} {pos : Pos} {a : AV} (hm : m x = some a) (ok : nameOk env x = true) : EV X P A env st m (eval (.Name x pos) env) a := by
 unfold nameOk at ok
 simp only [Bool.and_eq_true, Bool.not_eq_true', Bool.or_eq_true, beq_iff_eq] at ok
 refine A2 ok fun hn1 hn => ?_; clear ok; refine A2 hn1 fun hk hd => ?_; clear hn1
 intro s r
 refine wpAny_Name ?_ hd
 rcases hk with (hk | hk) | hk
 ·refine E1A2 (r.f.ns) fun mv hns hv => ?_
  have z := hv x hk
  rw [hm] at z
  cases e : mv x with
  | none => rw [e] at z; exact z.elim
  | some v => rw [e] at z; exact wpAny_loadName_local r.f.kind hk hns e (Post.eq r z)
 ·refine E2A3 (r.f.cl x (.inl hk)) fun c ov hc hi z => ?_
  rw [hm] at z
  cases ov with
  | none => exact z.elim
  | some v => exact wpAny_loadName_cell r.f.kind hk hc hi (Post.eq r z)
 ·refine E2A3 (r.f.cl x (.inr hk)) fun c ov hc hi z => ?_
  rw [hm] at z
  cases ov with
  | none => exact z.elim
  | some v => exact wpAny_loadName_free r.f.kind hk hc hi (Post.eq r z) hn
theorem e_int {i : Int} {k : Nat} {pos : Pos} : EV X P A env st m (eval (.Constant (.int i) k pos) env) (.int i) :=
 fun _ r => wpAny_Constant_int (Post.same r (.int _ _))
theorem e_none {k : Nat} {pos : Pos} : EV X P A env st m (eval (.Constant .none k pos) env) .none := fun _ r => wpAny_pure (Post.eq r .none)
theorem e_bool {b : Bool} {k : Nat} {pos : Pos} : EV X P A env st m (eval (.Constant (.bool b) k pos) env) (.bool b) := fun _ r => wpAny_pure (Post.eq r (.bool b))
theorem e_bin {l r : Expr} {op : Operator} {pos : Pos} {a b c : AV} (hl : EV X P A env st m (eval l env) a) (hr : EV X P A env st m (eval r env) b) (ho : Op2 X P A env st m (binaryOp op) a b c) :
 EV X P A env st m (eval (.BinOp l op r pos) env) c := fun s f => wpAny_BinOp (hl.on f fun va s₁ f₁ ra S₁ => hr.on f₁ fun vb s₂ f₂ rb S₂ =>
  wpAny_mono (ho s₂ va vb f₂ (ra.held S₂) rb) (fun _ _ p => Post.after (S₁.on S₂) (Gr.refl _ _) p) fun _ _ e => e)
theorem e_cmp {l r : Expr} {op : CmpOp} {pos : Pos} {a b c : AV} (hl : EV X P A env st m (eval l env) a) (hr : EV X P A env st m (eval r env) b) (ho : Op2 X P A env st m (compareOp op) a b c)
 (hm : behindInMarks op r = false) : EV X P A env st m (eval (.Compare l [op] [r] pos) env) c := fun s f => wpAny_Compare1 (hl.on f fun va s₁ f₁ ra S₁ => hr.on f₁ fun vb s₂ f₂ rb S₂ =>
  wpAny_mono (ho s₂ va vb f₂ (ra.held S₂) rb) (fun _ _ p => Post.after (S₁.on S₂) (Gr.refl _ _) p) fun _ _ e => e) hm
section
variable {i j : Int}
theorem o_add : Op2 X P A env st m (binaryOp .Add) (.int i) (.int j) (.int (i + j)) := by
 intro s va vb f ra rb; cases ra using VR.intE; cases rb using VR.intE; exact wpAny_add_int (Post.same f (.int _ _))
theorem o_sub : Op2 X P A env st m (binaryOp .Sub) (.int i) (.int j) (.int (i - j)) := by
 intro s va vb f ra rb; cases ra using VR.intE; cases rb using VR.intE; exact SiftDown.sub_int (Post.same f (.int _ _))
theorem o_mul (h : IntMulOk i j) : Op2 X P A env st m (binaryOp .Mult) (.int i) (.int j) (.int (i * j)) := by
 intro s va vb f ra rb; cases ra using VR.intE; cases rb using VR.intE; exact PyProof.Rows.mul_int (Post.same f (.int _ _)) h
theorem o_fdiv (h : j ≠ 0) (hp : Builtin.divisionGoesByPylong i j = false) : Op2 X P A env st m (binaryOp .FloorDiv) (.int i) (.int j) (.int (i.fdiv j)) := by
 intro s va vb f ra rb; cases ra using VR.intE; cases rb using VR.intE; exact PyProof.Rows.floordiv_int h (Post.same f (.int _ _)) (.inl hp)
theorem o_mod (h : j ≠ 0) : Op2 X P A env st m (binaryOp .Mod) (.int i) (.int j) (.int (i.fmod j)) := by
 intro s va vb f ra rb; cases ra using VR.intE; cases rb using VR.intE; exact PyProof.Rows.mod_int' h (Post.same f (.int _ _))
theorem o_lt : Op2 X P A env st m (compareOp .Lt) (.int i) (.int j) (.bool (decide (i < j))) := by
 intro s va vb f ra rb; cases ra using VR.intE; cases rb using VR.intE; exact wpAny_lt_int (Post.eq f (.bool _))
theorem o_le : Op2 X P A env st m (compareOp .LtE) (.int i) (.int j) (.bool (decide (i ≤ j))) := by
 intro s va vb f ra rb; cases ra using VR.intE; cases rb using VR.intE; exact PyProof.Rows.le_int (Post.eq f (.bool _))
theorem o_gt : Op2 X P A env st m (compareOp .Gt) (.int i) (.int j) (.bool (decide (j < i))) := by
 intro s va vb f ra rb; cases ra using VR.intE; cases rb using VR.intE; exact PyProof.Rows.gt_int (Post.eq f (.bool _))
theorem o_ge : Op2 X P A env st m (compareOp .GtE) (.int i) (.int j) (.bool (decide (j ≤ i))) := by
 intro s va vb f ra rb; cases ra using VR.intE; cases rb using VR.intE; exact PyProof.Rows.ge_int (Post.eq f (.bool _))
theorem o_eq : Op2 X P A env st m (compareOp .Eq) (.int i) (.int j) (.bool (i == j)) := by
 intro s va vb f ra rb; cases ra using VR.intE; cases rb using VR.intE; exact PyProof.Rows.eq_int (Post.eq f (.bool _))
end
noncomputable def AV.isNone : AV → Bool | .none => true | .obj _ a => a.isNone | _ => false
theorem VR.isNone {D : Addr → Prop} {h : Heap} {v : Value} {a : AV} (x : VR D h v a) : (v == .none) = a.isNone :=
 VR.rec (motive_1 := fun v a _ => (v == .none) = a.isNone) (motive_2 := fun _ _ _ => True) rfl (fun _ => rfl) (fun _ _ => rfl) (fun _ => rfl) (fun _ n => n) (fun _ _ _ _ => rfl) (fun _ _ _ _ => rfl) (fun _ r => r) (fun _ _ _ _ _ _ => rfl) trivial (fun _ _ _ _ => trivial) x
theorem o_isNone {a : AV} : Op2 X P A env st m (compareOp .Is) a .none (.bool a.isNone) := by
 intro s va vb f ra rb; cases rb using VR.noneE; exact is_none (Post.eq f (by rw [ra.isNone]; exact .bool _))
theorem o_isNotNone {a : AV} : Op2 X P A env st m (compareOp .IsNot) a .none (.bool (!a.isNone)) := by
 intro s va vb f ra rb; cases rb using VR.noneE; exact isnot_none_gen (Post.eq f (by rw [ra.isNone]; exact .bool _))
theorem o_neBool {a b : Bool} : Op2 X P A env st m (compareOp .NotEq) (.bool a) (.bool b) (.bool (a != b)) := by
 intro s va vb f ra rb; cases ra using VR.boolE; cases rb using VR.boolE; exact ne_bool (Post.eq f (.bool _))
noncomputable def Tr (X : Cx) (P : PL) (A : Around) (env : Env) (st : AS) (m : AM) (a : AV) (b : Bool) : Prop :=
 ∀ s v, FRel X P env st m s → VR (DD X st P (ownOf env)) s.heap v a → wpAny (model X.prog X.w) A (truthy v) (Post X P env st s EB (Is b st m)) (fun _ _ => False) s
theorem tr_bool {b : Bool} : Tr X P A env st m (.bool b) b := by intro s v f r; cases r using VR.boolE; exact wpAny_truthy_bool (Post.eq f rfl)
theorem tr_none : Tr X P A env st m .none false := by intro s v f r; cases r using VR.noneE; exact wpAny_pure (Post.eq f rfl)
noncomputable abbrev EvT (X : Cx) (P : PL) (A : Around) (env : Env) (st : AS) (m : AM) (e : Expr) (b : Bool) : Prop := EvB X P A env st m (isTrue e env (eval e env)) b
theorem t_cmp {l r : Expr} {op : CmpOp} {pos : Pos} {a b : AV} {c : Bool} (hl : EV X P A env st m (eval l env) a) (hr : EV X P A env st m (eval r env) b) (ho : Op2 X P A env st m (compareOp op) a b (.bool c))
 (hm : behindInMarks op r = false) : EvT X P A env st m (.Compare l [op] [r] pos) c := fun s f => wpAny_isTrue_Compare1 (hl.on f fun va s₁ f₁ ra S₁ => hr.on f₁ fun vb s₂ f₂ rb S₂ =>
  wpAny_mono (ho s₂ va vb f₂ (ra.held S₂) rb) (fun v s' p => by
   obtain ⟨b', st', m', r', f', S', g', rfl, rfl, rfl⟩ := p
   cases r'
   exact wpAny_truthy_bool (Post.here f' ((S₁.on S₂).on S') rfl)) fun _ _ e => e) hm
theorem t_plain {e : Expr} {a : AV} {b : Bool} (h : EV X P A env st m (eval e env) a) (t : Tr X P A env st m a b) (he : isTrue e env (eval e env) = (do let v ← eval e env; standAt e.pos; holding [v] (truthy v))) : EvT X P A env st m e b :=
 fun s f => wpAny_isTrue_value (h.on f fun v s₁ f₁ r S₁ => wpAny_mono (t s₁ v f₁ r) (fun _ _ p => Post.after S₁ (Gr.refl _ _) p) fun _ _ e => e) he
theorem t_not {e : Expr} {pos : Pos} {b : Bool} (h : EvT X P A env st m e b) : EvT X P A env st m (.UnaryOp .Not e pos) (!b) :=
 fun _ f => wpAny_isTrue_Not (h.on f fun _ f₁ S₁ => Post.here f₁ S₁ rfl)
theorem t_and_nil {pos : Pos} {whole : Sem Value} : EvB X P A env st m (isTrue (.BoolOp .And [] pos) env whole) true := fun _ f => isTrue_and_nil (Post.eq f rfl)
theorem t_or_nil {pos : Pos} {whole : Sem Value} : EvB X P A env st m (isTrue (.BoolOp .Or [] pos) env whole) false := fun _ f => isTrue_or_nil (Post.eq f rfl)
theorem t_and {e : Expr} {es : List Expr} {pos : Pos} {whole : Sem Value} {a b : Bool} (h : EvT X P A env st m e a) (k : a = true → EvB X P A env st m (isTrue (.BoolOp .And es pos) env whole) b) :
 EvB X P A env st m (isTrue (.BoolOp .And (e :: es) pos) env whole) (a && b) :=
 fun _ f => isTrue_and (h.on f fun s₁ f₁ S₁ => by
  cases a with
  | false => exact Post.here f₁ S₁ rfl
  | true => exact (k rfl).on f₁ fun s₂ f₂ S₂ => Post.here f₂ (S₁.on S₂) rfl)
theorem t_or {e : Expr} {es : List Expr} {pos : Pos} {whole : Sem Value} {a b : Bool} (h : EvT X P A env st m e a) (k : a = false → EvB X P A env st m (isTrue (.BoolOp .Or es pos) env whole) b) :
 EvB X P A env st m (isTrue (.BoolOp .Or (e :: es) pos) env whole) (a || b) :=
 fun _ f => isTrue_or (h.on f fun s₁ f₁ S₁ => by
  cases a with
  | true => exact Post.here f₁ S₁ rfl
  | false => exact (k rfl).on f₁ fun s₂ f₂ S₂ => Post.here f₂ (S₁.on S₂) rfl)
theorem e_and1 {e : Expr} {pos : Pos} {op : BoolOp} {a : AV} (h : EV X P A env st m (eval e env) a) : EV X P A env st m (eval (.BoolOp op [e] pos) env) a := fun s f => BoolOp_one (h s f)
theorem e_and {e e' : Expr} {es : List Expr} {pos : Pos} {a b : Bool} (h : EV X P A env st m (eval e env) (.bool a)) (k : a = true → EV X P A env st m (eval (.BoolOp .And (e' :: es) pos) env) (.bool b)) :
 EV X P A env st m (eval (.BoolOp .And (e :: e' :: es) pos) env) (.bool (a && b)) := fun _ f => BoolOp_and (h.on f fun v s₁ f₁ r S₁ => by
  cases r using VR.boolE
  refine wpAny_truthy_bool ?_
  cases a with
  | false => exact Post.here f₁ S₁ (.bool _)
  | true => exact (k rfl).on f₁ fun v s₂ f₂ r S₂ => Post.here f₂ (S₁.on S₂) r)
theorem e_or {e e' : Expr} {es : List Expr} {pos : Pos} {a b : Bool} (h : EV X P A env st m (eval e env) (.bool a)) (k : a = false → EV X P A env st m (eval (.BoolOp .Or (e' :: es) pos) env) (.bool b)) :
 EV X P A env st m (eval (.BoolOp .Or (e :: e' :: es) pos) env) (.bool (a || b)) := fun _ f => BoolOp_or (h.on f fun v s₁ f₁ r S₁ => by
  cases r using VR.boolE
  refine wpAny_truthy_bool ?_
  cases a with
  | true => exact Post.here f₁ S₁ (.bool _)
  | false => exact (k rfl).on f₁ fun v s₂ f₂ r S₂ => Post.here f₂ (S₁.on S₂) r)
theorem e_if {t e₁ e₂ : Expr} {pos : Pos} {b : Bool} {a₁ a₂ : AV} (ht : EvT X P A env st m t b) (h₁ : b = true → EV X P A env st m (eval e₁ env) a₁) (h₂ : b = false → EV X P A env st m (eval e₂ env) a₂) :
 EV X P A env st m (eval (.IfExp t e₁ e₂ pos) env) (if b then a₁ else a₂) := fun _ f => wpAny_IfExp (ht.on f fun s₁ f₁ S₁ => by
  cases b with
  | true => exact (h₁ rfl).on f₁ fun v s₂ f₂ r S₂ => Post.here f₂ (S₁.on S₂) r
  | false => exact (h₂ rfl).on f₁ fun v s₂ f₂ r S₂ => Post.here f₂ (S₁.on S₂) r)
noncomputable def EVL (X : Cx) (P : PL) (A : Around) (env : Env) (st : AS) (m : AM) (es : List Expr) (as : List AV) : Prop :=
 ∀ pos s, FRel X P env st m s → wpAny (model X.prog X.w) A (spliced (backTo pos (starEach es env)))
  (fun vs s' => VRs (DD X st P (ownOf env)) s'.heap vs as ∧ FRel X P env st m s' ∧ Step (DD X st P (ownOf env)) s.heap s'.heap) (fun _ _ => False) s
theorem el_nil : EVL X P A env st m [] [] := fun _ _ f => spliced_nil ⟨.nil, f, Step.refl _ _⟩
theorem el_cons {e : Expr} {es : List Expr} {a : AV} {as : List AV} (h : EV X P A env st m (eval e env) a) (t : EVL X P A env st m es as) (he : starEach (e :: es) env = (false, eval e env) :: starEach es env) :
 EVL X P A env st m (e :: es) (a :: as) := fun pos s f => by
 rw [he]
 refine spliced_cons ?_
 refine wpAny_mono (h s f) (fun v s₁ p => ?_) fun _ _ e => e
 obtain ⟨b', st', m', r', f₁, S₁, _, rfl, rfl, rfl⟩ := p
 exact wpAny_mono (t pos s₁ f₁) (fun vs s₂ ⟨rs, f₂, S₂⟩ => ⟨.cons (r'.held S₂) rs, f₂, S₁.on S₂⟩) fun _ _ e => e
theorem new_tup {s : Shared} {vs : List Value} {as : List AV} (f : FRel X P env st m s) (r : VRs (DD X st P (ownOf env)) s.heap vs as) {tk : Nat} :
 Post X P env st s VR (Is (.tup as) st m) (.ref s.heap.objs.size) { s with heap := s.heap.push { cls := .type "tuple", data := .seq vs.toArray }, toks := tk } := by
 have k : ∀ b o, s.heap.get? b = some o → (s.heap.push ({ cls := .type "tuple", data := .seq vs.toArray } : Obj)).get? b = some o := fun b o e => Heap.get?_push_of_some _ e
 refine Post.here (f.push _) (Step.of_keeps k) ?_
 exact .tup (f.dno (get_size _)) ⟨_, Heap.get?_push_size _ rfl, rfl, _, rfl⟩ (r.keeps k)
theorem new_lst {s : Shared} {vs : List Value} {as : List AV} (f : FRel X P env st m s) (r : VRs (DD X st P (ownOf env)) s.heap vs as) {tk : Nat} :
 Post X P env st s VR (Is (.lst as) st m) (.ref s.heap.objs.size) { s with heap := s.heap.push { cls := .type "list", data := .seq vs.toArray }, toks := tk } := by
 have k : ∀ b o, s.heap.get? b = some o → (s.heap.push ({ cls := .type "list", data := .seq vs.toArray } : Obj)).get? b = some o := fun b o e => Heap.get?_push_of_some _ e
 refine Post.here (f.push _) (Step.of_keeps k) ?_
 exact .lst (f.dno (get_size _)) ⟨_, Heap.get?_push_size _ rfl⟩ (r.keeps k)
theorem e_tup {es : List Expr} {k : Nat} {pos : Pos} {as : List AV} (h : EVL X P A env st m es as) (hn : as.length ≤ sizeLine) : EV X P A env st m (eval (.Tuple es k pos) env) (.tup as) :=
 fun s f => wpAny_Tuple (wpAny_mono (h _ s f) (fun vs s₁ ⟨r, f₁, S₁⟩ => ⟨by rw [r.length]; exact hn, Post.after S₁ (Gr.refl _ _) (new_tup (tk := s₁.toks) f₁ r)⟩) fun _ _ e => e)
theorem e_lst {es : List Expr} {pos : Pos} {as : List AV} (h : EVL X P A env st m es as) (hn : as.length ≤ sizeLine) : EV X P A env st m (eval (.List es pos) env) (.lst as) :=
 fun s f => wpAny_List (wpAny_mono (h _ s f) (fun vs s₁ ⟨r, f₁, S₁⟩ => ⟨by rw [r.length]; exact hn, Post.after S₁ (Gr.refl _ _) (new_lst (tk := s₁.toks) f₁ r)⟩) fun _ _ e => e)
end
end J
namespace J
section
variable {X : Cx} {P : PL} {A : Around} {env : Env} {st : AS} {m : AM}
noncomputable def upd (m : AM) (x : Str) (a : AV) : AM := fun y => if y = x then some a else m y
theorem upd_same (m : AM) (x : Str) (a : AV) : upd m x a x = some a := if_pos rfl
theorem upd_ne {m : AM} {x y : Str} {a : AV} (h : y ≠ x) : upd m x a y = m y := if_neg h
theorem GRel.at_own {D : Addr → Prop} {s : Shared} {a : Addr} {h' : Heap} {tk : Nat} (g : GRel X D st P s) (hd : D a) (n1 : ¬ Dom st a) (n2 : a ∉ P.map (·.1)) (n3 : ¬ X.isTab a)
 (k : ∀ b o, b ≠ a → s.heap.get? b = some o → h'.get? b = some o) : GRel X D st P { s with heap := h', toks := tk } := by
 have hg := g.lo a hd
 have S : ∀ b o, s.heap.get? b = some o → ¬ D b → h'.get? b = some o ∧ ¬ D b := fun b o e nd => ⟨k b o (fun q => nd (q ▸ hd)) e, nd⟩
 refine ⟨fun b o e => k b o (fun q => ?_) (g.base b o e), fun t ht => ?_, fun b o e => ?_, g.lo, fun p hp => (g.priv p hp).by fun o => k _ o (fun q => n2 (q ▸ List.mem_map_of_mem hp)), g.off, g.gens, g.os, g.tabc, g.nolim, g.tabp⟩
 ·rw [q, hg] at e; exact J.ns e
 ·refine E1A2 (g.tabs t ht) fun more a1 b1 => ?_
  have c1 : t.1 ≠ a := fun q => by refine E1 (g.tabc t ht) fun o e => ?_; rw [q, hg] at e; exact J.ns e
  have c2 : t.2.1 ≠ a := fun q => n3 (q ▸ List.mem_map_of_mem ht)
  have hx : Heap.ExtBut a s.heap h' := k
  exact ⟨more, a1.extBut hx c1 c2, b1.extBut hx c1 c2⟩
 ·have ho := g.objs b o e
  cases o with
  | list l =>
   refine E2A2 ho fun vs n e2 r => ?_; clear ho
   exact ⟨vs, n, k _ _ (fun q => n1 (q ▸ ⟨b, _, e, by simp [AO.foot]⟩)) e2, r.move S⟩
  | inst C ns l =>
   refine E2A4 ho fun d vs e1 e2 x r => ?_; clear ho
   subst e1
   exact ⟨d, vs, rfl, k _ _ (fun q => n1 (q ▸ ⟨d + 1, _, e, by simp [AO.foot]⟩)) e2, x.keep fun o => k d o fun q => n1 (q ▸ ⟨d + 1, _, e, by simp [AO.foot]⟩), r.move S⟩
theorem FRel.store {s : Shared} {x : Str} {v : Value} {a : AV} (f : FRel X P env st m s) (r : VR (DD X st P (ownOf env)) s.heap v a) (hk : env.kindOf x = some .local ∨ env.kindOf x = some .cell) {G : Unit → Shared → Prop} {E : Value → Shared → Prop}
 (k : ∀ s', FRel X P env st (upd m x a) s' → Step (DD X st P (ownOf env)) s.heap s'.heap → G () s') : wpAny (model X.prog X.w) A (storeName env x v) G E s := by
 rcases hk with hk | hk
 ·refine E1A2 (f.f.ns) fun mv hns hv => ?_
  refine wpAny_storeName_local hk hns (fun h' hn hs => ?_) (by show (env.scope.kind == .class || _) = false; rw [f.f.kind]; rfl)
  have ho : ownOf env env.locals := .inl rfl
  have hd : DD X st P (ownOf env) env.locals := .inr (.inr (.inl ho))
  refine A3 (f.own _ ho) fun n1 n2 n3 => ?_
  have kk : ∀ b o, b ≠ env.locals → s.heap.get? b = some o → h'.get? b = some o := fun b o hb e => (hs.2 b hb).trans e
  have S : ∀ b o, s.heap.get? b = some o → ¬ DD X st P (ownOf env) b → h'.get? b = some o ∧ ¬ DD X st P (ownOf env) b := fun b o e nd => ⟨kk b o (fun q => nd (q ▸ hd)) e, nd⟩
  refine k _ ⟨f.g.at_own hd n1 n2 n3 kk, ⟨f.f.kind, f.f.glob, f.f.bi, ⟨_, hn, fun y hy => ?_⟩, fun y hy => ?_, f.f.apart, f.f.apartL⟩, f.own⟩ fun b o e nd => (S b o e nd).1
  ·by_cases q : y = x
   ·subst q; simp only [if_pos, upd]; exact r.move S
   ·simp only [upd, if_neg q]; exact (hv y hy).move S
  ·refine E2A3 (f.f.cl y hy) fun c ov h1 h2 h3 => ?_
   refine ⟨c, ov, h1, h2.sameBut hs (f.f.apartL y c hy h1), ?_⟩
   have q : y ≠ x := fun q => by subst q; rw [hk] at hy; rcases hy with hy | hy <;> cases hy
   simp only [upd, if_neg q]; exact h3.move S
 ·refine E2A3 (f.f.cl x (.inl hk)) fun c ov h1 h2 h3 => ?_
  refine wpAny_storeName_cell f.f.kind hk h1 h2 fun h' hc hs => ?_
  have ho : ownOf env c := .inr ⟨x, hk, h1⟩
  have hd : DD X st P (ownOf env) c := .inr (.inr (.inl ho))
  refine A3 (f.own _ ho) fun n1 n2 n3 => ?_
  have kk : ∀ b o, b ≠ c → s.heap.get? b = some o → h'.get? b = some o := fun b o hb e => (hs.2 b hb).trans e
  have S : ∀ b o, s.heap.get? b = some o → ¬ DD X st P (ownOf env) b → h'.get? b = some o ∧ ¬ DD X st P (ownOf env) b := fun b o e nd => ⟨kk b o (fun q => nd (q ▸ hd)) e, nd⟩
  refine k _ ⟨f.g.at_own (tk := s.toks) hd n1 n2 n3 kk, ⟨f.f.kind, f.f.glob, f.f.bi, ?_, fun y hy => ?_, f.f.apart, f.f.apartL⟩, f.own⟩ fun b o e nd => (S b o e nd).1
  ·refine E1A2 (f.f.ns) fun mv hns hv => ?_
   refine ⟨mv, hns.sameBut hs (Ne.symm (f.f.apartL x c (.inl hk) h1)), fun y hy => ?_⟩
   have q : y ≠ x := fun q => by subst q; rw [hk] at hy; exact nomatch hy
   simp only [upd, if_neg q]; exact (hv y hy).move S
  ·by_cases q : y = x
   ·subst q; simp only [upd, if_pos]; exact ⟨c, _, h1, hc, r.move S⟩
   ·refine E2A3 (f.f.cl y hy) fun c' ov' h1' h2' h3' => ?_
    have qc : c' ≠ c := fun e => q (f.f.apart x y c hk hy h1 (e ▸ h1')).symm
    simp only [upd, if_neg q]; exact ⟨c', ov', h1', h2'.sameBut hs qc, h3'.move S⟩
noncomputable abbrev WX (X : Cx) (P : PL) (A : Around) (env : Env) (st : AS) (m : AM) (t : Sem Flow) (Q : AF → AS → AM → Prop) : Prop := W X P A env st m EF t Q
noncomputable abbrev WE (X : Cx) (P : PL) (A : Around) (env : Env) (st : AS) (m : AM) (t : Sem Value) (Q : AV → AS → AM → Prop) : Prop := W X P A env st m VR t Q
theorem WE.of {t : Sem Value} {a : AV} {Q : AV → AS → AM → Prop} (h : EV X P A env st m t a) (q : Q a st m) : WE X P A env st m t Q := h.mono fun _ _ _ ⟨e1, e2, e3⟩ => e1 ▸ e2 ▸ e3 ▸ q
variable {Q : AF → AS → AM → Prop}
noncomputable def storeOk (env : Env) (x : Str) : Bool := env.kindOf x == some .local || env.kindOf x == some .cell
theorem storeOk_kind {x : Str} (h : storeOk env x = true) : env.kindOf x = some .local ∨ env.kindOf x = some .cell := by
 unfold storeOk at h; simpa using h
theorem x_nil (q : Q .next st m) : WX X P A env st m (execs [] env) Q := fun _ f => wpAny_execs_nil ⟨.next, st, m, trivial, f, Step.refl _ _, Gr.refl _ _, q⟩
theorem x_cons {t : Stmt} {ts : List Stmt} (h : WX X P A env st m (exec t env) fun φ st₁ m₁ => match φ with | .next => WX X P A env st₁ m₁ (execs ts env) Q | φ => Q φ st₁ m₁) : WX X P A env st m (execs (t :: ts) env) Q := fun s f => by
 refine wpAny_execs_cons (W.on h f fun v b st₁ m₁ s₁ q f₁ r S₁ g₁ => ?_)
 cases v <;> cases b <;> first | exact r.elim | skip
 ·exact wpAny_mono (q s₁ f₁) (fun _ _ p => Post.after S₁ g₁ p) fun _ _ e => e
 ·exact ⟨.brk, st₁, m₁, trivial, f₁, S₁, g₁, q⟩
 ·exact ⟨.cont, st₁, m₁, trivial, f₁, S₁, g₁, q⟩
 ·exact ⟨.ret _, st₁, m₁, r, f₁, S₁, g₁, q⟩
theorem x_if {test : Expr} {body orelse : List Stmt} {pos : Pos} {b : Bool} (ht : EvT X P A env st m test b) (h₁ : b = true → WX X P A env st m (execs body env) Q) (h₂ : b = false → WX X P A env st m (execs orelse env) Q) :
 WX X P A env st m (exec (.If test body orelse pos) env) Q := fun s f => wpAny_If (ht.on f fun s₁ f₁ S₁ => by
  cases b with
  | true => exact wpAny_mono (h₁ rfl s₁ f₁) (fun _ _ p => Post.after S₁ (Gr.refl _ _) p) fun _ _ e => e
  | false => exact wpAny_mono (h₂ rfl s₁ f₁) (fun _ _ p => Post.after S₁ (Gr.refl _ _) p) fun _ _ e => e)
theorem x_ret {e : Expr} {pos : Pos} (h : WE X P A env st m (eval e env) fun a st' m' => Q (.ret a) st' m') : WX X P A env st m (exec (.Return (some e) pos) env) Q :=
 fun s f => wpAny_Return_some (W.on h f fun v b st₁ m₁ s₁ q f₁ r S₁ g₁ => ⟨.ret b, st₁, m₁, r, f₁, S₁, g₁, q⟩)
theorem x_assert {test : Expr} {msg : Option Expr} {pos : Pos} (h : EvT X P A env st m test true) (q : Q .next st m) : WX X P A env st m (exec (.Assert test msg pos) env) Q :=
 fun s f => wpAny_Assert_holds (h.on f fun s₁ f₁ S₁ => ⟨rfl, .next, st, m, trivial, f₁, S₁, Gr.refl _ _, q⟩)
theorem x_set {x : Str} {pos' : Pos} {value : Expr} {pos : Pos} (h : WE X P A env st m (eval value env) fun a st' m' => Q .next st' (upd m' x a)) (ok : storeOk env x = true)
 (hs : swapsWith value (some (.Name x pos')) pos.line env = pure false) : WX X P A env st m (exec (.Assign [.Name x pos'] value pos) env) Q :=
 fun s f => wpAny_Assign_Name (W.on h f fun v b st₁ m₁ s₁ q f₁ r S₁ g₁ => f₁.store r (storeOk_kind ok) fun s₂ f₂ S₂ => ⟨.next, st₁, _, trivial, f₂, S₁.trans S₂ (DD.grow g₁), g₁, q⟩) hs
theorem x_expr {e : Expr} {pos : Pos} (h : WE X P A env st m (eval e env) fun a st' m' => a = .none ∧ Q .next st' m') (hi : interactive env = false) (hs : swapsWith e none pos.line env = pure false) :
 WX X P A env st m (exec (.Expr e pos) env) Q :=
 fun s f => wpAny_Expr (W.on h f fun v b st₁ m₁ s₁ ⟨e, q⟩ f₁ r S₁ g₁ => by subst e; (first | cases r using VR.intE | cases r using VR.noneE | cases r using VR.boolE | cases r using VR.refE | cases r using VRs.nilE | cases r); exact ⟨.next, st₁, m₁, trivial, f₁, S₁, g₁, q⟩) hi hs
end
end J
namespace J
noncomputable def noOwn (_ : Addr) : Prop := False
noncomputable abbrev D0 (X : Cx) (st : AS) (P : PL) : Addr → Prop := DD X st P noOwn
noncomputable abbrev CRel (X : Cx) (P : PL) (st : AS) (s : Shared) : Prop := GRel X (D0 X st P) st P s
noncomputable def FrOk (A : Around) (P : PL) (L : Addr → Prop) : Prop := ∃ l, A.frames = some l ∧ ∀ e ∈ l, (e.frame = some e.locals ∧ e.scope.kind ≠ .module) ∧ (L e.locals ∨ ∃ o, (e.locals, o) ∈ P ∧ ∃ es n, o.data = .dict es n)
noncomputable abbrev locOf (env : Env) : Addr → Prop := fun b => b = env.locals
structure Room (n : Nat) (A : Around) (P : PL) (L : Addr → Prop) : Prop where
 handled : A.handled = none
 depth : A.depth + 2 * n + 110 < recursionLimit
 units : A.units + 20 * n < cLine
 frames : 50 ≤ n → FrOk A P L
theorem FrOk.more {A : Around} {P P' : PL} {L L' : Addr → Prop} (x : FrOk A P L) (h : ∀ p ∈ P, p ∈ P') (hL : ∀ b, L b → L' b ∨ ∃ o, (b, o) ∈ P' ∧ ∃ es n, o.data = .dict es n) : FrOk A P' L' :=
 let ⟨l, e, q⟩ := x; ⟨l, e, fun v hv => ⟨(q v hv).1, (q v hv).2.elim (hL _) fun ⟨o, ho, d⟩ => .inr ⟨o, h _ ho, d⟩⟩⟩
section
variable {P P' : PL} {L L' : Addr → Prop}
theorem Room.mono {n k : Nat} {A : Around} (r : Room n A P L) (h : k ≤ n) : Room k A P L := ⟨r.handled, by have := r.depth; lia, by have := r.units; lia, fun h' => r.frames (by lia)⟩
theorem Room.deeper {n : Nat} {A : Around} (r : Room (n + 1) A P noOwn) (env : Env) (he : env.frame = some env.locals ∧ env.scope.kind ≠ .module) : Room n (A.deeper env) P (locOf env) :=
 ⟨r.handled, by have := r.depth; show A.depth + 1 + 2 * n + 110 < _; lia, by have := r.units; show A.units + 3 + 20 * n < _; lia, fun h' => let ⟨l, e, q⟩ := r.frames (by lia); ⟨env :: l, by show A.frames.map _ = _; rw [e]; rfl, fun v hv => by
  rcases List.mem_cons.mp hv with rfl | hv
  ·exact ⟨he, .inl rfl⟩
  ·exact ⟨(q v hv).1, (q v hv).2.elim False.elim .inr⟩⟩⟩
theorem Room.in1 {n : Nat} {A : Around} (r : Room (n + 1) A P L) : Room n A.in1 P L :=
 ⟨r.handled, by have := r.depth; show A.depth + 2 * n + 110 < _; lia, by have := r.units; show A.units + 1 + 20 * n < _; lia, fun h' => r.frames (by lia)⟩
theorem Room.ok {n : Nat} {A : Around} (r : Room n A P L) : A.depth < recursionLimit := by have := r.depth; lia
theorem Room.more {n : Nat} {A : Around} (r : Room n A P L) (h : ∀ p ∈ P, p ∈ P') : Room n A P' L := ⟨r.handled, r.depth, r.units, fun h' => (r.frames h').more h fun _ => .inl⟩
end
inductive CPost (X : Cx) (P : PL) (st : AS) (s : Shared) (Q : AV → AS → Prop) (r : Result) (s' : Shared) : Prop
 | mk (v : Value) (b : AV) (st' : AS) (e : r = .ok (.ret v)) (rel : VR (D0 X st' P) s'.heap v b) (f : CRel X P st' s') (S : Step (D0 X st P) s.heap s'.heap) (g : Gr s.heap (Dom st) (Dom st')) (q : Q b st') : CPost X P st s Q r s'
noncomputable def FN (X : Cx) (n : Nat) (f : Addr) (st : AS) (args : List AV) (Q : AV → AS → Prop) : Prop :=
 ∀ P A s vals, Room n A P noOwn → CRel X P st s → VRs (D0 X st P) s.heap vals args → codeAny (model X.prog X.w) A (.call (.ref f) ⟨vals, []⟩) (CPost X P st s Q) s
noncomputable def bindA : List (Str × AV) → AM → AM
 | [], m => m
 | (n, a) :: r, m => bindA r (upd m n a)
inductive BR (D : Addr → Prop) (h : Heap) : List (Str × Value) → List (Str × AV) → Prop
 | nil : BR D h [] []
 | cons {n : Str} {v : Value} {a : AV} {bs : List (Str × Value)} {as : List (Str × AV)} : VR D h v a → BR D h bs as → BR D h ((n, v) :: bs) ((n, a) :: as)
theorem BR.move {D D' : Addr → Prop} {h h' : Heap} (S : ∀ b o, h.get? b = some o → ¬ D b → h'.get? b = some o ∧ ¬ D' b) {bs as} (x : BR D h bs as) : BR D' h' bs as := by
 induction x with
 | nil => exact .nil
 | cons x _ ih => exact .cons (x.move S) ih
theorem BR.append {D : Addr → Prop} {h : Heap} {bs as cs ds} (x : BR D h bs as) (y : BR D h cs ds) : BR D h (bs ++ cs) (as ++ ds) := by
 induction x with
 | nil => exact y
 | cons x _ ih => exact .cons x ih
section
variable {D : Addr → Prop} {h : Heap} {k : Str → Option NameKind}
theorem bindL_rel {bs : List (Str × Value)} {as : List (Str × AV)} (br : BR D h bs as) : ∀ (mv : Str → Option Value) (m : AM), (∀ x, k x = some .local → VRo D h (mv x) (m x)) →
 ∀ x, k x = some .local → VRo D h (bindL k bs mv x) (bindA as m x) := by
 induction br with
 | nil => exact fun _ _ h => h
 | @cons n v a bs as r rs ih =>
  refine fun mv m h => ih _ _ fun x hx => ?_
  by_cases q : x = n
  ·subst q; rw [if_pos hx]; simp only [if_pos, upd]; exact r
  ·rw [upd_ne q]
   split
   ·dsimp only; rw [if_neg q]; exact h x hx
   ·exact h x hx
theorem bindC_rel {bs : List (Str × Value)} {as : List (Str × AV)} (br : BR D h bs as) : ∀ (mv : Str → Option Value) (m : AM), (∀ x, k x = some .cell → VRo D h (mv x) (m x)) →
 ∀ x, k x = some .cell → VRo D h (bindC k bs mv x) (bindA as m x) := by
 induction br with
 | nil => exact fun _ _ h => h
 | @cons n v a bs as r rs ih =>
  refine fun mv m h => ih _ _ fun x hx => ?_
  by_cases q : x = n
  ·subst q; rw [if_neg (by rw [hx]; decide)]; simp only [if_pos, upd]; exact r
  ·rw [upd_ne q]
   split
   ·exact h x hx
   ·dsimp only; rw [if_neg q]; exact h x hx
end
theorem VRo_none {D : Addr → Prop} {h : Heap} (v : Option Value) : VRo D h v none := by cases v <;> trivial
section
variable {X : Cx} {P : PL} {st : AS} {m : AM} {s s' : Shared} {env : Env}
theorem CRel.din (g : CRel X P st s) {b : Addr} (d : D0 X st P b) : ∃ o, s.heap.get? b = some o := by
 refine O4 d (fun hr1 => E2A2 hr1 fun a o e hb => ?_) (fun hp => ?_) (fun ho => ?_) (fun ht => ?_); all_goals clear d
 ·exact (g.objs a o e).foot_in b hb
 ·refine E1A2 (List.mem_map.mp hp) fun p hp' hn1 => ?_; obtain rfl := hn1
  refine E1A2 (g.priv p hp') fun o e _ => ?_; exact ⟨o, e⟩
 ·exact ho.elim
 ·refine E1A2 (List.mem_map.mp ht) fun t ht' hn2 => ?_; obtain rfl := hn2
  refine E1A2 (g.tabs t ht') fun _ a _ => ?_
  exact ⟨_, a.2⟩
theorem get_ge {h : Heap} {b : Addr} (e : h.objs.size ≤ b) : h.get? b = none := by
 cases q : h.get? b with
 | none => rfl
 | some o => exact absurd (Heap.lt_size q) (Nat.not_lt.mpr e)
theorem enter (g : CRel X P st s) {h' : Heap} {tk : Nat} (k : ∀ b o, s.heap.get? b = some o → h'.get? b = some o) (kind : env.scope.kind = .function) (glob : env.globals = mainGlobals) (bi : env.builtins = builtinsNs)
 (fresh : ∀ b, ownOf env b → s.heap.get? b = none)
 (ns : ∃ mv, h'.Ns env.locals mv ∧ ∀ x, env.kindOf x = some .local → VRo (DD X st P (ownOf env)) h' (mv x) (m x))
 (cl : ∀ x, (env.kindOf x = some .cell ∨ env.kindOf x = some .free) → ∃ c ov, env.cells.lookup x = some c ∧ h'.IsCell c ov ∧ VRo (DD X st P (ownOf env)) h' ov (m x))
 (apart : ∀ x y c, env.kindOf x = some .cell → env.kindOf y = some .cell ∨ env.kindOf y = some .free → env.cells.lookup x = some c → env.cells.lookup y = some c → x = y)
 (apartL : ∀ x c, env.kindOf x = some .cell ∨ env.kindOf x = some .free → env.cells.lookup x = some c → c ≠ env.locals) : FRel X P env st m { s with heap := h', toks := tk } := by
 have nd : ∀ b o, s.heap.get? b = some o → ¬ D0 X st P b → h'.get? b = some o ∧ ¬ DD X st P (ownOf env) b := fun b o e n => ⟨k b o e, fun d => by
  rcases d with d | d | d | d
  ·exact n (.inl d)
  ·exact n (.inr (.inl d))
  ·rw [fresh b d] at e; exact J.ns e
  ·exact n (.inr (.inr (.inr d)))⟩
 refine ⟨⟨fun b o e => k b o (g.base b o e), fun t ht => let ⟨more, a, b⟩ := g.tabs t ht; ⟨more, a.keeps k, b.keeps k⟩, fun a o e => ?_, fun b d => ?_, fun p hp => (g.priv p hp).by (k _), g.off, g.gens, g.os, g.tabc, g.nolim, g.tabp⟩,
  ⟨kind, glob, bi, ns, cl, apart, apartL⟩, fun b ho => ?_⟩
 ·have z := g.objs a o e
  cases o with
  | list l => refine E2A2 z fun vs n e2 r => ?_; clear z; exact ⟨vs, n, k _ _ e2, r.move nd⟩
  | inst C ns l => refine E2A4 z fun d vs e1 e2 x r => ?_; clear z; exact ⟨d, vs, e1, k _ _ e2, x.keep (k _), r.move nd⟩
 ·rcases d with d | d | d | d
  ·exact g.lo b (.inl d)
  ·exact g.lo b (.inr (.inl d))
  ·cases q : X.g0.get? b with
   | none => rfl
   | some o => have := g.base b o q; rw [fresh b d] at this; exact J.ns this
  ·exact g.lo b (.inr (.inr (.inr d)))
 ·have hf := fresh b ho
  refine ⟨fun d => ?_, fun d => ?_, fun d => ?_⟩
  ·refine E1 (CRel.din g (.inl d)) fun o e => ?_; rw [hf] at e; exact J.ns e
  ·refine E1 (CRel.din g (.inr (.inl d))) fun o e => ?_; rw [hf] at e; exact J.ns e
  ·refine E1 (CRel.din g (.inr (.inr (.inr d)))) fun o e => ?_; rw [hf] at e; exact J.ns e
theorem FRel.out (f : FRel X P env st m s) : CRel X P st s := by
 have w : ∀ b, D0 X st P b → DD X st P (ownOf env) b := fun b d => d.imp id fun d => d.imp id fun d => d.imp False.elim id
 exact ⟨f.g.base, f.g.tabs, fun a o e => (f.g.objs a o e).anti w, fun b d => f.g.lo b (w b d), f.g.priv, f.g.off, f.g.gens, f.g.os, f.g.tabc, f.g.nolim, f.g.tabp⟩
theorem DD.of0 {b : Addr} (d : D0 X st P b) : DD X st P (ownOf env) b := d.imp id fun d => d.imp id fun d => d.imp False.elim id
end
theorem cells_lookup {x : Str} (n : Nat) (names : List (Str × NameKind)) (h : names.lookup x = some .cell) : ∃ c, (cellsFrom n names []).lookup x = some c :=
 Option.isSome_iff_exists.mp (cellsFrom_some names n [] (.inl h))
section
variable {X : Cx} {n : Nat} {f : Addr} {st : AS} {args : List AV} {Q : AV → AS → Prop}
noncomputable abbrev noM : AM := fun _ => none
theorem FN.of {name qual : Str} {params : Arguments} {body : List Stmt} {scope : Scope} {dV kV doc pm cdv ct oc : Value} {an od : Option Addr} {osl : Array (Option Value)} {abinds : List (Str × AV)}
 (hK : X.K.In X.g0) (ho : X.K.lookup f = some ⟨oc, od, .func (fnOf name qual params body scope dV kV doc pm an cdv ct), osl⟩) (hcd : codeIn X.K cdv qual = true)
 (hbind : ∀ (P : PL) (s : Shared) (vals : List Value), CRel X P st s → VRs (D0 X st P) s.heap vals args → ∃ binds, BindsTo s (fnOf name qual params body scope dV kV doc pm an cdv ct) ⟨vals, []⟩ binds ∧ BR (D0 X st P) s.heap binds abinds)
 (hk : scope.kind = .function) (hco : scope.isCoroutine = false) (hgen : scope.isGenerator = false)
 (hkind : (abinds.all fun y => scope.names.lookup y.1 == some .local || scope.names.lookup y.1 == some .cell) = true) (hfree' : (scope.names.all fun y => y.2 != .free) = true)
 (h : ∀ P A L, Room n A P (locOf (envOfC qual scope L f cdv)) → (50 ≤ n → ∃ l, A.frames = some (envOfC qual scope L f cdv :: l)) → WX X P A (envOfC qual scope L f cdv) st (bindA abinds noM) (execs body (envOfC qual scope L f cdv))
  fun φ st' _ => match φ with | .ret a => Q a st' | _ => Q .none st') : FN X (n + 1) f st args Q := by
 have hfree : ∀ x, scope.names.lookup x ≠ some .free := fun x e => by
  have := List.all_eq_true.mp hfree' _ (mem_of_lookup e)
  exact J.ft this
 intro P A s vals R g rv
 refine E1A2 (hbind P s vals g rv) fun binds hb br => ?_
 have hX : X.K.In s.heap := hK.keeps g.base
 have hlim : s.heap.NoLimit := g.nolim.keeps g.base
 refine codeAny_call_function (body := body) R.ok (hX _ _ ho) rfl hco hgen rfl (codeRec_of hX hcd) (hb _ _ _ _ ?_)
 have hkb : ∀ x ∈ binds, scope.names.lookup x.1 = some .local ∨ (scope.names.lookup x.1 = some .cell ∧ ((cellsFrom (s.heap.objs.size + 1) scope.names []).lookup x.1).isSome = true) := by
  clear hb h hbind
  induction br with
  | nil => intro x hx; exact J.mn hx
  | cons r rs ih =>
   rw [List.all_cons, Bool.and_eq_true] at hkind
   intro x hx
   rcases List.mem_cons.mp hx with rfl | hx
   ·refine O2 (Bool.or_eq_true_iff.mp hkind.1) (fun q => ?_) (fun q => ?_)
    ·exact .inl (by simpa using q)
    ·have q' := beq_iff_eq.mp q
     refine E1 (cells_lookup (s.heap.objs.size + 1) scope.names q') fun c hc => ?_
     exact .inr ⟨q', by rw [hc]; rfl⟩
   ·exact ih hkind.2 x hx
 refine wpAny_newFunctionEnv_cells hk hkb fun env' he s' x => ?_
 subst he
 obtain ⟨⟨h₁, tk, rfl⟩, hns, hkeep, hfr⟩ := x.toInCall
 refine ⟨hlim.keeps hkeep, codeAny_func ?_⟩
 have nm : ∀ b o, s.heap.get? b = some o → ¬ D0 X st P b → h₁.get? b = some o ∧ ¬ DD X st P (ownOf (envOfC qual scope s.heap.objs.size f cdv)) b := fun b o e nd => ⟨hkeep b o e, fun d => by
  rcases d with d | d | d | d
  ·exact nd (.inl d)
  ·exact nd (.inr (.inl d))
  ·rcases d with rfl | ⟨y, _, hc⟩
   ·exact absurd (Heap.lt_size e) (Nat.lt_irrefl _)
   ·exact absurd (Heap.lt_size e) (Nat.not_lt.mpr (Nat.le_of_lt (x.above y b (mem_of_lookup hc))))
  ·exact nd (.inr (.inr (.inr d)))⟩
 have br' := br.move nm
 have F : FRel X P (envOfC qual scope s.heap.objs.size f cdv) st (bindA abinds noM) { s with heap := h₁, toks := tk } := by
  refine enter g hkeep hk rfl rfl ?_ ⟨_, hns, ?_⟩ ?_ ?_ ?_
  ·rintro b (rfl | ⟨y, _, hc⟩)
   ·exact get_size _
   ·exact get_ge (Nat.le_of_lt (x.above y b (mem_of_lookup hc)))
  ·exact bindL_rel br' _ _ fun y _ => VRo_none _
  ·rintro y (hy | hy)
   ·refine E1 (cells_lookup (s.heap.objs.size + 1) scope.names hy) fun c hc => ?_
    exact ⟨c, _, hc, x.cell y c hc, bindC_rel br' _ _ (fun y _ => VRo_none _) y hy⟩
   ·exact absurd hy (hfree y)
  ·intro y z c _ _ h1 h2
   exact name_of_addr x.apart (mem_of_lookup h1) (mem_of_lookup h2)
  ·intro y c _ hc e
   have := x.above y c (mem_of_lookup hc)
   rw [e] at this
   exact Nat.lt_irrefl _ this
 have B := h P (A.deeper (envOfC qual scope s.heap.objs.size f cdv)) s.heap.objs.size (R.deeper _ ⟨rfl, by rw [show (envOfC qual scope s.heap.objs.size f cdv).scope.kind = _ from hk]; decide⟩) (fun h' => by refine E1A2 (R.frames (by lia)) fun l hl _ => ?_; exact ⟨l, by show A.frames.map _ = _; rw [hl]; rfl⟩) _ F
 refine wpAny_mono B (fun fl s₂ p => ?_) fun _ _ e => e.elim
 obtain ⟨b, st', m', r, f', S, G, q⟩ := p
 have S' : Step (D0 X st P) s.heap s₂.heap := fun b o e nd => S b o (nm b o e nd).1 (nm b o e nd).2
 have G' : Gr s.heap (Dom st) (Dom st') := fun b o e d => G b o (hkeep b o e) d
 cases fl <;> cases b <;> first | exact r.elim | skip
 ·exact ⟨_, .none, st', rfl, .none, f'.out, S', G', q⟩
 ·exact ⟨_, .none, st', rfl, .none, f'.out, S', G', q⟩
 ·exact ⟨_, .none, st', rfl, .none, f'.out, S', G', q⟩
 ·exact ⟨_, _, st', rfl, VR.anti (fun b d => DD.of0 d) r, f'.out, S', G', q⟩
end
end J
namespace J
theorem lk_hd {n : Str} {ns : List Str} {a : AV} {l : List AV} : ((n :: ns).zip (a :: l)).lookup n = some a := by
 rw [List.zip_cons_cons, List.lookup_cons, beq_self_eq_true]
theorem lk_tl {n k : Str} {ns : List Str} {a b : AV} {l : List AV} (h : (k == n) = false) (t : (ns.zip l).lookup k = some a) : ((n :: ns).zip (b :: l)).lookup k = some a := by
 rw [List.zip_cons_cons, List.lookup_cons, h]; exact t
theorem um_hd {m : AM} {x : Str} {a : AV} : upd m x a x = some a := upd_same m x a
theorem um_tl {m : AM} {x y : Str} {a b : AV} (h : (y == x) = false) (t : m y = some a) : upd m x b y = some a := by
 rw [upd_ne (fun q => by rw [q, beq_self_eq_true] at h; exact J.tf h)]; exact t
noncomputable def plainAttr (K : Frag) (C : Addr) (name : Str) : Bool :=
 (clsIn K C).any (·.hasDict) && (match findIn K (.ref C) name with | some none => true | _ => false) &&
  (findIn K (.ref C) "__getattribute__" == some (some (.builtin "object.__getattribute__")))
theorem Ents.look {D : Addr → Prop} {h : Heap} {name : Str} {es : List DictEntry} {ns : List Str} {vs : List Value} {l : List AV} (x : Ents es ns vs) (y : VRs D h vs l) {a : AV} (e : (ns.zip l).lookup name = some a) :
 ∃ e, es.find? (·.key.isStr name) = some e ∧ VR D h e.val a := by
 induction x generalizing l with
 | nil => exact J.ns e
 | @cons hash t n v es ns vs x ih =>
  revert e
  refine VRs.consV (M := fun l => ((n :: ns).zip l).lookup name = some a → _) (fun {b l} r rs e => ?_) y
  rw [List.zip_cons_cons, List.lookup_cons] at e
  by_cases q : name == n
  ·rw [q] at e
   refine ⟨_, List.find?_cons_of_pos ?_, Option.some.inj e ▸ r⟩
   show (n == name) = true
   rw [beq_iff_eq.mp q]; exact beq_self_eq_true n
  ·rw [Bool.not_eq_true] at q
   rw [q] at e
   refine E1A2 (ih rs e) fun e' h1 h2 => ?_
   refine ⟨e', ?_, h2⟩
   rw [List.find?_cons_of_neg]; exact h1
   show ¬ (n == name) = true
   intro z
   rw [beq_iff_eq.mp z, beq_self_eq_true] at q; exact J.tf q
theorem VR.handed {D : Addr → Prop} {h : Heap} {v : Value} {a : AV} (x : VR D h v a) : handedIn v = true :=
 VR.rec (motive_1 := fun v _ _ => handedIn v = true) (motive_2 := fun _ _ _ => True) rfl (fun _ => rfl) (fun _ _ => rfl) (fun _ => rfl) (fun e _ => e) (fun _ _ _ _ => rfl) (fun _ _ _ _ => rfl) (fun _ r => r) (fun _ _ _ _ _ _ => rfl) trivial (fun _ _ _ _ => trivial) x
section
variable {X : Cx} {P : PL} {A : Around} {env : Env} {st : AS} {m : AM}
theorem FRel.kin {s : Shared} (f : FRel X P env st m s) (hK : X.K.In X.g0) : X.K.In s.heap := hK.keeps f.g.base
theorem find_plain {K : Frag} {C : Addr} {name : Str} {od : Obj} {v : Value} (hp : plainAttr K C name = true) (hl : lookIn name od = some (some v)) :
 findObj K C (some od) name = some (.value v) ∧ findIn K (.ref C) "__getattribute__" = some (some (.builtin "object.__getattribute__")) := by
 unfold plainAttr at hp
 simp only [Bool.and_eq_true, beq_iff_eq] at hp
 refine A2 hp fun hn1 h3 => ?_; clear hp; refine A2 hn1 fun h1 h2 => ?_; clear hn1
 refine ⟨?_, h3⟩
 refine E1A2 (any_some h1) fun cd hc hd => ?_
 unfold findObj
 rw [hc]
 simp only [Option.bind_some]
 split at h2
 ·rename_i q
  rw [q]
  simp only [Option.bind_some]
  unfold W.ownOf
  rw [if_pos hd]
  dsimp only
  rw [hl]
  rfl
 ·exact J.ft h2
theorem inst_at {D : Addr → Prop} {h : Heap} {a C : Addr} {ns : List Str} {vs : List Value} (e : h.get? (a + 1) = some (instObj C a)) (x : DictAt h a ns vs) : ∃ es n, InstAt h (a + 1) (instObj C a) C (some ⟨.type "dict", none, .dict es.toArray n, #[]⟩) ∧ Ents es ns vs :=
 let ⟨es, n, e2, q⟩ := x; ⟨es, n, ⟨e, rfl, rfl, e2⟩, q⟩
theorem attr_load {s : Shared} {d C : Addr} {ns : List Str} {vs : List Value} {l : List AV} {attr : Str} {a : AV} {expr : Bool} (hK : X.K.In X.g0) (f : FRel X P env st m s) (e : s.heap.get? (d + 1) = some (instObj C d)) (x : DictAt s.heap d ns vs) (r : VRs (DD X st P (ownOf env)) s.heap vs l)
 (hp : plainAttr X.K C attr = true) (hl : (ns.zip l).lookup attr = some a) :
 wpAny (model X.prog X.w) A (getAttr (.ref (d + 1)) attr expr) (Post X P env st s VR (Is a st m)) (fun _ _ => False) s := by
 refine E2A2 (inst_at (D := fun _ => False) e x) fun es n I q => ?_
 refine E1A2 (q.look r hl) fun en h1 h2 => ?_
 refine A2 (find_plain (od := ⟨.type "dict", none, .dict es.toArray n, #[]⟩) (v := en.val) hp (by unfold lookIn; dsimp only; rw [h1])) fun h3 h4 => ?_
 exact get_value (f.kin hK) I h4 h3 h2.handed (Post.same f h2)
end
end J
namespace J
section
variable {X : Cx} {P : PL} {A : Around} {env : Env} {st : AS} {m : AM}
set_option tactic.hygienic true in
theorem nsIn_is {K : Frag} {h : Heap} {x : Str} {a : Addr} {r : Option Value} {mg : Str → Option Value} (hK : K.In h) (hn : h.Ns a mg) (e : nsIn K a x = some r) : mg x = r := by
 refine E3A4 hn fun o es ep ho hd hs hm => ?_; clear hn
 unfold nsIn at e
 split at e
 ·rename_i c d es' n sl q
  have := hK _ _ q
  rw [ho] at this; revert this; refine J.sse ?_; rintro rfl
  cases hd
  rw [← hm x]
  unfold nsFind findBy
  rw [← Array.find?_toList]
  split at e
  ·rename_i en he; cases e; rw [he]; rfl
  ·rename_i he
   split at e
   ·cases e
   ·cases e; rw [he]; rfl
 ·exact J.ns e
noncomputable def globAt (K : Frag) (env : Env) (x : Str) (v : Value) : Bool := (nsIn K mainGlobals x == some (some v)) && (env.kindOf x == some .globalImplicit) && !(x == ("__debug__" : Str))
theorem e_glob {x : Str} {pos : Pos} {a : Addr} (hX : X.Ok) (ok : globAt X.K env x (.ref a) = true) : EV X P A env st m (eval (.Name x pos) env) (.ref a) := fun s f => by
 unfold globAt at ok
 simp only [Bool.and_eq_true, Bool.not_eq_true', beq_iff_eq] at ok
 refine A2 ok fun hn1 hd => ?_; clear ok; refine A2 hn1 fun e hk => ?_; clear hn1
 refine E1 (hX.glob) fun mg hg => ?_
 refine Name_function_global f.f.kind hk (loadGlobal_global (mg := mg) ?_ (nsIn_is hX.kin hg e) (Post.eq f (.ref a))) hd
 rw [f.f.glob]; exact hg.keeps f.g.base
noncomputable def bltAt (K : Frag) (env : Env) (x : Str) (v : Value) : Bool := (nsIn K mainGlobals x == some none) && (bootBuiltins x == some v) && handedIn v && !(v == .none) && !(x == ("__name__" : Str)) && (env.kindOf x == some .globalImplicit) && !(x == ("__debug__" : Str))
theorem e_blt {x : Str} {pos : Pos} {v : Value} (hX : X.Ok) (ok : bltAt X.K env x v = true) : EV X P A env st m (eval (.Name x pos) env) (.val v) := fun s f => by
 unfold bltAt at ok
 simp only [Bool.and_eq_true, Bool.not_eq_true', beq_iff_eq] at ok
 refine A2 ok fun hn2 hd => ?_; clear ok; refine A2 hn2 fun hn3 hk => ?_; clear hn2; refine A2 hn3 fun hn4 hn => ?_; clear hn3; refine A2 hn4 fun hn5 hz => ?_; clear hn4; refine A2 hn5 fun hn6 hh => ?_; clear hn5; refine A2 hn6 fun e hv => ?_; clear hn6
 refine E1 (hX.glob) fun mg hg => ?_
 refine E1A2 (hX.bi) fun mb hb hbb => ?_
 refine Name_function_global f.f.kind hk (loadGlobal_builtin (mg := mg) (mb := mb) ?_ (nsIn_is hX.kin hg e) ?_ ((hbb x (fun q => by rw [q] at hn; simp at hn)).trans hv) (Post.eq f (.val hh hz))) hd
 ·rw [f.f.glob]; exact hg.keeps f.g.base
 ·rw [f.f.bi]; exact hb.keeps f.g.base
noncomputable def EVA (X : Cx) (P : PL) (A : Around) (env : Env) (st : AS) (m : AM) (es : List Expr) (as : List AV) : Prop :=
 ∀ pos, (backTo pos (starEach es env)).any (·.1) = false ∧ ∀ fv s, FRel X P env st m s → wpAny (model X.prog X.w) A (evalArgs fv true (backTo pos (starEach es env)) [])
  (fun x s' => ∃ vs, x = ⟨vs, []⟩ ∧ VRs (DD X st P (ownOf env)) s'.heap vs as ∧ FRel X P env st m s' ∧ Step (DD X st P (ownOf env)) s.heap s'.heap) (fun _ _ => False) s
theorem ea_nil : EVA X P A env st m [] [] := fun _ => ⟨rfl, fun _ _ f => PyProof.Rows.evalArgs_none ⟨[], rfl, .nil, f, Step.refl _ _⟩⟩
theorem ea {e : Expr} {es : List Expr} {as : List AV} (h : EVL X P A env st m (e :: es) as) (hp : (starEach (e :: es) env).any (·.1) = false) (he : starEach (e :: es) env = (false, eval e env) :: starEach es env) : EVA X P A env st m (e :: es) as := fun pos => by
 refine ⟨?_, fun fv s f => ?_⟩
 ·unfold backTo; rw [List.any_map]; exact hp
 ·have h' := h pos s f
  rw [he] at h' ⊢
  exact evalArgs_plain (wpAny_mono h' (fun vs s' ⟨a, b, c⟩ => ⟨vs, rfl, a, b, c⟩) fun _ _ e => e)
theorem objs_of {h : Heap} : ∀ {l : List Addr}, (∀ b ∈ l, ∃ o, h.get? b = some o) → ∃ O : PL, O.map (·.1) = l ∧ ∀ p ∈ O, h.get? p.1 = some p.2
 | [], _ => ⟨[], rfl, fun _ h => nomatch h⟩
 | b :: l, q => by
  refine E1 (q b (.head _)) fun o e => ?_
  refine E1A2 (objs_of fun c hc => q c (.tail _ hc)) fun O h1 h2 => ?_
  refine ⟨(b, o) :: O, by rw [List.map_cons, h1], fun p hp => ?_⟩
  rcases List.mem_cons.mp hp with rfl | hp
  ·exact e
  ·exact h2 p hp
theorem own_list (env : Env) : ∃ l : List Addr, ∀ b, ownOf env b ↔ b ∈ l := by
 classical
 refine ⟨env.locals :: (env.cells.map (·.2)).filter fun c => decide (∃ x, env.kindOf x = some .cell ∧ env.cells.lookup x = some c), fun b => ?_⟩
 rw [List.mem_cons, List.mem_filter, decide_eq_true_eq]
 refine ⟨fun h => h.imp id fun ⟨x, h1, h2⟩ => ⟨List.mem_map.mpr ⟨(x, b), mem_of_lookup h2, rfl⟩, x, h1, h2⟩, fun h => h.imp id fun h => h.2⟩
theorem ns_near {h h' : Heap} {a : Addr} {mv : Str → Option Value} (hn : h.Ns a mv) (k : ∀ o, h.get? a = some o → Pv h' (a, o)) : h'.Ns a mv := by
 refine E3A3 hn fun o es ep e hd r => ?_; clear hn
 refine E1A2 ((k o e).data) fun o' e' hd' => ?_
 exact ⟨o', es, ep, e', hd'.trans hd, r⟩
theorem FRel.leave {s : Shared} (f : FRel X P env st m s) : ∃ P', CRel X P' st s ∧ (∀ n A, Room n A P (locOf env) → Room n A P' noOwn) ∧ (∀ b, D0 X st P' b ↔ DD X st P (ownOf env) b) ∧
 ∀ st' s', CRel X P' st' s' → Step (D0 X st P') s.heap s'.heap → Gr s.heap (Dom st) (Dom st') →
  FRel X P env st' m s' ∧ Step (DD X st P (ownOf env)) s.heap s'.heap ∧ ∀ b, DD X st' P (ownOf env) b → D0 X st' P' b := by
 refine E1 (own_list env) fun l hl => ?_
 refine E1A2 (objs_of (h := s.heap) (l := l) fun b hb => f.din (.inr (.inr (.inl ((hl b).mpr hb))))) fun O ho1 ho2 => ?_
 have iff : ∀ (st' : AS) (b : Addr), D0 X st' (O ++ P) b ↔ DD X st' P (ownOf env) b := fun st' b => by
  unfold D0 DD noOwn
  rw [List.map_append, List.mem_append, ho1, ← hl b]
  constructor
  ·rintro (d | (d | d) | d | d)
   ·exact .inl d
   ·exact .inr (.inr (.inl d))
   ·exact .inr (.inl d)
   ·exact d.elim
   ·exact .inr (.inr (.inr d))
  ·rintro (d | d | d | d)
   ·exact .inl d
   ·exact .inr (.inl (.inr d))
   ·exact .inr (.inl (.inl d))
   ·exact .inr (.inr (.inr d))
 refine ⟨O ++ P, ⟨f.g.base, f.g.tabs, fun a o e => (f.g.objs a o e).anti fun b d => (iff st b).mp d, fun b d => f.g.lo b ((iff st b).mp d), fun p hp => ?_, fun b d => ⟨fun q => ?_, (f.g.off b d).2⟩, f.g.gens, f.g.os, f.g.tabc, f.g.nolim, fun t ht q => (by rw [List.map_append, List.mem_append, ho1, ← hl] at q; exact q.elim (fun q => (f.own _ q).2.2 (List.mem_map_of_mem ht)) (f.g.tabp t ht))⟩, fun n A R => ⟨R.handled, R.depth, R.units, fun h' => (R.frames h').more (fun p hp => List.mem_append_right _ hp) fun b hb => ?_⟩, iff st, ?_⟩
 ·rcases List.mem_append.mp hp with hp | hp
  ·exact .of (ho2 p hp)
  ·exact f.g.priv p hp
 ·rw [List.map_append, List.mem_append, ho1, ← hl b] at q
  rcases q with q | q
  ·exact (f.own b q).1 d
  ·exact (f.g.off b d).1 q
 ·subst hb
  refine E1A2 (f.f.ns) fun mv hn7 _ => ?_; refine E3A3 hn7 fun o es ep e hd _ => ?_; clear hn7
  have hm : env.locals ∈ O.map (·.1) := by rw [ho1]; exact (hl _).mp (.inl rfl)
  refine E1A2 (List.mem_map.mp hm) fun p hp hp1 => ?_
  have e2 := ho2 p hp
  rw [hp1, e] at e2
  exact .inr ⟨p.2, List.mem_append_left _ (by rw [← hp1]; exact hp), es, ep, by (revert e2; refine J.sse ?_; rintro rfl); exact hd⟩
 ·intro st' s' g S G
  have keep' : ∀ b, ownOf env b → ∀ o, s.heap.get? b = some o → Pv s'.heap (b, o) := fun b hb o e => by
   have hm : b ∈ O.map (·.1) := by rw [ho1]; exact (hl b).mp hb
   refine E1A2 (List.mem_map.mp hm) fun p hp hn8 => ?_; obtain rfl := hn8
   have := ho2 p hp
   rw [e] at this; revert this; refine J.sse ?_; rintro rfl
   exact g.priv p (List.mem_append_left _ hp)
  have keep : ∀ b, ownOf env b → ∀ o, s.heap.get? b = some o → (∀ es n, o.data ≠ .dict es n) → s'.heap.get? b = some o := fun b hb o e hd => (keep' b hb o e).exact hd
  have nog : ∀ b, ownOf env b → ¬ Dom st' b := fun b hb d => by
   refine E1 (f.din (.inr (.inr (.inl hb)))) fun o e => ?_
   exact (f.own b hb).1 (G b o e d)
  have S' : Step (DD X st P (ownOf env)) s.heap s'.heap := fun b o e nd => S b o e fun d => nd ((iff st b).mp d)
  have mv : ∀ b o, s.heap.get? b = some o → ¬ DD X st P (ownOf env) b → s'.heap.get? b = some o ∧ ¬ DD X st' P (ownOf env) b := fun b o e nd => ⟨S' b o e nd, fun d => by
   rcases d with d | d | d | d
   ·exact nd (.inl (G b o e d))
   ·exact nd (.inr (.inl d))
   ·exact nd (.inr (.inr (.inl d)))
   ·exact nd (.inr (.inr (.inr d)))⟩
  refine ⟨⟨⟨g.base, g.tabs, fun a o e => (g.objs a o e).anti fun b d => (iff st' b).mpr d, fun b d => g.lo b ((iff st' b).mpr d), fun p hp => g.priv p (List.mem_append_right _ hp), fun b d => ⟨fun q => ?_, (g.off b d).2⟩, g.gens, g.os, g.tabc, g.nolim, fun t ht q => g.tabp t ht (by rw [List.map_append, List.mem_append]; exact .inr q)⟩,
   ⟨f.f.kind, f.f.glob, f.f.bi, ?_, fun x hx => ?_, f.f.apart, f.f.apartL⟩, fun b hb => ⟨nog b hb, (f.own b hb).2⟩⟩, S', fun b d => (iff st' b).mpr d⟩
  ·exact (g.off b d).1 (by rw [List.map_append, List.mem_append]; exact .inr q)
  ·refine E1A2 (f.f.ns) fun mv' hn hv => ?_
   exact ⟨mv', ns_near hn fun o e => keep' _ (.inl rfl) o e, fun x hx => (hv x hx).move mv⟩
  ·refine E2A3 (f.f.cl x hx) fun c ov h1 h2 h3 => ?_
   refine ⟨c, ov, h1, ?_, h3.move mv⟩
   refine E1A2 h2 fun o e hd => ?_; clear h2
   rcases hx with hx | hx
   ·exact ⟨o, keep c (.inr ⟨x, hx, h1⟩) o e (fun es n z => by rw [hd] at z; exact nomatch z), hd⟩
   ·by_cases q : DD X st P (ownOf env) c
    ·rcases q with q | q | q | q
     ·refine E2A2 q fun a ao ea hb => ?_; clear q
      have z := f.g.objs a ao ea
      exfalso
      cases ao with
      | list l => refine E2A2 z fun _ _ e2 _ => ?_; clear z; simp only [AO.foot, List.mem_singleton] at hb; subst hb; rw [e] at e2; revert e2; refine J.sse ?_; rintro rfl; exact nomatch hd
      | inst C ns l =>
       refine E2A2 z fun d _ hn9 hn10 => ?_; clear z; obtain rfl := hn9; refine A3 hn10 fun e2 hn11 _ => ?_; clear hn10; refine E2A2 hn11 fun _ _ e3 _ => ?_; clear hn11
       simp only [AO.foot, List.mem_cons, List.not_mem_nil, or_false, Nat.add_sub_cancel] at hb
       rcases hb with rfl | rfl
       ·rw [e] at e2; revert e2; refine J.sse ?_; rintro rfl; exact nomatch hd
       ·rw [e] at e3; revert e3; refine J.sse ?_; rintro rfl; exact nomatch hd
     ·refine E1A2 (List.mem_map.mp q) fun p hp hn12 => ?_; obtain rfl := hn12
      refine E1A2 ((f.g.priv p hp).data) fun o2 e2 hd2 => ?_
      rw [e] at e2; revert e2; refine J.sse ?_; rintro rfl
      exact ⟨_, (g.priv p (List.mem_append_right _ hp)).exact (fun es n z => by rw [← hd2, hd] at z; exact nomatch z), by rw [← hd2, hd]⟩
     ·exact ⟨o, keep c q o e (fun es n z => by rw [hd] at z; exact nomatch z), hd⟩
     ·exfalso
      refine E1A2 (List.mem_map.mp q) fun t ht hn13 => ?_; obtain rfl := hn13
      refine E1A2 (f.g.tabs t ht) fun _ a _ => ?_
      rw [a.2] at e; revert e; refine J.sse ?_; rintro rfl; exact nomatch hd
    ·exact ⟨o, S' c o e q, hd⟩
theorem call_fn {n : Nat} {g : Addr} {args : List AV} {Q : AV → AS → Prop} {s : Shared} {vals : List Value} (h : FN X n g st args Q) (R : Room n A P (locOf env)) (f : FRel X P env st m s) (r : VRs (DD X st P (ownOf env)) s.heap vals args) :
 wpAny (model X.prog X.w) A (call (.ref g) vals []) (Post X P env st s VR fun a st' m' => Q a st' ∧ m' = m) (fun _ _ => False) s := by
 refine E1A4 (f.leave) fun P' c hR hd back => ?_
 refine wpAny_call (codeAny_mono (h P' A s vals (hR _ _ R) c (r.anti fun b d => (hd b).mp d)) fun res s' p => ?_)
 obtain ⟨v, b, st', rfl, rv, g', S, G, q⟩ := p
 refine A3 (back st' s' g' S G) fun f' S' w => ?_
 exact ⟨b, st', m, rv.anti w, f', S', G, q, rfl⟩
theorem c_with {fv : Value} {first : List Value} {es : List Expr} {as : List AV} {pos : Pos} {s : Shared} {G : Value → Shared → Prop} (hX : X.Ok) (hk : keepIn X.K fv = true) (h : EVA X P A env st m es as) (f : FRel X P env st m s)
 (k : ∀ vs s₁, FRel X P env st m s₁ → VRs (DD X st P (ownOf env)) s₁.heap vs as → Step (DD X st P (ownOf env)) s.heap s₁.heap → wpAny (model X.prog X.w) A (call fv (first ++ vs) []) G (fun _ _ => False) s₁) :
 wpAny (model X.prog X.w) A (callWith pos fv first (backTo pos (starEach es env)) []) G (fun _ _ => False) s := by
 refine A2 (h pos) fun h1 h2 => ?_
 refine callWith_of (P := X.K.In) (by rw [h1]; rfl) (keeps_K hk) (wpAny_mono (h2 fv s f) (fun x s₁ p => ?_) fun _ _ e => e)
 refine E1A2 p fun vs hn16 hn17 => ?_; clear p; obtain rfl := hn16; refine A3 hn17 fun r f₁ S₁ => ?_; clear hn17
 exact ⟨f₁.kin hX.kin, k vs s₁ f₁ r S₁⟩
theorem e_call {x : Str} {xp pos : Pos} {es : List Expr} {as : List AV} {g : Addr} {n : Nat} {Q : AV → AS → Prop} (hX : X.Ok) (hf : EV X P A env st m (eval (.Name x xp) env) (.ref g)) (hk : keepIn X.K (.ref g) = true) (ha : EVA X P A env st m es as) (h : FN X n g st as Q) (R : Room n A P (locOf env)) :
 WE X P A env st m (eval (.Call (.Name x xp) es [] pos) env) fun a st' m' => Q a st' ∧ m' = m := fun s f =>
 wpAny_Call_NameR (hf.on f fun v s₁ f₁ r S₁ => by
  (first | cases r using VR.intE | cases r using VR.noneE | cases r using VR.boolE | cases r using VR.refE | cases r using VRs.nilE | cases r)
  refine c_with hX hk ha f₁ fun vs s₂ f₂ r₂ S₂ => ?_
  exact wpAny_mono (call_fn h R f₂ r₂) (fun _ _ p => Post.after (S₁.on S₂) (Gr.refl _ _) p) fun _ _ e => e)
noncomputable def methodAt (K : Frag) (C : Addr) (name : Str) (g : Addr) : Bool :=
 (findIn K (.ref C) "__getattribute__" == some (some (.builtin "object.__getattribute__"))) && (findIn K (.ref C) "__getattr__" == some none) && (findIn K (.ref C) name == some (some (.ref g))) && (typeIn K (.ref g) == some (.type "function"))
theorem Ents.miss {name : Str} {es : List DictEntry} {ns : List Str} {vs : List Value} (x : Ents es ns vs) (e : ns.contains name = false) : es.find? (·.key.isStr name) = none ∧ es.any (·.refKey) = false := by
 induction x with
 | nil => exact ⟨rfl, rfl⟩
 | @cons hash t n v es ns vs x ih =>
  rw [List.contains_cons, Bool.or_eq_false_iff] at e
  refine A2 (ih e.2) fun h1 h2 => ?_
  refine ⟨?_, ?_⟩
  ·rw [List.find?_cons_of_neg]; exact h1
   show ¬ (n == name) = true
   intro z
   rw [beq_iff_eq.mp z, beq_self_eq_true] at e; exact J.tf e.1
  ·rw [List.any_cons, h2]; rfl
theorem get_meth {s : Shared} {d C : Addr} {ns : List Str} {vs : List Value} {name : Str} {g : Addr} {pl : Sem Bool} {G : Value × List Value → Shared → Prop} {E : Value → Shared → Prop} (hK : X.K.In s.heap) (e : s.heap.get? (d + 1) = some (instObj C d)) (x : DictAt s.heap d ns vs)
 (hm : methodAt X.K C name g = true) (hh : ns.contains name = false) (k : G (.ref g, [.ref (d + 1)]) s) : wpAny (model X.prog X.w) A (getMethod (.ref (d + 1)) name pl) G E s := by
 unfold methodAt at hm
 simp only [Bool.and_eq_true, beq_iff_eq] at hm
 refine A2 hm fun hn18 h4 => ?_; clear hm; refine A2 hn18 fun hn19 h3 => ?_; clear hn18; refine A2 hn19 fun h1 h2 => ?_; clear hn19
 refine E2A2 (inst_at (D := fun _ => False) e x) fun es n I q => ?_
 refine A2 (q.miss hh) fun q1 q2 => ?_
 refine method_fn hK I h1 h2 h3 h4 ?_ k
 unfold shadowIn lookIn
 dsimp only
 rw [q1]
 rw [q2]; rfl
noncomputable abbrev FNv (X : Cx) (n : Nat) (g : Addr) (st : AS) (args : List AV) (a : AV) : Prop := FN X n g st args fun b st' => b = a ∧ st' = st
theorem EV.ofW {t : Sem Value} {a : AV} (h : WE X P A env st m t fun b st' m' => (b = a ∧ st' = st) ∧ m' = m) : EV X P A env st m t a := h.mono fun _ _ _ ⟨⟨h1, h2⟩, h3⟩ => ⟨h1, h2, h3⟩
noncomputable def propAt (K : Frag) (C : Addr) (name : Str) (p g : Addr) : Bool :=
 (findIn K (.ref C) "__getattribute__" == some (some (.builtin "object.__getattribute__"))) && (findIn K (.ref C) "__getattr__" == some none) && (clsIn K C).isSome && (findIn K (.ref C) name == some (some (.ref p))) &&
  (specialIn K (.ref p) "__get__" == some (some (.builtin "property.__get__"))) && (takesIn K (.ref p) == some true) && (match recIn K p "property" with | some (.ref f :: _) => f == g | _ => false)
end
end J
namespace J
noncomputable def put (st : AS) (a : Addr) (o : AO) : AS := fun b => if b = a then some o else st b
noncomputable def drop (st : AS) (a : Addr) : AS := fun b => if b = a then none else st b
theorem put_same (st : AS) (a : Addr) (o : AO) : put st a o a = some o := if_pos rfl
theorem put_ne {st : AS} {a b : Addr} {o : AO} (h : b ≠ a) : put st a o b = st b := if_neg h
theorem put_put (st : AS) (a : Addr) (o o' : AO) : put (put st a o) a o' = put st a o' := by funext b; unfold put; split <;> rfl
theorem drop_put {st : AS} {a : Addr} {o : AO} (h : st a = none) : drop (put st a o) a = st := by
 funext b; unfold put drop; split
 ·rename_i q; rw [q, h]
 ·rename_i q; exact if_neg q
theorem put_self {st : AS} {a : Addr} {o : AO} (h : st a = some o) : put st a o = st := by
 funext b; unfold put; split
 ·rename_i q; rw [q, h]
 ·rfl
theorem Dom.put {st : AS} {a : Addr} {o : AO} {b : Addr} (d : Dom (put st a o) b) : Dom st b ∨ b ∈ AO.foot a o := by
 refine E2A2 d fun c o' e hb => ?_; clear d
 unfold J.put at e
 split at e
 ·rename_i q; subst q; revert e; refine J.sse ?_; rintro rfl; exact .inr hb
 ·exact .inl ⟨c, o', e, hb⟩
theorem Dom.of_drop {st : AS} {a : Addr} {b : Addr} (d : Dom (drop st a) b) : Dom st b := by
 refine E2A2 d fun c o' e hb => ?_; clear d
 unfold J.drop at e
 split at e
 ·exact J.ns e
 ·exact ⟨c, o', e, hb⟩
theorem foot_apart {D : Addr → Prop} {h : Heap} {a b : Addr} {o o' : AO} (x : AOAt D h a o) (y : AOAt D h b o') (n : a ≠ b) : ∀ c, c ∈ AO.foot a o → c ∉ AO.foot b o' := by
 intro c h1 h2
 cases o with
 | list l =>
  refine E2A2 x fun vs k e _ => ?_; clear x
  simp only [AO.foot, List.mem_singleton] at h1; subst h1
  cases o' with
  | list l' => simp only [AO.foot, List.mem_singleton] at h2; exact n h2
  | inst C ns l' =>
   refine E2A2 y fun d vs' hn1 hn2 => ?_; clear y; obtain rfl := hn1; refine A3 hn2 fun e2 hn3 _ => ?_; clear hn2; refine E2A2 hn3 fun es k' e3 _ => ?_; clear hn3
   simp only [AO.foot, List.mem_cons, List.not_mem_nil, or_false, Nat.add_sub_cancel] at h2
   rcases h2 with h2 | h2
   ·exact n h2
   ·subst h2; rw [e] at e3; simp at e3
 | inst C ns l =>
  refine E2A2 x fun d vs hn4 hn5 => ?_; clear x; obtain rfl := hn4; refine A3 hn5 fun e2 hn6 _ => ?_; clear hn5; refine E2A2 hn6 fun es k' e3 _ => ?_; clear hn6
  simp only [AO.foot, List.mem_cons, List.not_mem_nil, or_false, Nat.add_sub_cancel] at h1
  cases o' with
  | list l' =>
   refine E2A2 y fun vs k e _ => ?_; clear y
   simp only [AO.foot, List.mem_singleton] at h2; subst h2
   rcases h1 with h1 | h1
   ·exact n h1.symm
   ·rw [h1] at e; rw [e] at e3; simp at e3
  | inst C' ns' l' =>
   refine E2A2 y fun d' vs' hn7 hn8 => ?_; clear y; obtain rfl := hn7; refine A3 hn8 fun e2' hn9 _ => ?_; clear hn8; refine E2A2 hn9 fun es' k'' e3' _ => ?_; clear hn9
   simp only [AO.foot, List.mem_cons, List.not_mem_nil, or_false, Nat.add_sub_cancel] at h2
   rcases h1 with h1 | h1 <;> rcases h2 with h2 | h2
   ·exact n (h1.symm.trans h2)
   ·rw [← h1, h2] at e2; rw [e2] at e3'; simp at e3'
   ·rw [← h2, h1] at e2'; rw [e2'] at e3; simp at e3
   ·exact n (by rw [← h1, ← h2])
theorem AOAt.move {D D' : Addr → Prop} {h h' : Heap} {a : Addr} (S : ∀ b o, h.get? b = some o → ¬ D b → h'.get? b = some o ∧ ¬ D' b) : ∀ {o : AO}, (∀ b, b ∈ AO.foot a o → ∀ x, h.get? b = some x → h'.get? b = some x) → AOAt D h a o → AOAt D' h' a o
 | .list _, k, ⟨vs, n, e, r⟩ => ⟨vs, n, k a (by simp [AO.foot]) _ e, r.move S⟩
 | .inst .., k, ⟨d, vs, e1, e2, x, r⟩ => ⟨d, vs, e1, k a (by simp [AO.foot]) _ e2, x.keep fun o => k d (by subst e1; simp [AO.foot]) o, r.move S⟩
section
variable {X : Cx} {P : PL} {A : Around} {env : Env} {st : AS} {m : AM} {s : Shared}
theorem GRel.lift {D : Addr → Prop} {h' : Heap} {tk : Nat} (g : GRel X D st P s) (k : ∀ b o, s.heap.get? b = some o → h'.get? b = some o) (a : Addr) (o : AO) {D' : Addr → Prop} (_sub : ∀ b, D b → D' b) (nw : ∀ b, D' b → D b ∨ b ∈ AO.foot a o) (fresh : ∀ b, b ∈ AO.foot a o → s.heap.get? b = none)
 (at' : AOAt D' h' a o) : GRel X D' (put st a o) P { s with heap := h', toks := tk } := by
 have S : ∀ b x, s.heap.get? b = some x → ¬ D b → h'.get? b = some x ∧ ¬ D' b := fun b x e nd => ⟨k b x e, fun d => (nw b d).elim nd fun q => by rw [fresh b q] at e; cases e⟩
 refine ⟨fun b x e => k b x (g.base b x e), fun t ht => let ⟨more, a, b⟩ := g.tabs t ht; ⟨more, a.keeps k, b.keeps k⟩, fun b x e => ?_, fun b d => ?_, fun p hp => (g.priv p hp).by (k _), fun b d => ?_, g.gens, g.os, g.tabc, g.nolim, g.tabp⟩
 ·unfold put at e
  split at e
  ·rename_i q; revert e; refine J.sse ?_; rintro rfl; rw [q]; exact at'
  ·exact (g.objs b x e).move S fun c _ y => k c y
 ·refine O2 (nw b d) (fun d => ?_) (fun d => ?_)
  ·exact g.lo b d
  ·cases q : X.g0.get? b with
   | none => rfl
   | some y => have := g.base b y q; rw [fresh b d] at this; exact J.ns this
 ·refine O2 (d.put) (fun d => ?_) (fun d => ?_)
  ·exact g.off b d
  ·have hf := fresh b d
   refine ⟨fun q => ?_, fun q => ?_⟩
   ·refine E1A2 (List.mem_map.mp q) fun p hp hn10 => ?_; obtain rfl := hn10
    refine E1A2 (g.priv p hp) fun _ this _ => ?_; rw [hf] at this; exact J.ns this
   ·refine E1A2 (List.mem_map.mp q) fun t ht hn11 => ?_; obtain rfl := hn11
    refine E1A2 (g.tabs t ht) fun _ y _ => ?_
    have := y.2; rw [hf] at this; exact J.ns this
theorem DD.put_sub {own : Addr → Prop} {a : Addr} {o : AO} (ha : ∀ o', st a = some o' → AO.foot a o' = AO.foot a o) : ∀ b, DD X st P own b → DD X (put st a o) P own b := fun b d => by
 rcases d with ⟨c, o', e, hb⟩ | d
 ·by_cases q : c = a
  ·subst q; exact .inl ⟨c, o, put_same .., by rw [← ha o' e]; exact hb⟩
  ·exact .inl ⟨c, o', by rw [put_ne q]; exact e, hb⟩
 ·exact .inr d
theorem DD.put_nw {own : Addr → Prop} {a : Addr} {o : AO} : ∀ b, DD X (put st a o) P own b → DD X st P own b ∨ b ∈ AO.foot a o := fun b d => by
 rcases d with d | d
 ·exact d.put.imp .inl id
 ·exact .inl (.inr d)
theorem FRel.add {h' : Heap} {tk : Nat} (f : FRel X P env st m s) (k : ∀ b o, s.heap.get? b = some o → h'.get? b = some o) (a : Addr) (o : AO) (fresh : ∀ b, b ∈ AO.foot a o → s.heap.get? b = none) (at' : AOAt (DD X (put st a o) P (ownOf env)) h' a o) :
 FRel X P env (put st a o) m { s with heap := h', toks := tk } ∧ Gr s.heap (Dom st) (Dom (put st a o)) ∧ st a = none := by
 have hn : st a = none := by
  cases q : st a with
  | none => rfl
  | some o' =>
   refine E1 ((f.g.objs a o' q).foot_in a (by cases o' <;> simp [AO.foot])) fun x e => ?_
   rw [fresh a (by cases o <;> simp [AO.foot])] at e; exact J.ns e
 have sub := DD.put_sub (X := X) (P := P) (own := ownOf env) (st := st) (a := a) (o := o) fun o' e => by rw [hn] at e; exact J.ns e
 have S : ∀ b x, s.heap.get? b = some x → ¬ DD X st P (ownOf env) b → h'.get? b = some x ∧ ¬ DD X (put st a o) P (ownOf env) b := fun b x e nd => ⟨k b x e, fun d => (DD.put_nw b d).elim nd fun q => by rw [fresh b q] at e; cases e⟩
 refine ⟨⟨f.g.lift k a o sub DD.put_nw fresh at', ⟨f.f.kind, f.f.glob, f.f.bi, let ⟨mv, a, b⟩ := f.f.ns; ⟨mv, a.keeps k, fun x e => (b x e).move S⟩,
  fun x e => let ⟨c, ov, a, b, r⟩ := f.f.cl x e; ⟨c, ov, a, b.keeps k, r.move S⟩, f.f.apart, f.f.apartL⟩, fun b hb => ⟨fun d => ?_, (f.own b hb).2⟩⟩, fun b x e d => ?_, hn⟩
 ·refine O2 (d.put) (fun d => ?_) (fun d => ?_)
  ·exact (f.own b hb).1 d
  ·refine E1 (f.din (.inr (.inr (.inl hb)))) fun x e => ?_
   rw [fresh b d] at e; exact J.ns e
 ·refine O2 (d.put) (fun d => ?_) (fun d => ?_)
  ·exact d
  ·rw [fresh b d] at e; exact J.ns e
theorem FRel.mod {h' : Heap} {tk : Nat} (f : FRel X P env st m s) {a : Addr} {o₀ o : AO} (ha : st a = some o₀) (hf : AO.foot a o₀ = AO.foot a o) (k : ∀ b x, b ∉ AO.foot a o → s.heap.get? b = some x → h'.get? b = some x) (at' : AOAt (DD X st P (ownOf env)) h' a o) :
 FRel X P env (put st a o) m { s with heap := h', toks := tk } ∧ Step (DD X st P (ownOf env)) s.heap h' ∧ Gr s.heap (Dom st) (Dom (put st a o)) := by
 have inD : ∀ b, b ∈ AO.foot a o → Dom st b := fun b hb => ⟨a, o₀, ha, by rw [hf]; exact hb⟩
 have same : ∀ b, DD X (put st a o) P (ownOf env) b ↔ DD X st P (ownOf env) b := fun b => ⟨fun d => (DD.put_nw b d).elim id fun q => .inl (inD b q), DD.put_sub (fun o' e => by rw [ha] at e; revert e; refine J.sse ?_; rintro rfl; exact hf) b⟩
 have sd : ∀ b, Dom (put st a o) b → Dom st b := fun b d => d.put.elim id (inD b)
 have S : ∀ b x, s.heap.get? b = some x → ¬ DD X st P (ownOf env) b → h'.get? b = some x ∧ ¬ DD X (put st a o) P (ownOf env) b := fun b x e nd => ⟨k b x (fun q => nd (.inl (inD b q))) e, fun d => nd ((same b).mp d)⟩
 have kf : ∀ b x, ¬ Dom st b → s.heap.get? b = some x → h'.get? b = some x := fun b x nd e => k b x (fun q => nd (inD b q)) e
 refine ⟨⟨⟨fun b x e => kf b x (fun d => ?_) (f.g.base b x e), fun t ht => ?_, fun b x e => ?_, fun b d => f.g.lo b ((same b).mp d), fun p hp => (f.g.priv p hp).by fun o => kf _ o (fun d => (f.g.off _ d).1 (List.mem_map_of_mem hp)), fun b d => f.g.off b (sd b d), f.g.gens, f.g.os, f.g.tabc, f.g.nolim, f.g.tabp⟩,
  ⟨f.f.kind, f.f.glob, f.f.bi, ?_, fun x hx => ?_, f.f.apart, f.f.apartL⟩, fun b hb => ⟨fun d => (f.own b hb).1 (sd b d), (f.own b hb).2⟩⟩, fun b x e nd => (S b x e nd).1, fun b x e d => sd b d⟩
 ·have := f.g.lo b (.inl d); rw [e] at this; exact J.sn this
 ·refine E1A2 (f.g.tabs t ht) fun more a1 b1 => ?_
  have c1 : ∀ b ∈ AO.foot a o, b ≠ t.1 := fun b hb q => by refine E1 (f.g.tabc t ht) fun o e => ?_; have := f.g.lo b (.inl (inD b hb)); rw [q, e] at this; exact J.sn this
  have c2 : ∀ b ∈ AO.foot a o, b ≠ t.2.1 := fun b hb q => (f.g.off b (inD b hb)).2 (q ▸ List.mem_map_of_mem ht)
  have k1 : ∀ x, s.heap.get? t.1 = some x → h'.get? t.1 = some x := fun x => k t.1 x fun q => c1 _ q rfl
  have k2 : ∀ x, s.heap.get? t.2.1 = some x → h'.get? t.2.1 = some x := fun x => k t.2.1 x fun q => c2 _ q rfl
  refine ⟨more, ?_, ?_⟩
  ·refine A2 a1 fun hn12 e2 => ?_; clear a1; refine E2A2 hn12 fun o1 vs e1 r => ?_; clear hn12; exact ⟨⟨o1, vs, k1 _ e1, r⟩, k2 _ e2⟩
  ·obtain ⟨o1, vs, file, tf, flags, tg, inF, text, tt, op, e1, r1, r2, r3, r4, r5, r6, e2, r⟩ := b1
   exact ⟨o1, vs, file, tf, flags, tg, inF, text, tt, op, k1 _ e1, r1, r2, r3, r4, r5, r6, k2 _ e2, r⟩
 ·unfold put at e
  split at e
  ·rename_i q; revert e; refine J.sse ?_; rintro rfl; rw [q]; exact at'.anti fun b d => (same b).mp d
  ·rename_i q
   exact (f.g.objs b x e).move S fun c hc y => k c y fun z => foot_apart (f.g.objs b x e) (f.g.objs a o₀ ha) q c hc (by rw [hf]; exact z)
 ·refine E1A2 (f.f.ns) fun mv hn hv => ?_
  exact ⟨mv, hn.at' fun x e => kf _ x (f.own _ (.inl rfl)).1 e, fun x hx => (hv x hx).move S⟩
 ·refine E2A3 (f.f.cl x hx) fun c ov h1 hn13 h3 => ?_; refine E1A2 hn13 fun x' e' hd => ?_; clear hn13
  refine ⟨c, ov, h1, ⟨x', kf c x' (fun d => ?_) e', hd⟩, h3.move S⟩
  refine E2A2 d fun b bo eb hb => ?_; clear d
  have z := f.g.objs b bo eb
  cases bo with
  | list l => refine E2A2 z fun _ _ e2 _ => ?_; clear z; simp only [AO.foot, List.mem_singleton] at hb; subst hb; rw [e'] at e2; revert e2; refine J.sse ?_; rintro rfl; exact nomatch hd
  | inst C ns l =>
   refine E2A2 z fun d _ hn14 hn15 => ?_; clear z; obtain rfl := hn14; refine A3 hn15 fun e2 hn16 _ => ?_; clear hn15; refine E2A2 hn16 fun _ _ e3 _ => ?_; clear hn16
   simp only [AO.foot, List.mem_cons, List.not_mem_nil, or_false, Nat.add_sub_cancel] at hb
   rcases hb with rfl | rfl
   ·rw [e'] at e2; revert e2; refine J.sse ?_; rintro rfl; exact nomatch hd
   ·rw [e'] at e3; revert e3; refine J.sse ?_; rintro rfl; exact nomatch hd
theorem FRel.freeze (f : FRel X P env st m s) {a : Addr} {o : AO} (ha : st a = some o) :
 FRel X P env (drop st a) m s ∧ VR (DD X (drop st a) P (ownOf env)) s.heap (.ref a) (match o with | .list l => .lst l | .inst C ns l => .inst C ns l) := by
 have w : ∀ b, DD X (drop st a) P (ownOf env) b → DD X st P (ownOf env) b := fun b d => d.imp Dom.of_drop id
 have nf : ∀ b ∈ AO.foot a o, ¬ DD X (drop st a) P (ownOf env) b := fun b hb d => by
  rcases d with ⟨c, o', e, hc⟩ | d | d | d
  ·unfold drop at e
   split at e
   ·exact J.ns e
   ·rename_i q; exact foot_apart (f.g.objs c o' e) (f.g.objs a o ha) q b hc hb
  ·exact (f.g.off b ⟨a, o, ha, hb⟩).1 d
  ·exact (f.own b d).1 ⟨a, o, ha, hb⟩
  ·exact (f.g.off b ⟨a, o, ha, hb⟩).2 d
 refine ⟨⟨⟨f.g.base, f.g.tabs, fun b x e => ?_, fun b d => f.g.lo b (w b d), f.g.priv, fun b d => f.g.off b d.of_drop, f.g.gens, f.g.os, f.g.tabc, f.g.nolim, f.g.tabp⟩,
  ⟨f.f.kind, f.f.glob, f.f.bi, let ⟨mv, a, b⟩ := f.f.ns; ⟨mv, a, fun x e => (b x e).move fun b o e nd => ⟨e, fun d => nd (w b d)⟩⟩,
   fun x e => let ⟨c, ov, a, b, r⟩ := f.f.cl x e; ⟨c, ov, a, b, r.move fun b o e nd => ⟨e, fun d => nd (w b d)⟩⟩, f.f.apart, f.f.apartL⟩, fun b hb => ⟨fun d => (f.own b hb).1 d.of_drop, (f.own b hb).2⟩⟩, ?_⟩
 ·unfold drop at e
  split at e
  ·exact J.ns e
  ·exact (f.g.objs b x e).anti w
 ·have z := f.g.objs a o ha
  cases o with
  | list l => refine E2A2 z fun vs n e r => ?_; clear z; exact .lst (nf a (by simp [AO.foot])) ⟨_, e⟩ (r.anti w)
  | inst C ns l => refine E2A2 z fun d vs hn17 hn18 => ?_; clear z; obtain rfl := hn17; refine A3 hn18 fun e x r => ?_; clear hn18; exact .inst (nf _ (by simp [AO.foot])) (nf d (by simp [AO.foot])) e x (r.anti w)
theorem FRel.forget (f : FRel X P env st m s) {a : Addr} : FRel X P env (drop st a) m s := by
 cases ha : st a with
 | some o => exact (f.freeze ha).1
 | none =>
  have : drop st a = st := by funext b; unfold drop; split; · rename_i q; rw [q, ha]
                              ·rfl
  rw [this]; exact f
noncomputable def AO.av : AO → AV
 | .list l => .lst l
 | .inst C ns l => .inst C ns l
theorem Gr.drop {h : Heap} {st st' : AS} {a : Addr} (g : Gr h (Dom st) (Dom st')) : Gr h (Dom st) (Dom (drop st' a)) := fun b o e d => g b o e d.of_drop
theorem Post.freeze {Q : AV → AS → AM → Prop} {v : Value} {s' : Shared} (x : Post X P env st s VR (fun b st' m' => ∃ a o, b = .ref a ∧ st' a = some o ∧ Q o.av (drop st' a) m') v s') : Post X P env st s VR Q v s' := by
 obtain ⟨b, st', m', r, f, S, g, a, o, rfl, ha, q⟩ := x
 refine A2 (f.freeze ha) fun f' r' => ?_
 (first | cases r using VR.intE | cases r using VR.noneE | cases r using VR.boolE | cases r using VR.refE | cases r using VRs.nilE | cases r)
 exact ⟨o.av, _, m', by cases o <;> exact r', f', S, g.drop, q⟩
theorem WE.freeze {t : Sem Value} {Q : AV → AS → AM → Prop} (h : WE X P A env st m t fun b st' m' => ∃ a o, b = .ref a ∧ st' a = some o ∧ Q o.av (drop st' a) m') : WE X P A env st m t Q :=
 fun s f => wpAny_mono (h s f) (fun _ _ p => p.freeze) fun _ _ e => e
theorem WX.forget {t : Sem Flow} {Q : AF → AS → AM → Prop} (a : Addr) (h : WX X P A env st m t fun b st' m' => Q b (drop st' a) m') : WX X P A env st m t Q :=
 fun s f => wpAny_mono (h s f) (fun v s' p => by
  obtain ⟨b, st', m', r, f, S, g, q⟩ := p
  refine ⟨b, _, m', ?_, f.forget, S, g.drop, q⟩
  cases v <;> cases b <;> first | exact r | exact VR.anti (fun b d => d.imp Dom.of_drop id) r) fun _ _ e => e
end
end J
section
open Builtin Builtin.ObjectAttr
namespace J
noncomputable def putNs (x : Str) : List Str → List Str
 | [] => [x]
 | n :: r => if n == x then n :: r else n :: putNs x r
noncomputable def putVs (x : Str) (a : AV) : List Str → List AV → List AV
 | [], _ => [a]
 | n :: r, b :: l => if n == x then a :: l else b :: putVs x a r l
 | _ :: _, [] => [a]
noncomputable def putVals (x : Str) (a : Value) : List Str → List Value → List Value
 | [], _ => [a]
 | n :: r, b :: l => if n == x then a :: l else b :: putVals x a r l
 | _ :: _, [] => [a]
theorem Ents.put {x : Str} {hash : Int} {t : Tok} {v : Value} {es : List DictEntry} {ns : List Str} {vs : List Value} (r : Ents es ns vs) : Ents (putL x hash (.str x t) v es) (putNs x ns) (putVals x v ns vs) := by
 induction r with
 | nil => exact .cons .nil
 | @cons h' t' n v' es ns vs r ih =>
  unfold putL putNs putVals
  show Ents (if (n == x) = true then _ else _) _ _
  cases q : n == x with
  | true => simp only [if_true]; exact .cons r
  | false => simp only [Bool.false_eq_true, if_false]; exact .cons ih
theorem VRs.put {D : Addr → Prop} {h : Heap} {x : Str} {v : Value} {a : AV} (z : VR D h v a) {ns : List Str} {vs : List Value} {l : List AV} (y : VRs D h vs l) : VRs D h (putVals x v ns vs) (putVs x a ns l) :=
 y.ind (M := fun vs l => ∀ ns, VRs D h (putVals x v ns vs) (putVs x a ns l)) (fun ns => by cases ns <;> exact .cons z .nil) (fun y ys ih ns => by
  cases ns with
  | nil => exact .cons z .nil
  | cons n r =>
   unfold putVals putVs
   cases q : n == x with
   | true => simp only [if_true]; exact .cons z ys
   | false => simp only [Bool.false_eq_true, if_false]; exact .cons y (ih r)) ns
theorem Ents.clean {name : Str} {es : List DictEntry} {ns : List Str} {vs : List Value} (x : Ents es ns vs) : es.any (·.refKey) = false := by
 induction x with
 | nil => rfl
 | cons _ ih => rw [List.any_cons, ih]; rfl
theorem Ents.len {es : List DictEntry} {ns : List Str} {vs : List Value} (x : Ents es ns vs) : es.length = ns.length := by
 induction x with
 | nil => rfl
 | cons _ ih => exact congrArg (· + 1) ih
noncomputable def setOk (K : Frag) (C : Addr) (name : Str) : Bool :=
 (findIn K (.ref C) "__setattr__" == some (some (.builtin "object.__setattr__"))) && plainOver K C && (takerIn K C name == some none) && (clsIn K C).any (·.hasDict)
section
variable {prog : Program} {w : World} {A : Around} {E : Value → Shared → Prop} {s : Shared} {K : Frag} {x C : Addr}
theorem osa_raw {R : Result → Shared → Prop} {ox : Obj} {dx : Addr} {name : Str} {tk : Tok} {v : Value} {es : List DictEntry} {n : Nat} (X : K.In s.heap)
 (I : InstAt s.heap x ox C (some (dictOf es n))) (hd : ox.dict = some dx) (hp : plainOver K C = true) (ht : takerIn K C name = some none) (hh : (clsIn K C).any (·.hasDict) = true)
 (hl : es.any (·.refKey) = false) (hz : (putL name (PyData.keyHash w.params name) (.str name s.toks) v es).length ≤ 1000)
 (h : R (.ok (.ret .none)) { s with heap := s.heap.update dx (Obj.putName name (PyData.keyHash w.params name) (.str name s.toks) v), toks := s.toks + 1 }) :
 codeAny (model prog w) A (.call (.builtin "object.__setattr__") ⟨[.ref x, .str name tk, v], []⟩) R s := by
 refine osa_open X I hp ht fun b => ?_
 refine E1A2 (any_some hh) fun cd hc hd' => ?_
 have D : s.heap.get? dx = some (dictOf es n) := by
  have := I.dict; rw [hd] at this; exact this
 have D' : (s.heap.update dx (Obj.putName name (PyData.keyHash w.params name) (.str name s.toks) v)).get? dx = some (dictOf (putL name (PyData.keyHash w.params name) (.str name s.toks) v es) (putN name es n)) := by
  rw [Heap.get?_update_self _ D (by rw [putName_dict]; rfl), putName_dict]
 obtain ⟨hx, hcl, hn, -⟩ := I
 obtain ⟨oc, odi, oda, osl⟩ := ox
 dsimp only at hcl hd
 subst hcl hd
 refine wpAny_bind (wpAny_pure (wpAny_bind (wpAny_bind (wpAny_loadPart hx (wpAny_bind ((looks_clsIn X hc).here ?_))))))
 rw [hd']
 refine wpAny_pure (a := some dx) (wpAny_bind (wpAny_pure (wpAny_bind ?_)))
 unfold nsSet
 refine wpAny_bind (wpAny_bind (wpAny_askSetting (wpAny_pure (wpAny_bind (wpAny_mkText (wpAny_bind (wpAny_loadPart D ?_)))))))
 have c : (!es.toArray.any (·.key.isStr name) && es.toArray.any (·.refKey)) = false := by
  rw [List.any_toArray, List.any_toArray, hl, Bool.and_false]
 dsimp only
 rw [aRefKeyMayBeTheName_at, c]
 refine wpAny_updatePart D ?_
 refine wpAny_bind (wpAny_lookBehind D' (pastItsLine_dict (by rw [List.size_toArray, sizeLine_eq]; lia)) ?_)
 exact wpAny_pure h
end
section
variable {X : Cx} {P : PL} {A : Around} {env : Env} {st : AS} {m : AM} {s : Shared}
theorem setattr_T {a C : Addr} {ns : List Str} {l : List AV} {name : Str} {v : Value} {b : AV} {G : Unit → Shared → Prop} {E : Value → Shared → Prop} (hX : X.Ok) (f : FRel X P env st m s) (ha : st a = some (.inst C ns l)) (r : VR (DD X st P (ownOf env)) s.heap v b)
 (ok : setOk X.K C name = true) (hz : ns.length ≤ 900)
 (k : ∀ s', FRel X P env (put st a (.inst C (putNs name ns) (putVs name b ns l))) m s' → Step (DD X st P (ownOf env)) s.heap s'.heap → Gr s.heap (Dom st) (Dom (put st a (.inst C (putNs name ns) (putVs name b ns l)))) → G () s') :
 wpAny (model X.prog X.w) A (setAttr (.ref a) name v) G E s := by
 unfold setOk at ok
 simp only [Bool.and_eq_true, beq_iff_eq] at ok
 refine A2 ok fun hn1 h4 => ?_; clear ok; refine A2 hn1 fun hn2 h3 => ?_; clear hn1; refine A2 hn2 fun h1 h2 => ?_; clear hn2
 refine E2A2 (f.g.objs a _ ha) fun d vs hn3 hn4 => ?_; obtain rfl := hn3; refine A3 hn4 fun e1 x rs => ?_; clear hn4
 refine E2A2 (inst_at (D := fun _ => False) e1 x) fun es n I q => ?_
 have I' : InstAt s.heap (d + 1) (instObj C d) C (some (dictOf es n)) := I
 refine set_plain (f.kin hX.kin) I' h1 (osa_raw (s := { s with toks := s.toks + 1 }) (f.kin hX.kin) I' rfl h2 h3 h4 (q.clean (name := name)) ?_ ?_)
 ·have := (q.put (x := name) (hash := PyData.keyHash X.w.params name) (t := s.toks + 1) (v := v)).len
  rw [this]
  have : ∀ ns : List Str, (putNs name ns).length ≤ ns.length + 1 := fun ns => by
   induction ns with
   | nil => exact Nat.le_refl _
   | cons n r ih => unfold putNs; split <;> simp only [List.length_cons] <;> lia
  have := this ns
  lia
 ·have hD : s.heap.get? d = some (dictOf es n) := I'.dict
  have hup := putName_dict name (PyData.keyHash X.w.params name) (.str name (s.toks + 1)) v es n
  have kk : ∀ b x, b ≠ d → s.heap.get? b = some x → (s.heap.update d (Obj.putName name (PyData.keyHash X.w.params name) (.str name (s.toks + 1)) v)).get? b = some x := fun b x hb e => (Heap.get?_update_other _ _ (Ne.symm hb)).trans e
  have md := f.mod (o := .inst C (putNs name ns) (putVs name b ns l)) (tk := s.toks + 1 + 1) ha rfl (h' := s.heap.update d (Obj.putName name (PyData.keyHash X.w.params name) (.str name (s.toks + 1)) v)) (fun b x hb e => kk b x (fun z => hb (by rw [z]; simp [AO.foot])) e)
   ⟨d, putVals name v ns vs, rfl, kk _ _ (Nat.succ_ne_self d) e1, ⟨_, _, by rw [Heap.get?_update_self _ hD (by rw [hup]; rfl), hup], q.put⟩, VRs.move (D := DD X st P (ownOf env)) (h := s.heap) (fun b x e nd => ⟨kk b x (fun z => nd (.inl ⟨d + 1, _, ha, by rw [z]; simp [AO.foot]⟩)) e, nd⟩) (VRs.put r rs)⟩
  exact k _ md.1 md.2.1 md.2.2
theorem x_setattr {x : Str} {xp pos' pos : Pos} {attr : Str} {value : Expr} {a C : Addr} {ns : List Str} {l : List AV} {Q : AF → AS → AM → Prop} (hX : X.Ok) (hv : WE X P A env st m (eval value env) fun b st' m' => m' x = some (.ref a) ∧ st' a = some (.inst C ns l) ∧ Q .next (put st' a (.inst C (putNs attr ns) (putVs attr b ns l))) m')
 (hn : nameOk env x = true) (ok : setOk X.K C attr = true) (hz : ns.length ≤ 900) (hs : swapsWith value (some (.Attribute (.Name x xp) attr pos')) pos.line env = pure false) :
 WX X P A env st m (exec (.Assign [.Attribute (.Name x xp) attr pos'] value pos) env) Q := fun s f =>
 plainObj_wpAny_Assign_Attribute (W.on hv f fun v b st₁ m₁ s₁ ⟨q1, q2, q3⟩ f₁ r S₁ g₁ => (e_name (X := X) (P := P) (A := A) (st := st₁) (pos := xp) q1 hn).on f₁ fun ov s₂ f₂ r₂ S₂ => by
  cases r₂
  exact setattr_T hX f₂ q2 (r.held S₂) ok hz fun s₃ f₃ S₃ g₃ => ⟨.next, _, m₁, trivial, f₃, (S₁.trans S₂ (DD.grow g₁)).trans S₃ (DD.grow g₁),
   grow_on (S₁.trans S₂ (DD.grow g₁)) g₁ f₃ g₃, q3⟩) hs
theorem w_newlist {pos : Pos} {Q : AV → AS → AM → Prop} (q : ∀ a, st a = none → Q (.ref a) (put st a (.list [])) m) : WE X P A env st m (eval (.List [] pos) env) Q := fun s f =>
 wpAny_List (spliced_nil ⟨by decide, by
  have k : ∀ b o, s.heap.get? b = some o → (s.heap.push ({ cls := .type "list", data := .seq [].toArray } : Obj)).get? b = some o := fun b o e => Heap.get?_push_of_some _ e
  refine A3 (f.add (tk := s.toks) k s.heap.objs.size (.list []) (fun b hb => by simp only [AO.foot, List.mem_singleton] at hb; rw [hb]; exact get_size _) ⟨[], 0, Heap.get?_push_size _ rfl, .nil⟩) fun f' g' hn => ?_
  exact ⟨_, _, m, .ref _, f', Step.of_keeps k, g', q _ hn⟩⟩)
theorem e_append {x : Str} {xp ap cp : Pos} {e : Expr} {a : Addr} {Q : AV → AS → AM → Prop} {pl : Sem Bool} (hx : EV X P A env st m (eval (.Name x xp) env) (.ref a))
 (hv : WE X P A env st m (eval e env) fun b st' m' => ∃ l, st' a = some (.list l) ∧ l.length ≤ sizeLine ∧ Q .none (put st' a (.list (l ++ [b]))) m') (hl : ∃ l, st a = some (.list l))
 (hse : starEach [e] env = [(false, eval e env)])
 (he : eval (.Call (.Attribute (.Name x xp) "append" ap) [e] [] cp) env = (do
  let ov ← eval (.Name x xp) env
  standAt ap.atName
  let (f, first) ← holding [ov] (getMethod ov "append" pl)
  callWith cp f first (backTo cp (starEach [e] env)) (backToKw cp (keywordEach [] env)))) :
 WE X P A env st m (eval (.Call (.Attribute (.Name x xp) "append" ap) [e] [] cp) env) Q := fun s f =>
 methodCall_KW (hx.on f fun v s₁ f₁ r S₁ => by
  (first | cases r using VR.intE | cases r using VR.noneE | cases r using VR.boolE | cases r using VR.refE | cases r using VRs.nilE | cases r)
  refine E1 hl fun l₀ hl₀ => ?_; clear hl
  refine E2A2 (f₁.g.objs a _ hl₀) fun vs₀ n₀ e₀ _ => ?_
  refine getMethod_list_append e₀ rfl rfl ?_
  refine callWith_method1 ?_ hse
  rw [hse]
  refine spliced_cons ?_
  refine W.on hv f₁ fun b bv st₂ m₂ s₂ q f₂ r₂ S₂ g₂ => ?_
  refine spliced_nil ?_
  refine E1A3 q fun l hl hz q => ?_
  obtain ⟨vs, n, e, rs⟩ := f₂.g.objs a _ hl
  refine wpAny_list_append_plain ⟨n, e⟩ (fun h' hp hs => ?_) (by rw [List.size_toArray, rs.length]; exact hz)
  obtain ⟨n', e'⟩ := hp
  have kk : ∀ b x, b ∉ AO.foot a (.list (l ++ [bv])) → s₂.heap.get? b = some x → h'.get? b = some x := fun b x hb e => (hs.2 b (fun z => hb (by rw [z]; simp [AO.foot]))).trans e
  have md := f₂.mod (o := .list (l ++ [bv])) (tk := s₂.toks) hl rfl kk ⟨vs ++ [b], n', by rw [e', List.push_toArray], VRs.move (D := DD X st₂ P (ownOf env)) (h := s₂.heap) (fun c x e nd => ⟨kk c x (fun z => nd (.inl ⟨a, _, hl, z⟩)) e, nd⟩) (rs.append (.cons r₂ .nil))⟩
  exact ⟨.none, _, m₂, .none, md.1, (S₁.trans S₂ (Gr.refl _ _)).trans md.2.1 (DD.grow (grow_on S₁ (Gr.refl _ _) f₂ g₂)), grow_on (S₁.on S₂) (grow_on S₁ (Gr.refl _ _) f₂ g₂) md.1 md.2.2, q⟩) he
end
end J
end
namespace J
noncomputable def newOk (K : Frag) (C fI : Addr) : Bool := makesIn K C && (findIn K (.ref C) "__init__" == some (some (.ref fI))) && (typeIn K (.ref fI) == some (.type "function"))
theorem Room.make {n : Nat} {A : Around} {P : PL} {L : Addr → Prop} (r : Room (n + 1) A P L) (C : Addr) (vals : List Value) : Room n (A.under (.builtin "type.__call__" ⟨.ref C :: vals, []⟩)) P L :=
 ⟨r.handled, by have := r.depth; rw [depth_under_make]; lia, by have := r.units; rw [units_under_make]; lia, fun h' => r.frames (by lia)⟩
section
variable {X : Cx} {P : PL} {A : Around} {env : Env} {st : AS} {m : AM} {s : Shared}
theorem call_new {C fI : Addr} {n : Nat} {as : List AV} {vals : List Value} {Q : Addr → AS → Prop} (hX : X.Ok) (ok : newOk X.K C fI = true) (h : ∀ a, st a = none → FN X n fI (put st a (.inst C [] [])) (.ref a :: as) fun b st' => b = .none ∧ Q a st') (R : Room (n + 1) A P (locOf env))
 (f : FRel X P env st m s) (r : VRs (DD X st P (ownOf env)) s.heap vals as) :
 wpAny (model X.prog X.w) A (call (.ref C) vals []) (Post X P env st s VR fun b st' m' => ∃ a, b = .ref a ∧ st a = none ∧ Q a st' ∧ m' = m) (fun _ _ => False) s := by
 unfold newOk at ok
 simp only [Bool.and_eq_true, beq_iff_eq] at ok
 refine A2 ok fun hn1 h3 => ?_; clear ok; refine A2 hn1 fun h1 h2 => ?_; clear hn1
 have hK := f.kin hX.kin
 obtain ⟨hh, g, d, t, os⟩ := s
 refine wpAny_call (make_core (makes_of hK h1) (looks_findIn hK h2) (fun self => bind_fn hK self h3) (.inl rfl) ?_)
 have k1 : ∀ b o, hh.get? b = some o → ((hh.push emptyDict).push (instObj C hh.objs.size)).get? b = some o := fun b o e => Heap.get?_push_of_some _ (Heap.get?_push_of_some _ e)
 have e1 : (hh.push emptyDict).get? hh.objs.size = some emptyDict := Heap.get?_push_size _ rfl
 have e2 : ((hh.push emptyDict).push (instObj C hh.objs.size)).get? (hh.objs.size + 1) = some (instObj C hh.objs.size) := by
  have := Heap.get?_push_size (hh.push emptyDict) (o := instObj C hh.objs.size) rfl
  rwa [Heap.size_push] at this
 obtain ⟨f', g', hn⟩ := f.add (tk := t) (h' := (hh.push emptyDict).push (instObj C hh.objs.size)) k1 (hh.objs.size + 1) (.inst C [] []) (fun b hb => by
  simp only [AO.foot, List.mem_cons, List.not_mem_nil, or_false, Nat.add_sub_cancel] at hb
  rcases hb with rfl | rfl
  ·exact get_ge (Nat.le_succ _)
  ·exact get_size _) ⟨hh.objs.size, [], rfl, e2, ⟨[], 0, Heap.get?_push_of_some _ e1, .nil⟩, .nil⟩
 refine E1A4 (f'.leave) fun P' c hR hd back => ?_
 have rv : VRs (D0 X (put st (hh.objs.size + 1) (.inst C [] [])) P') ((hh.push emptyDict).push (instObj C hh.objs.size)) (.ref (hh.objs.size + 1) :: vals) (.ref (hh.objs.size + 1) :: as) :=
  .cons (.ref _) (VRs.anti (fun b q => (hd b).mp q) (r.step (Step.of_keeps k1) (DD.grow g')))
 refine codeAny_mono (h _ hn P' _ _ _ ((hR _ _ R).make C vals) c rv) fun res s' p => ?_
 obtain ⟨v, b, st', rfl, rv', g'', S, G, rfl, q⟩ := p
 cases rv'
 refine A3 (back st' s' g'' S G) fun f'' S' w => ?_
 have S0 : Step (DD X st P (ownOf env)) hh ((hh.push emptyDict).push (instObj C hh.objs.size)) := Step.of_keeps k1
 exact ⟨rfl, .ref _, st', m, .ref _, f'', S0.trans S' (DD.grow g'), grow_on S0 g' f'' G, _, rfl, hn, q, rfl⟩
theorem e_new {x : Str} {xp pos : Pos} {es : List Expr} {as : List AV} {C fI : Addr} {n : Nat} {Q : Addr → AS → Prop} (hX : X.Ok) (hg : globAt X.K env x (.ref C) = true) (hk : keepIn X.K (.ref C) = true) (ha : EVA X P A env st m es as) (ok : newOk X.K C fI = true)
 (h : ∀ a, st a = none → FN X n fI (put st a (.inst C [] [])) (.ref a :: as) fun b st' => b = .none ∧ Q a st') (R : Room (n + 1) A P (locOf env)) :
 WE X P A env st m (eval (.Call (.Name x xp) es [] pos) env) fun b st' m' => ∃ a, b = .ref a ∧ st a = none ∧ Q a st' ∧ m' = m := fun s f =>
 wpAny_Call_NameR ((e_glob hX hg).on f fun v s₁ f₁ r S₁ => by
  (first | cases r using VR.intE | cases r using VR.noneE | cases r using VR.boolE | cases r using VR.refE | cases r using VRs.nilE | cases r)
  refine c_with hX hk ha f₁ fun vs s₂ f₂ r₂ S₂ => ?_
  exact wpAny_mono (call_new hX ok h R f₂ r₂) (fun _ _ p => Post.after (S₁.on S₂) (Gr.refl _ _) p) fun _ _ e => e)
noncomputable def Blt (X : Cx) (P : PL) (A : Around) (env : Env) (st : AS) (m : AM) (v : Value) (as : List AV) (Q : AV → AS → AM → Prop) : Prop :=
 ∀ s vals, FRel X P env st m s → VRs (DD X st P (ownOf env)) s.heap vals as → wpAny (model X.prog X.w) A (call v vals []) (Post X P env st s VR Q) (fun _ _ => False) s
theorem w_blt {x : Str} {xp pos : Pos} {es : List Expr} {as : List AV} {v : Value} {Q : AV → AS → AM → Prop} (hX : X.Ok) (ok : bltAt X.K env x v = true) (ha : EVA X P A env st m es as) (hB : Blt X P A env st m v as Q) (hv : (∃ id, v = .builtin id) ∨ ∃ T, v = .type T) :
 WE X P A env st m (eval (.Call (.Name x xp) es [] pos) env) Q := fun s f =>
 wpAny_Call_NameR ((e_blt hX ok).on f fun v' s₁ f₁ r S₁ => by
  (first | cases r using VR.intE | cases r using VR.noneE | cases r using VR.boolE | cases r using VR.refE | cases r using VRs.nilE | cases r)
  refine A2 (ha pos) fun h1 h2 => ?_
  have rest := wpAny_mono (h2 v s₁ f₁) (Q' := fun a s₂ => wpAny (model X.prog X.w) A (call v ([] ++ a.pos) a.kw) (Post X P env st s VR Q) (fun _ _ => False) s₂) (E' := fun _ _ => False) (fun a s₂ p => by
   refine E1A2 p fun vs hn6 hn7 => ?_; clear p; obtain rfl := hn6; refine A3 hn7 fun r₂ f₂ S₂ => ?_; clear hn7
   exact wpAny_mono (hB s₂ vs f₂ r₂) (fun _ _ p => Post.after (S₁.on S₂) (Gr.refl _ _) p) fun _ _ e => e) fun _ _ e => e
  rcases hv with ⟨id, rfl⟩ | ⟨T, rfl⟩
  ·exact callWith_builtin h1 rest
  ·exact PyProof.Rows.callWith_type h1 rest)
theorem b_len {xs : List AV} (hn : (xs.length : Int) < 2 ^ 63) : Blt X P A env st m (.builtin "len") [.lst xs] (Is (.int xs.length) st m) := fun s vals f r => by
 cases r using VRs.consE with | cons r rs => (first | cases rs using VR.intE | cases rs using VR.noneE | cases rs using VR.boolE | cases rs using VR.refE | cases rs using VRs.nilE | cases rs); cases r using VR.lstE with | lst nd p r =>
 refine call_len_list (PlainList.isList p) (by rw [List.size_toArray, r.length]; exact hn) ?_
 rw [List.size_toArray, r.length]
 exact Post.same f (.int _ _)
theorem copy_post {h' : Heap} {vs : List Value} {xs : List AV} {c : Nat} (f : FRel X P env st m s) (k : ∀ b o', s.heap.get? b = some o' → h'.get? b = some o') (hD : h'.get? s.heap.objs.size = some { cls := .type "list", dict := none, data := .seq vs.toArray c, slots := #[] })
 (r : VRs (DD X st P (ownOf env)) s.heap vs xs) : Post X P env st s VR (Is (.lst xs) st m) (.ref s.heap.objs.size) { s with heap := h' } :=
 Post.here (f.keeps (d := s.drawn) (tk := s.toks) k) (Step.of_keeps k) (.lst (f.dno (get_size _)) ⟨c, hD⟩ (r.keeps k))
theorem b_list {xs : List AV} (hn : xs.length ≤ sizeLine) : Blt X P A env st m (.type "list") [.lst xs] (Is (.lst xs) st m) := fun s vals f r => by
 cases r using VRs.consE with | cons r rs => (first | cases rs using VR.intE | cases rs using VR.noneE | cases rs using VR.boolE | cases rs using VR.refE | cases rs using VRs.nilE | cases rs); cases r using VR.lstE with | lst nd p r =>
 refine E1 p fun n e => ?_; clear p
 exact call_list_seq (hsz := by rw [List.size_toArray, r.length]; exact hn) _ (.inl rfl) e rfl rfl fun h' c' hk hD => copy_post f hk hD r
theorem b_listT {a : Addr} {xs : List AV} (ha : st a = some (.list xs)) (hn : xs.length ≤ sizeLine) : Blt X P A env st m (.type "list") [.ref a] (Is (.lst xs) st m) := fun s vals f r => by
 cases r using VRs.consE with | cons r rs => (first | cases rs using VR.intE | cases rs using VR.noneE | cases rs using VR.boolE | cases rs using VR.refE | cases rs using VRs.nilE | cases rs); (first | cases r using VR.intE | cases r using VR.noneE | cases r using VR.boolE | cases r using VR.refE | cases r using VRs.nilE | cases r)
                                             refine E2A2 (f.g.objs a _ ha) fun vs n e r => ?_
                                             exact call_list_seq (hsz := by rw [List.size_toArray, r.length]; exact hn) _ (.inl rfl) e rfl rfl fun h' c' hk hD => copy_post f hk hD r
set_option tactic.hygienic true in
theorem e_extend {x : Str} {xp ap cp : Pos} {e : Expr} {a : Addr} {l ys : List AV} {pl : Sem Bool} (hx : EV X P A env st m (eval (.Name x xp) env) (.ref a)) (hl : st a = some (.list l)) (hv : EV X P A env st m (eval e env) (.lst ys))
 (hz : l.length + ys.length ≤ sizeLine) (hse : starEach [e] env = [(false, eval e env)])
 (he : eval (.Call (.Attribute (.Name x xp) "extend" ap) [e] [] cp) env = (do
  let ov ← eval (.Name x xp) env
  standAt ap.atName
  let (f, first) ← holding [ov] (getMethod ov "extend" pl)
  callWith cp f first (backTo cp (starEach [e] env)) (backToKw cp (keywordEach [] env)))) :
 WE X P A env st m (eval (.Call (.Attribute (.Name x xp) "extend" ap) [e] [] cp) env) fun b st' m' => b = .none ∧ st' = put st a (.list (l ++ ys)) ∧ m' = m := fun s f =>
 methodCall_KW (hx.on f fun v s₁ f₁ r S₁ => by
  (first | cases r using VR.intE | cases r using VR.noneE | cases r using VR.boolE | cases r using VR.refE | cases r using VRs.nilE | cases r)
  refine E2A2 (f₁.g.objs a _ hl) fun vs₀ n₀ e₀ _ => ?_
  refine getMethod_list_of PySem.F.slot_list_extend PySem.F.type_list_extend ⟨_, e₀, rfl, _, rfl⟩ ⟨_, e₀, rfl⟩ ?_
  refine callWith_method1 ?_ hse
  rw [hse]
  refine spliced_cons ?_
  refine hv.on f₁ fun b s₂ f₂ r₂ S₂ => ?_
  refine spliced_nil ?_
  refine E2A2 (f₂.g.objs a _ hl) fun vs n e rs => ?_
  cases r₂ using VR.lstE with | lst nd p r₂ =>
  refine E1 p fun n2 e2 => ?_; clear p
  rename_i b vs2
  have hs1 : vs.toArray.size = l.length := by rw [List.size_toArray, rs.length]
  have hs2 : vs2.toArray.size = ys.length := by rw [List.size_toArray, r₂.length]
  refine call_meets PySem.F.slot_list_extend ⟨_, e, rfl⟩ PySem.F.entry_list_extend (PySem.F.args_list_extend_2 _ _) (PySem.AutoSeq1.list_extend_list_list_0 a vs.toArray n b vs2.toArray n2 ?_ ?_ ?_) ⟨e, e2, ?_⟩
  ·rw [hs1, hs2]; unfold Builtin.List.listTooLong; simp only [Bool.and_eq_true, decide_eq_true_eq, not_and]; lia
  ·rw [hs1]; lia
  ·rw [hs1, hs2]; lia
  ·have ge : ∃ c, (s₂.heap.update a (Obj.mapSeq fun x => x ++ vs2.toArray)).get? a = some ⟨.type "list", none, .seq (vs ++ vs2).toArray c, #[]⟩ := by
    have z := Heap.get?_update_self (Obj.mapSeq fun x => x ++ vs2.toArray) e rfl
    simp only [Obj.mapSeq, List.append_toArray] at z
    exact ⟨_, z⟩
   refine E1 ge fun c ge => ?_
   have kk : ∀ b x, b ∉ AO.foot a (.list (l ++ ys)) → s₂.heap.get? b = some x → (s₂.heap.update a (Obj.mapSeq fun x => x ++ vs2.toArray)).get? b = some x := fun b x hb e => (Heap.get?_update_other _ _ (fun z => hb (List.mem_singleton.mpr z.symm))).trans e
   have md := f₂.mod (o := .list (l ++ ys)) (tk := s₂.toks) hl rfl kk ⟨vs ++ vs2, c, ge, VRs.move (D := DD X st P (ownOf env)) (h := s₂.heap) (fun c x e nd => ⟨kk c x (fun z => nd (.inl ⟨a, _, hl, z⟩)) e, nd⟩) (rs.append r₂)⟩
   exact ⟨.none, _, m, .none, md.1, (S₁.on S₂).on md.2.1, grow_on (S₁.on S₂) (Gr.refl _ _) md.1 md.2.2, rfl, rfl, rfl⟩) he
end
end J
namespace J
section
variable {X : Cx} {P : PL} {A : Around} {env : Env} {st : AS} {m : AM} {s : Shared}
noncomputable def ASG (X : Cx) (P : PL) (A : Around) (env : Env) (tgt : Expr) (a : AV) (F : AM → AM) : Prop :=
 ∀ st m s v, FRel X P env st m s → VR (DD X st P (ownOf env)) s.heap v a → ∀ G : Unit → Shared → Prop, ∀ E : Value → Shared → Prop, (∀ s', FRel X P env st (F m) s' → Step (DD X st P (ownOf env)) s.heap s'.heap → G () s') → wpAny (model X.prog X.w) A (assign tgt env v) G E s
noncomputable def ASGs (X : Cx) (P : PL) (A : Around) (env : Env) (ts : List Expr) (as : List AV) (F : AM → AM) : Prop :=
 (assignEach ts env).length = as.length ∧ (assignEach ts env).findIdx? (·.1) = none ∧
 ∀ st m s vs, FRel X P env st m s → VRs (DD X st P (ownOf env)) s.heap vs as → ∀ G : Unit → Shared → Prop, ∀ E : Value → Shared → Prop, (∀ s', FRel X P env st (F m) s' → Step (DD X st P (ownOf env)) s.heap s'.heap → G () s') →
  wpAny (model X.prog X.w) A (assignInOrder ((assignEach ts env).map (·.2)) vs) G E s
theorem a_name {x : Str} {p : Pos} {a : AV} (ok : storeOk env x = true) : ASG X P A env (.Name x p) a (fun m => upd m x a) := fun _ _ _ _ f r _ _ k => wpAny_assign_Name (f.store r (storeOk_kind ok) k)
theorem as_nil : ASGs X P A env [] [] id := ⟨rfl, rfl, fun st m s vs f r G E k => by (first | cases r using VR.intE | cases r using VR.noneE | cases r using VR.boolE | cases r using VR.refE | cases r using VRs.nilE | cases r); exact wpAny_assignInOrder_none (k s f (Step.refl _ _))⟩
theorem as_cons {t : Expr} {ts : List Expr} {a : AV} {as : List AV} {F F' : AM → AM} (h : ASG X P A env t a F) (hs : ASGs X P A env ts as F') (he : assignEach (t :: ts) env = (false, assign t env) :: assignEach ts env) : ASGs X P A env (t :: ts) (a :: as) (fun m => F' (F m)) := by
 refine A3 hs fun h1 h2 h3 => ?_; clear hs
 refine ⟨by rw [he, List.length_cons, List.length_cons, h1], by rw [he, List.findIdx?_cons]; simp only [Bool.false_eq_true, if_false, h2]; rfl, fun st m s vs f r G E k => ?_⟩
 cases r with
 | cons r rs =>
  rw [he, List.map_cons]
  refine wpAny_assignInOrder_more (h st m s _ f r _ _ fun s₁ f₁ S₁ => ?_)
  exact h3 st (F m) s₁ _ f₁ (rs.step S₁ (Gr.refl _ _)) _ _ fun s₂ f₂ S₂ => k s₂ f₂ (S₁.on S₂)
theorem keeps_of_ext {h h' : Heap} (x : Heap.ExtBut h.objs.size h h') : ∀ b o, h.get? b = some o → h'.get? b = some o := fun b o e => x b o (Nat.ne_of_lt (Heap.lt_size e)) e
theorem a_tup {es : List Expr} {k : Nat} {p : Pos} {as : List AV} {F : AM → AM} (hA : A.handled = none) (h : ASGs X P A env es as F) : ASG X P A env (.Tuple es k p) (.tup as) F := fun st m s v f r G E kk => by
 refine A3 h fun h1 h2 h3 => ?_; clear h
 cases r with
 | tup nd t r =>
  refine assign_Tuple_tuple hA t (by rw [h1, List.size_toArray, r.length]) h2 fun h' hx => ?_
  have kx := keeps_of_ext hx
  exact h3 st m _ _ (f.keeps (d := s.drawn) (tk := s.toks) kx) (r.keeps kx) _ _ fun s₂ f₂ S₂ => kk s₂ f₂ ((Step.of_keeps kx).on S₂)
theorem x_assignT {es : List Expr} {k : Nat} {tp pos : Pos} {value : Expr} {Q : AF → AS → AM → Prop} (h : WE X P A env st m (eval value env) fun a st' m' => ∃ F, ASG X P A env (.Tuple es k tp) a F ∧ Q .next st' (F m'))
 (hs : swapsWithSole [.Tuple es k tp] value pos.line env = pure false) (hw : swappedStores [.Tuple es k tp] value env = pure none) : WX X P A env st m (exec (.Assign [.Tuple es k tp] value pos) env) Q :=
 fun s f => PyProof.Rows.Assign_Tuple (W.on h f fun v b st₁ m₁ s₁ ⟨F, hF, q⟩ f₁ r S₁ g₁ => hF st₁ m₁ s₁ v f₁ r _ _ fun s₂ f₂ S₂ => ⟨.next, st₁, _, trivial, f₂, S₁.trans S₂ (DD.grow g₁), g₁, q⟩) hs hw
theorem FRel.priv {h' : Heap} {tk : Nat} (f : FRel X P env st m s) (k : ∀ b o, s.heap.get? b = some o → h'.get? b = some o) (I : Addr) (o : Obj) (fresh : s.heap.get? I = none) (e : h'.get? I = some o) :
 FRel X ((I, o) :: P) env st m { s with heap := h', toks := tk } ∧ I ∉ P.map (·.1) ∧ ¬ X.isTab I := by
 have S : ∀ b x, s.heap.get? b = some x → ¬ DD X st P (ownOf env) b → h'.get? b = some x ∧ ¬ DD X st ((I, o) :: P) (ownOf env) b := fun b x e' nd => ⟨k b x e', fun d => by
  rcases d with d | d | d | d
  ·exact nd (.inl d)
  ·rcases List.mem_cons.mp d with q | d
   ·subst q; rw [fresh] at e'; exact J.ns e'
   ·exact nd (.inr (.inl d))
  ·exact nd (.inr (.inr (.inl d)))
  ·exact nd (.inr (.inr (.inr d)))⟩
 refine ⟨⟨⟨fun b x e' => k b x (f.g.base b x e'), fun t ht => let ⟨more, a, b⟩ := f.g.tabs t ht; ⟨more, a.keeps k, b.keeps k⟩, fun b x e' => (f.g.objs b x e').move S fun c _ y => k c y, fun b d => ?_, fun p hp => ?_, fun b d => ⟨fun q => ?_, (f.g.off b d).2⟩, f.g.gens, f.g.os, f.g.tabc, f.g.nolim, fun t ht q => (by
  rcases List.mem_cons.mp q with q | q
  ·refine E1A2 (f.g.tabs t ht) fun _ a1 _ => ?_
   have := a1.2
   rw [show t.2.1 = I from q, fresh] at this; exact J.ns this
  ·exact f.g.tabp t ht q)⟩,
  ⟨f.f.kind, f.f.glob, f.f.bi, let ⟨mv, a, b⟩ := f.f.ns; ⟨mv, a.keeps k, fun x e => (b x e).move S⟩, fun x e => let ⟨c, ov, a, b, r⟩ := f.f.cl x e; ⟨c, ov, a, b.keeps k, r.move S⟩, f.f.apart, f.f.apartL⟩,
  fun b hb => ⟨(f.own b hb).1, fun q => ?_, (f.own b hb).2.2⟩⟩, fun q => ?_, fun q => ?_⟩
 ·rcases d with d | d | d | d
  ·exact f.g.lo b (.inl d)
  ·rcases List.mem_cons.mp d with q | d
   ·have q : b = I := q
    subst q
    cases z : X.g0.get? b with
    | none => rfl
    | some y => have := f.g.base b y z; rw [fresh] at this; exact J.ns this
   ·exact f.g.lo b (.inr (.inl d))
  ·exact f.g.lo b (.inr (.inr (.inl d)))
  ·exact f.g.lo b (.inr (.inr (.inr d)))
 ·rcases List.mem_cons.mp hp with rfl | hp
  ·exact .of e
  ·exact (f.g.priv p hp).by (k _)
 ·rcases List.mem_cons.mp q with q | q
  ·have q : b = I := q
   subst q; refine E1 (f.din (.inl d)) fun y z => ?_; rw [fresh] at z; exact J.ns z
  ·exact (f.g.off b d).1 q
 ·rcases List.mem_cons.mp q with q | q
  ·have q : b = I := q
   subst q; refine E1 (f.din (.inr (.inr (.inl hb)))) fun y z => ?_; rw [fresh] at z; exact J.ns z
  ·exact (f.own b hb).2.1 q
 ·refine E1 (f.din (.inr (.inl q))) fun y z => ?_; rw [fresh] at z; exact J.ns z
 ·refine E1 (f.din (.inr (.inr (.inr q)))) fun y z => ?_; rw [fresh] at z; exact J.ns z
theorem FRel.turn {h' : Heap} {tk : Nat} {I : Addr} {o o' : Obj} (f : FRel X ((I, o) :: P) env st m s) (hP : I ∉ P.map (·.1)) (hT : ¬ X.isTab I) (hC : ∀ v, o.data ≠ .cell v) (k : ∀ b x, b ≠ I → s.heap.get? b = some x → h'.get? b = some x) (e : h'.get? I = some o') :
 FRel X ((I, o') :: P) env st m { s with heap := h', toks := tk } ∧ Step (DD X st ((I, o) :: P) (ownOf env)) s.heap h' := by
 have hd : DD X st ((I, o) :: P) (ownOf env) I := .inr (.inl (.head _))
 have S : ∀ b x, s.heap.get? b = some x → ¬ DD X st ((I, o) :: P) (ownOf env) b → h'.get? b = some x ∧ ¬ DD X st ((I, o') :: P) (ownOf env) b := fun b x e' nd => ⟨k b x (fun q => nd (q ▸ hd)) e', nd⟩
 have kD : ∀ b x, Dom st b → s.heap.get? b = some x → h'.get? b = some x := fun b x d => k b x fun q => (f.g.off b d).1 (by rw [q]; exact .head _)
 have kO : ∀ b x, ownOf env b → s.heap.get? b = some x → h'.get? b = some x := fun b x d => k b x fun q => (f.own b d).2.1 (by rw [q]; exact .head _)
 refine ⟨⟨⟨fun b x e' => k b x (fun q => ?_) (f.g.base b x e'), fun t ht => ?_, fun b x e' => (f.g.objs b x e').move S fun c hc y => kD c y ⟨b, x, e', hc⟩, fun b d => f.g.lo b d, fun p hp => ?_, f.g.off, f.g.gens, f.g.os, f.g.tabc, f.g.nolim, f.g.tabp⟩,
  ⟨f.f.kind, f.f.glob, f.f.bi, let ⟨mv, a, b⟩ := f.f.ns; ⟨mv, a.at' fun x => kO _ x (.inl rfl), fun x e => (b x e).move S⟩, fun x hx => ?_, f.f.apart, f.f.apartL⟩, f.own⟩, fun b x e' nd => (S b x e' nd).1⟩
 ·have := f.g.lo I hd; rw [← q, e'] at this; exact J.sn this
 ·refine E1A2 (f.g.tabs t ht) fun more a1 b1 => ?_
  have c1 : t.1 ≠ I := fun q => by refine E1 (f.g.tabc t ht) fun y z => ?_; have := f.g.lo I hd; rw [← q, z] at this; exact J.sn this
  have c2 : t.2.1 ≠ I := fun q => hT (q ▸ List.mem_map_of_mem ht)
  have hx : Heap.ExtBut I s.heap h' := k
  exact ⟨more, a1.extBut hx c1 c2, b1.extBut hx c1 c2⟩
 ·rcases List.mem_cons.mp hp with rfl | hp
  ·exact .of e
  ·exact (f.g.priv p (.tail _ hp)).by fun o => k _ o (fun q => hP (q ▸ List.mem_map_of_mem hp))
 ·refine E2A3 (f.f.cl x hx) fun c ov h1 h2 h3 => ?_
  refine ⟨c, ov, h1, ?_, h3.move S⟩
  refine E1A2 h2 fun y z w => ?_; clear h2
  exact ⟨y, k c y (fun q => by refine E1A2 ((f.g.priv (I, o) (.head _)).data) fun o2 this hd2 => ?_; rw [q] at z; rw [z] at this; revert this; refine J.sse ?_; rintro rfl; exact hC _ (by rw [← hd2]; exact w)) z, w⟩
theorem FRel.unpriv {h' : Heap} {tk : Nat} {I : Addr} {o : Obj} (f : FRel X ((I, o) :: P) env st m s) (hP : I ∉ P.map (·.1)) (hT : ¬ X.isTab I) (hC : ∀ v, o.data ≠ .cell v) (k : ∀ b x, b ≠ I → s.heap.get? b = some x → h'.get? b = some x) :
 FRel X P env st m { s with heap := h', toks := tk } ∧ Step (DD X st ((I, o) :: P) (ownOf env)) s.heap h' := by
 have hd : DD X st ((I, o) :: P) (ownOf env) I := .inr (.inl (.head _))
 have w : ∀ b, DD X st P (ownOf env) b → DD X st ((I, o) :: P) (ownOf env) b := fun b d => d.imp id fun d => d.imp (fun q => .tail _ q) id
 have S : ∀ b x, s.heap.get? b = some x → ¬ DD X st ((I, o) :: P) (ownOf env) b → h'.get? b = some x ∧ ¬ DD X st P (ownOf env) b := fun b x e' nd => ⟨k b x (fun q => nd (q ▸ hd)) e', fun d => nd (w b d)⟩
 have kD : ∀ b x, Dom st b → s.heap.get? b = some x → h'.get? b = some x := fun b x d => k b x fun q => (f.g.off b d).1 (by rw [q]; exact .head _)
 have kO : ∀ b x, ownOf env b → s.heap.get? b = some x → h'.get? b = some x := fun b x d => k b x fun q => (f.own b d).2.1 (by rw [q]; exact .head _)
 refine ⟨⟨⟨fun b x e' => k b x (fun q => ?_) (f.g.base b x e'), fun t ht => ?_, fun b x e' => (f.g.objs b x e').move S fun c hc y => kD c y ⟨b, x, e', hc⟩, fun b d => f.g.lo b (w b d), fun p hp => (f.g.priv p (.tail _ hp)).by fun o => k _ o (fun q => hP (q ▸ List.mem_map_of_mem hp)),
  fun b d => ⟨fun q => (f.g.off b d).1 (.tail _ q), (f.g.off b d).2⟩, f.g.gens, f.g.os, f.g.tabc, f.g.nolim, fun t ht q => f.g.tabp t ht (.tail _ q)⟩,
  ⟨f.f.kind, f.f.glob, f.f.bi, let ⟨mv, a, b⟩ := f.f.ns; ⟨mv, a.at' fun x => kO _ x (.inl rfl), fun x e => (b x e).move S⟩, fun x hx => ?_, f.f.apart, f.f.apartL⟩, fun b hb => ⟨(f.own b hb).1, fun q => (f.own b hb).2.1 (.tail _ q), (f.own b hb).2.2⟩⟩, fun b x e' nd => (S b x e' nd).1⟩
 ·have := f.g.lo I hd; rw [← q, e'] at this; exact J.sn this
 ·refine E1A2 (f.g.tabs t ht) fun more a1 b1 => ?_
  have c1 : t.1 ≠ I := fun q => by refine E1 (f.g.tabc t ht) fun y z => ?_; have := f.g.lo I hd; rw [← q, z] at this; exact J.sn this
  have c2 : t.2.1 ≠ I := fun q => hT (q ▸ List.mem_map_of_mem ht)
  have hx : Heap.ExtBut I s.heap h' := k
  exact ⟨more, a1.extBut hx c1 c2, b1.extBut hx c1 c2⟩
 ·refine E2A3 (f.f.cl x hx) fun c ov h1 h2 h3 => ?_
  refine ⟨c, ov, h1, ?_, h3.move S⟩
  refine E1A2 h2 fun y z w => ?_; clear h2
  exact ⟨y, k c y (fun q => by refine E1A2 ((f.g.priv (I, o) (.head _)).data) fun o2 this hd2 => ?_; rw [q] at z; rw [z] at this; revert this; refine J.sse ?_; rintro rfl; exact hC _ (by rw [← hd2]; exact w)) z, w⟩
theorem DD.priv {own : Addr → Prop} {I b : Addr} {o : Obj} (d : DD X st ((I, o) :: P) own b) : b = I ∨ DD X st P own b := by
 rcases d with d | d | d
 ·exact .inr (.inl d)
 ·rcases List.mem_cons.mp d with q | d
  ·exact .inl q
  ·exact .inr (.inr (.inl d))
 ·exact .inr (.inr (.inr d))
end
end J
namespace J
noncomputable def closL (cells : List (Str × Addr)) : List (Str × NameKind) → List (Str × Addr) → Option (List (Str × Addr))
 | [], acc => some acc
 | (n, k) :: r, acc => if k == .free then (match cells.lookup n with | some a => closL cells r ((n, a) :: acc) | none => none) else closL cells r acc
set_option tactic.hygienic true in
theorem closL_for {env : Env} (f : Str × NameKind → List (Str × Addr) → Sem (ForInStep (List (Str × Addr)))) (hf : ∀ n k acc, f (n, k) acc = if k == .free then (do let a ← cellOf env n; pure (.yield ((n, a) :: acc))) else pure (.yield acc)) :
 ∀ (names : List (Str × NameKind)) (acc cl : List (Str × Addr)), closL env.cells names acc = some cl → forIn names acc f = pure cl
 | [], acc, cl, e => by (revert e; refine J.sse ?_; rintro rfl); rfl
 | (n, k) :: r, acc, cl, e => by
  rw [List.forIn_cons, hf]
  unfold closL at e
  split at e
  ·rename_i hk
   rw [if_pos hk]
   split at e
   ·rename_i a ha
    unfold cellOf
    rw [ha]
    exact closL_for f hf r _ cl e
   ·exact J.ns e
  ·rename_i hk
   rw [if_neg hk]
   exact closL_for f hf r _ cl e
theorem closureFor_of {scope : Scope} {env : Env} {cl : List (Str × Addr)} (e : closL env.cells scope.names [] = some cl) : closureFor scope env = pure cl := by
 unfold closureFor
 refine Eq.trans (congrArg (fun t => t >>= fun cs => pure cs) (closL_for (env := env) _ ?_ scope.names [] cl e)) rfl
 intro n k acc
 rfl
theorem closL_some {cells : List (Str × Addr)} : ∀ (names : List (Str × NameKind)) (acc : List (Str × Addr)), (∀ x ∈ names, x.2 = .free → ∃ c, cells.lookup x.1 = some c) → ∃ cl, closL cells names acc = some cl
 | [], acc, _ => ⟨acc, rfl⟩
 | (n, k) :: r, acc, h => by
  unfold closL
  split
  ·rename_i hk
   refine Classical.byContradiction fun hg9 => ?_
   refine E1 (h (n, k) (.head _) (beq_iff_eq.mp hk)) fun c hc => ?_
   refine hg9 ?_
   dsimp only at hc
   rw [hc]
   exact closL_some r _ fun x hx => h x (.tail _ hx)
  ·exact closL_some r _ fun x hx => h x (.tail _ hx)
set_option tactic.hygienic true in
theorem closL_lookup {cells : List (Str × Addr)} : ∀ (names : List (Str × NameKind)) (acc cl : List (Str × Addr)), closL cells names acc = some cl →
 (∀ x c, acc.lookup x = some c → cells.lookup x = some c) → (∀ x c, cl.lookup x = some c → cells.lookup x = some c) ∧ (∀ x, (names.lookup x = some .free ∨ (acc.lookup x).isSome = true) → (cl.lookup x).isSome = true)
 | [], acc, cl, e, h => by (revert e; refine J.sse ?_; rintro rfl); exact ⟨h, fun x q => q.elim (fun q => by exact J.ns q) id⟩
 | (n, k) :: r, acc, cl, e, h => by
  unfold closL at e
  split at e
  ·rename_i hk
   split at e
   ·rename_i a ha
    refine Classical.byContradiction fun hg9 => ?_
    refine A2 (closL_lookup r _ cl e fun x c q => by
     rw [List.lookup_cons] at q
     cases hx : x == n with
     | true => rw [hx] at q; revert q; refine J.sse ?_; rintro rfl; rw [beq_iff_eq.mp hx]; exact ha
     | false => rw [hx] at q; exact h x c q) fun h1 h2 => ?_
    refine hg9 ?_
    refine ⟨h1, fun x q => h2 x ?_⟩
    cases hx : x == n with
    | true => exact .inr (by rw [List.lookup_cons, hx]; rfl)
    | false =>
     refine q.imp (fun q => ?_) fun q => ?_
     ·rw [List.lookup_cons, hx] at q; exact q
     ·rw [List.lookup_cons, hx]; exact q
   ·exact J.ns e
  ·rename_i hk
   refine Classical.byContradiction fun hg9 => ?_
   obtain ⟨h1, h2⟩ := closL_lookup r _ cl e h
   refine hg9 ?_
   refine ⟨h1, fun x q => h2 x (q.imp (fun q => ?_) id)⟩
   rw [List.lookup_cons] at q
   cases hx : x == n with
   | true => rw [hx] at q; revert q; refine J.sse ?_; rintro rfl; exact absurd rfl hk
   | false => rw [hx] at q; exact q
noncomputable def compOk (env : Env) (scope : Scope) : Bool := scope.kind == .function && (scope.names.all fun x => x.2 != .cell && (x.2 != .free || env.kindOf x.1 == some .cell || env.kindOf x.1 == some .free) && (x.2 != .local || scope.names.lookup x.1 == some .local))
noncomputable def mix (scope : Scope) (ml mc : AM) : AM := fun y => if scope.names.lookup y = some .local then ml y else mc y
structure CompM (scope : Scope) (m mc : AM) : Prop where
 free : ∀ y, scope.names.lookup y = some .free → mc y = m y
 other : ∀ y, scope.names.lookup y ≠ some .free → mc y = none
noncomputable def freeM (scope : Scope) (m : AM) : AM := fun y => if scope.names.lookup y = some .free then m y else none
theorem CompM.of (scope : Scope) (m : AM) : CompM scope m (freeM scope m) := ⟨fun _ h => if_pos h, fun _ h => if_neg h⟩
section
variable {X : Cx} {P : PL} {A : Around} {env : Env} {st : AS} {m mc : AM} {s : Shared} {scope : Scope} {cl : List (Str × Addr)} {C : Addr}
theorem relabel_kind (scope : Scope) (env : Env) (x : Str) : (relabel scope env).names.lookup x = (scope.names.lookup x).map fun k => if (k == .free && env.scope.kind == .function && env.kindOf x == some .cell) then .cell else k := by
 unfold relabel
 dsimp only
 generalize scope.names = l
 induction l with
 | nil => rfl
 | cons p r ih =>
  refine Classical.byContradiction fun hg9 => ?_
  obtain ⟨n, k⟩ := p
  refine hg9 ?_
  simp only [List.map_cons]
  have : (if (k == NameKind.free && env.scope.kind == ScopeKind.function && env.kindOf n == some NameKind.cell) = true then (n, NameKind.cell) else (n, k)) = (n, if (k == NameKind.free && env.scope.kind == ScopeKind.function && env.kindOf n == some NameKind.cell) = true then NameKind.cell else k) := by split <;> rfl
  rw [this, List.lookup_cons, List.lookup_cons]
  cases hx : x == n with
  | true => rw [beq_iff_eq.mp hx]; rfl
  | false => exact ih
theorem compKind {x : Str} {k : NameKind} (e : (compEnvC scope cl C env).kindOf x = some k) : (k = .cell → scope.names.lookup x = some .cell ∨ (scope.names.lookup x = some .free ∧ env.kindOf x = some .cell)) ∧ (k = .local → scope.names.lookup x = some .local) ∧ (k = .free → scope.names.lookup x = some .free) := by
 have e : (relabel scope env).names.lookup x = some k := e
 rw [relabel_kind] at e
 refine Classical.byContradiction fun hg9 => ?_
 refine E1A2 (Option.map_eq_some_iff.mp e) fun k' h1 h2 => ?_
 refine hg9 ?_
 split at h2
 ·rename_i q
  simp only [Bool.and_eq_true, beq_iff_eq] at q
  refine Classical.byContradiction fun hg9 => ?_
  refine A2 q fun hn1 q3 => ?_; clear q; refine A2 hn1 fun q1 q2 => ?_; clear hn1
  refine hg9 ?_
  subst h2 q1
  exact ⟨fun _ => .inr ⟨h1, q3⟩, nofun, nofun⟩
 ·subst h2
  exact ⟨fun e => .inl (e ▸ h1), fun e => e ▸ h1, fun e => e ▸ h1⟩
theorem own_list' (env : Env) (p : Addr → Prop) : ∃ l : List Addr, ∀ b, (ownOf env b ∧ ¬ p b) ↔ b ∈ l := by
 classical
 refine Classical.byContradiction fun hg9 => ?_
 refine E1 (own_list env) fun l hl => ?_
 refine hg9 ?_
 exact ⟨l.filter fun b => decide (¬ p b), fun b => by rw [List.mem_filter, decide_eq_true_eq, hl b]⟩
theorem FRel.comp {h' : Heap} {tk : Nat} (f : FRel X P env st m s) (ok : compOk env scope = true) (hcl : closL env.cells scope.names [] = some cl) (cm : CompM scope m mc) (k : ∀ b o, s.heap.get? b = some o → h'.get? b = some o) (fresh : s.heap.get? C = none) {mv : Str → Option Value} (hns : h'.Ns C mv) :
 ∃ P', FRel X (P' ++ P) (compEnvC scope cl C env) st mc { s with heap := h', toks := tk } ∧ (∀ p ∈ P', ownOf env p.1) ∧ (∀ n A P₀, Room n A P₀ (locOf env) → Room n A (P' ++ P₀) (locOf (compEnvC scope cl C env))) ∧ (∀ b, DD X st (P' ++ P) (ownOf (compEnvC scope cl C env)) b ↔ DD X st P (ownOf env) b ∨ b = C) ∧
  ∀ P₂ : PL, (∀ p ∈ P₂, p ∈ P) → (∀ p ∈ P, p ∉ P₂ → ∀ v, p.2.data ≠ .cell v) → ∀ st' m' s', FRel X (P' ++ P₂) (compEnvC scope cl C env) st' m' s' → (∀ y, scope.names.lookup y ≠ some .local → m' y = mc y) → Step (DD X st (P' ++ P) (ownOf (compEnvC scope cl C env))) h' s'.heap → Gr h' (Dom st) (Dom st') →
   ∃ o, (∀ v, o.data ≠ .cell v) ∧ s'.heap.get? C = some o ∧ FRel X ((C, o) :: P₂) env st' m s' ∧ C ∉ P₂.map (·.1) ∧ ¬ X.isTab C ∧ Step (DD X st P (ownOf env)) s.heap s'.heap ∧ Gr s.heap (Dom st) (Dom st') ∧ ∀ b, DD X st' ((C, o) :: P₂) (ownOf env) b → DD X st' (P' ++ P₂) (ownOf (compEnvC scope cl C env)) b := by
 unfold compOk at ok
 rw [Bool.and_eq_true] at ok
 refine Classical.byContradiction fun hg9 => ?_
 refine A2 ok fun okk okn => ?_; clear ok
 refine hg9 ?_
 have okk := beq_iff_eq.mp okk
 have okn' : ∀ x ∈ scope.names, x.2 ≠ .cell ∧ (x.2 = .free → env.kindOf x.1 = some .cell ∨ env.kindOf x.1 = some .free) := fun x hx => by
  have z := List.all_eq_true.mp okn x hx
  simp only [Bool.and_eq_true, Bool.or_eq_true, bne_iff_ne, beq_iff_eq] at z
  exact ⟨z.1.1, fun e => by rcases z.1.2 with (q | q) | q; · exact absurd e q
                            ·exact .inl q
                            ·exact .inr q⟩
 refine Classical.byContradiction fun hg9 => ?_
 refine A2 (closL_lookup scope.names [] cl hcl nofun) fun cl1 cl2 => ?_
 refine hg9 ?_
 have cellIs : ∀ x, (compEnvC scope cl C env).kindOf x = some .cell → scope.names.lookup x = some .free ∧ env.kindOf x = some .cell := fun x e => by
  refine O2 ((compKind e).1 rfl) (fun q => ?_) (fun q => ?_)
  ·exact absurd rfl (okn' _ (mem_of_lookup q)).1
  ·exact q
 have ownIs : ∀ b, ownOf (compEnvC scope cl C env) b → b = C ∨ ownOf env b := fun b hb => by
  rcases hb with hb | ⟨x, h1, h2⟩
  ·exact .inl hb
  ·exact .inr (.inr ⟨x, (cellIs x h1).2, cl1 x b h2⟩)
 refine Classical.byContradiction fun hg9 => ?_
 refine E1 (own_list' env (ownOf (compEnvC scope cl C env))) fun l hl => ?_
 refine E1A2 (objs_of (h := s.heap) (l := l) fun b hb => f.din (.inr (.inr (.inl ((hl b).mpr hb).1)))) fun O ho1 ho2 => ?_
 refine hg9 ?_
 have iffP : ∀ (P : PL) (st' : AS) (b : Addr), DD X st' (O ++ P) (ownOf (compEnvC scope cl C env)) b ↔ DD X st' P (ownOf env) b ∨ b = C := fun P st' b => by
  unfold DD
  rw [List.map_append, List.mem_append, ho1, ← hl b]
  constructor
  ·rintro (d | (d | d) | d | d)
   ·exact .inl (.inl d)
   ·exact .inl (.inr (.inr (.inl d.1)))
   ·exact .inl (.inr (.inl d))
   ·exact (ownIs b d).elim .inr fun q => .inl (.inr (.inr (.inl q)))
   ·exact .inl (.inr (.inr (.inr d)))
  ·rintro ((d | d | d | d) | d)
   ·exact .inl d
   ·exact .inr (.inl (.inr d))
   ·by_cases q : ownOf (compEnvC scope cl C env) b
    ·exact .inr (.inr (.inl q))
    ·exact .inr (.inl (.inl ⟨d, q⟩))
   ·exact .inr (.inr (.inr d))
   ·exact .inr (.inr (.inl (.inl d)))
 have iff := iffP P
 have S : ∀ (b : Addr) (x : Obj), s.heap.get? b = some x → ¬ DD X st P (ownOf env) b → h'.get? b = some x ∧ ¬ DD X st (O ++ P) (ownOf (compEnvC scope cl C env)) b := fun b x e nd => ⟨k b x e, fun d => by
  refine O2 ((iff st b).mp d) (fun d => ?_) (fun d => ?_)
  ·exact nd d
  ·rw [d, fresh] at e; cases e⟩
 have freeCell : ∀ x, scope.names.lookup x = some .free → ∃ c ov, cl.lookup x = some c ∧ h'.IsCell c ov ∧ VRo (DD X st (O ++ P) (ownOf (compEnvC scope cl C env))) h' ov (mc x) := fun x hx => by
  have hk := (okn' _ (mem_of_lookup hx)).2 rfl
  refine Classical.byContradiction fun hg9 => ?_
  refine E2A3 (f.f.cl x hk) fun c ov h1 h2 h3 => ?_
  refine E1 (Option.isSome_iff_exists.mp (cl2 x (.inl hx))) fun c' hc' => ?_
  refine hg9 ?_
  have := cl1 x c' hc'
  rw [h1] at this; revert this; refine J.sse ?_; rintro rfl
  refine ⟨c, ov, hc', h2.keeps k, ?_⟩
  rw [cm.free x hx]; exact h3.move S
 have isFree : ∀ x, ((compEnvC scope cl C env).kindOf x = some .cell ∨ (compEnvC scope cl C env).kindOf x = some .free) → scope.names.lookup x = some .free := fun x hx => hx.elim (fun q => (cellIs x q).1) fun q => (compKind q).2.2 rfl
 have F : FRel X (O ++ P) (compEnvC scope cl C env) st mc { s with heap := h', toks := tk } := by
  refine ⟨⟨fun b o e => k b o (f.g.base b o e), fun t ht => let ⟨more, a, b⟩ := f.g.tabs t ht; ⟨more, a.keeps k, b.keeps k⟩, fun b x e => (f.g.objs b x e).move S fun c _ y => k c y, fun b d => ?_, fun p hp => ?_, fun b d => ⟨fun q => ?_, (f.g.off b d).2⟩, f.g.gens, f.g.os, f.g.tabc, f.g.nolim, fun t ht q => (by rw [List.map_append, List.mem_append, ho1, ← hl] at q; exact q.elim (fun q => (f.own _ q.1).2.2 (List.mem_map_of_mem ht)) (f.g.tabp t ht))⟩,
   ⟨okk, f.f.glob, f.f.bi, ⟨mv, hns, fun x hx => ?_⟩, fun x hx => freeCell x (isFree x hx), fun x y c hx hy h1 h2 => ?_, fun x c hx h1 e => ?_⟩, fun b hb => ⟨fun d => ?_, fun d => ?_, fun d => ?_⟩⟩
  ·refine O2 ((iff st b).mp d) (fun d => ?_) (fun d => ?_)
   ·exact f.g.lo b d
   ·cases q : X.g0.get? b with
    | none => rfl
    | some o => have := f.g.base b o q; rw [d, fresh] at this; exact J.ns this
  ·refine O2 (List.mem_append.mp hp) (fun hp => ?_) (fun hp => ?_)
   ·exact .of (k _ _ (ho2 p hp))
   ·exact (f.g.priv p hp).by (k _)
  ·rw [List.map_append, List.mem_append, ho1, ← hl b] at q
   rcases q with q | q
   ·exact (f.own b q.1).1 d
   ·exact (f.g.off b d).1 q
  ·rw [cm.other x (by rw [(compKind hx).2.1 rfl]; decide)]; exact VRo_none _
  ·have fy := isFree y hy
   refine Classical.byContradiction fun hg9 => ?_
   refine E2A2 (freeCell y fy) fun c' ov h3 _ => ?_
   refine hg9 ?_
   exact f.f.apart x y c (cellIs x hx).2 ((okn' _ (mem_of_lookup fy)).2 rfl) (cl1 x c h1) (cl1 y c h2)
  ·have fx := isFree x hx
   have z := f.f.cl x ((okn' _ (mem_of_lookup fx)).2 rfl)
   refine Classical.byContradiction fun hg9 => ?_
   refine E2A3 z fun c' ov h3 h4 _ => ?_; clear z
   refine hg9 ?_
   have := cl1 x c h1
   rw [h3] at this; cases this
   refine Classical.byContradiction fun hg9 => ?_
   refine E1A2 h4 fun o e2 _ => ?_; clear h4
   refine hg9 ?_
   have e : c = C := e
   rw [e, fresh] at e2; cases e2
  ·refine O2 (ownIs b hb) (fun q => ?_) (fun q => ?_)
   ·refine E1 (f.din (.inl d)) fun o e => ?_; rw [q, fresh] at e; exact J.ns e
   ·exact (f.own b q).1 d
  ·rw [List.map_append, List.mem_append, ho1, ← hl b] at d
   rcases d with d | d
   ·exact d.2 hb
   ·refine O2 (ownIs b hb) (fun q => ?_) (fun q => ?_)
    ·refine E1 (f.din (.inr (.inl d))) fun o e => ?_; rw [q, fresh] at e; exact J.ns e
    ·exact (f.own b q).2.1 d
  ·refine O2 (ownIs b hb) (fun q => ?_) (fun q => ?_)
   ·refine E1 (f.din (.inr (.inr (.inr d)))) fun o e => ?_; rw [q, fresh] at e; exact J.ns e
   ·exact (f.own b q).2.2 d
 have locOut : ¬ ownOf (compEnvC scope cl C env) env.locals := fun q => by
  rcases q with q | ⟨x, h1, h2⟩
  ·refine E1A2 (f.f.ns) fun mv hn2 _ => ?_; refine E3A2 hn2 fun o _ _ e _ => ?_; clear hn2
   have q : env.locals = C := q
   rw [q, fresh] at e; exact J.ns e
  ·exact f.f.apartL x _ (.inl (cellIs x h1).2) (cl1 x _ h2) rfl
 have room : ∀ n A P₀, Room n A P₀ (locOf env) → Room n A (O ++ P₀) (locOf (compEnvC scope cl C env)) := fun n A P₀ R => ⟨R.handled, R.depth, R.units, fun h' => (R.frames h').more (fun p hp => List.mem_append_right _ hp) fun b hb => by
  subst hb
  refine Classical.byContradiction fun hg9 => ?_
  refine E1A2 (f.f.ns) fun mv hn3 _ => ?_; refine E3A3 hn3 fun o es ep e hd _ => ?_; clear hn3
  refine hg9 ?_
  have hm : env.locals ∈ O.map (·.1) := by rw [ho1]; exact (hl _).mp ⟨.inl rfl, locOut⟩
  refine Classical.byContradiction fun hg9 => ?_
  refine E1A2 (List.mem_map.mp hm) fun p hp hp1 => ?_
  refine hg9 ?_
  have e2 := ho2 p hp
  rw [hp1, e] at e2
  exact .inr ⟨p.2, List.mem_append_left _ (by rw [← hp1]; exact hp), es, ep, by (revert e2; refine J.sse ?_; rintro rfl); exact hd⟩⟩
 refine ⟨O, F, fun p hp => ((hl p.1).mpr (ho1 ▸ List.mem_map_of_mem hp)).1, room, iff st, fun P₂ sub nocell st' m' s' F' hm' S1 G1 => ?_⟩
 have subA : ∀ b, b ∈ P₂.map (·.1) → b ∈ P.map (·.1) := fun b hb => by
  refine Classical.byContradiction fun hg9 => ?_
  refine E1A2 (List.mem_map.mp hb) fun p hp hn4 => ?_; obtain rfl := hn4
  refine hg9 ?_
  exact List.mem_map_of_mem (sub p hp)
 have S1' : Step (DD X st P (ownOf env)) s.heap s'.heap := fun b o e nd => S1 b o (S b o e nd).1 (S b o e nd).2
 have G1' : Gr s.heap (Dom st) (Dom st') := fun b o e d => G1 b o (k b o e) d
 have nog : ∀ b, ownOf env b → ¬ Dom st' b := fun b hb d => by
  refine Classical.byContradiction fun hg9 => ?_
  refine E1 (f.din (.inr (.inr (.inl hb)))) fun o e => ?_
  refine hg9 ?_
  exact (f.own b hb).1 (G1' b o e d)
 refine Classical.byContradiction fun hg9 => ?_
 obtain ⟨oC, eC, hoC⟩ : ∃ oC, s'.heap.get? C = some oC ∧ ∀ v, oC.data ≠ .cell v := by
  refine E1A2 (F'.f.ns) fun mv hn5 _ => ?_; refine E3A3 hn5 fun o _ _ e hd _ => ?_; clear hn5
  exact ⟨o, e, fun v z => by rw [hd] at z; cases z⟩
 refine hg9 ?_
 have nC : ¬ Dom st' C := (F'.own C (.inl rfl)).1
 have nCP : C ∉ P₂.map (·.1) := fun q => by
  have := (F'.own C (.inl rfl)).2.1
  rw [List.map_append, List.mem_append] at this
  exact this (.inr q)
 have nCT : ¬ X.isTab C := (F'.own C (.inl rfl)).2.2
 have mv' : ∀ b o, s.heap.get? b = some o → ¬ DD X st P (ownOf env) b → s'.heap.get? b = some o ∧ ¬ DD X st' ((C, oC) :: P₂) (ownOf env) b := fun b o e nd => ⟨S1' b o e nd, fun d => by
  rcases d with d | d | d | d
  ·exact nd (.inl (G1' b o e d))
  ·rcases List.mem_cons.mp d with d | d
   ·have d : b = C := d
    rw [d, fresh] at e; exact J.ns e
   ·exact nd (.inr (.inl (subA b d)))
  ·exact nd (.inr (.inr (.inl d)))
  ·exact nd (.inr (.inr (.inr d)))⟩
 have keepO : ∀ b, ownOf env b → ¬ ownOf (compEnvC scope cl C env) b → ∀ o, s.heap.get? b = some o → Pv s'.heap (b, o) := fun b hb nb o e => by
  have hm : b ∈ O.map (·.1) := by rw [ho1]; exact (hl b).mp ⟨hb, nb⟩
  refine Classical.byContradiction fun hg9 => ?_
  refine E1A2 (List.mem_map.mp hm) fun p hp hn6 => ?_; obtain rfl := hn6
  refine hg9 ?_
  have := ho2 p hp
  rw [e] at this; revert this; refine J.sse ?_; rintro rfl
  exact F'.g.priv p (List.mem_append_left _ hp)
 have w : ∀ b, DD X st' ((C, oC) :: P₂) (ownOf env) b → DD X st' (O ++ P₂) (ownOf (compEnvC scope cl C env)) b := fun b d => (iffP P₂ st' b).mpr (by
  rcases d with d | d | d
  ·exact .inl (.inl d)
  ·rcases List.mem_cons.mp d with d | d
   ·exact .inr d
   ·exact .inl (.inr (.inl d))
  ·exact .inl (.inr (.inr d)))
 have locOut : ¬ ownOf (compEnvC scope cl C env) env.locals := fun q => by
  rcases q with q | ⟨x, h1, h2⟩
  ·refine E1A2 (f.f.ns) fun mv hn7 _ => ?_; refine E3A2 hn7 fun o _ _ e _ => ?_; clear hn7
   have q : env.locals = C := q
   rw [q, fresh] at e; exact J.ns e
  ·exact f.f.apartL x _ (.inl (cellIs x h1).2) (cl1 x _ h2) rfl
 refine ⟨oC, hoC, eC, ⟨⟨F'.g.base, F'.g.tabs, fun a o e => (F'.g.objs a o e).anti w, fun b d => F'.g.lo b (w b d), fun p hp => ?_, fun b d => ⟨fun q => ?_, (F'.g.off b d).2⟩, F'.g.gens, F'.g.os, F'.g.tabc, F'.g.nolim, fun t ht q => (List.mem_cons.mp q).elim (fun q => nCT (by have q : t.2.1 = C := q; exact q ▸ List.mem_map_of_mem ht)) (fun q => F'.g.tabp t ht (by rw [List.map_append, List.mem_append]; exact .inr q))⟩,
  ⟨f.f.kind, f.f.glob, f.f.bi, ?_, fun x hx => ?_, f.f.apart, f.f.apartL⟩, fun b hb => ⟨nog b hb, fun q => ?_, (f.own b hb).2.2⟩⟩, nCP, nCT, S1', G1', w⟩
 ·rcases List.mem_cons.mp hp with rfl | hp
  ·exact .of eC
  ·exact F'.g.priv p (List.mem_append_right _ hp)
 ·refine O2 (List.mem_cons.mp q) (fun q => ?_) (fun q => ?_)
  ·have q : b = C := q
   exact nC (q ▸ d)
  ·exact (F'.g.off b d).1 (by rw [List.map_append, List.mem_append]; exact .inr q)
 rotate_left 2
 ·refine O2 (List.mem_cons.mp q) (fun q => ?_) (fun q => ?_)
  ·have q : b = C := q
   refine Classical.byContradiction fun hg9 => ?_
   refine E1 (f.din (.inr (.inr (.inl hb)))) fun o e => ?_
   refine hg9 ?_
   rw [q, fresh] at e; exact J.ns e
  ·exact (f.own b hb).2.1 (subA b q)
 ·refine E1A2 (f.f.ns) fun mv0 hn hv => ?_
  exact ⟨mv0, ns_near hn fun o e => keepO _ (.inl rfl) locOut o e, fun x hx => (hv x hx).move mv'⟩
 ·refine E2A3 (f.f.cl x hx) fun c ov h1 h2 h3 => ?_
  by_cases q : ∃ y, (compEnvC scope cl C env).kindOf y = some .cell ∧ cl.lookup y = some c
  ·refine E1A2 q fun y q1 q2 => ?_; clear q
   have hxy : y = x := f.f.apart y x c (cellIs y q1).2 hx (cl1 y c q2) h1
   subst hxy
   refine Classical.byContradiction fun hg9 => ?_
   refine E2A3 (F'.f.cl y (.inl q1)) fun c' ov' h1' h2' h3' => ?_
   refine hg9 ?_
   have : cl.lookup y = some c' := h1'
   rw [q2] at this; revert this; refine J.sse ?_; rintro rfl
   refine ⟨c, ov', h1, h2', ?_⟩
   have fy := (cellIs y q1).1
   rw [hm' y (by rw [fy]; decide)] at h3'
   rw [← cm.free y fy]
   cases ov' <;> cases hz : mc y <;> rw [hz] at h3' <;> first | exact h3'.elim | trivial | exact VR.anti w h3'
  ·refine ⟨c, ov, h1, ?_, h3.move mv'⟩
   refine Classical.byContradiction fun hg9 => ?_
   refine E1A2 h2 fun o e hd => ?_; clear h2
   refine hg9 ?_
   by_cases oc : ownOf env c
   ·have nb : ¬ ownOf (compEnvC scope cl C env) c := fun z => by
     rcases z with z | ⟨y, z1, z2⟩
     ·have z : c = C := z
      rw [z, fresh] at e; exact J.ns e
     ·exact q ⟨y, z1, z2⟩
    exact ⟨o, (keepO c oc nb o e).exact (fun es n z => by rw [hd] at z; exact nomatch z), hd⟩
   ·by_cases q : DD X st P (ownOf env) c
    ·rcases q with q | q | q | q
     ·refine E2A2 q fun a ao ea hb => ?_; clear q
      have z := f.g.objs a ao ea
      exfalso
      cases ao with
      | list l => refine E2A2 z fun _ _ e2 _ => ?_; clear z; simp only [AO.foot, List.mem_singleton] at hb; subst hb; rw [e] at e2; revert e2; refine J.sse ?_; rintro rfl; exact nomatch hd
      | inst C ns l =>
       refine Classical.byContradiction fun hg9 => ?_
       refine E2A2 z fun d _ hn8 hn9 => ?_; clear z; obtain rfl := hn8; refine A3 hn9 fun e2 hn10 _ => ?_; clear hn9; refine E2A2 hn10 fun _ _ e3 _ => ?_; clear hn10
       refine hg9 ?_
       simp only [AO.foot, List.mem_cons, List.not_mem_nil, or_false, Nat.add_sub_cancel] at hb
       rcases hb with rfl | rfl
       ·rw [e] at e2; revert e2; refine J.sse ?_; rintro rfl; exact nomatch hd
       ·rw [e] at e3; revert e3; refine J.sse ?_; rintro rfl; exact nomatch hd
     ·refine E1A2 (List.mem_map.mp q) fun p hp hn11 => ?_; obtain rfl := hn11
      refine Classical.byContradiction fun hg9 => ?_
      refine E1A2 ((f.g.priv p hp).data) fun o2 e2 hd2 => ?_
      refine hg9 ?_
      rw [e] at e2; revert e2; refine J.sse ?_; rintro rfl
      by_cases hp2 : p ∈ P₂
      ·exact ⟨_, (F'.g.priv p (List.mem_append_right _ hp2)).exact (fun es n z => by rw [← hd2, hd] at z; exact nomatch z), by rw [← hd2, hd]⟩
      ·exact absurd (hd2.symm.trans hd) (nocell p hp hp2 _)
     ·exact absurd q oc
     ·exfalso
      refine Classical.byContradiction fun hg9 => ?_
      refine E1A2 (List.mem_map.mp q) fun t ht hn12 => ?_; obtain rfl := hn12
      refine E1A2 (f.g.tabs t ht) fun _ a _ => ?_
      refine hg9 ?_
      rw [a.2] at e; revert e; refine J.sse ?_; rintro rfl; exact nomatch hd
    ·exact ⟨o, S1' c o e q, hd⟩
end
end J
namespace J
section
variable {X : Cx} {P : PL} {A : Around} {env : Env} {st : AS} {m : AM} {s : Shared}
theorem FRel.sub {P₂ : PL} (f : FRel X P env st m s) (h : ∀ p ∈ P₂, p ∈ P) : FRel X P₂ env st m s := by
 have hm : ∀ b, b ∈ P₂.map (·.1) → b ∈ P.map (·.1) := fun b hb => by
  refine E1A2 (List.mem_map.mp hb) fun p hp hn1 => ?_; obtain rfl := hn1; exact List.mem_map_of_mem (h p hp)
 have w : ∀ b, DD X st P₂ (ownOf env) b → DD X st P (ownOf env) b := fun b d => d.imp id fun d => d.imp (hm b) id
 have S : ∀ b x, s.heap.get? b = some x → ¬ DD X st P (ownOf env) b → s.heap.get? b = some x ∧ ¬ DD X st P₂ (ownOf env) b := fun b x e nd => ⟨e, fun d => nd (w b d)⟩
 exact ⟨⟨f.g.base, f.g.tabs, fun a o e => (f.g.objs a o e).anti w, fun b d => f.g.lo b (w b d), fun p hp => f.g.priv p (h p hp), fun b d => ⟨fun q => (f.g.off b d).1 (hm b q), (f.g.off b d).2⟩, f.g.gens, f.g.os, f.g.tabc, f.g.nolim, fun t ht q => f.g.tabp t ht (hm _ q)⟩,
  ⟨f.f.kind, f.f.glob, f.f.bi, let ⟨mv, a, b⟩ := f.f.ns; ⟨mv, a, fun x e => (b x e).move S⟩, fun x e => let ⟨c, ov, a, b, r⟩ := f.f.cl x e; ⟨c, ov, a, b, r.move S⟩, f.f.apart, f.f.apartL⟩,
  fun b hb => ⟨(f.own b hb).1, fun q => (f.own b hb).2.1 (hm b q), (f.own b hb).2.2⟩⟩
theorem DD.perm {P₂ : PL} {own : Addr → Prop} (h : ∀ p ∈ P₂, p ∈ P) : ∀ b, DD X st P₂ own b → DD X st P own b := fun b d => d.imp id fun d => d.imp (fun hb => by
 refine E1A2 (List.mem_map.mp hb) fun p hp hn2 => ?_; obtain rfl := hn2; exact List.mem_map_of_mem (h p hp)) id
noncomputable def Apart (X : Cx) (Pi P : PL) : Prop := ∀ p ∈ Pi, p.1 ∉ P.map (·.1) ∧ ¬ X.isTab p.1
structure Itr (X : Cx) (A : Around) (tgt : Expr) (it : Value) (xs : List AV) (at' : Nat → PL → Prop) (NS : AS → Prop) (NH : (Addr → Prop) → Heap → Prop) : Prop where
 held : ∀ {D D' : Addr → Prop} {h h' : Heap}, Step D h h' → Gr h D D' → NH D h → NH D' h'
 addr : ∀ i Pi j Pj, at' i Pi → at' j Pj → Pi.map (·.1) = Pj.map (·.1)
 cell : ∀ i Pi, at' i Pi → ∀ p ∈ Pi, ∀ v, p.2.data ≠ .cell v
 next : ∀ P env st m s i Pi, at' i Pi → i ≤ xs.length → NS st → NH (DD X st (Pi ++ P) (ownOf env)) s.heap → Apart X Pi P → FRel X (Pi ++ P) env st m s → ∀ (G : Option Value → Shared → Prop) (E : Value → Shared → Prop),
  (∀ s', i = xs.length → FRel X P env st m s' → Step (DD X st (Pi ++ P) (ownOf env)) s.heap s'.heap → G none s') →
  (∀ s' v a Pi', xs[i]? = some a → at' (i + 1) Pi' → VR (DD X st (Pi' ++ P) (ownOf env)) s'.heap v a → FRel X (Pi' ++ P) env st m s' → Step (DD X st (Pi ++ P) (ownOf env)) s.heap s'.heap → G (some v) s') →
  wpAny (model X.prog X.w) A (pyNext it) (fun r s₁ => match r with | none => G none s₁ | some v => wpAny (model X.prog X.w) A (letOwnedTupleGo tgt it v) (fun _ s₂ => G (some v) s₂) E s₁) E s
 again : ∀ P env st m s i Pi, at' i Pi → FRel X (Pi ++ P) env st m s → ∀ (Q : Value → Shared → Prop) (E : Value → Shared → Prop), Q it s → wpAny (model X.prog X.w) A (pyIter it) Q E s
theorem Itr.addr' {tgt : Expr} {it : Value} {xs : List AV} {at' : Nat → PL → Prop} {NS : AS → Prop} {NH : (Addr → Prop) → Heap → Prop} (T : Itr X A tgt it xs at' NS NH) {i j : Nat} {Pi Pj : PL} (h : at' i Pi) (h' : at' j Pj) (own : Addr → Prop) (b : Addr) :
 DD X st (Pi ++ P) own b ↔ DD X st (Pj ++ P) own b := by
 unfold DD; rw [List.map_append, List.map_append, T.addr i Pi j Pj h h']
theorem Itr.apart {tgt : Expr} {it : Value} {xs : List AV} {at' : Nat → PL → Prop} {NS : AS → Prop} {NH : (Addr → Prop) → Heap → Prop} (T : Itr X A tgt it xs at' NS NH) {i j : Nat} {Pi Pj : PL} (h : at' i Pi) (h' : at' j Pj) (a : Apart X Pi P) : Apart X Pj P := fun p hp => by
 have : p.1 ∈ Pi.map (·.1) := by rw [T.addr i Pi j Pj h h']; exact List.mem_map_of_mem hp
 refine E1A2 (List.mem_map.mp this) fun q hq e => ?_
 rw [← e]; exact a q hq
noncomputable def Got (X : Cx) (P : PL) (A : Around) (env : Env) (st : AS) (m : AM) (tgt : Expr) (xs : List AV) (NS : AS → Prop) (s : Shared) (it : Value) (s' : Shared) : Prop :=
 ∃ at' NH Pi, Itr X A tgt it xs at' NS NH ∧ at' 0 Pi ∧ Apart X Pi P ∧ NH (DD X st (Pi ++ P) (ownOf env)) s'.heap ∧ FRel X (Pi ++ P) env st m s' ∧ Step (DD X st P (ownOf env)) s.heap s'.heap ∧ ∀ p ∈ Pi, s.heap.get? p.1 = none
noncomputable def EVI (X : Cx) (P : PL) (A : Around) (env : Env) (st : AS) (m : AM) (tgt iter : Expr) (xs : List AV) (NS : AS → Prop) : Prop :=
 NS st ∧ ∀ s, FRel X P env st m s → wpAny (model X.prog X.w) A (eval iter env) (fun x s₁ => wpAny (model X.prog X.w) A (pyIter x) (fun it s₂ => Got X P A env st m tgt xs NS s it s₂) (fun _ _ => False) s₁) (fun _ _ => False) s
noncomputable def atL (I l : Addr) (i : Nat) (Pi : PL) : Prop := ∃ o : Obj, Pi = [(I, o)] ∧ o.cls = .type "list_iterator" ∧ o.data = .fields #[.ref l, .int i 0]
theorem itr_list {tgt : Expr} {I l : Addr} {xs : List AV} {NS : AS → Prop} {NH : (Addr → Prop) → Heap → Prop} (hA : A.handled = none) (held : ∀ {D D' : Addr → Prop} {h h' : Heap}, Step D h h' → Gr h D D' → NH D h → NH D' h')
 (hl : ∀ P env st m s, FRel X P env st m s → NS st → NH (DD X st P (ownOf env)) s.heap → ∃ vs : List Value, s.heap.IsList l vs.toArray ∧ VRs (DD X st P (ownOf env)) s.heap vs xs) : Itr X A tgt (.ref I) xs (atL I l) NS NH where
 held := held
 addr := by rintro i _ j _ ⟨o, rfl, -⟩ ⟨o', rfl, -⟩; rfl
 cell := by (intro i _ hr4 p hp v e; refine E1A2 hr4 fun o hr5 hr6 => ?_; clear hr4; obtain rfl := hr5; refine A2 hr6 fun h1 h2 => ?_; clear hr6); cases hp with | head => rw [h2] at e; cases e | tail _ h => exact J.mn h
 again := by
  intro P env st m s i _ hr7 f Q E h; refine E1A2 hr7 fun o hr8 hr9 => ?_; clear hr7; obtain rfl := hr8; refine A2 hr9 fun h1 h2 => ?_; clear hr9
  exact wpAny_pyIter_listiter ⟨o, (f.g.priv (I, o) (.head _)).exact (fun es n z => by rw [h2] at z; exact nomatch z), h1, h2⟩ h
 next := by
  intro P env st m s i _ hr10 hi ns nh ap f G E kn ks; refine E1A2 hr10 fun o hr11 hr12 => ?_; clear hr10; obtain rfl := hr11; refine A2 hr12 fun h1 h2 => ?_; clear hr12
  refine E1A2 (hl _ _ _ _ _ f ns nh) fun vs el rs => ?_
  refine A2 (ap (I, o) (.head _)) fun hIP hIT => ?_
  have hC : ∀ v, o.data ≠ .cell v := fun v e => by rw [h2] at e; exact nomatch e
  have eo := (f.g.priv (I, o) (.head _)).exact fun es n z => by rw [h2] at z; exact nomatch z
  have hit : s.heap.IsListIter I l i := ⟨o, eo, h1, h2⟩
  by_cases hlt : i < xs.length
  ·obtain ⟨a, ha⟩ : ∃ a, xs[i]? = some a := ⟨xs[i], List.getElem?_eq_getElem hlt⟩
   refine E1A2 (rs.get i a ha) fun v hv rv => ?_
   refine wpAny_pyNext_list_item hit el (x := v) (by rw [List.getElem?_toArray]; exact hv) fun h' hit' hs' => ?_
   refine E1A3 hit' fun o' eo' oc' od' => ?_; clear hit'
   refine letGo_listiter ⟨o', eo', oc', od'⟩ ?_
   have kk : ∀ b x, b ≠ I → s.heap.get? b = some x → h'.get? b = some x := fun b x hb e => (hs'.2 b hb).trans e
   refine A2 (f.turn (tk := s.toks) hIP hIT hC kk eo') fun ft St => ?_
   refine ks _ v a [(I, o')] ha ⟨o', rfl, oc', od'⟩ ?_ ft St
   exact rv.step St fun b x e d => d
  ·have hxs : i = xs.length := by lia
   refine wpAny_pyNext_list_end hA hit el (by rw [List.getElem?_toArray, List.getElem?_eq_none_iff, rs.length]; lia) fun h' hs' => ?_
   have kk : ∀ b x, b ≠ I → s.heap.get? b = some x → h'.get? b = some x := hs'
   refine A2 (f.unpriv (tk := s.toks) hIP hIT hC kk) fun fu Su => ?_
   exact kn _ hxs fu Su
theorem got_list {tgt : Expr} {l : Addr} {xs : List AV} {NS : AS → Prop} {NH : (Addr → Prop) → Heap → Prop} {s₁ : Shared} (hA : A.handled = none) (held : ∀ {D D' : Addr → Prop} {h h' : Heap}, Step D h h' → Gr h D D' → NH D h → NH D' h') (ns : NS st)
 (hl : ∀ P env st m s, FRel X P env st m s → NS st → NH (DD X st P (ownOf env)) s.heap → ∃ vs : List Value, s.heap.IsList l vs.toArray ∧ VRs (DD X st P (ownOf env)) s.heap vs xs)
 (f : FRel X P env st m s₁) (nh : NH (DD X st P (ownOf env)) s₁.heap) (S : Step (DD X st P (ownOf env)) s.heap s₁.heap) :
 wpAny (model X.prog X.w) A (pyIter (.ref l)) (fun it s₂ => Got X P A env st m tgt xs NS s it s₂) (fun _ _ => False) s₁ := by
 refine E1A2 (hl _ _ _ _ _ f ns nh) fun vs el rs => ?_
 refine wpAny_pyIter_list el ?_
 obtain ⟨o₀, ho₀⟩ : ∃ o : Obj, o = { cls := .type "list_iterator", data := .fields #[.ref l, .int 0 0] } := ⟨_, rfl⟩
 have k₀ : ∀ b o, s₁.heap.get? b = some o → (s₁.heap.push o₀).get? b = some o := fun b o e => Heap.get?_push_of_some _ e
 refine A3 (f.priv (tk := s₁.toks) k₀ s₁.heap.objs.size o₀ (get_size _) (Heap.get?_push_size _ (by rw [ho₀]; rfl))) fun f₂ hIP hIT => ?_
 rw [ho₀] at f₂ k₀
 refine ⟨_, NH, [(s₁.heap.objs.size, o₀)], itr_list (l := l) hA held hl, ⟨o₀, rfl, by rw [ho₀], by rw [ho₀]; rfl⟩, fun p hp => ?_, ?_, ?_, S.on (Step.of_keeps k₀), fun p hp => ?_⟩
 ·cases hp with | head => exact ⟨hIP, hIT⟩ | tail _ h => exact J.mn h
 ·refine held (Step.of_keeps k₀) (fun b x e d => ?_) nh
  refine O2 (DD.priv d) (fun q => ?_) (fun d => ?_)
  ·rw [q, get_size] at e; exact J.ns e
  ·exact d
 ·rw [ho₀]; exact f₂
 ·cases hp with
  | head => dsimp only; cases e : s.heap.get? s₁.heap.objs.size with
   | none => rfl
   | some o =>
    by_cases q : DD X st P (ownOf env) s₁.heap.objs.size
    ·exact absurd q (f.dno (get_size _))
    ·have := S _ _ e q; rw [get_size] at this; exact J.ns this
  | tail _ h => exact J.mn h
set_option tactic.hygienic true in
theorem i_list {tgt iter : Expr} {xs : List AV} (hA : A.handled = none) (hi : EV X P A env st m (eval iter env) (.lst xs)) : EVI X P A env st m tgt iter xs (fun _ => True) := ⟨trivial, fun s f => hi.on f fun xv s₁ f₁ r S₁ => by
 cases r with
 | lst nd pl rs =>
  rename_i l vs
  exact got_list (l := l) (NH := fun D h => ¬ D l ∧ h.PlainList l vs.toArray ∧ VRs D h vs xs) hA (fun {D D' h h'} S g ⟨n, ⟨c, e⟩, r⟩ => ⟨fun d => n (g _ _ e d), ⟨c, S _ _ e n⟩, r.step S g⟩) trivial
   (fun P env st m s f _ ⟨n, e, r⟩ => ⟨vs, PlainList.isList e, r⟩) f₁ ⟨nd, pl, rs⟩ S₁⟩
theorem i_tracked {tgt iter : Expr} {a : Addr} {xs : List AV} (hA : A.handled = none) (hi : EV X P A env st m (eval iter env) (.ref a)) (ha : st a = some (.list xs)) : EVI X P A env st m tgt iter xs (fun st' => st' a = some (.list xs)) := ⟨ha, fun s f => hi.on f fun xv s₁ f₁ r S₁ => by
 (first | cases r using VR.intE | cases r using VR.noneE | cases r using VR.boolE | cases r using VR.refE | cases r using VRs.nilE | cases r)
 exact got_list (l := a) (NH := fun _ _ => True) hA (fun _ _ _ => trivial) ha
  (fun P env st m s f ha _ => by refine E2A2 (f.g.objs a _ ha) fun vs n e r => ?_; exact ⟨vs, ⟨_, e, rfl, n, rfl⟩, r⟩) f₁ trivial S₁⟩
end
end J
namespace J
section
variable {X : Cx} {P : PL} {A : Around} {env : Env} {st : AS} {m : AM} {s : Shared}
theorem DD.app {Pi : PL} {own : Addr → Prop} {b : Addr} (d : DD X st (Pi ++ P) own b) : b ∈ Pi.map (·.1) ∨ DD X st P own b := by
 rcases d with d | d | d
 ·exact .inr (.inl d)
 ·rw [List.map_append, List.mem_append] at d
  exact d.elim .inl fun q => .inr (.inr (.inl q))
 ·exact .inr (.inr (.inr d))
theorem x_for {tgt iter : Expr} {body : List Stmt} {pos : Pos} {xs : List AV} {NS : AS → Prop} {Q : AF → AS → AM → Prop} (hi : EVI X P A env st m tgt iter xs NS) (hs : ∀ x, foldedSetIterable iter env x = pure x)
 (J : Nat → AS → AM → Prop) (h0 : J 0 st m) (hN : ∀ i st' m', J i st' m' → NS st')
 (turn : ∀ P' i a st' m', (∀ p ∈ P, p ∈ P') → xs[i]? = some a → J i st' m' → ∃ F, ASG X P' A env tgt a F ∧ WX X P' A env st' (F m') (execs body env) fun φ st'' m'' => match φ with
  | .next => J (i + 1) st'' m'' | .cont => J (i + 1) st'' m'' | .brk => Q .next st'' m'' | .ret r => Q (.ret r) st'' m'')
 (done : ∀ st' m', J xs.length st' m' → Q .next st' m') : WX X P A env st m (exec (.For tgt iter body [] pos) env) Q := fun s f => by
 refine wpAny_For (wpAny_mono (hi.2 s f) (fun x s₁ h => wpAny_mono h (fun it s₂ g => ?_) fun _ _ e => e.elim) fun _ _ e => e.elim) hs
 refine E3A7 g fun at' NH Pi T h0' ap nh f₂ S₂ fr => ?_; clear g
 let Inv : Nat → Shared → Prop := fun n s' => ∃ i st' m' Pj, n = xs.length - i ∧ i ≤ xs.length ∧ J i st' m' ∧ at' i Pj ∧ FRel X (Pj ++ P) env st' m' s' ∧ NH (DD X st' (Pj ++ P) (ownOf env)) s'.heap ∧
  Step (DD X st P (ownOf env)) s.heap s'.heap ∧ Gr s.heap (Dom st) (Dom st')
 refine codeAny_forLoop_any Inv ?_ xs.length ⟨0, st, m, Pi, rfl, Nat.zero_le _, h0, h0', f₂, nh, S₂, Gr.refl _ _⟩
 rintro n s' ⟨i, st', m', Pj, rfl, hi', hJ, hat, fi, nh', Si, Gi⟩
 have base : ∀ (st' : AS) (Pk : PL) (k : Nat), at' k Pk → Gr s.heap (Dom st) (Dom st') → Gr s.heap (DD X st P (ownOf env)) (DD X st' (Pk ++ P) (ownOf env)) := fun st' Pk k hk g b x e d => by
  rcases d.app with q | d
  ·rw [T.addr k Pk 0 Pi hk h0'] at q
   refine E1A2 (List.mem_map.mp q) fun p hp hn1 => ?_; obtain rfl := hn1
   rw [fr p hp] at e; exact nomatch e
  ·exact DD.grow g b x e d
 have apj : Apart X Pj P := T.apart h0' hat ap
 refine wpAny_mono (T.next P env st' m' s' i Pj hat hi' (hN _ _ _ hJ) nh' apj fi (fun r s₁ => match r with
  | none => wpAny (model X.prog X.w) A (execs [] env) _ _ s₁
  | some v => wpAny (model X.prog X.w) A (assign tgt env v) _ _ s₁) _ (fun s₁ he fu Su => ?_) fun s₁ v a Pk ha hk rv ft St => ?_) (fun r s₁ h => by (first | cases r using VR.intE | cases r using VR.noneE | cases r using VR.boolE | cases r using VR.refE | cases r using VRs.nilE | cases r) <;> exact h) fun _ _ e => e
 ·subst he
  refine wpAny_execs_nil ⟨.next, st', m', trivial, fu, Si.trans Su (base st' _ _ hat Gi), Gi, done st' m' hJ⟩
 ·refine E1A2 (turn (Pk ++ P) i a st' m' (fun p hp => List.mem_append_right _ hp) ha hJ) fun F hF hB => ?_
  have Sx : Step (DD X st P (ownOf env)) s.heap s₁.heap := Si.trans St (base st' _ _ hat Gi)
  refine hF st' m' _ v ft rv _ _ fun s₂ f₂ S₂ => ?_
  refine wpAny_mono (hB s₂ f₂) (fun fl s₃ p => ?_) fun _ _ e => e.elim
  obtain ⟨φ, st₃, m₃, r₃, f₃, S₃, G₃, q₃⟩ := p
  have Sy : Step (DD X st P (ownOf env)) s.heap s₂.heap := Sx.trans S₂ (base st' _ _ hk Gi)
  have Sz : Step (DD X st P (ownOf env)) s.heap s₃.heap := Sy.trans S₃ (base st' _ _ hk Gi)
  have fu : FRel X P env st₃ m₃ s₃ := f₃.sub fun p hp => List.mem_append_right _ hp
  have Gz : Gr s.heap (Dom st) (Dom st₃) := fun b x e d => by
   by_cases q : DD X st P (ownOf env) b
   ·rcases q with q | q | q | q
    ·exact q
    ·exact absurd q (fu.g.off b d).1
    ·exact absurd d (fu.own b q).1
    ·exact absurd q (fu.g.off b d).2
   ·exact Gi b x e (G₃ b x (Sy b x e q) d)
  have nh₁ : NH (DD X st' (Pk ++ P) (ownOf env)) s₁.heap := T.held St (fun b x e d => (T.addr' hat hk _ b).mpr d) nh'
  have nh₃ : NH (DD X st₃ (Pk ++ P) (ownOf env)) s₃.heap := T.held S₃ (DD.grow G₃) (T.held S₂ (Gr.refl _ _) nh₁)
  have hlt : i < xs.length := by rcases Nat.lt_or_ge i xs.length with h | h; exact h; rw [List.getElem?_eq_none_iff.mpr h] at ha; exact nomatch ha
  cases fl <;> cases φ <;> first | exact r₃.elim | skip
  ·exact ⟨_, nD hlt, i + 1, st₃, m₃, Pk, rfl, hlt, q₃, hk, f₃, nh₃, Sz, Gz⟩
  ·exact ⟨.next, st₃, m₃, trivial, fu, Sz, Gz, q₃⟩
  ·exact ⟨_, nD hlt, i + 1, st₃, m₃, Pk, rfl, hlt, q₃, hk, f₃, nh₃, Sz, Gz⟩
  ·exact ⟨.ret _, st₃, m₃, VR.anti (DD.perm fun p hp => List.mem_append_right _ hp) r₃, fu, Sz, Gz, q₃⟩
end
end J
namespace J
section
variable {X : Cx} {P : PL} {A : Around} {env cenv : Env} {st : AS} {m mc : AM} {s : Shared}
noncomputable def Ext (st st' : AS) : Prop := ∀ a o, st a = some o → st' a = some o
theorem Ext.put {D : Addr} {o : AO} (h : st D = none) : Ext st (put st D o) := fun a o' e => by
 rw [put_ne (fun q => by rw [q, h] at e; exact J.ns e)]; exact e
theorem dom_list (st : AS) (D : Addr) (l l' : List AV) (b : Addr) : Dom (J.put st D (.list l)) b → Dom (J.put st D (.list l')) b := fun ⟨a, o, e, hb⟩ => by
 unfold J.put at e
 split at e
 ·rename_i q; revert e; refine J.sse ?_; rintro rfl
  exact ⟨a, .list l', by unfold J.put; rw [if_pos q], hb⟩
 ·rename_i q; exact ⟨a, o, by unfold J.put; rw [if_neg q]; exact e, hb⟩
theorem DD.list {own : Addr → Prop} {D : Addr} {l : List AV} (l' : List AV) {b : Addr} (d : DD X (J.put st D (.list l)) P own b) : DD X (J.put st D (.list l')) P own b := d.imp (dom_list st D l l' b) id
noncomputable def EvIfs (X : Cx) (P : PL) (A : Around) (env : Env) (st : AS) (m : AM) (ifs : List Expr) (p : Bool) : Prop :=
 EvB X P A env st m (forIn ifs true fun c r => if r = true then do let ok ← isTrue c env (eval c env); pure (ForInStep.yield ok) else pure (ForInStep.yield r)) p
theorem ifs_nil : EvIfs X P A env st m [] true := fun _ f => wpAny_tests_nil (Post.eq f rfl)
theorem ifs_one {c : Expr} {p : Bool} (h : EvT X P A env st m c p) : EvIfs X P A env st m [c] p := fun s f => wpAny_tests_one (h s f)
noncomputable def CM (X : Cx) (P : PL) (A : Around) (cenv : Env) (st : AS) (D : Addr) (t : Sem Unit) (J₀ J : AM → Prop) (ys : List AV) : Prop :=
 ∀ acc m s, J₀ m → acc.length + ys.length ≤ sizeLine → FRel X P cenv (put st D (.list acc)) m s →
  wpAny (model X.prog X.w) A t (fun _ s' => ∃ m', J m' ∧ FRel X P cenv (put st D (.list (acc ++ ys))) m' s' ∧ Step (DD X (put st D (.list acc)) P (ownOf cenv)) s.heap s'.heap) (fun _ _ => False) s
theorem cm_emit {elt : Expr} {D : Addr} {J : AM → Prop} {b : AV} {m : AM} (h : ∀ acc, EV X P A cenv (put st D (.list acc)) m (eval elt cenv) b) (hJ : J m) :
 CM X P A cenv st D (do let _ ← call (.builtin "list.append") [.ref D, ← eval elt cenv]) (· = m) J [b] := fun acc m s hm hz f => by
 subst hm
 refine wpAny_bind ((h acc).on f fun v s₁ f₁ r S₁ => wpAny_bind ?_)
 have ha : (put st D (.list acc)) D = some (.list acc) := put_same _ _ _
 refine E2A2 (f₁.g.objs D _ ha) fun vs n e rs => ?_
 refine wpAny_list_append_plain ⟨n, e⟩ (fun h' hp hs => ?_) (by rw [List.size_toArray, rs.length]; have : [b].length = 1 := rfl; lia)
 refine E1 hp fun n' e' => ?_; clear hp
 have kk : ∀ b' x, b' ∉ AO.foot D (.list (acc ++ [b])) → s₁.heap.get? b' = some x → h'.get? b' = some x := fun b' x hb e => (hs.2 b' (fun z => hb (by rw [z]; simp [AO.foot]))).trans e
 have md := f₁.mod (o := .list (acc ++ [b])) (tk := s₁.toks) ha rfl kk ⟨vs ++ [v], n', by rw [e', List.push_toArray], VRs.move (D := DD X (put st D (.list acc)) P (ownOf cenv)) (h := s₁.heap) (fun c x e nd => ⟨kk c x (fun z => nd (.inl ⟨D, _, ha, z⟩)) e, nd⟩) (rs.append (.cons r .nil))⟩
 rw [put_put] at md
 exact wpAny_pure ⟨m, hJ, md.1, S₁.on md.2.1⟩
theorem loopT {e : Expr} {d : Nat} {tgt : Expr} {it acc : Value} {ifs : List Expr} {inner : Sem Unit} {p : Pos} {R : Result → Shared → Prop}
 (hq : (Code.compLoop e d it acc cenv).quiet = true) (hu : A.under (Code.compLoop e d it acc cenv) = A)
 (hturn : (model X.prog X.w).den (Code.compLoop e d it acc cenv) = (do
  standAt p
  match ← pyNext it with
  | none => pure (Fin.done .next)
  | some v =>
   letOwnedTupleGo tgt it v
   assign tgt cenv v
   let mut ok := true
   for c in ifs do
    if ok then ok ← isTrue c cenv (eval c cenv)
   if ok then inner
   again (.compLoop e d it acc cenv) : Sem Fin).onRaise (fun x => do noteFrame x cenv; theTreesLotGoes x)) (I : Nat → Shared → Prop)
 (turn : ∀ n s, I n s → wpAny (model X.prog X.w) A (pyNext it) (fun r s₁ => match r with
  | none => R (.ok .next) s₁
  | some v => wpAny (model X.prog X.w) A (letOwnedTupleGo tgt it v) (fun _ s₁ => wpAny (model X.prog X.w) A (assign tgt cenv v) (fun _ s₂ =>
   wpAny (model X.prog X.w) A (forIn ifs true fun c r => if r = true then do let ok ← isTrue c cenv (eval c cenv); pure (ForInStep.yield ok) else pure (ForInStep.yield r)) (fun ok s₃ =>
    if ok = true then wpAny (model X.prog X.w) A inner (fun _ s₅ => ∃ m, m < n ∧ I m s₅) (fun _ _ => False) s₃
    else ∃ m, m < n ∧ I m s₃) (fun _ _ => False) s₂) (fun _ _ => False) s₁) (fun _ _ => False) s₁) (fun _ _ => False) s)
 (n : Nat) (h : I n s) : codeAny (model X.prog X.w) A (.compLoop e d it acc cenv) R s := by
 refine codeAny_loop hq I (fun n s hI => ?_) n h
 rw [hu, hturn]
 refine wpAny_noted ?_
 refine wpAny_bind (wpAny_standAt (wpAny_bind (wpAny_mono (turn n s hI) (fun r s₁ h₁ => ?_) fun _ _ h' => h'.elim)))
 cases r with
 | none => exact wpAny_pure h₁
 | some v =>
  refine wpAny_bind (wpAny_mono h₁ (fun _ s₁ h₁ => wpAny_bind (wpAny_mono h₁ (fun _ s₂ h₂ => wpAny_bind (wpAny_mono h₂ (fun ok s₃ h₃ => ?_) fun _ _ h' => h'.elim)) fun _ _ h' => h'.elim)) fun _ _ h' => h'.elim)
  cases ok with
  | false => exact wpAny_pure ⟨rfl, h₃⟩
  | true => exact wpAny_bind (wpAny_mono h₃ (fun _ s₅ h₅ => wpAny_pure ⟨rfl, h₅⟩) fun _ _ h' => h'.elim)
theorem lvl {e : Expr} {d : Nat} {tgt : Expr} {it : Value} {ifs : List Expr} {inner : Sem Unit} {p : Pos} {D : Addr} {xs : List AV} {at' : Nat → PL → Prop} {NS : AS → Prop} {NH : (Addr → Prop) → Heap → Prop}
 (hq : (Code.compLoop e d it (.ref D) cenv).quiet = true) (hu : A.under (Code.compLoop e d it (.ref D) cenv) = A)
 (hturn : (model X.prog X.w).den (Code.compLoop e d it (.ref D) cenv) = (do
  standAt p
  match ← pyNext it with
  | none => pure (Fin.done .next)
  | some v =>
   letOwnedTupleGo tgt it v
   assign tgt cenv v
   let mut ok := true
   for c in ifs do
    if ok then ok ← isTrue c cenv (eval c cenv)
   if ok then inner
   again (.compLoop e d it (.ref D) cenv) : Sem Fin).onRaise (fun x => do noteFrame x cenv; theTreesLotGoes x)) (T : Itr X A tgt it xs at' NS NH) (g : AV → List AV) (J : AM → Prop) (hNS : ∀ acc, NS (put st D (.list acc)))
 (turn : ∀ Pk a m, a ∈ xs → J m → ∃ F q, ASG X (Pk ++ P) A cenv tgt a F ∧ (∀ acc, EvIfs X (Pk ++ P) A cenv (put st D (.list acc)) (F m) ifs q) ∧ (q = true → CM X (Pk ++ P) A cenv st D inner (· = F m) J (g a)) ∧ (q = false → g a = [] ∧ J (F m)))
 {acc : List AV} {m : AM} {s : Shared} {Pi : PL} (hJ : J m) (h0 : at' 0 Pi) (ap : Apart X Pi P) (nh : NH (DD X (put st D (.list acc)) (Pi ++ P) (ownOf cenv)) s.heap) (f : FRel X (Pi ++ P) cenv (put st D (.list acc)) m s)
 (hz : acc.length + (xs.flatMap g).length ≤ sizeLine) {R : Result → Shared → Prop}
 (hR : ∀ s' m', J m' → FRel X P cenv (put st D (.list (acc ++ xs.flatMap g))) m' s' → Step (DD X (put st D (.list acc)) (Pi ++ P) (ownOf cenv)) s.heap s'.heap → R (.ok .next) s') :
 codeAny (model X.prog X.w) A (.compLoop e d it (.ref D) cenv) R s := by
 let Inv : Nat → Shared → Prop := fun n s' => ∃ i m' Pj, n = xs.length - i ∧ i ≤ xs.length ∧ J m' ∧ at' i Pj ∧ FRel X (Pj ++ P) cenv (put st D (.list (acc ++ (xs.take i).flatMap g))) m' s' ∧ NH (DD X (put st D (.list (acc ++ (xs.take i).flatMap g))) (Pj ++ P) (ownOf cenv)) s'.heap ∧
  Step (DD X (put st D (.list acc)) (Pi ++ P) (ownOf cenv)) s.heap s'.heap
 refine loopT hq hu hturn Inv (fun n s' hI => ?_) xs.length ⟨0, m, Pi, rfl, Nat.zero_le _, hJ, h0, by simpa using f, by simpa using nh, Step.refl _ _⟩
 refine E3A2 hI fun i m' Pj hn1 hn2 => ?_; clear hI; obtain rfl := hn1; refine A6 hn2 fun hi' hJ' hat fi nh' Si => ?_; clear hn2
 have apj : Apart X Pj P := T.apart h0 hat ap
 have dd : ∀ (k : Nat) (Pk : PL) (l : List AV) (b : Addr), at' k Pk → DD X (put st D (.list l)) (Pk ++ P) (ownOf cenv) b → DD X (put st D (.list acc)) (Pi ++ P) (ownOf cenv) b := fun k Pk l b hk d => ((T.addr' h0 hk _ b).mpr d).list acc
 refine wpAny_mono (T.next P cenv _ m' s' i Pj hat hi' (hNS _) nh' apj fi (fun r s₁ => match r with
  | none => R (.ok .next) s₁
  | some v => wpAny (model X.prog X.w) A (assign tgt cenv v) _ _ s₁) _ (fun s₁ he fu Su => ?_) fun s₁ v a Pk ha hk rv ft St => ?_) (fun r s₁ h => by (first | cases r using VR.intE | cases r using VR.noneE | cases r using VR.boolE | cases r using VR.refE | cases r using VRs.nilE | cases r) <;> exact h) fun _ _ e => e
 ·subst he
  rw [List.take_length] at fu
  exact hR s₁ m' hJ' fu (Si.on (Su.mono fun b o e d => dd _ Pj _ b hat d))
 ·have hlt : i < xs.length := by rcases Nat.lt_or_ge i xs.length with h | h; exact h; rw [List.getElem?_eq_none_iff.mpr h] at ha; exact nomatch ha
  have hmem : a ∈ xs := List.mem_of_getElem? ha
  have htk : (xs.take (i + 1)).flatMap g = (xs.take i).flatMap g ++ g a := by rw [List.take_add_one, ha, List.flatMap_append]; simp
  have hlen : ((xs.take i).flatMap g).length + (g a).length ≤ (xs.flatMap g).length := by
   rw [← List.length_append, ← htk]
   conv => rhs; rw [← List.take_append_drop (i + 1) xs, List.flatMap_append, List.length_append]
   exact Nat.le_add_right _ _
  refine E2A4 (turn Pk a m' hmem hJ') fun F q hF hI hT hE => ?_
  have S₁ : Step (DD X (put st D (.list acc)) (Pi ++ P) (ownOf cenv)) s.heap s₁.heap := Si.on (St.mono fun b o e d => dd _ Pj _ b hat d)
  have up : ∀ {h h' : Heap} (l : List AV), Step (DD X (put st D (.list l)) (Pk ++ P) (ownOf cenv)) h h' → Step (DD X (put st D (.list acc)) (Pi ++ P) (ownOf cenv)) h h' := fun l S => S.mono fun b o e d => dd _ Pk l b hk d
  have nh₁ : NH (DD X (put st D (.list (acc ++ (xs.take i).flatMap g))) (Pk ++ P) (ownOf cenv)) s₁.heap := T.held St (fun b o e d => (T.addr' hat hk _ b).mpr d) nh'
  refine hF _ m' _ v ft rv _ _ fun s₂ f₂ S₂ => ?_
  refine (hI _).on f₂ fun s₃ f₃ S₃ => ?_
  cases q with
  | false =>
   refine A2 (hE rfl) fun g0 hJF => ?_
   rw [if_neg (by decide)]
   refine ⟨_, nD hlt, i + 1, F m', Pk, rfl, hlt, hJF, hk, ?_, ?_, (S₁.on (up _ S₂)).on (up _ S₃)⟩
   ·rw [htk, g0, List.append_nil]; exact f₃
   ·rw [htk, g0, List.append_nil]; exact T.held S₃ (Gr.refl _ _) (T.held S₂ (Gr.refl _ _) nh₁)
  | true =>
   rw [if_pos rfl]
   refine wpAny_mono (hT rfl _ _ s₃ rfl (by rw [List.length_append]; exact Nat.le_trans (Nat.le_of_eq (Nat.add_assoc _ _ _)) (Nat.le_trans (Nat.add_le_add_left hlen _) (by assumption))) f₃) (fun _ s₄ h₄ => ?_) fun _ _ e => e
   refine E1A3 h₄ fun m₄ hJ₄ f₄ S₄ => ?_; clear h₄
   rw [List.append_assoc, ← htk] at f₄
   refine ⟨_, nD hlt, i + 1, m₄, Pk, rfl, hlt, hJ₄, hk, f₄, ?_, ((S₁.on (up _ S₂)).on (up _ S₃)).on (up _ S₄)⟩
   exact T.held S₄ (fun b o e d => DD.list _ d) (T.held S₃ (Gr.refl _ _) (T.held S₂ (Gr.refl _ _) nh₁))
end
end J
namespace J
section
variable {X : Cx} {P : PL} {A : Around} {env : Env} {st : AS} {m : AM} {s : Shared}
noncomputable abbrev Turn (X : Cx) (e : Expr) (tgt : Expr) (ifs : List Expr) (p : Pos) (d : Nat) (inner : Env → Addr → Sem Unit) : Prop := ∀ (cenv : Env) (D : Addr) (it : Value),
 (model X.prog X.w).den (Code.compLoop e d it (.ref D) cenv) = (do
  standAt p
  match ← pyNext it with
  | none => pure (Fin.done .next)
  | some v =>
   letOwnedTupleGo tgt it v
   assign tgt cenv v
   let mut ok := true
   for c in ifs do
    if ok then ok ← isTrue c cenv (eval c cenv)
   if ok then inner cenv D
   again (.compLoop e d it (.ref D) cenv) : Sem Fin).onRaise (fun x => do noteFrame x cenv; theTreesLotGoes x)
noncomputable abbrev emit1 (elt : Expr) : Env → Addr → Sem Unit := fun cenv D => do let _ ← call (.builtin "list.append") [.ref D, ← eval elt cenv]
theorem turn1 (elt tgt iter : Expr) (ifs : List Expr) (scope : Scope) (pos : Pos) : Turn X (.ListComp elt [⟨tgt, iter, ifs, 0⟩] scope pos) tgt ifs iter.pos 0 (emit1 elt) := fun cenv D it => by
 show (compTurn (.ListComp elt [⟨tgt, iter, ifs, 0⟩] scope pos) 0 it (.ref D) cenv).onRaise _ = _
 rw [compTurn_list]
 rfl
noncomputable abbrev MM (scope : Scope) (m : AM) (ml : AM) : AM := mix scope ml (freeM scope m)
theorem MM.none (scope : Scope) (m : AM) : MM scope m (fun _ => .none) = freeM scope m := by
 funext y; unfold MM mix freeM
 by_cases h : scope.names.lookup y = some .local
 ·rw [if_pos h, if_neg (by rw [h]; decide)]
 ·rw [if_neg h]
theorem comp_core {elt tgt iter : Expr} {ifs : List Expr} {rest : List Comprehension} {scope : Scope} {pos pos' p : Pos} {inner : Env → Addr → Sem Unit} {xs : List AV} {NS : AS → Prop} {g : AV → List AV} {use : Option (Value → Sem Unit)} {Q : Value → Shared → Prop}
 (hturn : Turn X (.ListComp elt (⟨tgt, iter, ifs, 0⟩ :: rest) scope pos) tgt ifs p 0 inner) (ok : compOk env scope = true) (hs : ∀ x, foldedSetIterable iter env x = pure x) (hi : EVI X P A env st m tgt iter xs NS) (hNS : ∀ st', Ext st st' → NS st')
 (hz : (xs.flatMap g).length ≤ sizeLine)
 (turn : ∀ P' cl C D a ml, st D = none → (∀ n, Room n A P (locOf env) → Room n A P' (locOf (compEnvC scope cl C env))) → a ∈ xs → ∃ F ml' q, ASG X P' A (compEnvC scope cl C env) tgt a F ∧ F (MM scope m ml) = MM scope m ml' ∧ (∀ acc, EvIfs X P' A (compEnvC scope cl C env) (put st D (.list acc)) (MM scope m ml') ifs q) ∧
  (q = true → CM X P' A (compEnvC scope cl C env) st D (inner (compEnvC scope cl C env) D) (· = MM scope m ml') (fun m' => ∃ ml, m' = MM scope m ml) (g a)) ∧ (q = false → g a = []))
 (f : FRel X P env st m s)
 (K : ∀ C o v s' mC, FRel X ((C, o) :: P) env st m s' → VR (DD X st ((C, o) :: P) (ownOf env)) s'.heap v (.lst (xs.flatMap g)) → Step (DD X st P (ownOf env)) s.heap s'.heap → C ∉ P.map (·.1) → ¬ X.isTab C → (∀ v, o.data ≠ .cell v) → s'.heap.Ns C mC → s.heap.get? C = none →
  compPost (model X.prog X.w) A (fun _ _ => False) use Q v C (.ok .next) s') :
 wpAny (model X.prog X.w) A (comprehension (.ListComp elt (⟨tgt, iter, ifs, 0⟩ :: rest) scope pos) scope env pos' (newList []) false (eval iter env) use) Q (fun _ _ => False) s := by
 have ok' := ok
 unfold compOk at ok'
 rw [Bool.and_eq_true] at ok'
 refine A2 ok' fun okk okn => ?_; clear ok'
 have okk := beq_iff_eq.mp okk
 have okn' : ∀ x ∈ scope.names, x.2 ≠ .cell ∧ (x.2 = .free → env.kindOf x.1 = some .cell ∨ env.kindOf x.1 = some .free) ∧ (x.2 = .local → scope.names.lookup x.1 = some .local) := fun x hx => by
  have z := List.all_eq_true.mp okn x hx
  simp only [Bool.and_eq_true, Bool.or_eq_true, bne_iff_ne, beq_iff_eq] at z
  exact ⟨z.1.1, fun e => by rcases z.1.2 with (q | q) | q; · exact absurd e q
                            ·exact .inl q
                            ·exact .inr q, fun e => z.2.resolve_left fun q => q e⟩
 refine E1 (closL_some (cells := env.cells) scope.names [] fun x hx hf => by
  refine E2A2 (f.f.cl x.1 ((okn' x hx).2.1 hf)) fun c _ h _ => ?_
  exact ⟨c, h⟩) fun cl hcl => ?_
 refine wpAny_comprehension_free rfl hs (closureFor_of hcl) okk (fun x hx => (okn' x hx).2.2) (wpAny_mono (hi.2 s f) (fun x s₁ h => wpAny_mono h (fun it s₂ h => ?_) fun _ _ e => e.elim) fun _ _ e => e.elim)
 refine E3A7 h fun at' NH Pi T h0 ap nh f₂ S₂ fr => ?_; clear h
 refine wpAny_newObj_type (wpAny_newFunctionEnv (fun x hx => (okn' x hx).1) (by intro y hy; simp at hy) (fun h₁ hns₁ hsb₁ => ?_) okk)
 dsimp only at hns₁ hsb₁ ⊢
 obtain ⟨oL, hoL⟩ : ∃ o : Obj, o = { cls := .type "list", dict := none, data := .seq ([] : List Value).toArray } := ⟨_, rfl⟩
 rw [← hoL] at hns₁ hsb₁ ⊢
 have kL : ∀ b o, s₂.heap.get? b = some o → (s₂.heap.push oL).get? b = some o := fun b o e => Heap.get?_push_of_some _ e
 refine A3 (f₂.add (tk := s₂.toks) kL s₂.heap.objs.size (.list []) (fun b hb => by simp only [AO.foot, List.mem_singleton] at hb; rw [hb]; exact get_size _) ⟨[], 0, (Heap.get?_push_size _ (by rw [hoL]; rfl)).trans (by rw [hoL]), .nil⟩) fun f₃ g₃ hD => ?_
 have fC : ({ s₂ with heap := s₂.heap.push oL } : Shared).heap.get? (s₂.heap.push oL).objs.size = none := get_size _
 have kC : ∀ b o, (s₂.heap.push oL).get? b = some o → h₁.get? b = some o := fun b o e => hsb₁.extBut b o (Nat.ne_of_lt (Heap.lt_size e)) (Heap.get?_push_of_some _ e)
 refine E1A5 (FRel.comp (C := (s₂.heap.push oL).objs.size) (tk := s₂.toks + ([] : List (Str × Value)).length) f₃ ok hcl (CompM.of scope m) kC fC hns₁) fun P' f₄ hP' room hDD back => ?_
 generalize hDv : s₂.heap.objs.size = D at *
 generalize hCv : (s₂.heap.push oL).objs.size = C at *
 have hP'' : ∀ p ∈ P', p.1 ∉ (Pi ++ P).map (·.1) ∧ ¬ X.isTab p.1 := fun p hp => (f₃.own _ (hP' p hp)).2
 have apC : Apart X Pi (P' ++ P) := fun p hp => ⟨fun q => by
  rw [List.map_append, List.mem_append] at q
  rcases q with q | q
  ·refine E1A2 (List.mem_map.mp q) fun p' hp' e => ?_
   exact (hP'' p' hp').1 (by rw [e, List.map_append, List.mem_append]; exact .inl (List.mem_map_of_mem hp))
  ·exact (ap p hp).1 q, (ap p hp).2⟩
 have perm : ∀ p, p ∈ Pi ++ (P' ++ P) ↔ p ∈ P' ++ (Pi ++ P) := fun p => by simp only [List.mem_append]; constructor <;> (rintro (h | h | h) <;> simp [h])
 have f₅ := f₄.sub fun p hp => (perm p).mp hp
 have nh₅ : NH (DD X (put st D (.list [])) (Pi ++ (P' ++ P)) (ownOf (compEnvC scope cl C env))) h₁ := by
  refine T.held (D := DD X st (Pi ++ P) (ownOf env)) (h := s₂.heap) (Step.of_keeps fun b o e => kC b o (kL b o e)) (fun b o e d => ?_) nh
  rcases (hDD b).mp (DD.perm (fun p hp => (perm p).mp hp) b d) with q | q
  ·exact DD.grow g₃ b o e q
  ·have e := kL b o e; rw [q, ← hCv, get_size] at e; exact J.ns e
 have loop : codeAny (model X.prog X.w) A (.compLoop (.ListComp elt (⟨tgt, iter, ifs, 0⟩ :: rest) scope pos) 0 it (.ref D) (compEnvC scope cl C env)) (compPost (model X.prog X.w) A (fun _ _ => False) use Q (.ref D) C) { s₂ with heap := h₁, toks := s₂.toks + ([] : List (Str × Value)).length } := by
  refine lvl (P := P' ++ P) (st := st) (acc := []) (g := g) (J := fun m' => ∃ ml, m' = MM scope m ml) rfl rfl (hturn _ D it) T (fun acc => hNS _ (Ext.put hD)) ?_ ⟨_, (MM.none scope m).symm⟩ h0 apC nh₅ f₅ (by simpa using hz) fun s' m' ⟨ml, hm'⟩ f₆ S₆ => ?_
  ·rintro Pk a _ ha ⟨ml, rfl⟩
   refine E3A5 (turn (Pk ++ (P' ++ P)) cl C D a ml hD (fun n R => (room n A P R).more fun p hp => List.mem_append_right _ hp) ha) fun F ml' q hF hm hI hT hE => ?_
   exact ⟨F, q, hF, fun acc => by rw [hm]; exact hI acc, fun h => by rw [hm]; exact hT h, fun h => ⟨hE h, ml', hm⟩⟩
  ·subst hm'
   rw [List.nil_append] at f₆
   obtain ⟨o, hoc, eC, fb, hC1, hC2, S₇, g₇, w⟩ := back P (fun p hp => List.mem_append_right _ hp) (fun p hp hn v => by
    rcases List.mem_append.mp hp with hp | hp
    ·exact T.cell 0 Pi h0 p hp v
    ·exact absurd hp hn) _ _ s' f₆ (fun y hy => by unfold MM mix; rw [if_neg hy]) (S₆.mono fun b o e d => DD.perm (fun p hp => (perm p).mp hp) b d) (fun b o e d => dom_list st D _ _ b d)
   refine A2 (fb.freeze (a := D) (put_same _ _ _)) fun fz rz => ?_
   rw [drop_put hD] at fz rz
   refine E1A2 (f₆.f.ns) fun mv hn _ => ?_
   have freshC : s.heap.get? C = none := by
    cases e : s.heap.get? C with
    | none => rfl
    | some o =>
     exfalso
     have e2 : ∃ x, s₂.heap.get? C = some x := by
      by_cases q : DD X st P (ownOf env) C
      ·exact f₂.din (DD.perm (fun p hp => List.mem_append_right _ hp) _ q)
      ·exact ⟨o, S₂ _ _ e q⟩
     refine E1 e2 fun x e2 => ?_
     have e3 := kL _ _ e2
     rw [← hCv, get_size] at e3; exact J.ns e3
   refine K C o (.ref D) s' mv fz rz ?_ hC1 hC2 hoc hn freshC
   intro b x e nd
   refine S₇ b x (kL b x (S₂ b x e nd)) fun d => ?_
   rcases d.app with q | q
   ·refine E1A2 (List.mem_map.mp q) fun p hp hn1 => ?_; obtain rfl := hn1
    rw [fr p hp] at e; exact J.ns e
   ·exact nd (DD.grow g₃ b x (S₂ b x e nd) q)
 exact codeAny_compStart_list loop (T.again (P' ++ P) _ _ _ _ 0 Pi h0 f₅ _ _ loop)
theorem e_comp {elt tgt iter : Expr} {ifs : List Expr} {rest : List Comprehension} {scope : Scope} {pos p : Pos} {inner : Env → Addr → Sem Unit} {xs : List AV} {NS : AS → Prop} (g : AV → List AV)
 (hturn : Turn X (.ListComp elt (⟨tgt, iter, ifs, 0⟩ :: rest) scope pos) tgt ifs p 0 inner) (ok : compOk env scope = true) (hs : ∀ x, foldedSetIterable iter env x = pure x) (hi : EVI X P A env st m tgt iter xs NS) (hNS : ∀ st', Ext st st' → NS st')
 (hz : (xs.flatMap g).length ≤ sizeLine)
 (turn : ∀ P' cl C D a ml, st D = none → (∀ n, Room n A P (locOf env) → Room n A P' (locOf (compEnvC scope cl C env))) → a ∈ xs → ∃ F ml' q, ASG X P' A (compEnvC scope cl C env) tgt a F ∧ F (MM scope m ml) = MM scope m ml' ∧ (∀ acc, EvIfs X P' A (compEnvC scope cl C env) (put st D (.list acc)) (MM scope m ml') ifs q) ∧
  (q = true → CM X P' A (compEnvC scope cl C env) st D (inner (compEnvC scope cl C env) D) (· = MM scope m ml') (fun m' => ∃ ml, m' = MM scope m ml) (g a)) ∧ (q = false → g a = [])) :
 EV X P A env st m (eval (.ListComp elt (⟨tgt, iter, ifs, 0⟩ :: rest) scope pos) env) (.lst (xs.flatMap g)) := fun s f => by
 rw [eval_ListComp]
 show wpAny _ A (comprehension (.ListComp elt (⟨tgt, iter, ifs, 0⟩ :: rest) scope pos) scope env _ (newList []) false (eval iter env) none) _ _ s
 refine comp_core (use := none) (Q := Post X P env st s VR (Is (.lst (xs.flatMap g)) st m)) hturn ok hs hi hNS hz turn f fun C o v s' mC fb rv S hC hT hc hn fr => ⟨mC, hn, fun h' hs' => ?_⟩
 have kk : ∀ b x, b ≠ C → s'.heap.get? b = some x → h'.get? b = some x := fun b x hb e => (hs'.2 b hb).trans e
 refine A2 (fb.unpriv (tk := s'.toks) hC hT hc kk) fun fu Su => ?_
 exact Post.here fu (fun b x e nd => by
  have e2 := S b x e nd
  refine kk b x (fun q => ?_) e2
  rw [q, fr] at e; exact J.ns e) (rv.step Su fun b x e d => d.imp id fun d => d.imp (fun q => .tail _ q) id)
theorem x_set_comp {y : Str} {py : Pos} {elt tgt iter : Expr} {ifs : List Expr} {rest : List Comprehension} {scope : Scope} {pos p spos : Pos} {inner : Env → Addr → Sem Unit} {xs : List AV} {NS : AS → Prop} {Q : AF → AS → AM → Prop} (g : AV → List AV)
 (hsw : swapsWith (.ListComp elt (⟨tgt, iter, ifs, 0⟩ :: rest) scope pos) (some (.Name y py)) spos.line env = pure true) (hy : storeOk env y = true)
 (hturn : Turn X (.ListComp elt (⟨tgt, iter, ifs, 0⟩ :: rest) scope pos) tgt ifs p 0 inner) (ok : compOk env scope = true) (hs : ∀ x, foldedSetIterable iter env x = pure x) (hi : EVI X P A env st m tgt iter xs NS) (hNS : ∀ st', Ext st st' → NS st')
 (hz : (xs.flatMap g).length ≤ sizeLine)
 (turn : ∀ P' cl C D a ml, st D = none → (∀ n, Room n A P (locOf env) → Room n A P' (locOf (compEnvC scope cl C env))) → a ∈ xs → ∃ F ml' q, ASG X P' A (compEnvC scope cl C env) tgt a F ∧ F (MM scope m ml) = MM scope m ml' ∧ (∀ acc, EvIfs X P' A (compEnvC scope cl C env) (put st D (.list acc)) (MM scope m ml') ifs q) ∧
  (q = true → CM X P' A (compEnvC scope cl C env) st D (inner (compEnvC scope cl C env) D) (· = MM scope m ml') (fun m' => ∃ ml, m' = MM scope m ml) (g a)) ∧ (q = false → g a = []))
 (q : Q .next st (upd m y (.lst (xs.flatMap g)))) :
 WX X P A env st m (exec (.Assign [.Name y py] (.ListComp elt (⟨tgt, iter, ifs, 0⟩ :: rest) scope pos) spos) env) Q := fun s f => by
 rw [exec_Assign_Name_used _ _ _ _ hsw]
 refine wpAny_bind (wpAny_standAt (wpAny_bind ?_))
 show wpAny _ A (do let _ ← comprehension (.ListComp elt (⟨tgt, iter, ifs, 0⟩ :: rest) scope pos) scope env _ (newList []) false (eval iter env) (some (assign (.Name y py) env))) _ _ s
 refine wpAny_bind (wpAny_mono (comp_core (use := some (assign (.Name y py) env)) (Q := fun _ s' => Post X P env st s EF Q .next s') hturn ok hs hi hNS hz turn f fun C o v s' mC fb rv S hC hT hc hn fr => ?_) (fun _ s' hq => wpAny_pure (wpAny_pure hq)) fun _ _ e => e)
 show wpAny _ A (assign (.Name y py) env v) _ _ _
 have eC := fb.g.priv (C, o) (.head _)
 refine E1A2 (eC.data) fun oC eC' hdC => ?_
 refine wpAny_assign_Name (fb.store rv (storeOk_kind hy) fun s₂ f₂ S₂ => ?_)
 refine E1A2 ((f₂.g.priv (C, o) (.head _)).data) fun oC2 eC2 hdC2 => ?_
 refine ⟨mC, (let ⟨o1, es, ep, e, hd, r⟩ := hn; ⟨oC2, es, ep, eC2, by rw [eC'] at e; revert e; refine J.sse ?_; rintro rfl; rw [hdC2, ← hdC]; exact hd, r⟩), fun h' hs' => ?_⟩
 have kk : ∀ b x, b ≠ C → s₂.heap.get? b = some x → h'.get? b = some x := fun b x hb e => (hs'.2 b hb).trans e
 refine A2 (f₂.unpriv (tk := s₂.toks) hC hT hc kk) fun fu Su => ?_
 refine ⟨.next, st, _, trivial, fu, fun b x e nd => ?_, Gr.refl _ _, q⟩
 have hb : b ≠ C := fun q => by rw [q, fr] at e; exact J.ns e
 exact kk b x hb (S₂ b x (S b x e nd) fun d => d.priv.elim hb nd)
end
end J
namespace J
section
variable {X : Cx} {P : PL} {A : Around} {env cenv : Env} {st : AS} {m : AM} {s : Shared}
noncomputable abbrev e2 (elt t0 i0 : Expr) (f0 : List Expr) (t1 i1 : Expr) (f1 : List Expr) (scope : Scope) (pos : Pos) : Expr := .ListComp elt [⟨t0, i0, f0, 0⟩, ⟨t1, i1, f1, 0⟩] scope pos
noncomputable abbrev inner2 (e i1 : Expr) : Env → Addr → Sem Unit := fun cenv D => do
 let x ← eval i1 cenv
 standAt i1.pos
 let x ← foldedSetIterable i1 cenv x
 let _ ← runOwn (.compStart e 1 (← holding [x] (pyIter x)) (.ref D) cenv) cenv
theorem turn2 (elt t0 i0 : Expr) (f0 : List Expr) (t1 i1 : Expr) (f1 : List Expr) (scope : Scope) (pos : Pos) : Turn X (e2 elt t0 i0 f0 t1 i1 f1 scope pos) t0 f0 i0.pos 0 (inner2 (e2 elt t0 i0 f0 t1 i1 f1 scope pos) i1) := fun cenv D it => by
 show (compTurn (e2 elt t0 i0 f0 t1 i1 f1 scope pos) 0 it (.ref D) cenv).onRaise _ = _
 refine congrArg (fun t => Sem.onRaise t _) ?_
 have h : compTurn (e2 elt t0 i0 f0 t1 i1 f1 scope pos) 0 it (.ref D) cenv = (do
  standAt i0.pos
  match ← pyNext it with
  | none => pure (.done .next)
  | some v =>
   letOwnedTupleGo t0 it v
   assign t0 cenv v
   let mut ok := true
   for c in f0 do
    if ok then ok ← isTrue c cenv (eval c cenv)
   if ok then
    let x ← eval i1 cenv
    standAt i1.pos
    let x ← foldedSetIterable i1 cenv x
    let _ ← runOwn (.compStart (e2 elt t0 i0 f0 t1 i1 f1 scope pos) 1 (← holding [x] (pyIter x)) (.ref D) cenv) cenv
   again (.compLoop (e2 elt t0 i0 f0 t1 i1 f1 scope pos) 0 it (.ref D) cenv)) := by rfl
 rw [h]
 simp only [bind_assoc]
 rfl
theorem turn2' (elt t0 i0 : Expr) (f0 : List Expr) (t1 i1 : Expr) (f1 : List Expr) (scope : Scope) (pos : Pos) : Turn X (e2 elt t0 i0 f0 t1 i1 f1 scope pos) t1 f1 i1.pos 1 (emit1 elt) := fun cenv D it => by
 rfl
theorem start2 {elt t0 i0 : Expr} {f0 : List Expr} {t1 i1 : Expr} {f1 : List Expr} {scope : Scope} {pos : Pos} {it acc : Value} {R : Result → Shared → Prop}
 (h0 : codeAny (model X.prog X.w) A (.compLoop (e2 elt t0 i0 f0 t1 i1 f1 scope pos) 1 it acc env) R s)
 (h : wpAny (model X.prog X.w) A (pyIter it) (fun it' s' => codeAny (model X.prog X.w) A (.compLoop (e2 elt t0 i0 f0 t1 i1 f1 scope pos) 1 it' acc env) R s') (notedBy (model X.prog X.w) A env fun x s' => R (.error x) s') s) :
 codeAny (model X.prog X.w) A (.compStart (e2 elt t0 i0 f0 t1 i1 f1 scope pos) 1 it acc env) R s := by
 refine codeAny_of_tree ?_
 show wpAny _ _ ((compStart (e2 elt t0 i0 f0 t1 i1 f1 scope pos) 1 it acc env).onRaise (fun x => do noteFrame x env; standAt theWindowsPlace)) _ _ s
 refine wpAny_notedAt ?_
 unfold compStart
 show wpAny _ _ (ask >>= _) _ _ s
 refine wpAny_bind (wpAny_askSetting (wpAny_ite ?_))
 split
 ·first
   | exact wpAny_bind (wpAny_pure (wpAny_pure (And.intro rfl h0)))
   | exact wpAny_pure (And.intro rfl h0)
 ·first
   | exact wpAny_bind (wpAny_rule (wpAny_bind (wpAny_standAt (wpAny_bind (wpAny_mono h (fun it' s' h' => wpAny_pure (And.intro rfl h')) fun _ _ x => x)))))
   | (refine wpAny_bind (wpAny_rule ?_); show wpAny _ _ (standAt i1.pos >>= _) _ _ s; exact wpAny_bind (wpAny_standAt (wpAny_bind (wpAny_mono h (fun it' s' h' => wpAny_pure (And.intro rfl h')) fun _ _ x => x))))
theorem cm_inner {elt t0 i0 : Expr} {f0 : List Expr} {t1 i1 : Expr} {f1 : List Expr} {scope : Scope} {pos : Pos} {D : Addr} {xs : List AV} {NS : AS → Prop} {g : AV → List AV} {J₀ J : AM → Prop} (JI : AM → Prop)
 (hi : ∀ acc m, J₀ m → EVI X P A cenv (put st D (.list acc)) m t1 i1 xs NS) (hs : ∀ x, foldedSetIterable i1 cenv x = pure x) (hNS : ∀ acc, NS (put st D (.list acc))) (h0 : ∀ m, J₀ m → JI m) (hJ : ∀ m, JI m → J m)
 (turn : ∀ Pk a m, a ∈ xs → JI m → ∃ F q, ASG X (Pk ++ P) A cenv t1 a F ∧ (∀ acc, EvIfs X (Pk ++ P) A cenv (put st D (.list acc)) (F m) f1 q) ∧ (q = true → ∃ b, (∀ acc, EV X (Pk ++ P) A cenv (put st D (.list acc)) (F m) (eval elt cenv) b) ∧ g a = [b]) ∧ (q = false → g a = []) ∧ JI (F m)) :
 CM X P A cenv st D (inner2 (e2 elt t0 i0 f0 t1 i1 f1 scope pos) i1 cenv D) J₀ J (xs.flatMap g) := fun acc m s hm hz f => by
 refine wpAny_bind (wpAny_mono ((hi acc m hm).2 s f) (fun x s₁ h => wpAny_bind (wpAny_standAt (wpAny_bind ?_))) fun _ _ e => e)
 rw [hs]
 refine wpAny_pure (wpAny_bind (wpAny_holding (wpAny_mono h (fun it s₂ h => wpAny_bind ?_) fun _ _ e => e.elim)))
 refine E3A7 h fun at' NH Pi T h0' ap nh f₂ S₂ fr => ?_; clear h
 refine wpAny_runOwn ?_
 have loop : codeAny (model X.prog X.w) A (.compLoop (e2 elt t0 i0 f0 t1 i1 f1 scope pos) 1 it (.ref D) cenv) (fun r s' => match r with | .ok _ => wpAny (model X.prog X.w) A (pure ()) (fun _ s' => ∃ m', J m' ∧ FRel X P cenv (put st D (.list (acc ++ xs.flatMap g))) m' s' ∧ Step (DD X (put st D (.list acc)) P (ownOf cenv)) s.heap s'.heap) (fun _ _ => False) s' | .error _ => False) s₂ := by
  refine lvl (g := g) (J := JI) rfl rfl (turn2' elt t0 i0 f0 t1 i1 f1 scope pos cenv D it) T hNS ?_ (h0 m hm) h0' ap nh f₂ hz fun s' m' hm' f₃ S₃ => wpAny_pure ⟨m', hJ m' hm', f₃, fun b x e nd => ?_⟩
  ·rintro Pk a m ha hJm
   refine E2A5 (turn Pk a m ha hJm) fun F q hF hI hT hE hK => ?_
   refine ⟨F, q, hF, hI, fun h => ?_, fun h => ⟨hE h, hK⟩⟩
   refine E1A2 (hT h) fun b hb e => ?_
   rw [e]; exact cm_emit hb hK
  ·refine S₃ b x (S₂ b x e nd) fun d => ?_
   rcases d.app with q | q
   ·refine E1A2 (List.mem_map.mp q) fun p hp hn1 => ?_; obtain rfl := hn1
    rw [fr p hp] at e; exact ns e
   ·exact nd q
 have loop' : codeAny (model X.prog X.w) (A.mark none) (.compStart (e2 elt t0 i0 f0 t1 i1 f1 scope pos) 1 it (.ref D) cenv) (fun r s' => match r with | .ok _ => wpAny (model X.prog X.w) A (pure ()) (fun _ s' => ∃ m', J m' ∧ FRel X P cenv (put st D (.list (acc ++ xs.flatMap g))) m' s' ∧ Step (DD X (put st D (.list acc)) P (ownOf cenv)) s.heap s'.heap) (fun _ _ => False) s' | .error _ => False) s₂ :=
  start2 (A := A) loop (T.again P _ _ _ _ 0 Pi h0' f₂ _ _ loop)
 exact codeAny_mono loop' fun r s' h => by (first | cases r using VR.intE | cases r using VR.noneE | cases r using VR.boolE | cases r using VR.refE | cases r using VRs.nilE | cases r) <;> first | exact h | exact h.elim
end
end J
namespace J
section
variable {X : Cx} {P : PL} {A : Around} {env : Env} {st : AS} {m : AM} {s : Shared}
noncomputable def IsL (st : AS) (a : AV) (xs : List AV) : Prop := a = .lst xs ∨ ∃ r, a = .ref r ∧ st r = some (.list xs)
theorem isL_lst {xs : List AV} : IsL st (.lst xs) xs := .inl rfl
theorem isL_ref {xs : List AV} {r : Addr} (h : st r = some (.list xs)) : IsL st (.ref r) xs := .inr ⟨r, rfl, h⟩
theorem IsL.get {a : AV} {xs : List AV} {v : Value} (h : IsL st a xs) (f : FRel X P env st m s) (r : VR (DD X st P (ownOf env)) s.heap v a) :
 ∃ l vs n, v = .ref l ∧ s.heap.get? l = some ⟨.type "list", none, .seq vs.toArray n, #[]⟩ ∧ VRs (DD X st P (ownOf env)) s.heap vs xs := by
 rcases h with rfl | ⟨r', rfl, h⟩
 ·cases r using VR.lstE with | lst nd p r => refine E1 p fun n e => ?_; clear p; exact ⟨_, _, n, rfl, e, r⟩
 ·(first | cases r using VR.intE | cases r using VR.noneE | cases r using VR.boolE | cases r using VR.refE | cases r using VRs.nilE | cases r)
  refine E2A2 (f.g.objs _ _ h) fun vs n e r => ?_
  exact ⟨_, vs, n, rfl, e, r⟩
theorem list_is {l : Addr} {vs : Array Value} {n : Nat} {h : Heap} (e : h.get? l = some ⟨.type "list", none, .seq vs n, #[]⟩) : h.IsList l vs := ⟨_, e, rfl, n, rfl⟩
noncomputable abbrev subOk (value slice : Expr) : Prop := (∀ l k u, subscripted slice false (.ref l) (.int k u) = operate [.ref l, .int k u] (getItem (.ref l) (.int k u))) ∧ ∀ l r, letTemporaryGo value (.ref l) r = pure ()
theorem e_index {value idx : Expr} {pos : Pos} {a b : AV} {xs : List AV} {k : Int} (hv : EV X P A env st m (eval value env) a) (hL : IsL st a xs) (hi : EV X P A env st m (eval idx env) (.int k)) (h0 : 0 ≤ k) (hf : k < 2 ^ 63) (hx : xs[k.toNat]? = some b) (ok : subOk value idx) :
 EV X P A env st m (eval (.Subscript value idx pos) env) b := fun s f => Subscript_ (hv.on f fun v s₁ f₁ r₁ S₁ => hi.on f₁ fun i s₂ f₂ r₂ S₂ => by
 refine E3A2 (hL.get f₂ (r₁.held S₂)) fun l vs n hn1 hn2 => ?_; obtain rfl := hn1; refine A2 hn2 fun e rs => ?_; clear hn2
 cases r₂
 refine E1A2 (rs.get _ _ hx) fun v hv rv => ?_
 exact item_list (list_is e) h0 hf (x := v) (by rw [List.getElem?_toArray]; exact hv) (Post.here f₂ (S₁.on S₂) rv) (ok.1 _ _ _) (ok.2 _))
theorem e_tindex {value idx : Expr} {pos : Pos} {b : AV} {xs : List AV} {k : Nat} (hv : EV X P A env st m (eval value env) (.tup xs)) (hi : EV X P A env st m (eval idx env) (.int k)) (hf : (k : Int) < 2 ^ 63) (hx : xs[k]? = some b) (ok : subOk value idx) :
 EV X P A env st m (eval (.Subscript value idx pos) env) b := fun s f => Subscript_ (hv.on f fun v s₁ f₁ r₁ S₁ => hi.on f₁ fun i s₂ f₂ r₂ S₂ => by
 have r₁ := r₁.held S₂
 cases r₁ with
 | tup nd t rs =>
  cases r₂
  refine E1A2 (rs.get _ _ hx) fun v hv rv => ?_
  have hlt : k < xs.length := by rcases Nat.lt_or_ge k xs.length with h | h; exact h; rw [List.getElem?_eq_none_iff.mpr h] at hx; cases hx
  exact item_tuple t (by lia) hf (j := k) (by unfold seqIndex?; rw [List.size_toArray, rs.length]; simp; lia) (x := v) (by rw [List.getElem?_toArray]; exact hv) (Post.here f₂ (S₁.on S₂) rv) (ok.1 _ _ _) (ok.2 _))
noncomputable def EvP (X : Cx) (P : PL) (A : Around) (env : Env) (st : AS) (m : AM) (e : Option Expr) (o : Option Int) : Prop :=
 ∀ s, FRel X P env st m s → wpAny (model X.prog X.w) A (evalPart e env) (fun v s' => IsPart v o ∧ FRel X P env st m s' ∧ Step (DD X st P (ownOf env)) s.heap s'.heap) (fun _ _ => False) s
theorem p_none : EvP X P A env st m none none := fun s f => evalPart_none_step ⟨.none, f, Step.refl _ _⟩
theorem p_some {e : Expr} {k : Int} (h : EV X P A env st m (eval e env) (.int k)) : EvP X P A env st m (some e) (some k) := fun s f => evalPart_some_step (h.on f fun v s₁ f₁ r₁ S₁ => by cases r₁; exact ⟨.int _ _, f₁, S₁⟩)
noncomputable def pick (xs : List AV) (lo hi : Option Int) : List AV := (xs.drop (lo.elim 0 (clipAt xs.length))).take (hi.elim xs.length (clipAt xs.length) - lo.elim 0 (clipAt xs.length))
theorem e_slice {value : Expr} {lower upper : Option Expr} {p pos : Pos} {a : AV} {xs : List AV} {lo hi : Option Int} (hv : EV X P A env st m (eval value env) a) (hL : IsL st a xs) (hl : EvP X P A env st m lower lo) (hu : EvP X P A env st m upper hi) (hz : xs.length ≤ sizeLine) (ok : ∀ o r, letTemporaryGo value o r = pure ()) :
 EV X P A env st m (eval (.Subscript value (.Slice lower upper none p) pos) env) (.lst (pick xs lo hi)) := fun s f => wpAny_Subscript_list_slice (hv.on f fun v s₁ f₁ r₁ S₁ =>
 wpAny_mono (hl s₁ f₁) (fun vl s₂ ⟨pl, f₂, S₂⟩ => wpAny_mono (hu s₂ f₂) (fun vu s₃ ⟨pu, f₃, S₃⟩ => by
  refine E3A2 (hL.get f₃ ((r₁.held S₂).held S₃)) fun l vs n hn3 hn4 => ?_; obtain rfl := hn3; refine A2 hn4 fun e rs => ?_; clear hn4
  refine ⟨l, vs.toArray, lo, hi, rfl, list_is e, by rw [List.size_toArray, rs.length]; exact hz, pl, pu, ?_⟩
  have k : ∀ b o o' o'', s₃.heap.get? b = some o → ((s₃.heap.push o').push o'').get? b = some o := fun b o o' o'' e => Heap.get?_push_of_some _ (Heap.get?_push_of_some _ e)
  refine Post.here (f₃.keeps (d := s₃.drawn) (tk := s₃.toks) fun b o e => k b o _ _ e) ((S₁.on (S₂.on S₃)).on (Step.of_keeps fun b o e => k b o _ _ e)) ?_
  refine .lst (vs := (vs.drop (lo.elim 0 (clipAt vs.length))).take (hi.elim vs.length (clipAt vs.length) - lo.elim 0 (clipAt vs.length))) (fun d => ?_) ⟨0, ?_⟩ ?_
  ·refine E1 (f₃.din d) fun o q => ?_
   exact absurd (Heap.lt_size q) (Nat.not_lt.mpr (Nat.le_succ _))
  ·have := Heap.get?_push_size (s₃.heap.push { cls := .type "slice", data := .fields #[vl, vu, .none] }) (o := { cls := .type "list", data := .seq (slicePick vs.toArray lo hi none) }) rfl
   rw [Heap.size_push] at this
   refine this.trans ?_
   rw [slicePick_plain]; simp
  ·rw [rs.length]; exact ((rs.drop _).take _).keeps fun b o e => k b o _ _ e) fun _ _ e => e) fun _ _ e => e) ok
theorem o_addL {a b : AV} {xs ys : List AV} (ha : IsL st a xs) (hb : IsL st b ys) (hz : xs.length + ys.length ≤ sizeLine) : Op2 X P A env st m (binaryOp .Add) a b (.lst (xs ++ ys)) := by
 intro s va vb f ra rb
 refine E3A2 (ha.get f ra) fun l vs n hn5 hn6 => ?_; obtain rfl := hn5; refine A2 hn6 fun e rs => ?_; clear hn6
 refine E3A2 (hb.get f rb) fun l2 vs2 n2 hn7 hn8 => ?_; obtain rfl := hn7; refine A2 hn8 fun e2 rs2 => ?_; clear hn8
 refine concat_meets ⟨_, e, rfl⟩ ⟨_, e2, rfl⟩ noFill_list_add seq_list_add PySem.F.slot_list_add PySem.F.entry_list_add (PySem.F.args_list_add_2 _ _) (list_addW l l2 vs.toArray vs2.toArray n n2 none none #[] #[] (by simpa [rs.length, rs2.length] using hz)) ⟨e, e2, ?_⟩
 have : vs.toArray ++ vs2.toArray = (vs ++ vs2).toArray := by simp
 rw [this]
 exact new_lst f (rs.append rs2)
set_option tactic.hygienic true in
theorem o_addT {xs ys : List AV} (h1 : xs ≠ []) (h2 : ys ≠ []) (hz : xs.length + ys.length ≤ sizeLine) : Op2 X P A env st m (binaryOp .Add) (.tup xs) (.tup ys) (.tup (xs ++ ys)) := by
 intro s va vb f ra rb
 cases ra using VR.tupE with | tup nd t r => cases rb using VR.tupE with | tup nd2 t2 r2 =>
 rename_i a vs b vs2
 obtain ⟨⟨cls, dd, data, sl⟩, ho, hc, n, hd⟩ := id t
 obtain ⟨⟨cls2, dd2, data2, sl2⟩, ho2, hc2, n2, hd2⟩ := id t2
 simp only at hc hd hc2 hd2
 subst hc hd hc2 hd2
 have n1 : vs ≠ [] := fun e => by subst e; (first | cases r using VR.intE | cases r using VR.noneE | cases r using VR.boolE | cases r using VR.refE | cases r using VRs.nilE | cases r); exact h1 rfl
 have n2' : vs2 ≠ [] := fun e => by subst e; (first | cases r2 using VR.intE | cases r2 using VR.noneE | cases r2 using VR.boolE | cases r2 using VR.refE | cases r2 using VRs.nilE | cases r2); exact h2 rfl
 refine concat_meets ⟨_, ho, rfl⟩ ⟨_, ho2, rfl⟩ noFill_tuple_add seq_tuple_add PySem.F.slot_tuple_add PySem.F.entry_tuple_add (PySem.F.args_tuple_add_2 _ _) (tuple_addW2 a b vs.toArray vs2.toArray n n2 dd dd2 sl sl2 (by simpa using n1) (by simpa using n2') (by simpa [r.length, r2.length] using hz)) ⟨ho, ho2, ?_⟩
 have : vs.toArray ++ vs2.toArray = (vs ++ vs2).toArray := by simp
 rw [this]
 exact new_tup f (r.append r2)
end
end J
namespace J
section
variable {X : Cx} {P : PL} {A : Around} {env : Env} {st : AS} {m : AM} {s : Shared}
theorem call_blt {x : Str} {xp pos : Pos} {es : List Expr} {as : List AV} {v : Value} {G : Value → Shared → Prop} (hX : X.Ok) (ok : bltAt X.K env x v = true) (ha : EVA X P A env st m es as) (hv : (∃ id, v = .builtin id) ∨ ∃ T, v = .type T) (f : FRel X P env st m s)
 (hB : ∀ s₁ vals, FRel X P env st m s₁ → VRs (DD X st P (ownOf env)) s₁.heap vals as → Step (DD X st P (ownOf env)) s.heap s₁.heap → wpAny (model X.prog X.w) A (call v vals []) G (fun _ _ => False) s₁) :
 wpAny (model X.prog X.w) A (eval (.Call (.Name x xp) es [] pos) env) G (fun _ _ => False) s :=
 wpAny_Call_NameR ((e_blt hX ok).on f fun v' s₁ f₁ r S₁ => by
  (first | cases r using VR.intE | cases r using VR.noneE | cases r using VR.boolE | cases r using VR.refE | cases r using VRs.nilE | cases r)
  refine A2 (ha pos) fun h1 h2 => ?_
  have rest := wpAny_mono (h2 v s₁ f₁) (Q' := fun a s₂ => wpAny (model X.prog X.w) A (call v ([] ++ a.pos) a.kw) G (fun _ _ => False) s₂) (E' := fun _ _ => False) (fun a s₂ p => by
   refine E1A2 p fun vs hn1 hn2 => ?_; clear p; obtain rfl := hn1; refine A3 hn2 fun r₂ f₂ S₂ => ?_; clear hn2
   exact hB s₂ vs f₂ r₂ (S₁.on S₂)) fun _ _ e => e
  rcases hv with ⟨id, rfl⟩ | ⟨T, rfl⟩
  ·exact callWith_builtin h1 rest
  ·exact PyProof.Rows.callWith_type h1 rest)
noncomputable def rangeL (lo step : Int) (n : Nat) : List AV := (List.range n).map fun i : Nat => .int (lo + step * (i : Int))
theorem rangeL_at {lo step : Int} {n i : Nat} (h : i < n) : (rangeL lo step n)[i]? = some (.int (lo + step * (i : Int))) := by simp [rangeL, h]
theorem rangeL_len (lo step : Int) (n : Nat) : (rangeL lo step n).length = n := by simp [rangeL]
theorem rangeL_mem {lo step : Int} {n : Nat} {a : AV} (h : a ∈ rangeL lo step n) : ∃ i : Nat, i < n ∧ a = .int (lo + step * (i : Int)) := by
 simp only [rangeL, List.mem_map, List.mem_range] at h
 refine E1A2 h fun i hi hn3 => ?_; clear h; obtain rfl := hn3; exact ⟨i, hi, rfl⟩
noncomputable def atR (I : Addr) (lo step : Int) (n : Nat) (i : Nat) (Pi : PL) : Prop := Pi = [(I, ({ cls := .type "range_iterator", dict := none, data := .fields #[rawInt (lo + step * (i : Int)), rawInt ((n : Int) - (i : Int)), rawInt step], slots := #[] } : Obj))]
theorem itr_range {x : Str} {p : Pos} {I : Addr} {lo step : Int} {n : Nat} (hA : A.handled = none) : Itr X A (.Name x p) (.ref I) (rangeL lo step n) (atR I lo step n) (fun _ => True) (fun _ _ => True) where
 held := fun _ _ _ => trivial
 addr := by rintro i _ j _ rfl rfl; rfl
 cell := by rintro i _ rfl q hq v e; cases hq with | head => cases e | tail _ h => exact J.mn h
 again := by
  rintro P env st m s i _ rfl f Q E h
  exact wpAny_pyIter_rangeiter ((f.g.priv _ (.head _)).exact fun es n z => by exact nomatch z) h
 next := by
  rintro P env st m s i _ rfl hi _ _ ap f G E kn ks
  rw [rangeL_len] at hi
  refine A2 (ap _ (.head _)) fun hIP hIT => ?_
  have eo := (f.g.priv _ (.head _)).exact fun es n z => by exact nomatch z
  have hit : IsRangeIter s.heap I (lo + step * (i : Int)) ((n : Int) - (i : Int)) step := eo
  by_cases hlt : i < n
  ·refine wpAny_pyNext_range_item hit (by lia) fun h' hit' hs' => ?_
   have kk : ∀ b x, b ≠ I → s.heap.get? b = some x → h'.get? b = some x := fun b x hb e => (hs'.2 b hb).trans e
   have e' : h'.get? I = some ({ cls := .type "range_iterator", dict := none, data := .fields #[rawInt (lo + step * ((i + 1 : Nat) : Int)), rawInt ((n : Int) - ((i + 1 : Nat) : Int)), rawInt step], slots := #[] } : Obj) := by
    rw [hit']
    have e1 : lo + step * (i : Int) + step = lo + step * ((i + 1 : Nat) : Int) := by push_cast; rw [Int.mul_add, Int.mul_one]; lia
    have e2 : (n : Int) - (i : Int) - 1 = (n : Int) - ((i + 1 : Nat) : Int) := by push_cast; lia
    rw [e1, e2]
   refine A2 (f.turn (tk := s.toks + 1) hIP hIT (fun v e => by exact nomatch e) kk e') fun ft St => ?_
   exact wpAny_pure (ks _ _ _ _ (rangeL_at hlt) rfl (.int _ _) ft St)
  ·have hxs : i = n := by lia
   refine wpAny_pyNext_range_end hA hit (by lia) fun h' hs' => ?_
   have kk : ∀ b x, b ≠ I → s.heap.get? b = some x → h'.get? b = some x := hs'
   refine A2 (f.unpriv (tk := s.toks) hIP hIT (fun v e => by exact nomatch e) kk) fun fu Su => ?_
   exact kn _ (by rw [rangeL_len]; exact hxs) fu Su
theorem fresh_at {b : Addr} {s₁ : Shared} (f : FRel X P env st m s₁) (S : Step (DD X st P (ownOf env)) s.heap s₁.heap) (e : s₁.heap.get? b = none) : s.heap.get? b = none := by
 cases q : s.heap.get? b with
 | none => rfl
 | some o =>
  by_cases d : DD X st P (ownOf env) b
  ·exact absurd d (f.dno e)
  ·have := S _ _ q d; rw [e] at this; exact J.ns this
theorem got_range {x : Str} {p : Pos} {r : Addr} {lo hi step : Int} {t u v : Tok} {n : Nat} {s₁ : Shared} (hA : A.handled = none) (hr : IsRange s₁.heap r lo hi step t u v) (hn : Builtin.Range.rangeSize lo hi step = n) (hsm : Builtin.Range.small lo hi step = true)
 (f : FRel X P env st m s₁) (S : Step (DD X st P (ownOf env)) s.heap s₁.heap) :
 wpAny (model X.prog X.w) A (pyIter (.ref r)) (fun it s₂ => Got X P A env st m (.Name x p) (rangeL lo step n) (fun _ => True) s it s₂) (fun _ _ => False) s₁ := by
 refine wpAny_pyIter_range hr hsm ?_
 obtain ⟨o₀, ho₀⟩ : ∃ o : Obj, o = { cls := .type "range_iterator", data := .fields #[rawInt lo, rawInt (Builtin.Range.rangeSize lo hi step), rawInt step] } := ⟨_, rfl⟩
 have k₀ : ∀ b o, s₁.heap.get? b = some o → (s₁.heap.push o₀).get? b = some o := fun b o e => Heap.get?_push_of_some _ e
 refine A3 (f.priv (tk := s₁.toks) k₀ s₁.heap.objs.size o₀ (get_size _) (Heap.get?_push_size _ (by rw [ho₀]; rfl))) fun f₂ hIP hIT => ?_
 rw [← ho₀]
 refine ⟨_, _, [(s₁.heap.objs.size, o₀)], itr_range (lo := lo) (step := step) (n := n) hA, ?_, fun p hp => ?_, trivial, f₂, S.on (Step.of_keeps k₀), fun p hp => ?_⟩
 ·unfold atR; rw [ho₀, hn]; simp
 ·cases hp with | head => exact ⟨hIP, hIT⟩ | tail _ h => exact J.mn h
 ·cases hp with
  | head => exact fresh_at f S (get_size _)
  | tail _ h => exact J.mn h
theorem small_of {lo hi step : Int} {n : Nat} (hn : Builtin.Range.rangeSize lo hi step = n) (h1 : -(2 ^ 62) ≤ lo ∧ lo < 2 ^ 62) (h2 : -(2 ^ 62) ≤ hi ∧ hi < 2 ^ 62) (h3 : 0 < step ∧ step < 2 ^ 62) (h4 : (n : Int) < 2 ^ 62) : Builtin.Range.small lo hi step = true := by
 unfold Builtin.Range.small Builtin.Range.rangeFitsLong
 rw [hn]
 have a1 : (decide (-(2 ^ 63 : Int) ≤ lo) && decide (lo < 2 ^ 63)) = true := by simp; lia
 have a2 : (decide (-(2 ^ 63 : Int) ≤ hi) && decide (hi < 2 ^ 63)) = true := by simp; lia
 have a3 : (decide (-(2 ^ 63 : Int) ≤ step) && decide (step < 2 ^ 63)) = true := by simp; lia
 have a4 : (decide (-(2 ^ 63 : Int) ≤ (n : Int)) && decide ((n : Int) < 2 ^ 63)) = true := by simp; lia
 have a5 : (decide (-(2 ^ 63 : Int) ≤ hi + (step - 1)) && decide (hi + (step - 1) < 2 ^ 63)) = true := by simp; lia
 rw [a1, a2, a3, a4, if_pos (by lia : step > 0), a5]
 simp
theorem size_1 (lo hi : Int) : Builtin.Range.rangeSize lo hi 1 = ((hi - lo).toNat : Int) := by
 unfold Builtin.Range.rangeSize; rw [if_pos (by lia)]; split <;> lia
theorem size_2 (n : Nat) : Builtin.Range.rangeSize 0 n 2 = (((n + 1) / 2 : Nat) : Int) := by
 unfold Builtin.Range.rangeSize; rw [if_pos (by lia)]; split <;> lia
theorem i_range1 {x y : Str} {p xp pos : Pos} {es : List Expr} {n : Nat} (hX : X.Ok) (hA : A.handled = none) (ok : bltAt X.K env y (.type "range") = true) (ha : EVA X P A env st m es [.int n]) (hn : (n : Int) < 2 ^ 62) :
 EVI X P A env st m (.Name x p) (.Call (.Name y xp) es [] pos) (rangeL 0 1 n) (fun _ => True) := ⟨trivial, fun s f => call_blt hX ok ha (.inr ⟨_, rfl⟩) f fun s₁ vals f₁ r S => by
 cases r using VRs.consE with | cons r rs => (first | cases rs using VR.intE | cases rs using VR.noneE | cases rs using VR.boolE | cases rs using VR.refE | cases rs using VRs.nilE | cases rs); (first | cases r using VR.intE | cases r using VR.noneE | cases r using VR.boolE | cases r using VR.refE | cases r using VRs.nilE | cases r)
                                             have e : Builtin.Range.rangeSize 0 n 1 = n := by rw [size_1]; lia
                                             exact call_range_1 (got_range hA (Heap.get?_push_size _ rfl) e (small_of e (by lia) (by lia) (by lia) hn) (f₁.push _) (S.on (Step.of_keeps fun b o e => Heap.get?_push_of_some _ e)))⟩
theorem i_range2 {x y : Str} {p xp pos : Pos} {es : List Expr} {lo hi : Int} (hX : X.Ok) (hA : A.handled = none) (ok : bltAt X.K env y (.type "range") = true) (ha : EVA X P A env st m es [.int lo, .int hi]) (h1 : -(2 ^ 61) ≤ lo ∧ lo < 2 ^ 61) (h2 : -(2 ^ 61) ≤ hi ∧ hi < 2 ^ 61) :
 EVI X P A env st m (.Name x p) (.Call (.Name y xp) es [] pos) (rangeL lo 1 (hi - lo).toNat) (fun _ => True) := ⟨trivial, fun s f => call_blt hX ok ha (.inr ⟨_, rfl⟩) f fun s₁ vals f₁ r S => by
 cases r using VRs.consE with | cons r rs => cases rs using VRs.consE with | cons r2 rs => (first | cases rs using VR.intE | cases rs using VR.noneE | cases rs using VR.boolE | cases rs using VR.refE | cases rs using VRs.nilE | cases rs); (first | cases r using VR.intE | cases r using VR.noneE | cases r using VR.boolE | cases r using VR.refE | cases r using VRs.nilE | cases r); (first | cases r2 using VR.intE | cases r2 using VR.noneE | cases r2 using VR.boolE | cases r2 using VR.refE | cases r2 using VRs.nilE | cases r2)
                                                                                           exact call_range_2 (got_range hA (Heap.get?_push_size _ rfl) (size_1 _ _) (small_of (size_1 _ _) (by lia) (by lia) (by lia) (by lia)) (f₁.push _) (S.on (Step.of_keeps fun b o e => Heap.get?_push_of_some _ e)))⟩
theorem i_range3 {x y : Str} {p xp pos : Pos} {es : List Expr} {n : Nat} (hX : X.Ok) (hA : A.handled = none) (ok : bltAt X.K env y (.type "range") = true) (ha : EVA X P A env st m es [.int 0, .int n, .int 2]) (hn : (n : Int) < 2 ^ 61) :
 EVI X P A env st m (.Name x p) (.Call (.Name y xp) es [] pos) (rangeL 0 2 ((n + 1) / 2)) (fun _ => True) := ⟨trivial, fun s f => call_blt hX ok ha (.inr ⟨_, rfl⟩) f fun s₁ vals f₁ r S => by
 cases r using VRs.consE with | cons r rs => cases rs using VRs.consE with | cons r2 rs => cases rs using VRs.consE with | cons r3 rs => (first | cases rs using VR.intE | cases rs using VR.noneE | cases rs using VR.boolE | cases rs using VR.refE | cases rs using VRs.nilE | cases rs); (first | cases r using VR.intE | cases r using VR.noneE | cases r using VR.boolE | cases r using VR.refE | cases r using VRs.nilE | cases r); (first | cases r2 using VR.intE | cases r2 using VR.noneE | cases r2 using VR.boolE | cases r2 using VR.refE | cases r2 using VRs.nilE | cases r2); (first | cases r3 using VR.intE | cases r3 using VR.noneE | cases r3 using VR.boolE | cases r3 using VR.refE | cases r3 using VRs.nilE | cases r3)
                                                                                                                                         refine call_range_3 (by decide) (got_range hA (Heap.get?_push_size _ rfl) (size_2 _) (small_of (size_2 _) (by lia) (by lia) (by lia) (by lia)) (f₁.push _) (S.on (Step.of_keeps fun b o e => Heap.get?_push_of_some _ e))) (.inl (PyProof.noPylong_small (by lia)))⟩
end
end J
namespace J
section
variable {X : Cx} {P : PL} {A : Around} {env : Env} {st : AS} {m : AM} {s : Shared}
theorem FRel.turnL {h' : Heap} {tk : Nat} {Pi Pj : PL} (f : FRel X (Pi ++ P) env st m s) (ap : Apart X Pi P) (ha : Pj.map (·.1) = Pi.map (·.1)) (hC : ∀ p ∈ Pi, ∀ v, p.2.data ≠ .cell v)
 (k : ∀ b x, b ∉ Pi.map (·.1) → s.heap.get? b = some x → h'.get? b = some x) (e : ∀ p ∈ Pj, h'.get? p.1 = some p.2) :
 FRel X (Pj ++ P) env st m { s with heap := h', toks := tk } ∧ Step (DD X st (Pi ++ P) (ownOf env)) s.heap h' := by
 have hd : ∀ b, b ∈ Pi.map (·.1) → DD X st (Pi ++ P) (ownOf env) b := fun b hb => .inr (.inl (by rw [List.map_append, List.mem_append]; exact .inl hb))
 have same : ∀ b, DD X st (Pj ++ P) (ownOf env) b ↔ DD X st (Pi ++ P) (ownOf env) b := fun b => by unfold DD; rw [List.map_append, List.map_append, ha]
 have S : ∀ b x, s.heap.get? b = some x → ¬ DD X st (Pi ++ P) (ownOf env) b → h'.get? b = some x ∧ ¬ DD X st (Pj ++ P) (ownOf env) b := fun b x e' nd => ⟨k b x (fun q => nd (hd b q)) e', fun d => nd ((same b).mp d)⟩
 have nP : ∀ b, b ∈ Pi.map (·.1) → b ∉ P.map (·.1) ∧ ¬ X.isTab b := fun b hb => by
  refine E1A2 (List.mem_map.mp hb) fun p hp hn1 => ?_; obtain rfl := hn1; exact ap p hp
 have kD : ∀ b x, Dom st b → s.heap.get? b = some x → h'.get? b = some x := fun b x d => k b x fun q => (f.g.off b d).1 (by rw [List.map_append, List.mem_append]; exact .inl q)
 have kO : ∀ b x, ownOf env b → s.heap.get? b = some x → h'.get? b = some x := fun b x d => k b x fun q => (f.own b d).2.1 (by rw [List.map_append, List.mem_append]; exact .inl q)
 have bB : ∀ b x, X.g0.get? b = some x → b ∉ Pi.map (·.1) := fun b x e q => by have := f.g.lo b (hd b q); rw [e] at this; exact J.sn this
 refine ⟨⟨⟨fun b x e' => k b x (bB b x e') (f.g.base b x e'), fun t ht => ?_, fun b x e' => (f.g.objs b x e').move S fun c hc y => kD c y ⟨b, x, e', hc⟩, fun b d => f.g.lo b ((same b).mp d), fun p hp => ?_, fun b d => ?_, f.g.gens, f.g.os, f.g.tabc, f.g.nolim, fun t ht q => f.g.tabp t ht (by rw [List.map_append] at q ⊢; rwa [ha] at q)⟩,
  ⟨f.f.kind, f.f.glob, f.f.bi, let ⟨mv, a, b⟩ := f.f.ns; ⟨mv, a.at' fun x => kO _ x (.inl rfl), fun x e => (b x e).move S⟩, fun x hx => ?_, f.f.apart, f.f.apartL⟩, fun b hb => ?_⟩, fun b x e' nd => (S b x e' nd).1⟩
 ·refine E1A2 (f.g.tabs t ht) fun more a1 b1 => ?_
  refine E1 (f.g.tabc t ht) fun y z => ?_
  have c1 := bB _ _ z
  have c2 : t.2.1 ∉ Pi.map (·.1) := fun q => (nP _ q).2 (List.mem_map_of_mem ht)
  refine A2 a1 fun hn2 e2 => ?_; clear a1; refine E2A2 hn2 fun o us e1 r1 => ?_; clear hn2
  obtain ⟨o', us', file, tf, flags, tg, inF, text, tt, op, e3, h2, h3, h4, h5, h6, h7, e4, r4⟩ := b1
  exact ⟨more, ⟨⟨o, us, k _ _ c1 e1, r1⟩, k _ _ c2 e2⟩, o', us', file, tf, flags, tg, inF, text, tt, op, k _ _ c1 e3, h2, h3, h4, h5, h6, h7, k _ _ c2 e4, r4⟩
 ·refine O2 (List.mem_append.mp hp) (fun hp => ?_) (fun hp => ?_)
  ·exact .of (e p hp)
  ·exact (f.g.priv p (List.mem_append_right _ hp)).by fun o => k _ o (fun q => (nP _ q).1 (List.mem_map_of_mem hp))
 ·have := f.g.off b d
  rw [List.map_append] at this ⊢
  rw [ha]; exact this
 ·refine E2A3 (f.f.cl x hx) fun c ov h1 h2 h3 => ?_
  refine ⟨c, ov, h1, ?_, h3.move S⟩
  refine E1A2 h2 fun y z w => ?_; clear h2
  refine ⟨y, k c y (fun q => ?_) z, w⟩
  refine E1A2 (List.mem_map.mp q) fun p hp hn3 => ?_; obtain rfl := hn3
  refine E1A2 ((f.g.priv p (List.mem_append_left _ hp)).data) fun o2 this hd2 => ?_
  rw [z] at this; revert this; refine J.sse ?_; rintro rfl; exact hC p hp _ (hd2.symm.trans w)
 ·have := f.own b hb
  rw [List.map_append] at this ⊢
  rw [ha]; exact this
theorem FRel.privL {h' : Heap} {tk : Nat} {Pi : PL} (f : FRel X P env st m s) (k : ∀ b o, s.heap.get? b = some o → h'.get? b = some o) (fresh : ∀ p ∈ Pi, s.heap.get? p.1 = none) (e : ∀ p ∈ Pi, h'.get? p.1 = some p.2) :
 FRel X (Pi ++ P) env st m { s with heap := h', toks := tk } ∧ Apart X Pi P := by
 have fr : ∀ b, b ∈ Pi.map (·.1) → s.heap.get? b = none := fun b hb => by refine E1A2 (List.mem_map.mp hb) fun p hp hn4 => ?_; obtain rfl := hn4; exact fresh p hp
 have S : ∀ b x, s.heap.get? b = some x → ¬ DD X st P (ownOf env) b → h'.get? b = some x ∧ ¬ DD X st (Pi ++ P) (ownOf env) b := fun b x e' nd => ⟨k b x e', fun d => by
  refine O2 (d.app) (fun q => ?_) (fun d => ?_)
  ·rw [fr b q] at e'; exact J.ns e'
  ·exact nd d⟩
 refine ⟨⟨⟨fun b x e' => k b x (f.g.base b x e'), fun t ht => let ⟨more, a, b⟩ := f.g.tabs t ht; ⟨more, a.keeps k, b.keeps k⟩, fun b x e' => (f.g.objs b x e').move S fun c _ y => k c y, fun b d => ?_, fun p hp => ?_, fun b d => ⟨fun q => ?_, (f.g.off b d).2⟩, f.g.gens, f.g.os, f.g.tabc, f.g.nolim, fun t ht q => (by rw [List.map_append, List.mem_append] at q; exact q.elim (fun q => by (refine E1A2 (f.g.tabs t ht) fun _ hn5 _ => ?_; refine A2 hn5 fun _ e2 => ?_; clear hn5; rw [fr _ q] at e2; exact J.ns e2)) (f.g.tabp t ht))⟩,
  ⟨f.f.kind, f.f.glob, f.f.bi, let ⟨mv, a, b⟩ := f.f.ns; ⟨mv, a.keeps k, fun x e => (b x e).move S⟩, fun x e => let ⟨c, ov, a, b, r⟩ := f.f.cl x e; ⟨c, ov, a, b.keeps k, r.move S⟩, f.f.apart, f.f.apartL⟩,
  fun b hb => ⟨(f.own b hb).1, fun q => ?_, (f.own b hb).2.2⟩⟩, fun p hp => ⟨fun q => ?_, fun q => ?_⟩⟩
 ·refine O2 (d.app) (fun q => ?_) (fun d => ?_)
  ·cases z : X.g0.get? b with
   | none => rfl
   | some y => have := f.g.base b y z; rw [fr b q] at this; exact J.ns this
  ·exact f.g.lo b d
 ·refine O2 (List.mem_append.mp hp) (fun hp => ?_) (fun hp => ?_)
  ·exact .of (e p hp)
  ·exact (f.g.priv p hp).by (k _)
 ·rw [List.map_append, List.mem_append] at q
  rcases q with q | q
  ·refine E1 (f.din (.inl d)) fun y z => ?_; rw [fr b q] at z; exact J.ns z
  ·exact (f.g.off b d).1 q
 ·rw [List.map_append, List.mem_append] at q
  rcases q with q | q
  ·refine E1 (f.din (.inr (.inr (.inl hb)))) fun y z => ?_; rw [fr b q] at z; exact J.ns z
  ·exact (f.own b hb).2.1 q
 ·refine E1 (f.din (.inr (.inl q))) fun y z => ?_; rw [fresh p hp] at z; exact J.ns z
 ·refine E1 (f.din (.inr (.inr (.inr q)))) fun y z => ?_; rw [fresh p hp] at z; exact J.ns z
set_option tactic.hygienic true in
end
end J
namespace J
section
variable {X : Cx} {P : PL} {A : Around} {env : Env} {st : AS} {m : AM} {s : Shared}
noncomputable def allBut (h : Heap) (L : Addr) : List (Addr × Obj) := (List.range h.objs.size).filterMap fun b => if b = L then none else (h.get? b).map fun o => (b, o)
theorem mem_allBut {h : Heap} {L b : Addr} {o : Obj} : (b, o) ∈ allBut h L ↔ b ≠ L ∧ h.get? b = some o := by
 unfold allBut
 rw [List.mem_filterMap]
 constructor
 ·intro hr1; refine E1A2 hr1 fun c hc e => ?_; clear hr1
  split at e
  ·exact J.ns e
  ·rename_i hn
   refine E1A2 (Option.map_eq_some_iff.mp e) fun o' h1 h2 => ?_
   cases h2; exact ⟨hn, h1⟩
 ·intro hr2; refine A2 hr2 fun hn e => ?_; clear hr2
  exact ⟨b, List.mem_range.mpr (Heap.lt_size e), by rw [if_neg hn, e]; rfl⟩
noncomputable def h00 : Heap := { (default : Heap) with objs := #[] }
theorem FRel.fr (f : FRel X P env st m s) : ∃ mv, Fr h00 env.locals s.heap mv ∧ News h00 env.locals s.heap (allBut s.heap env.locals) := by
 refine E1A2 (f.f.ns) fun mv hn _ => ?_
 refine ⟨mv, ⟨hn, fun b o e => ?_, Nat.zero_le _⟩, fun p hp => ?_⟩
 ·exact absurd (Heap.lt_size e) (Nat.not_lt_zero _)
 ·refine A2 (mem_allBut.mp (show (p.1, p.2) ∈ _ from hp)) fun h1 h2 => ?_
  refine ⟨h2, h1, ?_⟩
  cases q : h00.get? p.1 with
  | none => rfl
  | some o => exact absurd (Heap.lt_size q) (Nat.not_lt_zero _)
theorem FRel.keepsL {h' : Heap} {tk : Nat} (f : FRel X P env st m s) (k : ∀ b o, b ≠ env.locals → s.heap.get? b = some o → h'.get? b = some o) (hn : ∀ mv, s.heap.Ns env.locals mv → h'.Ns env.locals mv) :
 FRel X P env st m { s with heap := h', toks := tk } ∧ Step (DD X st P (ownOf env)) s.heap h' := by
 have ho : ownOf env env.locals := .inl rfl
 have hd : DD X st P (ownOf env) env.locals := .inr (.inr (.inl ho))
 refine A3 (f.own _ ho) fun n1 n2 n3 => ?_
 have kk : ∀ b o, b ≠ env.locals → s.heap.get? b = some o → h'.get? b = some o := k
 have S : ∀ b o, s.heap.get? b = some o → ¬ DD X st P (ownOf env) b → h'.get? b = some o ∧ ¬ DD X st P (ownOf env) b := fun b o e nd => ⟨kk b o (fun q => nd (q ▸ hd)) e, nd⟩
 refine ⟨⟨f.g.at_own hd n1 n2 n3 kk, ⟨f.f.kind, f.f.glob, f.f.bi, let ⟨mv, a, b⟩ := f.f.ns; ⟨mv, hn mv a, fun x e => (b x e).move S⟩, fun y hy => ?_, f.f.apart, f.f.apartL⟩, f.own⟩, fun b o e nd => (S b o e nd).1⟩
 refine E2A3 (f.f.cl y hy) fun c ov h1 h2 h3 => ?_
 refine ⟨c, ov, h1, ?_, h3.move S⟩
 refine E1A2 h2 fun o e w => ?_; clear h2
 exact ⟨o, kk c o (f.f.apartL y c hy h1) e, w⟩
theorem FRel.back {h' : Heap} {tk : Nat} {mv : Str → Option Value} {news : List (Addr × Obj)} (f : FRel X P env st m s) (F₀ : Fr h00 env.locals s.heap mv) (F : Fr h00 env.locals h' mv) (N : News h00 env.locals h' news) (hs : ∀ p ∈ allBut s.heap env.locals, p ∈ news) :
 FRel X P env st m { s with heap := h', toks := tk } ∧ Step (DD X st P (ownOf env)) s.heap h' :=
 f.keepsL (fun b o hb e => (N (b, o) (hs _ (mem_allBut.mpr ⟨hb, e⟩))).1) fun mv' h => by
  have : mv' = mv := by
   refine E3A4 h fun o es ep e1 e2 e3 e4 => ?_; clear h
   refine E3A4 (F₀.ns) fun o' es' ep' e1' e2' e3' e4' => ?_
   rw [e1] at e1'; revert e1'; refine J.sse ?_; rintro rfl
   rw [e2] at e2'; cases e2'
   funext x; rw [← e4, ← e4']
  rw [this]; exact F.ns
theorem b_abs {i : Int} : Blt X P A env st m (.builtin "abs") [.int i] (Is (.int (if i < 0 then -i else i)) st m) := fun s vals f r => by
 cases r using VRs.consE with | cons r rs => (first | cases rs using VR.intE | cases rs using VR.noneE | cases rs using VR.boolE | cases rs using VR.refE | cases rs using VRs.nilE | cases rs); (first | cases r using VR.intE | cases r using VR.noneE | cases r using VR.boolE | cases r using VR.refE | cases r using VRs.nilE | cases r)
                                             exact call_abs_int fun u tk => Post.same f (.int _ _)
theorem b_min2 {i j : Int} (hA : A.handled = none) : Blt X P A env st m (.builtin "min") [.int i, .int j] (Is (.int (min i j)) st m) := fun s vals f r => by
 cases r using VRs.consE with | cons r rs => cases rs using VRs.consE with | cons r2 rs => (first | cases rs using VR.intE | cases rs using VR.noneE | cases rs using VR.boolE | cases rs using VR.refE | cases rs using VRs.nilE | cases rs); (first | cases r using VR.intE | cases r using VR.noneE | cases r using VR.boolE | cases r using VR.refE | cases r using VRs.nilE | cases r); (first | cases r2 using VR.intE | cases r2 using VR.noneE | cases r2 using VR.boolE | cases r2 using VR.refE | cases r2 using VRs.nilE | cases r2)
                                                                                           refine min_two_ints hA fun h' tk k => Post.here (f.keeps (d := s.drawn) k) (Step.of_keeps k) ?_
                                                                                           split
                                                                                           ·rw [show min i j = j by lia]; exact .int _ _
                                                                                           ·rw [show min i j = i by lia]; exact .int _ _
theorem b_max2 {i j : Int} (hA : A.handled = none) : Blt X P A env st m (.builtin "max") [.int i, .int j] (Is (.int (max i j)) st m) := fun s vals f r => by
 cases r using VRs.consE with | cons r rs => cases rs using VRs.consE with | cons r2 rs => (first | cases rs using VR.intE | cases rs using VR.noneE | cases rs using VR.boolE | cases rs using VR.refE | cases rs using VRs.nilE | cases rs); (first | cases r using VR.intE | cases r using VR.noneE | cases r using VR.boolE | cases r using VR.refE | cases r using VRs.nilE | cases r); (first | cases r2 using VR.intE | cases r2 using VR.noneE | cases r2 using VR.boolE | cases r2 using VR.refE | cases r2 using VRs.nilE | cases r2)
                                                                                           refine max_two_ints hA fun h' tk k => Post.here (f.keeps (d := s.drawn) k) (Step.of_keeps k) ?_
                                                                                           split
                                                                                           ·rw [show max i j = j by lia]; exact .int _ _
                                                                                           ·rw [show max i j = i by lia]; exact .int _ _
theorem ints_of {D : Addr → Prop} {h : Heap} {vs : List Value} {ns : List Int} (r : VRs D h vs (ns.map .int)) : IntsAre vs ns := by
 induction ns generalizing vs with
 | nil => cases r using VRs.nilE; exact .nil
 | cons n ns ih =>
  cases r using VRs.consE with | cons x r =>
  cases x using VR.intE
  exact .cons _ _ (ih r)
theorem tr_list {a : AV} {xs : List AV} (hL : IsL st a xs) (hz : (xs.length : Int) < 2 ^ 63) : Tr X P A env st m a (!xs.isEmpty) := by
 intro s v f r
 refine E3A2 (hL.get f r) fun l vs n hn3 hn4 => ?_; obtain rfl := hn3; refine A2 hn4 fun e rs => ?_; clear hn4
 refine wpAny_truthy_list (list_is e) (by rw [List.size_toArray, rs.length]; exact hz) ?_
 have : vs.toArray.isEmpty = xs.isEmpty := by
  (first | cases rs using VR.intE | cases rs using VR.noneE | cases rs using VR.boolE | cases rs using VR.refE | cases rs using VRs.nilE | cases rs) <;> simp
 rw [this]
 exact Post.same f rfl
end
end J
namespace J
section
variable {X : Cx} {P : PL} {A : Around} {env : Env} {st : AS} {m : AM} {s : Shared}
theorem tr_inst {a : AV} {C : Addr} {ns : List Str} {l : List AV} (hX : X.Ok) (ha : a = .inst C ns l ∨ ∃ y, a = .ref y ∧ st y = some (.inst C ns l)) (hs : findIn X.K (.ref C) "__bool__" = some none) (hl : findIn X.K (.ref C) "__len__" = some none) : Tr X P A env st m a true := by
 intro s v f r
 obtain ⟨d, vs, rfl, e, x⟩ : ∃ d vs, v = .ref (d + 1) ∧ s.heap.get? (d + 1) = some (instObj C d) ∧ DictAt s.heap d ns vs := by
  rcases ha with rfl | ⟨y, rfl, hy⟩
  ·cases r with | inst _ _ e x _ => exact ⟨_, _, rfl, e, x⟩
  ·(first | cases r using VR.intE | cases r using VR.noneE | cases r using VR.boolE | cases r using VR.refE | cases r using VRs.nilE | cases r)
   refine E2A2 (f.g.objs _ _ hy) fun d vs hn1 hn2 => ?_; obtain rfl := hn1; refine A3 hn2 fun e x _ => ?_; clear hn2
   exact ⟨d, vs, rfl, e, x⟩
 have K := f.kin hX.kin
 refine E2A2 (inst_at (D := fun _ => False) e x) fun es n I q => ?_
 unfold truthy
 refine wpAny_bind (m := callSpecial? (.ref (d + 1)) (Str.ofString "__bool__")) (wpAny_bind (wpAny_bind (I.type.here ((looks_findIn K hs).here (wpAny_pure ?_)))))
 refine wpAny_bind (wpAny_bind (I.type.here ((looks_findIn K hl).here ?_)))
 exact wpAny_pure (Post.eq f rfl)
theorem Ents.vals {es : List DictEntry} {ns : List Str} {vs : List Value} (x : Ents es ns vs) : vs = es.map (·.val) := by
 induction x with
 | nil => rfl
 | cons _ ih => exact congrArg _ ih
theorem Ents.inj {es : List DictEntry} {ns : List Str} {vs vs' : List Value} (x : Ents es ns vs) (y : Ents es ns vs') : vs = vs' := x.vals.trans y.vals.symm
noncomputable def AV.atom : AV → Bool | .none => true | .int _ => true | .bool _ => true | _ => false
noncomputable def unV : Value → AV | .bool b => .bool b | .int i _ => .int i | _ => .none
theorem VR.atomV {D : Addr → Prop} {h : Heap} {v : Value} {a : AV} (x : VR D h v a) (ha : a.atom = true) : a = unV v := by
 cases x <;> first | rfl | exact J.ft ha
theorem VRs.atomV {D : Addr → Prop} {h : Heap} {vs : List Value} {l : List AV} (x : VRs D h vs l) : l.all AV.atom = true → l = vs.map unV :=
 x.ind (M := fun vs l => l.all AV.atom = true → l = vs.map unV) (fun _ => rfl) fun x _ ih h => by
  rw [List.all_cons, Bool.and_eq_true] at h
  rw [x.atomV h.1, ih h.2]; rfl
theorem VRs.atom {D : Addr → Prop} {h : Heap} {vs : List Value} {l l' : List AV} (x : VRs D h vs l) (y : VRs D h vs l') (h1 : l.all AV.atom = true) (h2 : l'.all AV.atom = true) : l = l' := (x.atomV h1).trans (y.atomV h2).symm
set_option tactic.hygienic true in
theorem eq_inst {C g : Addr} {ns : List Str} {l l' : List AV} {n : Nat} {b : Bool} {va vb : Value} (hX : X.Ok) (f : FRel X P env st m s) (ra : VR (DD X st P (ownOf env)) s.heap va (.inst C ns l)) (rb : VR (DD X st P (ownOf env)) s.heap vb (.inst C ns l'))
 (hs : findIn X.K (.ref C) "__eq__" = some (some (.ref g))) (hf : isFn X.K (.ref g) = true) (hl : l.all AV.atom = true) (hl' : l'.all AV.atom = true) (hb : l = l' → b = true)
 (h : FNv X n g st [.inst C ns l, .inst C ns l'] (.bool b)) (R : Room n A P (locOf env)) (hu : A.units < cLine) : wpAny (model X.prog X.w) A (eqBool va vb) (Post X P env st s EB (Is b st m)) (fun _ _ => False) s := by
 have ra' := ra
 have rb' := rb
 cases ra with | inst n1 n2 e x r =>
 cases rb with | inst n1' n2' e' x' r' =>
 rename_i d vs d' vs'
 have K := f.kin hX.kin
 refine E2A2 (inst_at (D := fun _ => False) e x) fun es n I q => ?_
 refine E2A2 (inst_at (D := fun _ => False) e' x') fun es' n' I' q' => ?_
 unfold eqBool
 refine wpAny_holding (wpAny_ite_split (fun hab => ?_) fun hab => ?_)
 ·have : d = d' := by have := eq_of_beq hab; injection this with z; exact Nat.succ.inj z
  subst this
  have hvs : vs = vs' := by
   refine E2A2 x fun u1 k1 g1 y1 => ?_; clear x
   refine E2A2 x' fun u2 k2 g2 y2 => ?_; clear x'
   rw [g1] at g2
   have : u1 = u2 := by
    have z := congrArg (fun o : Option Obj => o.map (·.data)) g2
    simp only [Option.map_some, Option.some.injEq, Data.dict.injEq] at z
    simpa using z.1
   subst this
   exact y1.inj y2
  subst hvs
  rw [hb (r.atom r' hl hl')]
  exact wpAny_bind (wpAny_rule (wpAny_pure (Post.eq f rfl)))
 ·refine wpAny_bind ?_
  have hcall := wpAny_mono (call_fn h R f (.cons ra' (.cons rb' .nil))) (Q' := fun v s' => v = .bool b ∧ Post X P env st s EB (Is b st m) b s') (fun v s' p => by
   obtain ⟨b', st', m', rr, f', S', g', ⟨h1, h2⟩, h3⟩ := p
   subst h1 h2 h3
   have hv : v = .bool b := by (first | cases rr using VR.intE | cases rr using VR.noneE | cases rr using VR.boolE | cases rr using VR.refE | cases rr using VRs.nilE | cases rr); rfl
   exact ⟨hv, _, _, _, rfl, f', S', g', rfl, rfl, rfl⟩) (fun _ _ e => e)
  have one : wpAny (model X.prog X.w) A (tryCompare (.ref (d + 1)) (cmpInfo .Eq).2.1 (.ref (d' + 1))) (fun r s' => r = some (.bool b) ∧ Post X P env st s EB (Is b st m) b s') (fun _ _ => False) s := by
   unfold tryCompare
   refine wpAny_bind (ifBound_K K I hs hf (wpAny_mono hcall (fun v s' hv => ?_) fun _ _ e => e))
   refine A2 hv fun hn4 p => ?_; clear hv; obtain rfl := hn4
   exact wpAny_pure ⟨rfl, p⟩
  have fin : ∀ s', Post X P env st s EB (Is b st m) b s' → wpAny (model X.prog X.w) A (truthOfDropped (.bool b)) (Post X P env st s EB (Is b st m)) (fun _ _ => False) s' := fun s' p => wpAny_truthy_bool p
  unfold richCompare
  simp only [oneThing_ref]
  refine wpAny_holding (wpAny_bind (wpAny_cRoomFor hu ?_))
  refine wpAny_bind (I.type.here (wpAny_bind (I'.type.here ?_)))
  have hcc : (instObj C d).cls = (instObj C d').cls := rfl
  split
  ·rename_i q
   simp at q
  ·refine wpAny_bind (wpAny_pure ?_)
   simp only [Bool.false_eq_true, if_false]
   refine wpAny_bind (wpAny_mono one (fun r s' z => ?_) fun _ _ e => e)
   refine A2 z fun hn6 p => ?_; clear z; obtain rfl := hn6
   exact wpAny_pure (fin s' p)
end
end J
section
open PySem.SeqAt PySem.P3
namespace J
section
variable {X : Cx} {P : PL} {A : Around} {env : Env} {st : AS} {m : AM} {s : Shared}
noncomputable abbrev aO : Option Int → AV | none => .none | some i => .int i
noncomputable abbrev tO (l : List (Option Int)) : AV := .tup (l.map aO)
noncomputable abbrev LO (L : List (List (Option Int))) : AV := .lst (L.map tO)
noncomputable def dO : Option Int → PyData | none => .none | some i => .int i
noncomputable def dT (l : List (Option Int)) : PyData := .tuple (l.map dO)
theorem read_O {D : Addr → Prop} {h : Heap} {v : Value} {x : Option Int} (r : VR D h v (aO x)) : Reads h v (dO x) [] := by
 cases x <;> (first | cases r using VR.intE | cases r using VR.noneE | cases r using VR.boolE | cases r using VR.refE | cases r using VRs.nilE | cases r)
 ·exact .none
 ·exact .int _ _
theorem reads_O {D : Addr → Prop} {h : Heap} {vs : List Value} {l : List (Option Int)} (r : VRs D h vs (l.map aO)) : ReadsAll h vs (l.map dO) [] := by
 induction l generalizing vs with
 | nil => cases r using VRs.nilE; exact .nil
 | cons n ns ih =>
  cases r using VRs.consE with | cons x r =>
  exact .cons (read_O x) (ih r)
theorem read_T {D : Addr → Prop} {h : Heap} {v : Value} {l : List (Option Int)} (r : VR D h v (tO l)) : Reads h v (dT l) [] := by
 unfold tO at r
 generalize hx : l.map aO = xs at r
 cases r using VR.tupE with | tup nd t r =>
 subst hx
 obtain ⟨o, e, h1, n, h2⟩ := t
 exact .tuple e h1 h2 (by simpa using reads_O r)
theorem reads_T {D : Addr → Prop} {h : Heap} {vs : List Value} {L : List (List (Option Int))} (r : VRs D h vs (L.map tO)) : ReadsAll h vs (L.map dT) [] := by
 induction L generalizing vs with
 | nil => cases r using VRs.nilE; exact .nil
 | cons n ns ih =>
  cases r using VRs.consE with | cons x r =>
  exact .cons (read_T x) (ih r)
theorem read_L {a : AV} {L : List (List (Option Int))} {v : Value} (hL : IsL st a (L.map tO)) (f : FRel X P env st m s) (r : VR (DD X st P (ownOf env)) s.heap v a) : ∃ l, Reads s.heap v (.list (L.map dT)) [l] := by
 refine E3A2 (hL.get f r) fun l vs n hn1 hn2 => ?_; obtain rfl := hn1; refine A2 hn2 fun e rs => ?_; clear hn2
 exact ⟨l, .list e rfl rfl (by simpa using reads_T rs)⟩
theorem read_I {a : AV} {L : List (Option Int)} {v : Value} (hL : IsL st a (L.map aO)) (f : FRel X P env st m s) (r : VR (DD X st P (ownOf env)) s.heap v a) : ∃ l, Reads s.heap v (.list (L.map dO)) [l] := by
 refine E3A2 (hL.get f r) fun l vs n hn3 hn4 => ?_; obtain rfl := hn3; refine A2 hn4 fun e rs => ?_; clear hn4
 exact ⟨l, .list e rfl rfl (by simpa using reads_O rs)⟩
theorem eqv_O (x y : Option Int) : PyData.eqv (dO x) (dO y) = (x == y) := by
 cases x <;> cases y <;> simp [dO, PyData.eqv]
theorem eqvAll_O : ∀ (l l' : List (Option Int)), PyData.eqvAll (l.map dO) (l'.map dO) = (l == l')
 | [], [] => rfl
 | [], _ :: _ => by simp [PyData.eqvAll]
 | _ :: _, [] => by simp [PyData.eqvAll]
 | x :: l, y :: l' => by simp only [List.map_cons, PyData.eqvAll, eqv_O, eqvAll_O l l']; rfl
theorem eqv_T (l l' : List (Option Int)) : PyData.eqv (dT l) (dT l') = (l == l') := by simp only [dT, PyData.eqv, eqvAll_O]
theorem eqvAll_T : ∀ (L L' : List (List (Option Int))), PyData.eqvAll (L.map dT) (L'.map dT) = (L == L')
 | [], [] => rfl
 | [], _ :: _ => by simp [PyData.eqvAll]
 | _ :: _, [] => by simp [PyData.eqvAll]
 | x :: l, y :: l' => by simp only [List.map_cons, PyData.eqvAll, eqv_T, eqvAll_T l l']; rfl
theorem eqv_L (L L' : List (List (Option Int))) : PyData.eqv (.list (L.map dT)) (.list (L'.map dT)) = (L == L') := by simp only [PyData.eqv, eqvAll_T]
theorem lay_O : ∀ l : List (Option Int), PyData.canLayAll0 (l.map dO) = true
 | [] => rfl
 | x :: l => by simp only [List.map_cons, PyData.canLayAll0, lay_O l, Bool.and_true]; cases x <;> rfl
theorem lay_T : ∀ L : List (List (Option Int)), PyData.canLayAll0 (L.map dT) = true
 | [] => rfl
 | x :: l => by simp only [List.map_cons, PyData.canLayAll0, lay_T l, Bool.and_true, dT, PyData.canLay0]; exact lay_O x
theorem dep_O : ∀ l : List (Option Int), PyData.depthAll (l.map dO) = 0
 | [] => rfl
 | x :: l => by simp only [List.map_cons, PyData.depthAll, dep_O l]; cases x <;> rfl
theorem dep_T : ∀ L : List (List (Option Int)), PyData.depthAll (L.map dT) ≤ 1
 | [] => Nat.zero_le _
 | x :: l => by
  have := dep_T l
  simp only [List.map_cons, PyData.depthAll, dT, PyData.depth, dep_O] at this ⊢
  lia
theorem o_neL {a b : AV} {L L' : List (List (Option Int))} (hu : A.units + 2 < cLine) (ha : IsL st a (L.map tO)) (hb : IsL st b (L'.map tO)) : Op2 X P A env st m (compareOp .NotEq) a b (.bool (L != L')) := by
 intro s va vb f ra rb
 refine E1 (read_L ha f ra) fun l r1 => ?_
 refine E1 (read_L hb f rb) fun l' r2 => ?_
 refine compareNe_reads r1 r2 (lay_T L) (lay_T L') ?_ ?_
 ·have := dep_T L; simp only [PyData.depth]; lia
 ·rw [eqv_L]; exact Post.eq f (.bool _)
theorem o_eqT {l l' : List (Option Int)} (hu : A.units + 2 < cLine) : Op2 X P A env st m (compareOp .Eq) (tO l) (tO l') (.bool (l == l')) := by
 intro s va vb f ra rb
 refine compareEq_reads (read_T ra) (read_T rb) (lay_O l) (lay_O l') ?_ ?_
 ·simp only [dT, PyData.depth, dep_O]; lia
 ·rw [eqv_T]; exact Post.eq f (.bool _)
theorem o_neT {l l' : List (Option Int)} (hu : A.units + 2 < cLine) : Op2 X P A env st m (compareOp .NotEq) (tO l) (tO l') (.bool (l != l')) := by
 intro s va vb f ra rb
 refine compareNe_reads (read_T ra) (read_T rb) (lay_O l) (lay_O l') ?_ ?_
 ·simp only [dT, PyData.depth, dep_O]; lia
 ·rw [eqv_T]; exact Post.eq f (.bool _)
theorem o_notinI {a : AV} {x : Option Int} {L : List (Option Int)} (hu : A.units + 1 < cLine) (ha : IsL st a (L.map aO)) : Op2 X P A env st m (compareOp .NotIn) (aO x) a (.bool (!L.contains x)) := by
 intro s va vb f ra rb
 refine E1 (read_I ha f rb) fun l r1 => ?_
 refine notIn_list_reads r1 (read_O ra) (lay_O L) (by cases x <;> rfl) (by rw [dep_O]; lia) ?_
 have : ((L.map dO).any fun y => PyData.eqv y (dO x)) = L.contains x := by
  rw [List.any_map, List.contains_eq_any_beq]
  congr 1; funext y; rw [Function.comp, eqv_O, Bool.beq_comm]
 rw [this]; exact Post.eq f (.bool _)
set_option tactic.hygienic true in
theorem e_tslice {value : Expr} {lower : Expr} {p pos : Pos} {xs : List AV} {k : Nat} (hv : EV X P A env st m (eval value env) (.tup xs)) (hl : EV X P A env st m (eval lower env) (.int k)) (h1 : 1 ≤ k) (h2 : k ≤ xs.length) (hz : xs.length ≤ sizeLine)
 (ok1 : ∀ t l, subscripted (.Slice (some lower) none none p) false (.ref t) (.ref l) = operate [.ref l, .ref t] (getItem (.ref t) (.ref l))) (ok2 : ∀ t r, letTemporaryGo value (.ref t) r = pure ()) :
 EV X P A env st m (eval (.Subscript value (.Slice (some lower) none none p) pos) env) (.tup (xs.drop k)) := fun s f => Subscript_ (hv.on f fun v s₁ f₁ r₁ S₁ => wpAny_Slice (evalPart_some_step (hl.on f₁ fun i s₂ f₂ r₂ S₂ => evalPart_none_step (evalPart_none_step (by
 have r₁ := r₁.held S₂
 cases r₁ using VR.tupE with | tup nd t rs =>
 cases r₂
 rename_i a vs u
 have ht' : IsTup (s₂.heap.push { cls := .type "slice", data := .fields #[.int k u, .none, .none] }) a vs.toArray := t.keeps fun _ _ e => Heap.get?_push_of_some _ e
 refine subscriptTail_ops (s := { s₂ with heap := s₂.heap.push { cls := .type "slice", data := .fields #[.int k u, .none, .none] } }) ht'.typeIs slot_tuple_getitem.lookup
  (getItem_tuple_from ht' (Heap.IsSliceOf.new ..) h1 (by rw [List.size_toArray, rs.length]; exact h2) ?_ (by rw [List.size_toArray, rs.length]; exact hz)) (ok1 _ _) (ok2 _)
 have k2 : ∀ b o o' o'', s₂.heap.get? b = some o → ((s₂.heap.push o').push o'').get? b = some o := fun b o o' o'' e => Heap.get?_push_of_some _ (Heap.get?_push_of_some _ e)
 refine Post.here (f₂.keeps (d := s₂.drawn) (tk := s₂.toks) fun b o e => k2 b o _ _ e) ((S₁.on S₂).on (Step.of_keeps fun b o e => k2 b o _ _ e)) ?_
 have e := Heap.get?_push_size (s₂.heap.push { cls := .type "slice", data := .fields #[.int k u, .none, .none] }) (o := { cls := .type "tuple", data := .seq (vs.toArray.toList.drop k).toArray }) rfl
 refine .tup (vs := vs.drop k) (fun d => ?_) ⟨_, e, rfl, 0, by simp⟩ ((rs.drop k).keeps fun b o e => k2 b o _ _ e)
 refine E1 (f₂.din d) fun o q => ?_
 rw [Heap.size_push] at q
 exact absurd (Heap.lt_size q) (Nat.not_lt.mpr (Nat.le_succ _)))))))
end
end J
end
section
open PySem.SeqAt PySem.P3
namespace J
section
variable {X : Cx} {P : PL} {A : Around} {env : Env} {st : AS} {m : AM} {s : Shared}
theorem loop_eq (l : Addr) (x : Value) (i : Nat) : Builtin.«list.__contains__.loop» ⟨[.ref l, x, rawInt (i : Int)], []⟩ = (do
 match (← Builtin.List.listItems (.ref l))[i]? with
 | none => ret (.bool false)
 | some y => if ← eqBool y x then ret (.bool true) else again (.builtin "list.__contains__.loop" ⟨[.ref l, x, rawInt ((i : Int) + 1)], []⟩)) := by rfl
theorem contains_eq (l : Addr) (x : Value) : Builtin.«list.__contains__» ⟨[.ref l, x], []⟩ = again (.builtin "list.__contains__.loop" ⟨[.ref l, x, rawInt 0], []⟩) := by rfl
noncomputable def HeldL (D : Addr → Prop) (h : Heap) (l : Addr) (vs : List Value) (xs : List AV) : Prop := ¬ D l ∧ h.PlainList l vs.toArray ∧ VRs D h vs xs
theorem HeldL.step {D : Addr → Prop} {h h' : Heap} {l : Addr} {vs : List Value} {xs : List AV} (x : HeldL D h l vs xs) (S : Step D h h') : HeldL D h' l vs xs :=
 let ⟨n, ⟨c, e⟩, r⟩ := x; ⟨n, ⟨c, S _ _ e n⟩, r.step S (Gr.refl _ _)⟩
theorem contains_own {l : Addr} {vs : List Value} {xs : List AV} {x : Value} {a : AV} {e : AV → Bool} {R : Result → Shared → Prop}
 (heq : ∀ s v b, b ∈ xs → FRel X P env st m s → VR (DD X st P (ownOf env)) s.heap v b → VR (DD X st P (ownOf env)) s.heap x a → wpAny (model X.prog X.w) A.in1 (eqBool v x) (Post X P env st s EB (Is (e b) st m)) (fun _ _ => False) s) :
 ∀ (k i : Nat) (s : Shared), xs.length - i = k → FRel X P env st m s → HeldL (DD X st P (ownOf env)) s.heap l vs xs → VR (DD X st P (ownOf env)) s.heap x a →
 (∀ s', FRel X P env st m s' → Step (DD X st P (ownOf env)) s.heap s'.heap → R (.ok (.ret (.bool ((xs.drop i).any e)))) s') →
 wpAny (model X.prog X.w) A.in1 (Builtin.«list.__contains__.loop» ⟨[.ref l, x, rawInt (i : Int)], []⟩) (fun fin s' => match fin with | .done f => R (.ok f) s' | .again c' => c'.quiet = true ∧ codeAny (model X.prog X.w) A c' R s') (fun e s' => R (.error e) s') s := by
 intro k
 induction k with
 | zero =>
  intro i s hk f hl rx h
  refine A3 hl fun nd hn1 rs => ?_; clear hl; refine E1 hn1 fun c el => ?_; clear hn1
  rw [loop_eq]
  refine wpAny_bind (listItems_at el rfl ?_)
  have hi : vs.toArray[i]? = none := by rw [List.getElem?_toArray, List.getElem?_eq_none_iff, rs.length]; exact Nat.le_of_sub_eq_zero hk
  rw [hi]
  have hd : xs.drop i = [] := by rw [List.drop_eq_nil_iff]; exact Nat.le_of_sub_eq_zero hk
  rw [hd] at h
  exact wpAny_pure (h s f (Step.refl _ _))
 | succ k ih =>
  intro i s hk f hl rx h
  have hl' := hl
  refine A3 hl fun nd hn2 rs => ?_; clear hl; refine E1 hn2 fun c el => ?_; clear hn2
  rw [loop_eq]
  refine wpAny_bind (listItems_at el rfl ?_)
  have hlt : i < xs.length := J.nL hk
  refine E1A2 (rs.get i xs[i] (List.getElem?_eq_getElem hlt)) fun v hv rv => ?_
  rw [List.getElem?_toArray, hv]
  have hd : xs.drop i = xs[i] :: xs.drop (i + 1) := List.drop_eq_getElem_cons hlt
  rw [hd, List.any_cons] at h
  refine wpAny_bind (wpAny_mono (heq s v _ (List.getElem_mem hlt) f rv rx) (fun b s₁ p => ?_) fun _ _ e => e.elim)
  obtain ⟨b', st', m', rr, f', S', g', h1, h2, h3⟩ := p
  subst h2 h3
  have rr : b = b' := rr
  rw [rr, h1]
  cases hb : e xs[i] with
  | true =>
   rw [hb] at h
   exact wpAny_pure (h s₁ f' S')
  | false =>
   rw [hb] at h
   have hc : ((i : Int) + 1) = ((i + 1 : Nat) : Int) := by push_cast; rfl
   rw [hc]
   refine wpAny_pure ⟨plainId_quiet MeetsSeq.plain_contains_loop _, codeAny_builtin MeetsSeq.entry_contains_loop (by
    rw [Around.under_plainId MeetsSeq.plain_contains_loop _]
    exact ih (i + 1) s₁ (J.nS hk) f' (hl'.step S') (rx.held S') fun s' f'' S'' => by simpa using h s' f'' (S'.on S''))⟩
set_option tactic.hygienic true in
theorem o_notinR {a b : AV} {xs : List AV} {e : AV → Bool} (hL : b = .lst xs)
 (heq : ∀ A', A'.depth = A.depth → A'.handled = A.handled → A'.frames = A.frames → A'.units = A.units + 1 → ∀ s v x c, c ∈ xs → FRel X P env st m s → VR (DD X st P (ownOf env)) s.heap v c → VR (DD X st P (ownOf env)) s.heap x a → wpAny (model X.prog X.w) A' (eqBool v x) (Post X P env st s EB (Is (e c) st m)) (fun _ _ => False) s) :
 Op2 X P A env st m (compareOp .NotIn) a b (.bool (!xs.any e)) := by
 intro s va vb f ra rb
 subst hL
 cases rb using VR.lstE with | lst nd p r =>
 refine E1 p fun c el => ?_; clear p
 rename_i l vs
 show wpAny _ A (do return Value.bool (!(← contains (.ref l) va))) _ _ s
 refine wpAny_bind (wpAny_contains_slot (T := "list") ⟨_, el, rfl⟩ PySem.F.slot_list_contains (wpAny_mono (Q := fun v s' => v = .bool (xs.any e) ∧ FRel X P env st m s' ∧ Step (DD X st P (ownOf env)) s.heap s'.heap) (E := fun _ _ => False) ?_ (fun v s' hv => ?_) fun _ _ e => e))
 ·refine wpAny_call (codeAny_call_builtin PySem.F.slot_list_contains.plain PySem.F.entry_list_contains (PySem.F.slot_list_contains.check _ _ _ _ _ _ _ _ ⟨_, el, rfl⟩ (PySem.F.args_list_contains_2 _ _) ?_))
  rw [contains_eq]
  refine wpAny_pure ⟨plainId_quiet MeetsSeq.plain_contains_loop _, codeAny_builtin MeetsSeq.entry_contains_loop (by
   rw [Around.under_plainId MeetsSeq.plain_contains_loop _]
   exact contains_own (A := A) (R := wants (fun v s' => v = .bool (xs.any e) ∧ FRel X P env st m s' ∧ Step (DD X st P (ownOf env)) s.heap s'.heap) (fun _ _ => False)) (l := l) (vs := vs) (xs := xs) (x := va) (a := a) (e := e) (fun s v b hb f rv rx => heq A.in1 rfl rfl rfl rfl s v va b hb f rv rx) _ 0 s rfl f ⟨nd, ⟨c, el⟩, r⟩ ra fun s' f' S' => ⟨by simp, f', S'⟩)⟩
 ·refine A2 hv fun hn3 hn4 => ?_; clear hv; obtain rfl := hn3; refine A2 hn4 fun f' S' => ?_; clear hn4
  exact wpAny_truthy_bool (wpAny_pure (Post.here f' S' (.bool _)))
end
end J
end
namespace J
noncomputable def kw (f : Nat → Nat → Bool) (n : Nat) {α : Type} : KasT α → (α → Prop) → Prop
 | .ret a, Q => Q a
 | .ask i j k, Q => i < n ∧ j < n ∧ kw f n (k (f i j)) Q
theorem kw_bind {f : Nat → Nat → Bool} {n : Nat} {α β : Type} {g : α → KasT β} {Q : β → Prop} : ∀ (t : KasT α), kw f n t (fun a => kw f n (g a) Q) → kw f n (t.bind g) Q
 | .ret _, h => h
 | .ask _ _ k, h => ⟨h.1, h.2.1, kw_bind (k _) h.2.2⟩
theorem kw_mono {f : Nat → Nat → Bool} {n : Nat} {α : Type} {Q Q' : α → Prop} : ∀ (t : KasT α), kw f n t Q → (∀ a, Q a → Q' a) → kw f n t Q'
 | .ret _, h, k => k _ h
 | .ask _ _ k, h, i => ⟨h.1, h.2.1, kw_mono (k _) h.2.2 i⟩
theorem kw_wp {f : Nat → Nat → Bool} {n : Nat} {α : Type} {cmp : Nat → Nat → (Bool → Shared → Prop) → Shared → Prop} {s : Shared} (hc : ∀ i j (C : Bool → Shared → Prop), i < n → j < n → C (f i j) s → cmp i j C s) :
 ∀ (t : KasT α) {Q : α → Shared → Prop}, kw f n t (fun a => Q a s) → t.kasWp cmp Q s
 | .ret _, _, h => h
 | .ask i j k, _, h => hc i j _ h.1 h.2.1 (kw_wp hc (k _) h.2.2)
section
variable {f : Nat → Nat → Bool} {n : Nat} {p : Array Nat}
noncomputable abbrev at0 (p : Array Nat) (k : Nat) : Nat := p.getD k 0
structure Ord (f : Nat → Nat → Bool) : Prop where
 asym : ∀ i j, f i j = true → f j i = false
 trans : ∀ i j k, f k j = false → f j i = false → f k i = false
noncomputable def Inc (f : Nat → Nat → Bool) (p : Array Nat) (k : Nat) : Prop := ∀ a b, a ≤ b → b < k → f (at0 p b) (at0 p a) = false
noncomputable def Dec (f : Nat → Nat → Bool) (p : Array Nat) (k : Nat) : Prop := ∀ a b, a ≤ b → b < k → f (at0 p a) (at0 p b) = false
noncomputable def Small (n : Nat) (p : Array Nat) : Prop := p.size = n ∧ ∀ k, at0 p k < n
theorem refl_f (H : Ord f) (i : Nat) : f i i = false := by
 cases h : f i i with
 | false => rfl
 | true => rw [← H.asym i i h, h]
theorem at_of {p q : Array Nat} {i j : Nat} (h : p[i]? = q[j]?) : at0 p i = at0 q j := by
 unfold at0; rw [Array.getD_eq_getD_getElem?, Array.getD_eq_getD_getElem?, h]
theorem mirror_at {i j : Nat} (hj : j ≤ p.size) (k : Nat) : at0 (kas_rev p i j) k = if i ≤ k ∧ k < j then at0 p (i + j - 1 - k) else at0 p k := by
 have e := getElem?_mirror_all (i := i) hj k
 split
 ·rename_i h; rw [if_pos h] at e; exact at_of e
 ·rename_i h; rw [if_neg h] at e; exact at_of e
theorem small_rev {i j : Nat} (hs : Small n p) (hj : j ≤ n) : Small n (kas_rev p i j) := by
 refine ⟨by unfold kas_rev; rw [mirror_size]; exact hs.1, fun k => ?_⟩
 rw [mirror_at (by rw [hs.1]; exact hj)]
 split <;> exact hs.2 _
theorem perm_rev (i j : Nat) : (kas_rev p i j).Perm p := mirror_perm _ _ _ _
theorem asc_kw (hs : Small n p) : ∀ (fu k : Nat), kw f n (kas_asc p fu k) fun k' => k ≤ k' ∧ k' ≤ k + fu ∧ (∀ a, k ≤ a → a < k' → f (at0 p a) (at0 p (a - 1)) = false) ∧ (k' < k + fu → f (at0 p k') (at0 p (k' - 1)) = true)
 | 0, k => ⟨Nat.le_refl _, Nat.le_refl _, fun a h1 h2 => absurd h2 (Nat.not_lt.mpr h1), fun h => absurd h (Nat.lt_irrefl _)⟩
 | fu + 1, k => by
  refine ⟨hs.2 _, hs.2 _, ?_⟩
  cases h : f (at0 p k) (at0 p (k - 1)) with
  | true =>
   dsimp only; rw [if_pos rfl]
   exact ⟨Nat.le_refl _, Nat.le_add_right _ _, fun a h1 h2 => absurd h2 (Nat.not_lt.mpr h1), fun _ => h⟩
  | false =>
   dsimp only; rw [if_neg (by decide)]
   refine kw_mono _ (asc_kw hs fu (k + 1)) fun k' z => ⟨Nat.le_of_succ_le z.1, Nat.le_trans z.2.1 (Nat.le_of_eq (Nat.succ_add k fu)), fun a ha hb => ?_, fun hl => z.2.2.2 (Nat.lt_of_lt_of_le hl (Nat.le_of_eq (Nat.succ_add k fu).symm))⟩
   by_cases q : a = k
   ·subst q; exact h
   ·exact z.2.2.1 a (Nat.lt_of_le_of_ne ha (Ne.symm q)) hb
theorem inc_more (H : Ord f) {k k' : Nat} (hk : 1 ≤ k) (h : Inc f p k) (hm : ∀ a, k ≤ a → a < k' → f (at0 p a) (at0 p (a - 1)) = false) : Inc f p k' := by
 intro a b
 induction b with
 | zero => intro hab hb; have : a = 0 := Nat.le_zero.mp hab
           subst this; exact refl_f H _
 | succ b ih =>
  intro hab hb
  by_cases hbk : b + 1 < k
  ·exact h a (b + 1) hab hbk
  ·by_cases q : a = b + 1
   ·subst q; exact refl_f H _
   ·exact H.trans _ _ _ (hm (b + 1) (Nat.le_of_not_lt hbk) hb) (ih (Nat.le_of_lt_succ (Nat.lt_of_le_of_ne hab q)) (Nat.lt_of_succ_lt hb))
theorem dec_more (H : Ord f) {k : Nat} (hk : 1 ≤ k) (h : Dec f p k) (hm : f (at0 p (k - 1)) (at0 p k) = false) : Dec f p (k + 1) := by
 intro a b hab hb
 by_cases hbk : b < k
 ·exact h a b hab hbk
 ·have : b = k := Nat.le_antisymm (Nat.le_of_lt_succ hb) (Nat.le_of_not_lt hbk)
  subst this
  by_cases q : a = b
  ·subst q; exact refl_f H _
  ·exact H.trans _ _ _ (h a (b - 1) (Nat.le_pred_of_lt (Nat.lt_of_le_of_ne hab q)) (Nat.sub_lt hk Nat.one_pos)) hm
theorem mir {s k a : Nat} (h1 : s ≤ a) (h2 : a < k) : s ≤ s + k - 1 - a ∧ s + k - 1 - a < k := by lia
noncomputable def Blk (f : Nat → Nat → Bool) (p : Array Nat) (k q : Nat) : Prop := q < k ∧ ∀ a b, k - (q + 1) ≤ a → a < k → k - (q + 1) ≤ b → b < k → f (at0 p a) (at0 p b) = false
theorem dec_rev {k q : Nat} (hk : k ≤ p.size) (h : Dec f p k) (hb : Blk f p k q) : Dec f (kas_rev p (k - (q + 1)) k) k := by
 intro a b hab hbk
 rw [mirror_at hk, mirror_at hk]
 split <;> split
 ·next z y => exact hb.2 _ _ (mir z.1 z.2).1 (mir z.1 z.2).2 (mir y.1 y.2).1 (mir y.1 y.2).2
 ·next z y => exact absurd ⟨Nat.le_trans z.1 hab, hbk⟩ y
 ·next z y => exact h _ _ (Nat.le_trans (Nat.le_of_lt (Nat.lt_of_not_le fun w => z ⟨w, Nat.lt_of_le_of_lt hab hbk⟩)) (mir y.1 y.2).1) (mir y.1 y.2).2
 ·exact h _ _ hab hbk
theorem blk_one (H : Ord f) {k : Nat} : Blk f p (k + 1) 0 := ⟨Nat.succ_pos _, fun a b h1 h2 h3 h4 => by
 have : a = b := Nat.le_antisymm (Nat.le_trans (Nat.le_of_lt_succ h2) h3) (Nat.le_trans (Nat.le_of_lt_succ h4) h1)
 subst this; exact refl_f H _⟩
structure DSt (f : Nat → Nat → Bool) (n : Nat) (p₀ p : Array Nat) (k q : Nat) : Prop where
 small : Small n p
 perm : p.Perm p₀
 dec : Dec f p k
 blk : Blk f p k q
 kn : k ≤ n
theorem desc_kw (H : Ord f) {p₀ : Array Nat} : ∀ (fu : Nat) (p : Array Nat) (k q : Nat), k + fu ≤ n → 1 ≤ k → DSt f n p₀ p k q → kw f n (kas_desc fu p k q) fun r => DSt f n p₀ r.1 r.2.1 r.2.2 ∧ 1 ≤ r.2.1
 | 0, p, k, q, _, hk, D => ⟨D, hk⟩
 | fu + 1, p, k, q, hn, hk, D => by
  refine ⟨D.small.2 _, D.small.2 _, ?_⟩
  have hn1 : k + 1 + fu ≤ n := Nat.le_trans (Nat.le_of_eq (Nat.succ_add k fu)) hn
  have hkn : k + 1 ≤ n := Nat.le_trans (Nat.le_add_right _ _) hn1
  have one : ∀ p' : Array Nat, Small n p' → p'.Perm p₀ → Dec f p' k → f (at0 p' (k - 1)) (at0 p' k) = false → DSt f n p₀ p' (k + 1) 0 := fun p' s1 s2 s3 s4 => ⟨s1, s2, dec_more H hk s3 s4, blk_one H, hkn⟩
  have hps : k ≤ p.size := by rw [D.small.1]; exact D.kn
  have P : k - (q + 1) ≤ k - 1 ∧ k - 1 < k := ⟨Nat.sub_le_sub_left (Nat.succ_le_succ (Nat.zero_le q)) k, Nat.sub_lt hk Nat.one_pos⟩
  cases h : f (at0 p k) (at0 p (k - 1)) with
  | true =>
   dsimp only; rw [if_pos rfl]
   split
   ·refine desc_kw H fu _ (k + 1) 0 hn1 (Nat.succ_pos k) (one _ (small_rev D.small D.kn) ((perm_rev _ _).trans D.perm) (dec_rev hps D.dec D.blk) ?_)
    rw [mirror_at hps, mirror_at hps, if_pos P, if_neg (show ¬ (k - (q + 1) ≤ k ∧ k < k) from fun z => Nat.lt_irrefl _ z.2)]
    exact H.trans _ _ _ (D.blk.2 (k - (q + 1) + k - 1 - (k - 1)) (k - 1) (mir P.1 P.2).1 (mir P.1 P.2).2 P.1 P.2) (H.asym _ _ h)
   ·exact desc_kw H fu _ (k + 1) 0 hn1 (Nat.succ_pos k) (one _ D.small D.perm D.dec (H.asym _ _ h))
  | false =>
   dsimp only; rw [if_neg (by decide)]
   refine ⟨D.small.2 _, D.small.2 _, ?_⟩
   cases h2 : f (at0 p (k - 1)) (at0 p k) with
   | true => dsimp only; rw [if_pos rfl]; exact ⟨D, hk⟩
   | false =>
    dsimp only; rw [if_neg (by decide)]
    have sh : ∀ {c : Nat}, k + 1 - (q + 1 + 1) ≤ c → k - (q + 1) ≤ c := fun z => Nat.le_trans (Nat.le_of_eq (Nat.add_sub_add_right k 1 (q + 1)).symm) z
    have lt : ∀ {c : Nat}, c < k + 1 → ¬ c = k → c < k := fun z q => Nat.lt_of_le_of_ne (Nat.le_of_lt_succ z) q
    refine desc_kw H fu p (k + 1) (q + 1) hn1 (Nat.succ_pos k) ⟨D.small, D.perm, dec_more H hk D.dec h2, ⟨Nat.succ_lt_succ D.blk.1, fun a b h1 h3 h4 h5 => ?_⟩, hkn⟩
    have E : ∀ c, k + 1 - (q + 1 + 1) ≤ c → c < k → f (at0 p c) (at0 p (k - 1)) = false ∧ f (at0 p (k - 1)) (at0 p c) = false := fun c hc hc' =>
     ⟨D.blk.2 _ _ (sh hc) hc' P.1 P.2, D.blk.2 _ _ P.1 P.2 (sh hc) hc'⟩
    by_cases qa : a = k <;> by_cases qb : b = k
    ·rw [qa, qb]; exact refl_f H _
    ·rw [qa]; exact H.trans _ _ _ h (E b h4 (lt h5 qb)).2
    ·rw [qb]; exact H.trans _ _ _ (E a h1 (lt h3 qa)).1 h2
    ·exact D.blk.2 a b (sh h1) (lt h3 qa) (sh h4) (lt h5 qb)
structure ISt (f : Nat → Nat → Bool) (n : Nat) (p₀ p : Array Nat) (k : Nat) : Prop where
 small : Small n p
 perm : p.Perm p₀
 inc : Inc f p k
 kn : k ≤ n
 k1 : 1 ≤ k
theorem tail3_kw (H : Ord f) {p₀ : Array Nat} {k : Nat} (s : Small n p) (hp : p.Perm p₀) (d : Dec f p k) (hk : k ≤ n) (h1 : 1 ≤ k) : kw f n (kas_tail3 k n p) fun r => ISt f n p₀ r.2 r.1 := by
 unfold kas_tail3
 have s' := small_rev (i := 0) s hk
 refine kw_bind _ (kw_mono _ (asc_kw s' (n - k) k) fun k' z => ⟨s', (perm_rev _ _).trans hp, inc_more H h1 ?_ z.2.2.1, Nat.le_trans z.2.1 (Nat.le_of_eq (Nat.add_sub_cancel' hk)), Nat.le_trans h1 z.1⟩)
 intro a b hab hb
 have za : 0 ≤ a ∧ a < k := ⟨Nat.zero_le _, Nat.lt_of_le_of_lt hab hb⟩
 rw [mirror_at (by rw [s.1]; exact hk), mirror_at (by rw [s.1]; exact hk), if_pos za, if_pos (show 0 ≤ b ∧ b < k from ⟨Nat.zero_le _, hb⟩)]
 exact d _ _ (Nat.sub_le_sub_left hab _) (mir za.1 za.2).2
theorem descPart_kw (H : Ord f) {p₀ : Array Nat} {k : Nat} (D : DSt f n p₀ p (k + 1) 0) (hk : k + 1 ≤ n) : kw f n (kas_descPart k n p) fun r => ISt f n p₀ r.2 r.1 := by
 unfold kas_descPart
 refine kw_bind _ (kw_mono _ (desc_kw H (n - (k + 1)) p (k + 1) 0 (Nat.le_of_eq (Nat.add_sub_cancel' hk)) (Nat.succ_pos k) D) fun r z => ?_)
 refine A2 z fun D' h1 => ?_
 split
 ·have hr : r.2.1 ≤ r.1.size := by rw [D'.small.1]; exact D'.kn
  exact tail3_kw H (small_rev D'.small D'.kn) ((perm_rev _ _).trans D'.perm) (dec_rev hr D'.dec D'.blk) D'.kn h1
 ·exact tail3_kw H D'.small D'.perm D'.dec D'.kn h1
theorem count_kw (H : Ord f) (s : Small n p) (h2 : 2 ≤ n) : kw f n (kas_count n p) fun r => ISt f n p r.2 r.1 := by
 unfold kas_count
 have i1 : Inc f p 1 := fun a b hab hb => by
  have : a = b := Nat.le_antisymm hab (Nat.le_trans (Nat.le_of_lt_succ hb) (Nat.zero_le a))
  subst this; exact refl_f H _
 have hn1 : 1 + (n - 1) = n := Nat.add_sub_cancel' (Nat.le_of_succ_le h2)
 refine kw_bind _ (kw_mono _ (asc_kw s (n - 1) 1) fun k z => ?_)
 rw [hn1] at z
 refine A4 z fun h3 h4 h5 h6 => ?_
 clear z
 have hi : Inc f p k := inc_more H (Nat.le_refl _) i1 h5
 split
 ·exact ⟨s, Array.Perm.refl _, hi, h4, h3⟩
 ·next hkn =>
  have hkn : k < n := Nat.lt_of_le_of_ne h4 fun e => hkn (by rw [e, beq_self_eq_true])
  have hlt := h6 hkn
  have P : k - 1 < k := Nat.sub_lt h3 Nat.one_pos
  split
  ·refine ⟨s.2 _, s.2 _, ?_⟩
   cases h : f (at0 p 0) (at0 p (k - 1)) with
   | true => dsimp only; rw [if_pos rfl]; exact ⟨s, Array.Perm.refl _, hi, Nat.le_of_lt hkn, h3⟩
   | false =>
    dsimp only; rw [if_neg (by decide)]
    have all : ∀ a b, a < k → b < k → f (at0 p a) (at0 p b) = false := fun a b ha hb => H.trans _ _ _ (hi 0 a (Nat.zero_le _) ha) (H.trans _ _ _ h (hi b (k - 1) (Nat.le_pred_of_lt hb) P))
    have sz : k ≤ p.size := by rw [s.1]; exact Nat.le_of_lt hkn
    refine descPart_kw H ⟨small_rev s (Nat.le_of_lt hkn), perm_rev _ _, dec_more H h3 (fun a b hab hb => ?_) ?_, blk_one H, hkn⟩ hkn
    ·have za : 0 ≤ a ∧ a < k := ⟨Nat.zero_le _, Nat.lt_of_le_of_lt hab hb⟩
     rw [mirror_at sz, mirror_at sz, if_pos za, if_pos (show 0 ≤ b ∧ b < k from ⟨Nat.zero_le _, hb⟩)]; exact all _ _ (mir za.1 za.2).2 (mir (Nat.zero_le b) hb).2
    ·rw [mirror_at sz, mirror_at sz, if_pos (show 0 ≤ k - 1 ∧ k - 1 < k from ⟨Nat.zero_le _, P⟩), if_neg (show ¬ (0 ≤ k ∧ k < k) from fun z => Nat.lt_irrefl _ z.2)]
     exact H.trans _ _ _ (all (0 + k - 1 - (k - 1)) (k - 1) (mir (Nat.zero_le _) P).2 P) (H.asym _ _ hlt)
  ·have : k = 1 := by lia
   subst this
   refine descPart_kw H ⟨s, Array.Perm.refl _, dec_more H (Nat.le_refl _) (fun a b hab hb => ?_) (H.asym _ _ hlt), blk_one H, hkn⟩ hkn
   have : a = b := Nat.le_antisymm hab (Nat.le_trans (Nat.le_of_lt_succ hb) (Nat.zero_le a))
   subst this; exact refl_f H _
theorem place_kw (H : Ord f) {k : Nat} (s : Small n p) (hi : Inc f p k) : ∀ (fu l r : Nat), l ≤ r → r ≤ k → r - l ≤ fu → (∀ a, a < l → f (at0 p k) (at0 p a) = false) → (∀ a, r ≤ a → a < k → f (at0 p k) (at0 p a) = true) →
 kw f n (kas_place p k fu l r) fun l' => l' ≤ k ∧ (∀ a, a < l' → f (at0 p k) (at0 p a) = false) ∧ ∀ a, l' ≤ a → a < k → f (at0 p k) (at0 p a) = true
 | 0, l, r, h1, h2, h3, h4, h5 => ⟨Nat.le_trans h1 h2, h4, fun a ha hb => h5 a (Nat.le_trans (Nat.le_of_sub_eq_zero (Nat.le_zero.mp h3)) ha) hb⟩
 | fu + 1, l, r, h1, h2, h3, h4, h5 => by
  unfold kas_place
  split
  ·next g => exact ⟨Nat.le_trans h1 h2, h4, fun a ha hb => h5 a (Nat.le_trans g ha) hb⟩
  ·next g =>
   have lt : l < r := Nat.lt_of_not_le g
   have m1 : l ≤ (l + r) / 2 := by lia
   have m2 : (l + r) / 2 < r := by lia
   refine ⟨s.2 _, s.2 _, ?_⟩
   cases h : f (at0 p k) (at0 p ((l + r) / 2)) with
   | true =>
    dsimp only; rw [if_pos rfl]
    refine place_kw H s hi fu l _ m1 (Nat.le_trans (Nat.le_of_lt m2) h2) (Nat.le_of_lt_succ (Nat.lt_of_lt_of_le (Nat.sub_lt_sub_right m1 m2) h3)) h4 fun a ha hb => ?_
    cases q : f (at0 p k) (at0 p a) with
    | true => rfl
    | false => rw [← h, H.trans _ _ _ q (hi ((l + r) / 2) a ha hb)]
   | false =>
    dsimp only; rw [if_neg (by decide)]
    exact place_kw H s hi fu _ r m2 h2 (Nat.le_of_lt_succ (Nat.lt_of_lt_of_le (Nat.sub_lt_sub_left lt (Nat.lt_succ_of_le m1)) h3)) (fun a ha => H.trans _ _ _ h (hi a ((l + r) / 2) (Nat.le_of_lt_succ ha) (Nat.lt_of_lt_of_le m2 h2))) h5
theorem bubble_at {k d : Nat} (hk : k < p.size) (hd : d ≤ k) (j : Nat) : at0 (bubble p k d) j = if j = k - d then at0 p k else if k - d < j ∧ j ≤ k then at0 p (j - 1) else at0 p j := by
 have e := getElem?_bubble hk d hd j
 by_cases h : j = k - d
 ·rw [if_pos h] at e ⊢; exact at_of e
 ·rw [if_neg h] at e ⊢
  by_cases h : k - d < j ∧ j ≤ k
  ·rw [if_pos h] at e ⊢; exact at_of e
  ·rw [if_neg h] at e ⊢; exact at_of e
theorem bin_kw (H : Ord f) {p₀ : Array Nat} : ∀ (fu : Nat) (p : Array Nat) (k : Nat), k + fu = n → ISt f n p₀ p k → kw f n (kas_bin fu p k) fun p' => p'.Perm p₀ ∧ Inc f p' n
 | 0, p, k, hk, I => ⟨I.perm, hk ▸ I.inc⟩
 | fu + 1, p, k, hk, I => by
  unfold kas_bin
  refine kw_bind _ (kw_mono _ (place_kw H I.small I.inc k 0 k (Nat.zero_le _) (Nat.le_refl _) (Nat.le_refl _) (fun a ha => absurd ha (Nat.not_lt_zero _)) (fun a h1 h2 => absurd h2 (Nat.not_lt.mpr h1))) fun l z => ?_)
  refine A3 z fun h1 h2 h3 => ?_
  clear z
  have hk1 : k + 1 + fu = n := (Nat.succ_add k fu).trans hk
  have hkn : k + 1 ≤ n := Nat.le_trans (Nat.le_add_right _ _) (Nat.le_of_eq hk1)
  have hks : k < p.size := by rw [I.small.1]; exact hkn
  have pb : ∀ {c : Nat}, l < c → c ≤ k → c - 1 < k := fun p q => Nat.lt_of_lt_of_le (Nat.sub_lt (Nat.lt_of_le_of_lt (Nat.zero_le _) p) Nat.one_pos) q
  refine bin_kw H fu _ (k + 1) hk1 ⟨⟨by rw [bubble_size]; exact I.small.1, fun j => ?_⟩, (bubble_perm _ _ _).trans I.perm, fun a b hab hb => ?_, hkn, Nat.succ_pos k⟩
  ·rw [bubble_at hks (Nat.sub_le k l)]
   by_cases q : j = k - (k - l)
   ·rw [if_pos q]; exact I.small.2 _
   ·rw [if_neg q]
    by_cases q : k - (k - l) < j ∧ j ≤ k
    ·rw [if_pos q]; exact I.small.2 _
    ·rw [if_neg q]; exact I.small.2 _
  ·rw [bubble_at hks (Nat.sub_le k l), bubble_at hks (Nat.sub_le k l)]
   rw [Nat.sub_sub_self h1]
   by_cases a1 : a = l <;> by_cases b1 : b = l
   ·rw [if_pos a1, if_pos b1]; exact refl_f H _
   ·have g : l < b ∧ b ≤ k := ⟨Nat.lt_of_le_of_ne (a1 ▸ hab) (Ne.symm b1), Nat.le_of_lt_succ hb⟩
    rw [if_pos a1, if_neg b1, if_pos g]
    exact H.asym _ _ (h3 (b - 1) (Nat.le_pred_of_lt g.1) (pb g.1 g.2))
   ·rw [if_neg a1, if_pos b1, if_neg (show ¬ (l < a ∧ a ≤ k) from fun z => Nat.lt_irrefl _ (Nat.lt_of_lt_of_le z.1 (b1 ▸ hab)))]
    exact h2 a (Nat.lt_of_le_of_ne (b1 ▸ hab) a1)
   ·rw [if_neg a1, if_neg b1]
    by_cases qb : l < b ∧ b ≤ k <;> by_cases qa : l < a ∧ a ≤ k
    ·rw [if_pos qb, if_pos qa]; exact I.inc _ _ (Nat.sub_le_sub_right hab 1) (pb qb.1 qb.2)
    ·rw [if_pos qb, if_neg qa]; exact I.inc _ _ (Nat.le_pred_of_lt (Nat.lt_of_le_of_lt (Nat.le_of_not_lt fun z => qa ⟨z, Nat.le_trans hab qb.2⟩) qb.1)) (pb qb.1 qb.2)
    ·exact absurd ⟨Nat.lt_of_lt_of_le qa.1 hab, Nat.le_of_lt_succ hb⟩ qb
    ·rw [if_neg qb, if_neg qa]; exact I.inc _ _ hab (Nat.lt_of_lt_of_le (Nat.lt_of_le_of_ne (Nat.le_of_not_lt fun z => qb ⟨z, Nat.le_of_lt_succ hb⟩) b1) h1)
theorem sort_kw (H : Ord f) (h2 : 2 ≤ n) : kw f n (kas_sort n) fun p' => p'.Perm (List.range n).toArray ∧ Inc f p' n := by
 unfold kas_sort
 have s : Small n (List.range n).toArray := ⟨by simp, fun k => by
  unfold at0
  rw [Array.getD_eq_getD_getElem?, List.getElem?_toArray]
  by_cases h : k < n
  ·simp [h]
  ·rw [List.getElem?_eq_none_iff.mpr (by simp; lia)]; simp; lia⟩
 refine kw_bind _ (kw_mono _ (count_kw H s h2) fun r I => ?_)
 split
 ·have := I.k1
  exact bin_kw H _ _ _ (by lia) (by rw [Nat.max_eq_left I.k1]; exact I)
 ·have : r.1 = n := by have := I.kn; lia
  exact ⟨I.perm, this ▸ I.inc⟩
end
end J
namespace J
noncomputable def lexLt : List Int → List Int → Bool
 | [], [] => false
 | [], _ :: _ => true
 | _ :: _, [] => false
 | a :: l, b :: l' => if a == b then lexLt l l' else decide (a < b)
theorem lex_asym : ∀ l l' : List Int, lexLt l l' = true → lexLt l' l = false
 | [], [], _ => rfl
 | [], _ :: _, _ => rfl
 | _ :: _, [], h => by simp [lexLt] at h
 | a :: l, b :: l', h => by
  unfold lexLt at h ⊢
  by_cases q : a = b
  ·subst q; rw [if_pos (beq_self_eq_true _)] at h ⊢; exact lex_asym l l' h
  ·rw [if_neg (by simpa using q)] at h; rw [if_neg (by simpa using Ne.symm q)]
   simp only [decide_eq_true_eq, decide_eq_false_iff_not] at h ⊢; lia
theorem lex_trans : ∀ i j k : List Int, lexLt k j = false → lexLt j i = false → lexLt k i = false
 | [], [], _, h, _ => h
 | [], _ :: _, [], h, h2 => by simp [lexLt] at h
 | [], _ :: _, _ :: _, _, _ => rfl
 | _ :: _, [], _, _, h2 => by simp [lexLt] at h2
 | _ :: _, _ :: _, [], h, _ => by simp [lexLt] at h
 | a :: i, b :: j, c :: k, h, h2 => by
  unfold lexLt at h h2 ⊢
  by_cases q : c = b <;> by_cases q2 : b = a
  ·subst q q2; rw [if_pos (beq_self_eq_true _)] at h h2 ⊢; exact lex_trans i j k h h2
  ·subst q; rw [if_neg (by simpa using q2)] at h2 ⊢; exact h2
  ·subst q2; rw [if_neg (by simpa using q)] at h ⊢; exact h
  ·rw [if_neg (by simpa using q)] at h; rw [if_neg (by simpa using q2)] at h2
   simp only [decide_eq_false_iff_not] at h h2
   rw [if_neg (by simp; lia)]; simp only [decide_eq_false_iff_not]; lia
theorem lex_ord (L : List (List Int)) : Ord (fun i j => lexLt (L.getD i []) (L.getD j [])) := ⟨fun _ _ h => lex_asym _ _ h, fun _ _ _ h h2 => lex_trans _ _ _ h h2⟩
noncomputable def Asc (L : List (List Int)) : Prop := L.Pairwise fun x y => lexLt y x = false
noncomputable abbrev rowI (l : List Int) : AV := .tup (l.map .int)
section
variable {prog : Program} {w : World} {A : Around} {E : Value → Shared → Prop} {s : Shared} {vs : List Value}
theorem sorted_short {l : Addr} {Q : Value → Shared → Prop} (hl : s.heap.IsList l vs.toArray) (h2 : vs.length < 2) (h : Q (.ref (s.heap.objs.size + 1)) { s with heap := sortedAll s.heap vs vs.toArray }) :
 wpAny (model prog w) A (call (.builtin "sorted") [.ref l]) Q E s := by
 refine Calls.call_function_entry kind_sorted plain_sorted entry_sorted (args_sorted1 _) ?_
 unfold Builtin.«sorted»
 refine wpAny_bind (m := checkCount "sorted" 1 1 _) (wpAny_pure ?_)
 refine wpAny_bind (collect_list hl ?_ (by rw [sizeLine_eq]; lia))
 refine wpAny_bind (wpAny_newList ?_ (by rw [sizeLine_eq]; lia))
 have hsz : ((s.heap.push (seqObj "list" #[] 0)).update s.heap.objs.size (Obj.mapSeq (· ++ vs.toArray))).objs.size = s.heap.objs.size + 1 := by
  rw [Heap.size_update, size_push']
 have hoL : (((s.heap.push (seqObj "list" #[] 0)).update s.heap.objs.size (Obj.mapSeq (· ++ vs.toArray))).push (seqObj "list" vs.toArray 0)).get? (s.heap.objs.size + 1) = some (seqObj "list" vs.toArray 0) := by
  rw [← hsz]; exact Heap.get?_push_size _ rfl
 show wpAny _ _ _ _ _ { s with heap := ((s.heap.push (seqObj "list" #[] 0)).update s.heap.objs.size (Obj.mapSeq (· ++ vs.toArray))).push (seqObj "list" vs.toArray 0) }
 rw [hsz]
 refine wpAny_bind (wpAny_holding (wpAny_call_entry slot_list_sort ⟨_, hoL, rfl⟩ entry_list_sort ?body (args_list_sort _)))
 case body =>
  rw [list_sort_plain]
  have ha := Heap.lt_size hoL
  refine wpAny_bind (listItems_at hoL rfl ?_)
  refine wpAny_bind (listUpdate_at hoL rfl ?_)
  generalize hH : ((s.heap.push (seqObj "list" #[] 0)).update s.heap.objs.size (Obj.mapSeq (· ++ vs.toArray))).push (seqObj "list" vs.toArray 0) = H at *
  obtain ⟨e1, ho1⟩ : ∃ e1, (H.update (s.heap.objs.size + 1) (Obj.mapSeq fun _ => #[])).get? (s.heap.objs.size + 1) = some (seqObj "list" #[] e1) := ⟨_, get?_update_seq hoL (fun _ => #[])⟩
  refine wpAny_bind (seqEpoch_at ho1 rfl ?_)
  refine wpAny_bind (wpAny_newTuple ?_ (by rw [sizeLine_eq]; simp; lia))
  refine wpAny_bind (wpAny_newList ?_ (by rw [sizeLine_eq]; simp))
  refine wpAny_holding ?_
  have ho6 : (((H.update (s.heap.objs.size + 1) (Obj.mapSeq fun _ => #[])).push (seqObj "tuple" vs.toArray 0)).push (seqObj "list" #[] 0)).get? (s.heap.objs.size + 1) = some (seqObj "list" #[] e1) := by
   rw [Heap.get?_push_ne _ _ _ (by rw [size_push', Heap.size_update]; exact Nat.ne_of_lt (Nat.lt_succ_of_lt ha)), Heap.get?_push_ne _ _ _ (by rw [Heap.size_update]; exact Nat.ne_of_lt ha)]
   exact ho1
  show wpAny (model prog w) _ _ _ _ { s with heap := ((H.update (s.heap.objs.size + 1) (Obj.mapSeq fun _ => #[])).push (seqObj "tuple" vs.toArray 0)).push (seqObj "list" #[] 0) }
  dsimp only
  have h2' : vs.toArray.size < 2 := by simpa using h2
  rw [if_pos h2', if_pos h2']
  refine wpAny_bind (wpAny_pure ?_)
  rw [StateT.run_pure]
  refine wpAny_bind (wpAny_pure ?_)
  dsimp only
  refine wpAny_bind (seqEpoch_at ho6 rfl ?_)
  have hz : (Array.map (fun x : Keyed => x.2) (arrOf (SortSt.mk' general' (vs.toArray.zip vs.toArray) #[] 7 none))) = vs.toArray := by
   show Array.map (fun x : Keyed => x.2) (vs.toArray.zip vs.toArray) = _
   simp [List.map_snd_zip]
  rw [hz]
  refine wpAny_bind (listUpdate_at ho6 rfl ?_ (hsz2 := by rw [sizeLine_eq]; simp; lia))
  simp only [bne_self_eq_false, Bool.false_eq_true, if_false]
  refine wpAny_pure ⟨_, rfl, wpAny_pure ⟨_, rfl, ?_⟩⟩
  rw [← hH]
  exact h
theorem one_int {b : Bool} {x y : Int} {t u : Tok} {Q : Bool → Shared → Prop} (h : Q (decide (x < y)) s) : wpAny (model prog w) A (oneLt' b (.int x t) (.int y u)) Q (fun _ _ => False) s := by
 cases b with
 | true => exact oneLt_int h
 | false => exact kat_one _ _ (wpAny_lt_int h)
theorem katlex_ints {b : Bool} {Q : Bool → Shared → Prop} {fin : Bool} (vs ws : List Value) (xs ys : List Int) (i : Nat) (r : IntsAre vs xs) (r2 : IntsAre ws ys) (hf : fin = lexLt (xs.drop (min xs.length ys.length)) (ys.drop (min xs.length ys.length))) (h : Q (lexLt xs ys) s) : KatLex prog w A b fin Q (vs.zip ws) i s := by
 induction r generalizing ws ys i with
 | nil => cases r2 <;> exact kat_nil (by rw [hf]; exact h)
 | @cons x t vs xs r ih =>
  cases r2 with
  | nil => exact kat_nil (by rw [hf]; exact h)
  | @cons y u ws ys r2 =>
   refine kat_cons (wpAny_eqBool_int ?_)
   unfold lexLt at h
   by_cases q : x = y
   ·rw [if_pos (by simpa using q)] at h
    rw [show (x == y) = true by simpa using q]
    refine kat_yes (ih _ ys (i + 1) r2 ?_ h)
    rw [hf]; simp only [List.length_cons, Nat.add_min_add_right, List.drop_succ_cons]
   ·rw [if_neg (by simpa using q)] at h
    rw [show (x == y) = false by simpa using q]
    exact kat_no (one_int h)
end
section
variable {X : Cx} {P : PL} {A : Around} {env : Env} {st : AS} {m : AM} {s : Shared}
theorem row_get {D : Addr → Prop} {h : Heap} {v : Value} {l : List Int} (r : VR D h v (rowI l)) : ∃ a o vs n, v = .ref a ∧ h.get? a = some o ∧ o.cls = .type "tuple" ∧ o.data = .seq vs.toArray n ∧ IntsAre vs l := by
 unfold rowI at r
 generalize hx : l.map AV.int = xs at r
 cases r using VR.tupE with | tup nd t r =>
 subst hx
 obtain ⟨o, e, h1, n, h2⟩ := t
 exact ⟨_, o, _, n, rfl, e, h1, h2, ints_of r⟩
theorem kat_tups {D : Addr → Prop} {h : Heap} {vs : List Value} {L : List (List Int)} (r : VRs D h vs (L.map rowI)) (hn : ∀ l ∈ L, l ≠ []) : ∃ fs, KatTups h vs fs ∧ fs.length = L.length ∧ ∀ f ∈ fs, ∃ i t, f = .int i t := by
 induction L generalizing vs with
 | nil => cases r using VRs.nilE; exact ⟨[], .nil, rfl, fun _ h => J.mn h⟩
 | cons l L ih =>
  cases r using VRs.consE with | cons x r =>
  refine E1A3 (ih r fun l hl => hn l (.tail _ hl)) fun fs h1 h2 h3 => ?_
  refine E4A2 (row_get x) fun a o vs n hn1 hn2 => ?_; obtain rfl := hn1; refine A4 hn2 fun e g1 g2 g3 => ?_; clear hn2
  cases g3 with
  | nil => exact absurd rfl (hn _ (.head _))
  | cons i t g3 => exact ⟨.int i t :: fs, .cons e g1 g2 (by simp) h1, by simp [h2], fun f hf => by
   rcases List.mem_cons.mp hf with rfl | hf
   ·exact ⟨_, _, rfl⟩
   ·exact h3 f hf⟩
theorem lexLt_len : ∀ (xs ys : List Int), lexLt (xs.drop (min xs.length ys.length)) (ys.drop (min xs.length ys.length)) = decide (xs.length < ys.length)
 | [], [] => rfl
 | [], _ :: _ => by simp [lexLt]
 | _ :: _, [] => by simp [lexLt]
 | x :: xs, y :: ys => by simp only [List.length_cons, Nat.add_min_add_right, List.drop_succ_cons, lexLt_len xs ys]; simp
theorem b_sorted {a : AV} {L : List (List Int)} (hL : IsL st a (L.map rowI)) (hn : ∀ l ∈ L, l ≠ []) (h64 : L.length < 64) : Blt X P A env st m (.builtin "sorted") [a] (fun b st' m' => st' = st ∧ m' = m ∧ ∃ L', b = .lst (L'.map rowI) ∧ L'.Perm L ∧ Asc L') := fun s vals f r => by
 cases r using VRs.consE with | cons r rs => (first | cases rs using VR.intE | cases rs using VR.noneE | cases rs using VR.boolE | cases rs using VR.refE | cases rs using VRs.nilE | cases rs)
                                             refine E3A2 (hL.get f r) fun l vs n hn3 hn4 => ?_; obtain rfl := hn3; refine A2 hn4 fun e rs => ?_; clear hn4
                                             have hlen : vs.length = L.length := by rw [rs.length, List.length_map]
                                             by_cases h2 : vs.length < 2
                                             ·refine sorted_short (list_is e) h2 ?_
                                              have k : ∀ b o, s.heap.get? b = some o → (sortedAll s.heap vs vs.toArray).get? b = some o := fun b o e => sortedAll_old e
                                              refine E1 (sortedAll_at s.heap vs vs.toArray) fun c ea => ?_
                                              refine ⟨.lst (L.map rowI), st, m, .lst (fun d => ?_) ⟨c, ea⟩ (rs.keeps k), f.keeps (d := s.drawn) (tk := s.toks) k, Step.of_keeps k, Gr.refl _ _, rfl, rfl, L, rfl, List.Perm.refl _, ?_⟩
                                              ·refine E1 (f.din d) fun o q => ?_
                                               exact absurd (Heap.lt_size q) (Nat.not_lt.mpr (Nat.le_succ _))
                                              ·match L, hlen, h2 with
                                               | [], _, _ => exact List.Pairwise.nil
                                               | [x], _, _ => exact List.pairwise_singleton _ _
                                               | _ :: _ :: _, hlen, h2 => simp at hlen; lia
                                             ·have h2 : 2 ≤ vs.length := by lia
                                              refine E1A2 (f.fr) fun mv F N => ?_
                                              refine kat_sorted F N (list_is e) h2 (by lia) fun D e1 h' F' N' hq => ?_
                                              refine A2 (f.back (tk := s.toks) F F' N' fun p hp => .tail _ hp) fun f' S' => ?_
                                              have rs' : VRs (DD X st P (ownOf env)) h' vs (L.map rowI) := rs.step S' (Gr.refl _ _)
                                              refine E1A3 (kat_tups rs' hn) fun fs g1 g2 g3 => ?_
                                              refine kat_kind (s := { s with heap := h' }) g1 (by lia) (T := .type "int") (fun v hv => ?_) (by decide) ?_
                                              ·refine E2 (g3 v hv) fun i t hn5 => ?_; obtain rfl := hn5; exact Looks.of_pure rfl
                                              refine kw_wp (s := { s with heap := h' }) (f := fun i j => lexLt (L.getD i []) (L.getD j [])) (n := vs.length) (fun i j C hi hj hC => ?_) _ (kw_mono _ (sort_kw (lex_ord L) h2) fun p ⟨hp, hinc⟩ => ?_)
                                              ·have get : ∀ i, i < vs.length → ∃ a o us k, vs.getD i Value.none = .ref a ∧ h'.get? a = some o ∧ o.cls = .type "tuple" ∧ o.data = .seq us.toArray k ∧ IntsAre us (L.getD i []) := fun i hi => by
                                                have q1 : (L.map rowI)[i]? = some (rowI (L.getD i [])) := by
                                                 rw [List.getElem?_map, List.getElem?_eq_getElem (by lia), List.getD_eq_getElem?_getD, List.getElem?_eq_getElem (by lia)]; rfl
                                                refine E1A2 (rs'.get i _ q1) fun v e1 r1 => ?_
                                                refine E4A2 (row_get r1) fun a o us k hn6 hn7 => ?_; obtain rfl := hn6; refine A4 hn7 fun x1 x2 x3 x4 => ?_; clear hn7
                                                exact ⟨a, o, us, k, by rw [List.getD_eq_getElem?_getD, e1]; rfl, x1, x2, x3, x4⟩
                                               refine E4A5 (get i hi) fun a o us k q1 q2 q3 q4 q5 => ?_
                                               refine E4A5 (get j hj) fun a' o' us' k' p1 p2 p3 p4 p5 => ?_
                                               unfold kas_ask
                                               rw [q1, p1]
                                               refine kat_lt (s := { s with heap := h' }) q2 q4 p2 p4 ?_
                                               refine katlex_ints us us' _ _ 0 q5 p5 ?_ hC
                                               rw [lexLt_len, List.size_toArray, List.size_toArray, q5.length, p5.length]
                                              ·refine KasFin.intro F' N' (.head fun q hq' => Nat.ne_of_lt (hq q hq')) fun h'' c F'' N'' => ?_
                                               refine A2 (f.back (tk := s.toks) F F'' N'' fun p hp => .tail _ hp) fun f₂ S₂ => ?_
                                               have rs₂ : VRs (DD X st P (ownOf env)) h'' vs (L.map rowI) := rs.step S₂ (Gr.refl _ _)
                                               have eD := N'' (D, _) (.head _)
                                               have hD : ¬ DD X st P (ownOf env) D := f.dno (by
                                                cases q : s.heap.get? D with
                                                | none => rfl
                                                | some o => exact absurd (hq (D, o) (mem_allBut.mpr ⟨eD.2.1, q⟩)) (Nat.lt_irrefl _))
                                               have hpl : p.toList.Perm (List.range vs.length) := by simpa using Array.perm_iff_toList_perm.mp hp
                                               refine ⟨.lst ((p.toList.map fun i => L.getD i []).map rowI), st, m, .lst (vs := p.toList.map fun i => vs.getD i Value.none) hD ⟨c, eD.1⟩ ?_, f₂, S₂, Gr.refl _ _, rfl, rfl, _, rfl, ?_, ?_⟩
                                               ·have : ∀ q : List Nat, (∀ i ∈ q, i < vs.length) → VRs (DD X st P (ownOf env)) h'' (q.map fun i => vs.getD i Value.none) ((q.map fun i => L.getD i []).map rowI) := by
                                                 intro q
                                                 induction q with
                                                 | nil => intro _; exact .nil
                                                 | cons i q ih =>
                                                  intro hi
                                                  have hi' := hi i (.head _)
                                                  have q1 : (L.map rowI)[i]? = some (rowI (L.getD i [])) := by
                                                   rw [List.getElem?_map, List.getElem?_eq_getElem (by lia), List.getD_eq_getElem?_getD, List.getElem?_eq_getElem (by lia)]; rfl
                                                  refine E1A2 (rs₂.get i _ q1) fun v e1 r1 => ?_
                                                  refine .cons ?_ (ih fun j hj => hi j (.tail _ hj))
                                                  dsimp only
                                                  rw [List.getD_eq_getElem?_getD, e1]; exact r1
                                                exact this p.toList fun i hi => List.mem_range.mp (hpl.mem_iff.mp hi)
                                               ·refine (hpl.map fun i => L.getD i []).trans ?_
                                                have : (List.range vs.length).map (fun i => L.getD i []) = L := by
                                                 rw [hlen]
                                                 apply List.ext_getElem
                                                 ·simp
                                                 ·intro i h1 h2; simp [List.getD_eq_getElem?_getD, h2]
                                                rw [this]
                                               ·unfold Asc
                                                rw [List.pairwise_iff_getElem]
                                                intro i j hi hj hij
                                                have hps : p.size = vs.length := by have := hpl.length_eq; simpa using this
                                                rw [List.length_map, Array.length_toList] at hi hj
                                                have := hinc i j (by lia) (by lia)
                                                simp only [at0, Array.getD_eq_getD_getElem?, Array.getElem?_eq_getElem hi, Array.getElem?_eq_getElem hj, Option.getD_some] at this
                                                simpa using this
end
end J
namespace J
section
variable {X : Cx} {P : PL} {A : Around} {env : Env} {st : AS} {m : AM} {s : Shared}
noncomputable def KeyC (X : Cx) (P₀ : PL) (A : Around) (env : Env) (st : AS) (m : AM) (q : Addr) (xs : List AV) (key : AV → Int) : Prop :=
 ∀ P s v a, (∀ p ∈ P₀, p ∈ P) → a ∈ xs → FRel X P env st m s → VR (DD X st P (ownOf env)) s.heap v a → wpAny (model X.prog X.w) A (call (.ref q) [v]) (fun r s' => (∃ t, r = .int (key a) t) ∧ FRel X P env st m s' ∧ Step (DD X st P (ownOf env)) s.heap s'.heap) (fun _ _ => False) s
theorem KeyC.of {q : Addr} {n : Nat} {xs : List AV} {key : AV → Int} (h : ∀ a ∈ xs, FNv X n q st [a] (.int (key a))) (R : Room n A P (locOf env)) : KeyC X P A env st m q xs key := fun P s v a hP ha f r =>
 wpAny_mono (call_fn (h a ha) (R.more hP) f (.cons r .nil)) (fun r s' p => by
  obtain ⟨b, st', m', rr, f', S', g', ⟨h1, h2⟩, h3⟩ := p
  subst h1 h2 h3
  (first | cases rr using VR.intE | cases rr using VR.noneE | cases rr using VR.boolE | cases rr using VR.refE | cases rr using VRs.nilE | cases rr)
  exact ⟨⟨_, rfl⟩, f', S'⟩) fun _ _ e => e
noncomputable abbrev nmX : Expr := .Name "x" ⟨0, 0, 0, 0⟩
theorem next_plain {it : Value} {xs : List AV} {at' : Nat → PL → Prop} {NS : AS → Prop} {NH : (Addr → Prop) → Heap → Prop} (T : Itr X A nmX it xs at' NS NH) {Pi : PL} {i : Nat} (hat : at' i Pi) (hi : i ≤ xs.length) (ns : NS st) (nh : NH (DD X st (Pi ++ P) (ownOf env)) s.heap) (ap : Apart X Pi P) (f : FRel X (Pi ++ P) env st m s)
 {G : Option Value → Shared → Prop} {E : Value → Shared → Prop} (hG : ∀ v s, (∀ Γ : Ctx, ∀ _ : Pos, Γ.In A → G (some v) s) → G (some v) s)
 (kn : ∀ s', i = xs.length → FRel X P env st m s' → Step (DD X st (Pi ++ P) (ownOf env)) s.heap s'.heap → G none s')
 (ks : ∀ s' v a Pi', xs[i]? = some a → at' (i + 1) Pi' → VR (DD X st (Pi' ++ P) (ownOf env)) s'.heap v a → FRel X (Pi' ++ P) env st m s' → Step (DD X st (Pi ++ P) (ownOf env)) s.heap s'.heap → G (some v) s') :
 wpAny (model X.prog X.w) A (pyNext it) G E s :=
 wpAny_mono (T.next P env st m s i Pi hat hi ns nh ap f G E kn ks) (fun r s₁ h => by
  cases r with
  | none => exact h
  | some v => exact hG v s₁ fun Γ p hΓ => h Γ p hΓ) fun _ _ e => e
theorem lift_wp {α : Type} {M : Model} {m : Sem α} {Q : α → Shared → Prop} {E : Value → Shared → Prop} (h : ∀ Γ : Ctx, ∀ _ : Pos, Γ.In A → wpAny M A m Q E s) : wpAny M A m Q E s := fun Γ p hΓ => h Γ p hΓ Γ p hΓ
theorem min_own {I S l q : Addr} {xs : List AV} {vs : List Value} {key : AV → Int} {R : Result → Shared → Prop} {D : Addr → Prop} (hA : A.handled = none) (hk : KeyC X P A.in1 env st m q xs key)
 (hS : S ∉ P.map (·.1) ∧ ¬ X.isTab S) (hI : I ∉ P.map (·.1) ∧ ¬ X.isTab I) (hSI : S ≠ I) (h₀ : Heap) (hD : ∀ b, DD X st P (ownOf env) b → D b)
 (hR : ∀ s' v a, a ∈ xs → (∀ b ∈ xs, key a ≤ key b) → VR (DD X st P (ownOf env)) s'.heap v a → FRel X P env st m s' → (∀ b o, h₀.get? b = some o → ¬ D b → s'.heap.get? b = some o) → R (.ok (.ret v)) s') :
 ∀ (r i : Nat) (s : Shared) (vb : Value) (a : AV) (tb : Tok) (c : Nat) (oI : Obj), xs.length - i = r → i ≤ xs.length → a ∈ xs → (∀ j b, j < i → xs[j]? = some b → key a ≤ key b) → oI.cls = .type "list_iterator" → oI.data = .fields #[.ref l, .int i 0] →
  FRel X ((I, oI) :: (S, seqObj "list" #[vb, .int (key a) tb] c) :: P) env st m s → VR (DD X st ((I, oI) :: (S, seqObj "list" #[vb, .int (key a) tb] c) :: P) (ownOf env)) s.heap vb a →
  HeldL (DD X st ((I, oI) :: (S, seqObj "list" #[vb, .int (key a) tb] c) :: P) (ownOf env)) s.heap l vs xs → (∀ b o, h₀.get? b = some o → ¬ D b → s.heap.get? b = some o ∧ b ≠ I ∧ b ≠ S) →
  codeAny (model X.prog X.w) A (.builtin "min.loop" ⟨[.ref I, .ref q, .ref S], []⟩) R s := by
 have hname : (toString "min" ++ toString ".loop" : String) = "min.loop" := by decide
 have T : Itr X A.in1 nmX (.ref I) xs (atL I l) (fun _ => True) (fun D h => HeldL D h l vs xs) := itr_list hA (fun {D D' h h'} S g ⟨n, ⟨c, e⟩, r⟩ => ⟨fun d => n (g _ _ e d), ⟨c, S _ _ e n⟩, r.step S g⟩) fun P env st m s f _ ⟨n, e, r⟩ => ⟨vs, PlainList.isList e, r⟩
 intro r
 induction r with
 | zero =>
  intro i s vb a tb c oI hr hi ha hbest hoc hod f rv hl keep
  have eS := (f.g.priv (S, seqObj "list" #[vb, .int (key a) tb] c) (.tail _ (.head _))).exact fun es n z => by exact nomatch z
  refine codeAny_builtin PySem.F.entry_min_loop ?_
  rw [Around.under_plainId PySem.F.plain_min_loop _]
  show wpAny _ A.in1 (seqItems? (.ref S) >>= _) _ _ _
  refine wpAny_bind (wpAny_seqItems eS rfl ?_)
  show wpAny _ A.in1 (tryCatch (pyNext (.ref I)) _ >>= _) _ _ _
  have hin : i = xs.length := nE hr hi
  have ap : Apart X [(I, oI)] ((S, seqObj "list" #[vb, .int (key a) tb] c) :: P) := fun p hp => by
   rw [List.mem_singleton] at hp; subst hp
   refine ⟨fun q => ?_, hI.2⟩
   refine O2 (List.mem_cons.mp q) (fun q => ?_) (fun q => ?_)
   ·exact hSI q.symm
   ·exact hI.1 q
  refine wpAny_bind (wpAny_tryCatch (next_plain (P := (S, seqObj "list" #[vb, .int (key a) tb] c) :: P) (Pi := [(I, oI)]) T ⟨oI, rfl, hoc, hod⟩ hi trivial hl ap f (fun _ _ h => lift_wp h) (fun s₁ _ f₁ S₁ => ?_) fun s₁ v b Pi' hb _ _ _ _ => ?_))
  ·have eS₁ := (f₁.g.priv (S, seqObj "list" #[vb, .int (key a) tb] c) (.head _)).exact fun es n z => by exact nomatch z
   have s1 := Heap.SameBut.update s₁.heap S (Obj.mapSeq fun _ => (#[] : Array Value))
   show wpAny _ A.in1 (updateSeq S (fun _ => #[]) >>= _) _ _ _
   refine wpAny_bind ?_
   refine wpAny_updateSeq eS₁ rfl (wpAny_bind (wpAny_letGo (wpAny_pure ?_)))
   refine A2 (f₁.unpriv (tk := s₁.toks) hS.1 hS.2 (fun v e => by exact nomatch e) fun b x hb e => (s1.2 b hb).trans e) fun fu Su => ?_
   have rv₁ := rv.step (D' := DD X st ((S, seqObj "list" #[vb, .int (key a) tb] c) :: P) (ownOf env)) S₁ fun b x e d => DD.perm (fun p hp => .tail _ hp) b d
   refine hR _ vb a ha (fun b hb => ?_) (rv₁.step Su fun b x e d => DD.perm (fun p hp => .tail _ hp) b d) fu fun b o e nd => ?_
   ·obtain ⟨j, hj, e⟩ := List.getElem_of_mem hb
    exact hbest j b (by rw [hin]; exact hj) (by rw [List.getElem?_eq_getElem hj, e])
   ·refine A3 (keep b o e nd) fun e1 n1 n2 => ?_
    have e2 := S₁ b o e1 fun d => by
     refine O2 (d.priv) (fun q => ?_) (fun d => ?_)
     ·exact n1 q
     ·refine O2 (d.priv) (fun q => ?_) (fun d => ?_)
      ·exact n2 q
      ·exact nd (hD b d)
    exact (s1.2 b n2).trans e2
  ·rw [List.getElem?_eq_none_iff.mpr (Nat.le_of_eq hin.symm)] at hb; exact J.ns hb
 | succ r ih =>
  intro i s vb a tb c oI hr hi ha hbest hoc hod f rv hl keep
  have hlt : i < xs.length := nL hr
  have eS := (f.g.priv (S, seqObj "list" #[vb, .int (key a) tb] c) (.tail _ (.head _))).exact fun es n z => by exact nomatch z
  refine codeAny_builtin PySem.F.entry_min_loop ?_
  rw [Around.under_plainId PySem.F.plain_min_loop _]
  show wpAny _ A.in1 (seqItems? (.ref S) >>= _) _ _ _
  refine wpAny_bind (wpAny_seqItems eS rfl ?_)
  show wpAny _ A.in1 (tryCatch (pyNext (.ref I)) _ >>= _) _ _ _
  have ap : Apart X [(I, oI)] ((S, seqObj "list" #[vb, .int (key a) tb] c) :: P) := fun p hp => by
   rw [List.mem_singleton] at hp; subst hp
   refine ⟨fun q => ?_, hI.2⟩
   refine O2 (List.mem_cons.mp q) (fun q => ?_) (fun q => ?_)
   ·exact hSI q.symm
   ·exact hI.1 q
  refine wpAny_bind (wpAny_tryCatch (next_plain (P := (S, seqObj "list" #[vb, .int (key a) tb] c) :: P) (Pi := [(I, oI)]) T ⟨oI, rfl, hoc, hod⟩ hi trivial hl ap f (fun _ _ h => lift_wp h) (fun s₁ hh _ _ => absurd hh (by lia)) fun s₁ v b Pi' hb hat rb f₁ S₁ => ?_))
  refine E1A2 hat fun oI' hn2 hn3 => ?_; clear hat; obtain rfl := hn2; refine A2 hn3 fun hoc' hod' => ?_; clear hn3
  have hmem : b ∈ xs := List.mem_of_getElem? hb
  have dd : ∀ b', DD X st ([(I, oI')] ++ (S, seqObj "list" #[vb, .int (key a) tb] c) :: P) (ownOf env) b' → DD X st ([(I, oI)] ++ (S, seqObj "list" #[vb, .int (key a) tb] c) :: P) (ownOf env) b' := fun b' d => d
  show wpAny _ A.in1 (tryCatch (holding [v] (call (.ref q) [v])) _ >>= _) _ _ _
  refine wpAny_bind (wpAny_tryCatch (wpAny_holding (wpAny_mono (hk _ s₁ v b (fun p hp => .tail _ (.tail _ hp)) hmem f₁ rb) (fun x s₂ he => ?_) fun _ _ hF => hF.elim)))
  refine A3 he fun hn4 f₂ S₂ => ?_; clear he; refine E1 hn4 fun t2 hn5 => ?_; clear hn4; obtain rfl := hn5
  have S₁₂ : Step (DD X st ([(I, oI)] ++ (S, seqObj "list" #[vb, .int (key a) tb] c) :: P) (ownOf env)) s.heap s₂.heap := S₁.on (S₂.mono fun b o e d => d)
  have rv₂ : VR (DD X st ((I, oI') :: (S, seqObj "list" #[vb, .int (key a) tb] c) :: P) (ownOf env)) s₂.heap vb a := rv.step S₁₂ fun b x e d => d
  have rb₂ : VR (DD X st ((I, oI') :: (S, seqObj "list" #[vb, .int (key a) tb] c) :: P) (ownOf env)) s₂.heap v b := rb.held S₂
  have hl₂ : HeldL (DD X st ((I, oI') :: (S, seqObj "list" #[vb, .int (key a) tb] c) :: P) (ownOf env)) s₂.heap l vs xs := let ⟨n, ⟨c, e⟩, r⟩ := hl; ⟨n, ⟨c, S₁₂ _ _ e n⟩, r.step S₁₂ fun b x e d => d⟩
  have keep₂ : ∀ b o, h₀.get? b = some o → ¬ D b → s₂.heap.get? b = some o ∧ b ≠ I ∧ b ≠ S := fun b o e nd => by
   refine A3 (keep b o e nd) fun e1 n1 n2 => ?_
   exact ⟨S₁₂ b o e1 fun d => by
    refine O2 (d.priv) (fun q => ?_) (fun d => ?_)
    ·exact n1 q
    ·refine O2 (d.priv) (fun q => ?_) (fun d => ?_)
     ·exact n2 q
     ·exact nd (hD b d), n1, n2⟩
  have eS₂ := (f₂.g.priv (S, seqObj "list" #[vb, .int (key a) tb] c) (.tail _ (.head _))).exact fun es n z => by exact nomatch z
  show wpAny _ A.in1 (tryCatch (holding [v, .int (key b) t2] (richCompare .Lt (.int (key b) t2) (.int (key a) tb) >>= _)) _ >>= _) _ _ _
  refine wpAny_bind (wpAny_tryCatch (wpAny_holding (wpAny_bind (CmpOf.ints_lt (prog := X.prog) (w := X.w) (A := A.in1) (P := fun (i : Nat) v => ∃ t, v = .int (if i = 0 then key b else key a) t) (fun i => if i = 0 then key b else key a) (fun i v h => h) 0 1 _ _ _ _ _ ⟨t2, rfl⟩ ⟨tb, rfl⟩ ?_))))
  refine wpAny_bind (wpAny_holding (wpAny_truthy_bool ?_))
  refine wpAny_bind (wpAny_letGo (wpAny_pure ?_))
  have hcmp : (fun i j : Nat => decide ((if i = 0 then key b else key a) < (if j = 0 then key b else key a))) 0 1 = decide (key b < key a) := by dsimp only; rw [if_pos rfl, if_neg (by decide)]
  rw [hcmp]
  by_cases hb' : key b < key a
  ·obtain ⟨c2, hc2⟩ : ∃ c2, (s₂.heap.update S (Obj.mapSeq fun _ => #[v, .int (key b) t2])).get? S = some (seqObj "list" #[v, .int (key b) t2] c2) := ⟨_, get?_update_seq eS₂ fun _ => #[v, .int (key b) t2]⟩
   have s1 := Heap.SameBut.update s₂.heap S (Obj.mapSeq fun _ => #[v, .int (key b) t2])
   simp only [hb', decide_true, if_true]
   refine wpAny_bind ?_
   refine wpAny_updateSeq eS₂ rfl (wpAny_bind (wpAny_letGo ?_))
   rw [hname]
   have f₃ : FRel X ((S, seqObj "list" #[vb, .int (key a) tb] c) :: (I, oI') :: P) env st m s₂ := f₂.sub fun p hp => by
    rcases List.mem_cons.mp hp with rfl | hp
    ·exact .tail _ (.head _)
    ·rcases List.mem_cons.mp hp with rfl | hp
     ·exact .head _
     ·exact .tail _ (.tail _ hp)
   obtain ⟨f₄, S₄⟩ := f₃.turn (o' := seqObj "list" #[v, .int (key b) t2] c2) (tk := s₂.toks) (fun q => by
    refine O2 (List.mem_cons.mp q) (fun q => ?_) (fun q => ?_)
    ·exact hSI q
    ·exact hS.1 q) hS.2 (fun v e => by exact nomatch e) (fun b x hb e => (s1.2 b hb).trans e) hc2
   have f₅ : FRel X ((I, oI') :: (S, seqObj "list" #[v, .int (key b) t2] c2) :: P) env st m { s₂ with heap := s₂.heap.update S (Obj.mapSeq fun _ => #[v, .int (key b) t2]), toks := s₂.toks } := f₄.sub fun p hp => by
    rcases List.mem_cons.mp hp with rfl | hp
    ·exact .tail _ (.head _)
    ·rcases List.mem_cons.mp hp with rfl | hp
     ·exact .head _
     ·exact .tail _ (.tail _ hp)
   have Dx : ∀ b', DD X st ((I, oI') :: (S, seqObj "list" #[v, .int (key b) t2] c2) :: P) (ownOf env) b' → DD X st ((I, oI') :: (S, seqObj "list" #[vb, .int (key a) tb] c) :: P) (ownOf env) b' := fun b' d => d
   have St : Step (DD X st ((I, oI') :: (S, seqObj "list" #[vb, .int (key a) tb] c) :: P) (ownOf env)) s₂.heap (s₂.heap.update S (Obj.mapSeq fun _ => #[v, .int (key b) t2])) := fun b x e nd => (s1.2 b fun q => nd (.inr (.inl (by rw [q]; exact .tail _ (.head _))))).trans e
   refine wpAny_pure ⟨plainId_quiet PySem.F.plain_min_loop _, ih (i + 1) _ v b t2 c2 oI' (nS hr) hlt hmem (fun j b'' hj hj2 => ?_) hoc' hod' f₅ (rb₂.step St fun b x e d => Dx b d) (let ⟨n, ⟨c, e⟩, r⟩ := hl₂; ⟨fun d => n (Dx _ d), ⟨c, St _ _ e n⟩, r.step St fun b x e d => Dx b d⟩) fun b o e nd => ?_⟩
   ·by_cases q : j = i
    ·subst q; rw [hb] at hj2; revert hj2; refine J.sse ?_; rintro rfl; exact Int.le_refl _
    ·have := hbest j b'' (by lia) hj2; lia
   ·refine A3 (keep₂ b o e nd) fun e1 n1 n2 => ?_
    exact ⟨(s1.2 b n2).trans e1, n1, n2⟩
  ·simp only [hb', decide_false, Bool.false_eq_true, if_false]
   refine wpAny_bind (wpAny_letGo ?_)
   rw [hname]
   refine wpAny_pure ⟨plainId_quiet PySem.F.plain_min_loop _, ih (i + 1) _ vb a tb c oI' (nS hr) hlt ha (fun j b'' hj hj2 => ?_) hoc' hod' f₂ rv₂ hl₂ keep₂⟩
   by_cases q : j = i
   ·subst q; rw [hb] at hj2; revert hj2; refine J.sse ?_; rintro rfl; lia
   ·exact hbest j b'' (by lia) hj2
end
end J
namespace J
section
variable {X : Cx} {P : PL} {A : Around} {env : Env} {st : AS} {m : AM} {s : Shared}
noncomputable def Exc (X : Cx) (P : PL) (env : Env) (st : AS) (m : AM) (s : Shared) (cls : String) (e : Value) (s₁ : Shared) : Prop :=
 ∃ a o t, e = .ref a ∧ o.cls = .type cls ∧ o.data = .fields #[t, .none, .none, .none, .bool false, .none] ∧ FRel X ((a, o) :: P) env st m s₁ ∧ a ∉ P.map (·.1) ∧ ¬ X.isTab a ∧ Step (DD X st P (ownOf env)) s.heap s₁.heap ∧ s.heap.get? a = none
set_option tactic.hygienic true in
theorem call_minkey {q : Addr} {xs : List AV} {key : AV → Int} {v : Value} (hA : A.handled = none) (hk : KeyC X P A.in1 env st m q xs key) (f : FRel X P env st m s) (r : VR (DD X st P (ownOf env)) s.heap v (.lst xs)) :
 wpAny (model X.prog X.w) A (call (.builtin "min") [v] [(Str.ofString "key", .ref q)]) (Post X P env st s VR fun b st' m' => st' = st ∧ m' = m ∧ b ∈ xs ∧ ∀ c ∈ xs, key b ≤ key c) (fun e s' => xs = [] ∧ Exc X P env st m s "ValueError" e s') s := by
 have hname : (toString "min" ++ toString ".loop" : String) = "min.loop" := by decide
 cases r using VR.lstE with | lst nd pl rs =>
 rename_i l vs
 refine kmk_tree PySem.F.kind_min PySem.F.plain_min PySem.F.entry_min (kmk_min_key _ _) ?_
 show wpAny _ A.in1 (Builtin.Builtins.bindParams "min" ["key", "default"] 0 ⟨[], [(Str.ofString "key", .ref q)]⟩ >>= _) _ _ s
 refine wpAny_bind (wpAny_of_eq (show Builtin.Builtins.bindParams "min" ["key", "default"] 0 ⟨[], [(Str.ofString "key", .ref q)]⟩ = pure [some (.ref q), none] from rfl) ?_)
 refine wpAny_bind (wpAny_pure ?_)
 refine wpAny_bind (wpAny_pyIter_list (PlainList.isList pl) ?_)
 refine wpAny_bind (wpAny_newList ?_ (Nat.zero_le _))
 rw [hname]
 refine wpAny_pure ⟨plainId_quiet PySem.F.plain_min_loop _, ?_⟩
 obtain ⟨oI, hoI⟩ : ∃ o : Obj, o = { cls := .type "list_iterator", data := .fields #[.ref l, .int 0 0] } := ⟨_, rfl⟩
 rw [← hoI]
 have hS : (s.heap.push oI).objs.size = s.heap.objs.size + 1 := size_push' ..
 have k : ∀ b o, s.heap.get? b = some o → ((s.heap.push oI).push (seqObj "list" #[] 0)).get? b = some o := fun b o e => Heap.get?_push_of_some _ (Heap.get?_push_of_some _ e)
 have gI : ((s.heap.push oI).push (seqObj "list" #[] 0)).get? s.heap.objs.size = some oI := Heap.get?_push_of_some _ (Heap.get?_push_size _ (by rw [hoI]; rfl))
 have gS : ((s.heap.push oI).push (seqObj "list" #[] 0)).get? (s.heap.push oI).objs.size = some (seqObj "list" #[] 0) := Heap.get?_push_size _ rfl
 have fr0 : s.heap.get? s.heap.objs.size = none := get_size _
 have fr1 : s.heap.get? (s.heap.push oI).objs.size = none := by rw [hS]; exact get_ge (Nat.le_succ _)
 have hSI : (s.heap.push oI).objs.size ≠ s.heap.objs.size := by rw [hS]; exact Nat.succ_ne_self _
 generalize hI : s.heap.objs.size = I at *
 generalize hSv : (s.heap.push oI).objs.size = S at *
 obtain ⟨f₁, ap⟩ := f.privL (tk := s.toks) (Pi := [(I, oI), (S, seqObj "list" #[] 0)]) k (by
  intro p hp
  rcases List.mem_cons.mp hp with rfl | hp
  ·exact fr0
  ·rw [List.mem_singleton] at hp; subst hp; exact fr1) (by
  intro p hp
  rcases List.mem_cons.mp hp with rfl | hp
  ·exact gI
  ·rw [List.mem_singleton] at hp; subst hp; exact gS)
 have aI := ap (I, oI) (.head _)
 have aS := ap (S, seqObj "list" #[] 0) (.tail _ (.head _))
 have hl₁ : HeldL (DD X st ([(I, oI)] ++ (S, seqObj "list" #[] 0) :: P) (ownOf env)) ((s.heap.push oI).push (seqObj "list" #[] 0)) l vs xs := by
  have G : Gr s.heap (DD X st P (ownOf env)) (DD X st ([(I, oI)] ++ (S, seqObj "list" #[] 0) :: P) (ownOf env)) := fun b x e d => by
   refine O2 (DD.app (Pi := [(I, oI), (S, seqObj "list" #[] 0)]) d) (fun q => ?_) (fun d => ?_)
   ·simp only [List.map_cons, List.map_nil, List.mem_cons, List.not_mem_nil, or_false] at q
    rcases q with rfl | rfl
    ·rw [fr0] at e; exact J.ns e
    ·rw [fr1] at e; exact J.ns e
   ·exact d
  refine E1 pl fun c e => ?_; clear pl
  exact ⟨fun d => nd (G _ _ e d), ⟨c, k _ _ e⟩, rs.step (Step.of_keeps k) G⟩
 have T : Itr X A.in1 nmX (.ref I) xs (atL I l) (fun _ => True) (fun D h => HeldL D h l vs xs) := itr_list hA (fun {D D' h h'} S g ⟨n, ⟨c, e⟩, r⟩ => ⟨fun d => n (g _ _ e d), ⟨c, S _ _ e n⟩, r.step S g⟩) fun P env st m s f _ ⟨n, e, r⟩ => ⟨vs, PlainList.isList e, r⟩
 have ap1 : Apart X [(I, oI)] ((S, seqObj "list" #[] 0) :: P) := fun p hp => by
  rw [List.mem_singleton] at hp; subst hp
  refine ⟨fun q => ?_, aI.2⟩
  refine O2 (List.mem_cons.mp q) (fun q => ?_) (fun q => ?_)
  ·exact hSI q.symm
  ·exact aI.1 q
 refine codeAny_builtin PySem.F.entry_min_loop ?_
 rw [Around.under_plainId PySem.F.plain_min_loop _]
 show wpAny _ A.in1 (seqItems? (.ref S) >>= _) _ _ _
 refine wpAny_bind (wpAny_seqItems gS rfl ?_)
 show wpAny _ A.in1 (tryCatch (pyNext (.ref I)) _ >>= _) _ _ _
 have oIc : oI.cls = .type "list_iterator" := by rw [hoI]
 have oId : oI.data = .fields #[.ref l, .int 0 0] := by rw [hoI]
 refine wpAny_bind (wpAny_tryCatch (next_plain (P := (S, seqObj "list" #[] 0) :: P) (Pi := [(I, oI)]) (i := 0) T ⟨oI, rfl, oIc, oId⟩ (Nat.zero_le _) trivial hl₁ ap1 f₁ (fun _ _ h => lift_wp h) (fun s₁ h0 f₂ S₂ => ?_) fun s₁ v b Pi' hb hat rb f₂ S₂ => ?_))
 ·have hx : xs = [] := List.length_eq_zero_iff.mp h0.symm
  have fP : FRel X P env st m s₁ := f₂.sub fun p hp => .tail _ hp
  have St : Step (DD X st P (ownOf env)) s.heap s₁.heap := fun b o e nd => S₂ b o (k b o e) fun d => by
   refine O2 (DD.app (Pi := [(I, oI), (S, seqObj "list" #[] 0)]) d) (fun q => ?_) (fun d => ?_)
   ·simp only [List.map_cons, List.map_nil, List.mem_cons, List.not_mem_nil, or_false] at q
    rcases q with rfl | rfl
    ·rw [fr0] at e; exact J.ns e
    ·rw [fr1] at e; exact J.ns e
   ·exact nd d
  refine wpAny_bind (wpAny_rule (wpAny_raiseErrorMade plainExc_ValueError hA fun h' tk e ne => ⟨hx, ?_⟩))
  refine E2A3 (ne.there) fun ob t e1 e2 e3 => ?_
  refine A3 (fP.priv (tk := tk) ne.keeps e ob ne.new e1) fun fe n1 n2 => ?_
  exact ⟨e, ob, t, rfl, e2, e3, fe, n1, n2, St.on (Step.of_keeps ne.keeps), fresh_at fP St ne.new⟩
 ·refine E1A2 hat fun oI' hn1 hn2 => ?_; clear hat; obtain rfl := hn1; refine A2 hn2 fun hoc' hod' => ?_; clear hn2
  have hmem : b ∈ xs := List.mem_of_getElem? hb
  show wpAny _ A.in1 (tryCatch (holding [v] (call (.ref q) [v])) _ >>= _) _ _ _
  refine wpAny_bind (wpAny_tryCatch (wpAny_holding (wpAny_mono (hk _ s₁ v b (fun p hp => .tail _ (.tail _ hp)) hmem f₂ rb) (fun x s₂ he => ?_) fun _ _ hF => hF.elim)))
  refine A3 he fun hn3 f₃ S₃ => ?_; clear he; refine E1 hn3 fun t2 hn4 => ?_; clear hn3; obtain rfl := hn4
  have eS := (f₃.g.priv (S, seqObj "list" #[] 0) (.tail _ (.head _))).exact fun es n z => by exact nomatch z
  obtain ⟨c2, hc2⟩ : ∃ c2, (s₂.heap.update S (Obj.mapSeq fun _ => #[v, .int (key b) t2])).get? S = some (seqObj "list" #[v, .int (key b) t2] c2) := ⟨_, get?_update_seq eS fun _ => #[v, .int (key b) t2]⟩
  have s1 := Heap.SameBut.update s₂.heap S (Obj.mapSeq fun _ => #[v, .int (key b) t2])
  show wpAny _ A.in1 (updateSeq S (fun _ => #[v, .int (key b) t2]) >>= _) _ _ _
  refine wpAny_bind ?_
  refine wpAny_updateSeq eS rfl ?_
  rw [hname]
  have f₄ : FRel X ((S, seqObj "list" #[] 0) :: (I, oI') :: P) env st m s₂ := f₃.sub fun p hp => by
   rcases List.mem_cons.mp hp with rfl | hp
   ·exact .tail _ (.head _)
   ·rcases List.mem_cons.mp hp with rfl | hp
    ·exact .head _
    ·exact .tail _ (.tail _ hp)
  obtain ⟨f₅, S₅⟩ := f₄.turn (o' := seqObj "list" #[v, .int (key b) t2] c2) (tk := s₂.toks) (fun q => by
   refine O2 (List.mem_cons.mp q) (fun q => ?_) (fun q => ?_)
   ·exact hSI q
   ·exact aS.1 q) aS.2 (fun v e => by exact nomatch e) (fun b x hb e => (s1.2 b hb).trans e) hc2
  have f₆ : FRel X ((I, oI') :: (S, seqObj "list" #[v, .int (key b) t2] c2) :: P) env st m { s₂ with heap := s₂.heap.update S (Obj.mapSeq fun _ => #[v, .int (key b) t2]), toks := s₂.toks } := f₅.sub fun p hp => by
   rcases List.mem_cons.mp hp with rfl | hp
   ·exact .tail _ (.head _)
   ·rcases List.mem_cons.mp hp with rfl | hp
    ·exact .head _
    ·exact .tail _ (.tail _ hp)
  have Dx : ∀ b', DD X st ((I, oI') :: (S, seqObj "list" #[v, .int (key b) t2] c2) :: P) (ownOf env) b' → DD X st ((I, oI) :: (S, seqObj "list" #[] 0) :: P) (ownOf env) b' := fun b' d => d
  have S24 : Step (DD X st ((I, oI) :: (S, seqObj "list" #[] 0) :: P) (ownOf env)) ((s.heap.push oI).push (seqObj "list" #[] 0)) (s₂.heap.update S (Obj.mapSeq fun _ => #[v, .int (key b) t2])) :=
   (S₂.on (S₃.mono fun b o e d => d)).on fun b x e nd => (s1.2 b fun q => nd (.inr (.inl (by rw [q]; exact .tail _ (.head _))))).trans e
  refine wpAny_pure ⟨plainId_quiet PySem.F.plain_min_loop _, min_own (l := l) (vs := vs) (D := DD X st P (ownOf env)) hA hk aS aI hSI s.heap (fun _ d => d) (fun s' v' a' h1 h2 h3 h4 h5 => ?_) (xs.length - 1) 1 _ v b t2 c2 oI' rfl ?_ hmem (fun j b'' hj hj2 => ?_) hoc' hod' f₆ ?_ ?_ fun b' o e nd => ?_⟩
  ·exact ⟨a', st, m, h3, h4, h5, Gr.refl _ _, rfl, rfl, h1, h2⟩
  ·cases xs with | nil => cases hb | cons _ _ => simp
  ·have : j = 0 := by lia
   subst this; rw [hb] at hj2; revert hj2; refine J.sse ?_; rintro rfl; exact Int.le_refl _
  ·have rb₂ := rb.held S₃
   exact rb₂.step (D' := DD X st ((I, oI') :: (S, seqObj "list" #[v, .int (key b) t2] c2) :: P) (ownOf env)) (fun b x e nd => (s1.2 b fun q => nd (.inr (.inl (by rw [q]; exact .tail _ (.head _))))).trans e) fun b x e d => d
  ·refine A3 hl₁ fun n hn5 r => ?_; clear hl₁; refine E1 hn5 fun c e => ?_; clear hn5
   exact ⟨fun d => n (Dx _ d), ⟨c, S24 _ _ e n⟩, r.step S24 fun b x e d => Dx b d⟩
  ·have n1 : b' ≠ I := fun q => by rw [q, fr0] at e; exact J.ns e
   have n2 : b' ≠ S := fun q => by rw [q, fr1] at e; exact J.ns e
   refine ⟨S24 b' o (k b' o e) fun d => ?_, n1, n2⟩
   refine O2 (d.priv) (fun q => ?_) (fun d => ?_)
   ·exact n1 q
   ·refine O2 (d.priv) (fun q => ?_) (fun d => ?_)
    ·exact n2 q
    ·exact nd d
end
end J
namespace J
section
variable {X : Cx} {P : PL} {A : Around} {env : Env} {st : AS} {m : AM} {s : Shared}
theorem FRel.slots {h' : Heap} {S : List Addr} (f : FRel X P env st m s) (x : Heap.SlotsOnly S s.heap h') (hS : ∀ b ∈ S, b = env.locals ∨ ∃ o, (b, o) ∈ P ∧ ∃ es n, o.data = .dict es n) :
 FRel X P env st m { s with heap := h' } ∧ Step (DD X st P (ownOf env)) s.heap h' := by
 have hd : ∀ b ∈ S, DD X st P (ownOf env) b := fun b hb => by
  rcases hS b hb with rfl | ⟨o, ho, _⟩
  ·exact .inr (.inr (.inl (.inl rfl)))
  ·exact .inr (.inl (List.mem_map_of_mem ho))
 have isD : ∀ b ∈ S, ∀ o, s.heap.get? b = some o → ∃ es n, o.data = .dict es n := fun b hb o e => by
  rcases hS b hb with rfl | ⟨o', ho, es, n, hd⟩
  ·refine E1A2 (f.f.ns) fun mv hn1 _ => ?_; refine E3A3 hn1 fun o' es ep e' hd _ => ?_; clear hn1
   rw [e] at e'; revert e'; refine J.sse ?_; rintro rfl; exact ⟨es, ep, hd⟩
  ·refine E1A2 ((f.g.priv _ ho).data) fun o2 e2 hd2 => ?_
   rw [e] at e2; revert e2; refine J.sse ?_; rintro rfl; exact ⟨es, n, hd2.trans hd⟩
 have kk : ∀ b o, b ∉ S → s.heap.get? b = some o → h'.get? b = some o := fun b o hb e => (x.2.1 b hb).trans e
 have near : ∀ b o, s.heap.get? b = some o → Pv h' (b, o) := fun b o e => by
  by_cases hb : b ∈ S
  ·refine E1 (x.2.2 b o e) fun sl e' => ?_
   exact ⟨_, e', .inr ⟨isD b hb o e, sl, rfl⟩⟩
  ·exact .of (kk b o hb e)
 have exact' : ∀ b o, s.heap.get? b = some o → (∀ es n, o.data ≠ .dict es n) → h'.get? b = some o := fun b o e hn => (near b o e).exact hn
 have SS : ∀ b o, s.heap.get? b = some o → ¬ DD X st P (ownOf env) b → h'.get? b = some o ∧ ¬ DD X st P (ownOf env) b := fun b o e nd => ⟨kk b o (fun hb => nd (hd b hb)) e, nd⟩
 have nDom : ∀ b ∈ S, ¬ Dom st b := fun b hb d => by
  rcases hS b hb with rfl | ⟨o, ho, _⟩
  ·exact (f.own _ (.inl rfl)).1 d
  ·exact (f.g.off b d).1 (List.mem_map_of_mem ho)
 refine ⟨⟨⟨fun b o e => kk b o (fun hb => by have := f.g.lo b (hd b hb); rw [e] at this; exact J.sn this) (f.g.base b o e), fun t ht => ?_, fun b x e => (f.g.objs b x e).move SS fun c hc y => kk c y fun hb => nDom c hb ⟨b, x, e, hc⟩, f.g.lo, fun p hp => ?_, f.g.off, f.g.gens, f.g.os, f.g.tabc, f.g.nolim, f.g.tabp⟩,
  ⟨f.f.kind, f.f.glob, f.f.bi, let ⟨mv, a, b⟩ := f.f.ns; ⟨mv, ns_near a fun o e => near _ o e, fun x e => (b x e).move SS⟩, fun x hx => ?_, f.f.apart, f.f.apartL⟩, f.own⟩, fun b o e nd => (SS b o e nd).1⟩
 ·refine E1A2 (f.g.tabs t ht) fun more a1 b1 => ?_
  refine A2 a1 fun hn2 e2 => ?_; clear a1; refine E2A2 hn2 fun o us e1 r1 => ?_; clear hn2
  obtain ⟨o', us', file, tf, flags, tg, inF, text, tt, op, e3, h2, h3, h4, h5, h6, h7, e4, r4⟩ := b1
  exact ⟨more, ⟨⟨o, us, exact' _ _ e1 (fun es n z => by rw [r1.2.1] at z; exact nomatch z), r1⟩, exact' _ _ e2 (fun es n z => by exact nomatch z)⟩, o', us', file, tf, flags, tg, inF, text, tt, op, exact' _ _ e3 (fun es n z => by rw [h2] at z; exact nomatch z), h2, h3, h4, h5, h6, h7, exact' _ _ e4 (fun es n z => by rw [r4.1] at z; exact nomatch z), r4⟩
 ·refine E1A2 (f.g.priv p hp) fun o1 e1 n1 => ?_
  refine E1A2 (near _ _ e1) fun o2 e2 n2 => ?_
  exact ⟨o2, e2, n1.trans n2⟩
 ·refine E2A3 (f.f.cl x hx) fun c ov h1 h2 h3 => ?_
  refine E1A2 h2 fun o e w => ?_; clear h2
  exact ⟨c, ov, h1, ⟨o, exact' _ _ e (fun es n z => by rw [w] at z; exact nomatch z), w⟩, h3.move SS⟩
theorem FunFrames.of (f : FRel X P env st m s) {l : List Env} (h : ∀ e ∈ l, (e.frame = some e.locals ∧ e.scope.kind ≠ .module) ∧ (e.locals = env.locals ∨ ∃ o, (e.locals, o) ∈ P ∧ ∃ es n, o.data = .dict es n)) : s.heap.FunFrames X.g0 l := by
 induction l with
 | nil => trivial
 | cons e l ih =>
  refine A2 (h e (.head _)) fun hn3 h3 => ?_; refine A2 hn3 fun h1 h2 => ?_; clear hn3
  refine ⟨h2, ?_, ih fun e he => h e (.tail _ he)⟩
  rcases h3 with h3 | ⟨o, ho, es, n, hd⟩
  ·refine E1A2 (f.f.ns) fun mv hn4 _ => ?_; refine E3A3 hn4 fun o' es ep e' hd _ => ?_; clear hn4
   exact ⟨e.locals, o', h1, by rw [h3]; exact f.g.lo _ (.inr (.inr (.inl (.inl rfl)))), by rw [h3]; exact e', fun vs z => by rw [hd] at z; cases z⟩
  ·refine E1A2 ((f.g.priv _ ho).data) fun o2 e2 hd2 => ?_
   exact ⟨e.locals, o2, h1, f.g.lo _ (.inr (.inl (List.mem_map_of_mem ho))), e2, fun vs z => by rw [hd2, hd] at z; cases z⟩
theorem note_own {n : Nat} {a : Addr} {o : Obj} {t : Value} {outer : List Env} {Q : Unit → Shared → Prop} {E : Value → Shared → Prop} (hfr : A.frames = some (env :: outer)) (hn : 50 ≤ n) (R : Room n A P (locOf env)) (f : FRel X ((a, o) :: P) env st m s)
 (hd : o.data = .fields #[t, .none, .none, .none, .bool false, .none]) (hP : a ∉ P.map (·.1)) (hT : ¬ X.isTab a)
 (k : ∀ s' tb otb o' tvs, FRel X ([(tb, otb), (a, o')] ++ P) env st m s' → Apart X [(tb, otb), (a, o')] P → tb ≠ a → Step (DD X st ((a, o) :: P) (ownOf env)) s.heap s'.heap → o'.cls = o.cls → o'.data = .fields #[t, .ref tb, .none, .none, .bool false, .none] → otb.data = .fields tvs → 3 < tvs.size → s.heap.get? tb = none → Q () s') :
 wpAny (model X.prog X.w) A (noteFrame (.ref a) env) Q E s := by
 refine E1A2 (R.frames hn) fun l hl hfo => ?_
 rw [hfr] at hl; revert hl; refine J.sse ?_; rintro rfl
 have hf := (hfo env (.head _)).1.1
 have hfo' : ∀ e ∈ env :: outer, (e.frame = some e.locals ∧ e.scope.kind ≠ .module) ∧ (e.locals = env.locals ∨ ∃ o', (e.locals, o') ∈ (a, o) :: P ∧ ∃ es n, o'.data = .dict es n) := fun e he => ⟨(hfo e he).1, (hfo e he).2.imp id fun ⟨o', ho, d⟩ => ⟨o', .tail _ ho, d⟩⟩
 have ea := (f.g.priv (a, o) (.head _)).exact fun es n z => by rw [hd] at z; exact nomatch z
 unfold noteFrame
 simp only [hf]
 refine wpAny_bind (wpAny_field ea hd (x := Value.none) rfl ?_)
 rw [if_neg (by simp)]
 refine wpAny_bind (wpAny_frameOf_fun hfr (FunFrames.of f hfo') hf fun h₁ hs₁ => ?_)
 obtain ⟨f₁, S₁⟩ := f.slots hs₁ fun b hb => by
  refine E1A2 (List.mem_filterMap.mp hb) fun e he hb => ?_
  rw [(hfo' e he).1.1] at hb; revert hb; refine J.sse ?_; rintro rfl
  exact (hfo' e he).2
 refine wpAny_bind (wpAny_entryPlaceOf fun pl hpl => ?_)
 unfold EntryCells.newEntry newFields
 refine wpAny_bind (wpAny_newObj_type ?_ (hpl.sizeOk5 _ _ _ _ _))
 generalize htv : ([Value.none, .ref env.locals, .none, rawInt env.locals, .none] ++ (if pl.isEmpty then List.replicate 6 Value.none else pl)).toArray = tvs
 have hsz : 3 < tvs.size := by rw [← htv]; simp
 obtain ⟨otb, hotb⟩ : ∃ o : Obj, o = { cls := .type "traceback", dict := none, data := .fields tvs } := ⟨_, rfl⟩
 have ea₁ : h₁.get? a = some o := (f₁.g.priv (a, o) (.head _)).exact fun es n z => by rw [hd] at z; exact nomatch z
 have k₁ : ∀ b x, h₁.get? b = some x → (h₁.push otb).get? b = some x := fun b x e => Heap.get?_push_of_some _ e
 have eT : (h₁.push otb).get? h₁.objs.size = some otb := Heap.get?_push_size _ (by rw [hotb]; rfl)
 have frT : h₁.get? h₁.objs.size = none := get_size _
 have hTe : h₁.objs.size ≠ a := Nat.ne_of_gt (Heap.lt_size ea₁)
 refine A2 (f₁.privL (tk := s.toks) (h' := h₁.push otb) (Pi := [(h₁.objs.size, otb)]) k₁ (fun p hp => by rw [List.mem_singleton] at hp; subst hp; exact frT) (fun p hp => by rw [List.mem_singleton] at hp; subst hp; exact eT)) fun f₂ ap => ?_
 rw [← hotb]
 refine wpAny_setField (s := { s with heap := h₁.push otb }) (k₁ _ _ ea₁) hd (by show 1 < 6; decide) ?_
 have hd₃ := Obj.data_mapFields hd (·.setIfInBounds 1 (Value.ref h₁.objs.size))
 have s1 := Heap.SameBut.update (h₁.push otb) a (Obj.mapFields (·.setIfInBounds 1 (Value.ref h₁.objs.size)))
 have e₃ := Heap.get?_update_self (Obj.mapFields (·.setIfInBounds 1 (Value.ref h₁.objs.size))) (k₁ _ _ ea₁) (Obj.isFreed_of_fields hd₃)
 have f₃ : FRel X ((a, o) :: (h₁.objs.size, otb) :: P) env st m { s with heap := h₁.push otb, toks := s.toks } := f₂.sub fun p hp => by
  rcases List.mem_cons.mp hp with rfl | hp
  ·exact .tail _ (.head _)
  ·rcases List.mem_cons.mp hp with rfl | hp
   ·exact .head _
   ·exact .tail _ (.tail _ hp)
 have apT := ap (h₁.objs.size, otb) (.head _)
 have nTP : h₁.objs.size ∉ P.map (·.1) := fun q => apT.1 (List.mem_cons_of_mem _ q)
 obtain ⟨f₄, S₄⟩ := f₃.turn (o' := Obj.mapFields (·.setIfInBounds 1 (Value.ref h₁.objs.size)) o) (tk := s.toks) (fun q => by
  refine O2 (List.mem_cons.mp q) (fun q => ?_) (fun q => ?_)
  ·exact hTe q.symm
  ·exact hP q) hT (fun v e => by rw [hd] at e; exact nomatch e) (fun b x hb e => (s1.2 b hb).trans e) e₃
 refine k _ h₁.objs.size otb (Obj.mapFields (·.setIfInBounds 1 (Value.ref h₁.objs.size)) o) tvs (f₄.sub fun p hp => ?_) (fun p hp => ?_) hTe (fun b x e nd => ?_) (Obj.cls_mapFields _ _) hd₃ (by rw [hotb]) hsz ?_
 ·rcases List.mem_cons.mp hp with rfl | hp
  ·exact .tail _ (.head _)
  ·rcases List.mem_cons.mp hp with rfl | hp
   ·exact .head _
   ·exact .tail _ (.tail _ hp)
 ·rcases List.mem_cons.mp hp with rfl | hp
  ·exact ⟨nTP, apT.2⟩
  ·rw [List.mem_singleton] at hp; subst hp; exact ⟨hP, hT⟩
 ·have hb : b ≠ a := fun q => nd (.inr (.inl (by rw [q]; exact .head _)))
  exact (s1.2 b hb).trans (k₁ _ _ (S₁ b x e nd))
 ·cases q : s.heap.get? h₁.objs.size with
  | none => rfl
  | some x => exact absurd (Heap.lt_size q) (by rw [hs₁.1]; exact Nat.lt_irrefl _)
theorem flight_own {a tb : Addr} {o otb : Obj} {t : Value} {tvs : Array Value} {Q : Unit → Shared → Prop} {E : Value → Shared → Prop} (f : FRel X ([(tb, otb), (a, o)] ++ P) env st m s) (ap : Apart X [(tb, otb), (a, o)] P) (hne : tb ≠ a)
 (hd : o.data = .fields #[t, .ref tb, .none, .none, .bool false, .none]) (hdt : otb.data = .fields tvs) (hsz : 3 < tvs.size)
 (k : ∀ s' otb' tvs', FRel X ([(tb, otb'), (a, o)] ++ P) env st m s' → Apart X [(tb, otb'), (a, o)] P → Step (DD X st ([(tb, otb), (a, o)] ++ P) (ownOf env)) s.heap s'.heap → otb'.data = .fields tvs' → 3 < tvs'.size → Q () s') :
 wpAny (model X.prog X.w) A (setFlight (.ref a) none) Q E s := by
 have ea : s.heap.get? a = some o := (f.g.priv (a, o) (.tail _ (.head _))).exact fun es n z => by rw [hd] at z; exact nomatch z
 have et : s.heap.get? tb = some otb := (f.g.priv (tb, otb) (.head _)).exact fun es n z => by rw [hdt] at z; exact nomatch z
 refine wpAny_setFlight_none ea hd rfl et hdt hsz ?_
 have hd₃ := Obj.data_mapFields hdt (·.setIfInBounds 3 Value.none)
 have s1 := Heap.SameBut.update s.heap tb (Obj.mapFields (·.setIfInBounds 3 Value.none))
 have e₃ := Heap.get?_update_self (Obj.mapFields (·.setIfInBounds 3 Value.none)) et (Obj.isFreed_of_fields hd₃)
 have at' := ap (tb, otb) (.head _)
 have aa := ap (a, o) (.tail _ (.head _))
 obtain ⟨f₄, S₄⟩ := FRel.turn (P := (a, o) :: P) (o' := Obj.mapFields (·.setIfInBounds 3 Value.none) otb) (tk := s.toks) f (fun q => by
  refine O2 (List.mem_cons.mp q) (fun q => ?_) (fun q => ?_)
  ·exact hne q
  ·exact at'.1 q) at'.2 (fun v e => by rw [hdt] at e; exact nomatch e) (fun b x hb e => (s1.2 b hb).trans e) e₃
 refine k _ _ _ f₄ (fun p hp => ?_) S₄ hd₃ (by simpa using hsz)
 rcases List.mem_cons.mp hp with rfl | hp
 ·exact at'
 ·rw [List.mem_singleton] at hp; subst hp; exact aa
theorem x_tryVE {n : Nat} {body suite : List Stmt} {b₀ : Stmt} {x : Str} {xp hpos pos : Pos} {C : Prop} {Q : AF → AS → AM → Prop} (hX : X.Ok) (ok : bltAt X.K env x (.type "ValueError") = true) (hn : 50 ≤ n) (hfr : ∃ l, A.frames = some (env :: l)) (R : Room n A P (locOf env))
 (hb : ∀ s, FRel X P env st m s → wpAny (model X.prog X.w) A (execs body env) (fun fl s₁ => Post X P env st s EF Q fl s₁) (fun e s₁ => C ∧ Exc X P env st m s "ValueError" e s₁) s)
 (hh : C → ∀ A' P', WX X P' A' env st m (execs (b₀ :: suite) env) Q) :
 WX X P A env st m (exec (.Try body [.ExceptHandler (some (.Name x xp)) none (b₀ :: suite) hpos] [] [] pos) env) Q := fun s f => by
 refine E1 hfr fun outer hfr => ?_
 refine wpAny_Try_except (wpAny_mono (hb s f) (fun fl s₁ p => ?_) fun e s₁ p => ?_)
 ·cases fl with
  | next => exact wpAny_execs_nil p
  | _ => exact p
 ·obtain ⟨hC, a, o, t, rfl, hcls, hd, f₁, hP, hT, S₁, fra⟩ := p
  refine note_own hfr hn R f₁ hd hP hT fun s₂ tb otb o' tvs f₂ ap hne S₂ hc' hd' hdt hsz frt => ?_
  refine flight_own f₂ ap hne hd' hdt hsz fun s₃ otb' tvs' f₃ ap3 S₃ hdt' hsz' => ?_
  have St : Step (DD X st P (ownOf env)) s.heap s₃.heap := fun b x e nd => by
   have n1 : b ≠ a := fun q => by rw [q, fra] at e; exact J.ns e
   have e1 := S₁ b x e nd
   have n2 : b ≠ tb := fun q => by rw [q, frt] at e1; exact J.ns e1
   have e2 := S₂ b x e1 fun d => d.priv.elim n1 nd
   exact S₃ b x e2 fun d => by
    refine O2 (DD.app (Pi := [(tb, otb), (a, o')]) d) (fun q => ?_) (fun d => ?_)
    ·simp only [List.map_cons, List.map_nil, List.mem_cons, List.not_mem_nil, or_false] at q
     exact q.elim n2 n1
    ·exact nd d
  have ea : ∀ {s' : Shared} {otb}, FRel X ([(tb, otb), (a, o')] ++ P) env st m s' → s'.heap.get? a = some o' := fun f => (f.g.priv (a, o') (.tail _ (.head _))).exact fun es n z => by rw [hd'] at z; exact nomatch z
  refine wpAny_handleBy_builtin (X := "ValueError") (T := "ValueError") PySem.F.isExc_ValueError PySem.F.notTuple_ValueError PySem.F.self_ValueError (wpAny_mono ((e_blt (pos := xp) (A := A.mark (some (.ref a))) hX ok).on f₃ (G := fun c s₄ => c = .type "ValueError" ∧ FRel X ([(tb, otb'), (a, o')] ++ P) env st m s₄ ∧ Step (DD X st ([(tb, otb'), (a, o')] ++ P) (ownOf env)) s₃.heap s₄.heap) fun c s₄ f₄ r₄ S₄ => by cases r₄; exact ⟨rfl, f₄, S₄⟩) (fun c s₄ h => ?_) fun _ _ e => e.elim)
  refine A2 h fun hn7 hn8 => ?_; clear h; obtain rfl := hn7; refine A2 hn8 fun f₄ S₄ => ?_; clear hn8
  refine ⟨rfl, ⟨o', ea f₄, hc'.trans hcls⟩, ?_⟩
  rw [if_pos rfl]
  refine flight_own f₄ ap3 hne hd' hdt' hsz' fun s₅ otb'' tvs'' f₅ ap5 S₅ _ _ => ?_
  refine wpAny_mono (hh hC (A.mark (some (.ref a))) _ s₅ f₅) (fun fl s₆ p => ?_) fun _ _ e => e.elim
  obtain ⟨b', st', m', r', f', S', g', q⟩ := p
  have SX : Step (DD X st P (ownOf env)) s.heap s₆.heap := fun b x e nd => by
   have n1 : b ≠ a := fun q => by rw [q, fra] at e; exact J.ns e
   have e1 := S₁ b x e nd
   have n2 : b ≠ tb := fun q => by rw [q, frt] at e1; exact J.ns e1
   have nn : ∀ otb, ¬ DD X st ([(tb, otb), (a, o')] ++ P) (ownOf env) b := fun otb d => by
    refine O2 (DD.app (Pi := [(tb, otb), (a, o')]) d) (fun q => ?_) (fun d => ?_)
    ·simp only [List.map_cons, List.map_nil, List.mem_cons, List.not_mem_nil, or_false] at q
     exact q.elim n2 n1
    ·exact nd d
   exact S' b x (S₅ b x (S₄ b x (St b x e nd) (nn _)) (nn _)) (nn _)
  have fu : FRel X P env st' m' s₆ := f'.sub fun p hp => List.mem_append_right _ hp
  refine ⟨b', st', m', ?_, fu, SX, fun b x e d => ?_, q⟩
  ·cases fl <;> cases b' <;> first | exact r'.elim | trivial | exact VR.anti (DD.perm fun p hp => List.mem_append_right _ hp) r'
  ·by_cases q : DD X st P (ownOf env) b
   ·rcases q with q | q | q | q
    ·exact q
    ·exact absurd q (fu.g.off b d).1
    ·exact absurd d (fu.own b q).1
    ·exact absurd q (fu.g.off b d).2
   ·have n1 : b ≠ a := fun q => by rw [q, fra] at e; exact J.ns e
    have e1 := S₁ b x e q
    have n2 : b ≠ tb := fun q => by rw [q, frt] at e1; exact J.ns e1
    have nn : ∀ otb, ¬ DD X st ([(tb, otb), (a, o')] ++ P) (ownOf env) b := fun otb d => by
     refine O2 (DD.app (Pi := [(tb, otb), (a, o')]) d) (fun q' => ?_) (fun d => ?_)
     ·simp only [List.map_cons, List.map_nil, List.mem_cons, List.not_mem_nil, or_false] at q'
      exact q'.elim n2 n1
     ·exact q d
    exact g' b x (S₅ b x (S₄ b x (St b x e q) (nn _)) (nn _)) d
end
end J
namespace J
section
variable {X : Cx} {P : PL} {A : Around} {env : Env} {st : AS} {m : AM} {s : Shared}
theorem Exc.after {cls : String} {e : Value} {s₁ s₂ : Shared} (S : Step (DD X st P (ownOf env)) s.heap s₁.heap) (f : FRel X P env st m s₁) (x : Exc X P env st m s₁ cls e s₂) : Exc X P env st m s cls e s₂ := by
 refine E3A8 x fun a o t h1 h2 h3 h4 h5 h6 h7 h8 => ?_; clear x
 exact ⟨a, o, t, h1, h2, h3, h4, h5, h6, S.on h7, fresh_at f S h8⟩
theorem x_min {mn : Str} {mp cp kp pos tp : Pos} {ef ek : Expr} {ts : List Expr} {k : Nat} {q : Addr} {xs : List AV} {key : AV → Int} {Q : AF → AS → AM → Prop} (hX : X.Ok) (hA : A.handled = none) (ok : bltAt X.K env mn (.builtin "min") = true) (hf : EVL X P A env st m [ef] [.lst xs]) (he : EV X P A env st m (eval ek env) (.ref q))
 (hk : KeyC X P A.in1 env st m q xs key) (hT : ∀ b ∈ xs, (∀ c ∈ xs, key b ≤ key c) → ∃ F, ASG X P A env (.Tuple ts k tp) b F ∧ Q .next st (F m))
 (hs : swapsWithSole [.Tuple ts k tp] (.Call (.Name mn mp) [ef] [⟨some (Str.ofString "key"), ek, kp⟩] cp) pos.line env = pure false) (hw : swappedStores [.Tuple ts k tp] (.Call (.Name mn mp) [ef] [⟨some (Str.ofString "key"), ek, kp⟩] cp) env = pure none)
 (h1 : ∀ p, backTo p (starEach [ef] env) = (false, eval ef env) :: backTo p (starEach [] env)) (s : Shared) (f : FRel X P env st m s) :
 wpAny (model X.prog X.w) A (execs [.Assign [.Tuple ts k tp] (.Call (.Name mn mp) [ef] [⟨some (Str.ofString "key"), ek, kp⟩] cp) pos] env) (fun fl s₁ => Post X P env st s EF Q fl s₁) (fun e s₁ => xs = [] ∧ Exc X P env st m s "ValueError" e s₁) s := by
 refine wpAny_execs_cons (PyProof.Rows.Assign_Tuple ?_ hs hw)
 refine wpAny_Call_Name_kw (wpAny_mono ((e_blt (pos := mp) (A := A) hX ok).on f (G := fun c s₁ => c = .builtin "min" ∧ FRel X P env st m s₁ ∧ Step (DD X st P (ownOf env)) s.heap s₁.heap) fun c s₁ f₁ r S => by (first | cases r using VR.intE | cases r using VR.noneE | cases r using VR.boolE | cases r using VR.refE | cases r using VRs.nilE | cases r); exact ⟨rfl, f₁, S⟩) (fun c s₁ h => ?_) fun _ _ e => e.elim)
 refine A2 h fun hn1 hn2 => ?_; clear h; obtain rfl := hn1; refine A2 hn2 fun f₁ S₁ => ?_; clear hn2
 refine callWith_kw ?_ (h1 _) (by rw [h1]; rfl) rfl rfl
 refine wpAny_mono (hf cp s₁ f₁) (fun vs s₂ h => kws_cons (wpAny_mono (he.on h.2.1 (G := fun v s₃ => v = .ref q ∧ FRel X P env st m s₃ ∧ Step (DD X st P (ownOf env)) s₂.heap s₃.heap) fun v s₃ f₃ r₃ S₃ => by cases r₃; exact ⟨rfl, f₃, S₃⟩) (fun v s₃ h3 => kws_nil ?_) fun _ _ e => e.elim)) fun _ _ e => e.elim
 refine A3 h fun rv f₂ S₂ => ?_; clear h
 refine A2 h3 fun hn3 hn4 => ?_; clear h3; obtain rfl := hn3; refine A2 hn4 fun f₃ S₃ => ?_; clear hn4
 cases rv using VRs.consE with | cons rv rs => (first | cases rs using VR.intE | cases rs using VR.noneE | cases rs using VR.boolE | cases rs using VR.refE | cases rs using VRs.nilE | cases rs)
                                               have rv := rv.held S₃
                                               have SS := S₁.on (S₂.on S₃)
                                               refine wpAny_mono (call_minkey hA hk f₃ rv) (fun v s₄ p => ?_) fun e s₄ p => ⟨p.1, p.2.after SS f₃⟩
                                               obtain ⟨b, st', m', r', f₄, S₄, g₄, h2, h3, h4, h5⟩ := p
                                               subst h2 h3
                                               obtain ⟨F, hF, hQ⟩ := hT b h4 h5
                                               exact hF _ _ s₄ v f₄ r' _ _ fun s₅ f₅ S₅ => wpAny_execs_nil ⟨.next, _, _, trivial, f₅, (SS.on S₄).on S₅, Gr.refl _ _, hQ⟩
end
end J
namespace J
noncomputable def gl (gens : Array GenState) : List (Nat × GenState) := (List.range gens.size).filterMap fun k => gens[k]?.map fun x => (k, x)
theorem mem_gl {gens : Array GenState} {k : Nat} {x : GenState} : (k, x) ∈ gl gens ↔ gens[k]? = some x := by
 unfold gl
 rw [List.mem_filterMap]
 constructor
 ·intro hr1; refine E1A2 hr1 fun j _ e => ?_; clear hr1
  refine E1A2 (Option.map_eq_some_iff.mp e) fun y h1 h2 => ?_
  cases h2; exact h1
 ·intro e
  refine ⟨k, List.mem_range.mpr ?_, by rw [e]; rfl⟩
  refine O2 (Nat.lt_or_ge k gens.size) (fun h => ?_) (fun h => ?_)
  ·exact h
  ·rw [Array.getElem?_eq_none h] at e; exact J.ns e
noncomputable abbrev X0 (X : Cx) (gens : Array GenState) : Cx := { X with tabs := [], pg := gl gens }
noncomputable abbrev noSt : AS := fun _ => none
section
variable {X : Cx} {P : PL} {A : Around} {env genv : Env} {st : AS} {m mg mf : AM} {s : Shared}
theorem GRel.cong {D : Addr → Prop} {s' : Shared} {pg : List (Nat × GenState)} (g : GRel X D st P s) (h : s'.heap = s.heap) (hg : AllBare s'.gens) (hp : ∀ p ∈ pg, s'.gens[p.1]? = some p.2) (ho : s'.os = s.os) : GRel { X with pg := pg } D st P s' :=
 ⟨fun b o e => by rw [h]; exact g.base b o e, fun t ht => by rw [h]; exact g.tabs t ht, fun a o e => by rw [h]; exact g.objs a o e, g.lo, fun p hp => by rw [h]; exact g.priv p hp, g.off, ⟨hg, hp⟩, ho.trans g.os, g.tabc, g.nolim, g.tabp⟩
theorem FRel.cong {s' : Shared} {pg : List (Nat × GenState)} (f : FRel X P env st m s) (h : s'.heap = s.heap) (hg : AllBare s'.gens) (hp : ∀ p ∈ pg, s'.gens[p.1]? = some p.2) (ho : s'.os = s.os) : FRel { X with pg := pg } P env st m s' :=
 ⟨f.g.cong h hg hp ho, by rw [h]; exact f.f, f.own⟩
structure GPar where
 I : Addr
 S : Addr
 l : Addr
 vs : List Value
 xs : List AV
 mf : AM
 scope : Scope
 genv : Env
noncomputable def GPar.D (Gp : GPar) (b : Addr) : Prop := b = Gp.I ∨ b = Gp.S ∨ ownOf Gp.genv b
structure WRel (X : Cx) (gens : Array GenState) (G : GPar) (i : Nat) (mg : AM) (oI oS : Obj) (s : Shared) : Prop where
 f : FRel (X0 X gens) [(G.I, oI), (G.S, oS)] G.genv noSt mg s
 cls : oI.cls = .type "list_iterator"
 data : oI.data = .fields #[.ref G.l, .int i 0]
 seq : ∃ us n, oS.data = .seq us n
 free : ∀ y, G.scope.names.lookup y = some .free → mg y = G.mf y
 held : HeldL G.D s.heap G.l G.vs G.xs
theorem WRel.dd {gens : Array GenState} {G : GPar} {oI oS : Obj} (b : Addr) : DD (X0 X gens) noSt [(G.I, oI), (G.S, oS)] (ownOf G.genv) b ↔ G.D b := by
 unfold DD GPar.D Cx.isTab Dom
 simp only [List.map_cons, List.map_nil, List.mem_cons, List.not_mem_nil, or_false]
 constructor
 ·rintro (⟨_, _, h, _⟩ | (h | h) | h)
  ·exact J.ns h
  ·exact .inl h
  ·exact .inr (.inl h)
  ·exact .inr (.inr h)
 ·rintro (h | h | h)
  ·exact .inr (.inl (.inl h))
  ·exact .inr (.inl (.inr h))
  ·exact .inr (.inr h)
structure SinceE (G : GPar) (s₀ s : Shared) : Prop where
 heap : ∀ b o, b ≠ G.genv.locals → b ≠ G.I → s₀.heap.get? b = some o → s.heap.get? b = some o
 gens : ∀ (k : Nat) (x : GenState), s₀.gens[k]? = some x → s.gens[k]? = some x
 bare : AllBare s.gens
 os : s.os = s₀.os
 loc : ∃ o es n, s.heap.get? G.genv.locals = some o ∧ o.data = .dict es n
structure Since (G : GPar) (s₀ s : Shared) : Prop extends SinceE G s₀ s where
 it : ∃ o vs, s.heap.get? G.I = some o ∧ o.data = .fields vs
noncomputable def RsOk (G : GPar) (s s'' : Shared) : Prop := (∀ b o, b ≠ G.S → s.heap.get? b = some o → s''.heap.get? b = some o) ∧ (∃ o us n, s''.heap.get? G.S = some o ∧ o.data = .seq us n) ∧ AllBare s''.gens ∧ s''.os = s.os
theorem WRel.resume {gens : Array GenState} {G : GPar} {i : Nat} {oI oS : Obj} {s'' : Shared} (hSI : G.S ≠ G.I) (w : WRel X gens G i mg oI oS s) (h : RsOk G s s'') : ∃ oS', WRel X s''.gens G i mg oI oS' s'' := by
 refine A4 h fun h1 hn1 h3 h4 => ?_; clear h; refine E3A2 hn1 fun o us n e hd => ?_; clear hn1
 refine E2 (w.seq) fun us0 n0 hs0 => ?_
 have f' : FRel (X0 X gens) ((G.S, oS) :: [(G.I, oI)]) G.genv noSt mg s := w.f.sub fun p hp => by
  rcases List.mem_cons.mp hp with rfl | hp
  ·exact .tail _ (.head _)
  ·rw [List.mem_singleton] at hp; subst hp; exact .head _
 refine A2 (f'.turn (h' := s''.heap) (o' := o) (tk := s.toks) (by simpa using hSI) (by unfold Cx.isTab; simp) (fun v z => by rw [hs0] at z; exact nomatch z) (fun b x hb e => h1 b x hb e) e) fun f₁ S₁ => ?_
 have f₂ : FRel (X0 X gens) [(G.I, oI), (G.S, o)] G.genv noSt mg _ := f₁.sub fun p hp => by
  rcases List.mem_cons.mp hp with rfl | hp
  ·exact .tail _ (.head _)
  ·rw [List.mem_singleton] at hp; subst hp; exact .head _
 refine ⟨o, ⟨f₂.cong (s' := s'') rfl h3 (fun p hp => mem_gl.mp hp) h4, w.cls, w.data, ⟨us, n, hd⟩, w.free, ?_⟩⟩
 refine A3 (w.held) fun nd hn2 r => ?_; refine E1 hn2 fun c el => ?_; clear hn2
 have k : ∀ b o, s.heap.get? b = some o → ¬ G.D b → s''.heap.get? b = some o ∧ ¬ G.D b := fun b o e nd => ⟨h1 b o (fun q => nd (.inr (.inl q))) e, nd⟩
 exact ⟨nd, ⟨c, (k _ _ el nd).1⟩, r.move k⟩
noncomputable def GenB (X : Cx) (n : Nat) (G : GPar) (x : Str) (ifs : List Expr) (es : List Expr) (pz : AV → Bool) (bs : Value → AV → List AV) : Prop :=
 ∀ gens P' A' mg v a, Room n A' P' (locOf G.genv) → (v, a) ∈ G.vs.zip G.xs → (∀ y, G.scope.names.lookup y = some .free → mg y = G.mf y) →
  EvIfs (X0 X gens) P' A' G.genv noSt (upd mg x (.obj v a)) ifs (pz a) ∧ (pz a = true → EVL (X0 X gens) P' A' G.genv noSt (upd mg x (.obj v a)) es (bs v a))
noncomputable def rem (G : GPar) (pz : AV → Bool) (i : Nat) : List (Value × AV) := ((G.vs.zip G.xs).drop i).filter fun p => pz p.2
noncomputable def Yp (G : GPar) (pz : AV → Bool) (bs : Value → AV → List AV) : Protocol := fun k s₀ y s kap =>
 (∃ p T us o c, (rem G pz 0)[(rem G pz 0).length - 1 - k]? = some p ∧ y = .ref T ∧ s₀.heap.get? T = none ∧ s.heap.get? T = some o ∧ o.cls = .type "tuple" ∧ o.data = .seq (List.toArray us) c ∧ VRs G.D s.heap us (bs p.1 p.2)) ∧ Since G s₀ s ∧ ∀ s'', RsOk G s s'' → kap (.send .none) s''
theorem rem_step {G : GPar} {pz : AV → Bool} {i : Nat} {v : Value} {a : AV} (h1 : G.vs[i]? = some v) (h2 : G.xs[i]? = some a) : rem G pz i = if pz a then (v, a) :: rem G pz (i + 1) else rem G pz (i + 1) := by
 unfold rem
 have h : (G.vs.zip G.xs)[i]? = some (v, a) := by rw [List.getElem?_zip_eq_some]; exact ⟨h1, h2⟩
 have hlt : i < (G.vs.zip G.xs).length := by refine O2 (Nat.lt_or_ge i (G.vs.zip G.xs).length) (fun q => ?_) (fun q => ?_); exact q; rw [List.getElem?_eq_none_iff.mpr q] at h; exact J.ns h
 rw [List.drop_eq_getElem_cons hlt]
 have : (G.vs.zip G.xs)[i] = (v, a) := by rw [List.getElem?_eq_getElem hlt] at h; exact Option.some.inj h
 rw [this, List.filter_cons]
theorem rem_at {G : GPar} {pz : AV → Bool} {i : Nat} {p : Value × AV} (h : rem G pz i = p :: rem G pz (i + 1)) : (rem G pz 0)[(rem G pz 0).length - 1 - (rem G pz (i + 1)).length]? = some p := by
 have e : rem G pz 0 = ((G.vs.zip G.xs).take i).filter (fun p => pz p.2) ++ rem G pz i := by
  unfold rem; rw [List.drop_zero, ← List.filter_append, List.take_append_drop]
 rw [e, h, List.length_append, List.length_cons]
 rw [List.getElem?_append_right n8]
 have : (((G.vs.zip G.xs).take i).filter (fun p => pz p.2)).length + ((rem G pz (i + 1)).length + 1) - 1 - (rem G pz (i + 1)).length - (((G.vs.zip G.xs).take i).filter (fun p => pz p.2)).length = 0 := n7
 rw [this]; rfl
noncomputable abbrev gE (es : List Expr) (k : Nat) (tp : Pos) (x : Str) (px : Pos) (iter : Expr) (ifs : List Expr) (scope : Scope) (pos : Pos) : Expr := .GeneratorExp (.Tuple es k tp) [⟨.Name x px, iter, ifs, 0⟩] scope pos
structure Roomy (n : Nat) (A : Around) : Prop where
 handled : A.handled = none
 depth : A.depth + 2 * n + 112 < recursionLimit
 units : A.units + 20 * n + 10 < cLine
 small : n < 50
theorem WRel.next {gens : Array GenState} {G : GPar} {i j : Nat} {oI oS oI' : Obj} {s₁ : Shared} {mg' : AM} (hkind : ∀ b, ownOf G.genv b → b = G.genv.locals) (w : WRel X gens G i mg oI oS s) (w' : WRel X gens G j mg' oI' oS s₁)
 (S : ∀ b o, s.heap.get? b = some o → ¬ G.D b → s₁.heap.get? b = some o) : ∀ b o, b ≠ G.genv.locals → b ≠ G.I → s.heap.get? b = some o → s₁.heap.get? b = some o := fun b o h1 h2 e => by
 refine E2 (w.seq) fun us n hs => ?_
 by_cases q : b = G.S
 ·subst q
  have e1 := (w.f.g.priv (G.S, oS) (.tail _ (.head _))).exact fun es n z => by rw [hs] at z; exact nomatch z
  rw [e] at e1; cases e1
  exact (w'.f.g.priv (G.S, oS) (.tail _ (.head _))).exact fun es n z => by rw [hs] at z; cases z
 ·exact S b o e fun d => by
   rcases d with d | d | d
   ·exact h2 d
   ·exact q d
   ·exact h1 (hkind b d)
theorem Since.refl {gens : Array GenState} {G : GPar} {i : Nat} {oI oS : Obj} (w : WRel X gens G i mg oI oS s) : Since G s s := by
 refine ⟨⟨fun b o _ _ e => e, fun k x e => e, w.f.g.gens.1, rfl, ?_⟩, ?_⟩
 ·refine E1A2 (w.f.f.ns) fun mv hn3 _ => ?_; refine E3A3 hn3 fun o es ep e hd _ => ?_; clear hn3
  exact ⟨o, es, ep, e, hd⟩
 ·exact ⟨oI, _, (w.f.g.priv (G.I, oI) (.head _)).exact (fun es n z => by rw [w.data] at z; exact nomatch z), w.data⟩
theorem Since.on {G : GPar} {i j : Nat} {oI oS oI' : Obj} {s₀ s₁ : Shared} {mg' : AM} (hkind : ∀ b, ownOf G.genv b → b = G.genv.locals) (sc : Since G s₀ s) (w : WRel X s₀.gens G i mg oI oS s) (w' : WRel X s₀.gens G j mg' oI' oS s₁)
 (S : ∀ b o, s.heap.get? b = some o → ¬ G.D b → s₁.heap.get? b = some o) : Since G s₀ s₁ := by
 refine ⟨⟨fun b o h1 h2 e => w.next hkind w' S b o h1 h2 (sc.heap b o h1 h2 e), fun k x e => w'.f.g.gens.2 (k, x) (mem_gl.mpr e), w'.f.g.gens.1, w'.f.g.os.trans (w.f.g.os.symm.trans sc.os), ?_⟩, ?_⟩
 ·refine E1A2 (w'.f.f.ns) fun mv hn4 _ => ?_; refine E3A3 hn4 fun o es ep e hd _ => ?_; clear hn4
  exact ⟨o, es, ep, e, hd⟩
 ·exact ⟨oI', _, (w'.f.g.priv (G.I, oI') (.head _)).exact (fun es n z => by rw [w'.data] at z; exact nomatch z), w'.data⟩
theorem seg_own {n : Nat} {G : GPar} {x : Str} {px tp pos : Pos} {iter : Expr} {ifs es : List Expr} {k : Nat} {scope : Scope} {pz : AV → Bool} {bs : Value → AV → List AV} (hr : Roomy n A) (hSI : G.S ≠ G.I) (hlen : G.vs.length = G.xs.length)
 (hkind : ∀ b, ownOf G.genv b → b = G.genv.locals) (hx : storeOk G.genv x = true) (hxf : G.scope.names.lookup x ≠ some .free) (hco : G.genv.scope.isCoroutine = false) (hcl : G.genv.locals ≠ G.I ∧ G.genv.locals ≠ G.S) (hsz : ∀ v a, (v, a) ∈ G.vs.zip G.xs → (bs v a).length ≤ sizeLine)
 (hB : GenB X n G x ifs es pz bs) : ∀ (r i : Nat) (s₀ s : Shared) (mg : AM) (oI oS : Obj), G.xs.length - i = r → i ≤ G.xs.length → WRel X s₀.gens G i mg oI oS s → Since G s₀ s →
  Seg (model X.prog X.w) A (fun n s₀ r s₁ => r = .ok .next ∧ (n = 0 ∧ SinceE G s₀ s₁)) (Yp G pz bs) (rem G pz i).length s₀
   (.compLoop (gE es k tp x px iter ifs scope pos) 0 (.ref G.I) .none G.genv)
   ((model X.prog X.w).den (.compLoop (gE es k tp x px iter ifs scope pos) 0 (.ref G.I) .none G.genv)) [] s := by
 have hrA : ∀ P', Room n (A.over (.compLoop (gE es k tp x px iter ifs scope pos) 0 (.ref G.I) .none G.genv) []) P' (locOf G.genv) := fun P' =>
  ⟨hr.handled, by have := hr.depth; show A.depth + 0 + 1 + 2 * n + 110 < _; lia, by have := hr.units; show A.units + 0 + 3 + 20 * n < _; lia, fun h => absurd hr.small (by lia)⟩
 intro r
 induction r with
 | zero =>
  intro i s₀ s mg oI oS hr' hi w sc
  have hin : i = G.xs.length := nE hr' hi
  subst hin
  have hit : s.heap.IsListIter G.I G.l G.xs.length := ⟨oI, (w.f.g.priv (G.I, oI) (.head _)).exact (fun es n z => by rw [w.data] at z; exact nomatch z), w.cls, w.data⟩
  refine A3 (w.held) fun nd pl rs => ?_
  show Seg _ A _ _ _ s₀ _ ((compTurn (gE es k tp x px iter ifs scope pos) 0 (.ref G.I) .none G.genv).onRaise (leaving G.genv)) [] s
  rw [compTurn_gen, Sem.onRaise_eq_wrap]
  refine seg_bind_wrap (wpAny_standAt ?_)
  refine seg_bind_wrap (wpAny_pyNext_list_end (hrA []).handled hit (PlainList.isList pl) (by rw [List.getElem?_toArray, List.getElem?_eq_none_iff, rs.length]; exact Nat.le_refl _) fun h' hs' => ?_)
  refine seg_end (.ok .next) ⟨rfl, ?_, ?_⟩
  ·unfold rem; rw [List.drop_eq_nil_iff.mpr (by rw [List.length_zip, hlen]; exact Nat.min_le_left _ _)]; rfl
  ·refine ⟨fun b o h1 h2 e => hs' b o h2 (sc.heap b o h1 h2 e), sc.gens, sc.bare, sc.os, ?_⟩
   refine E3A2 (sc.loc) fun o es n e hd => ?_
   exact ⟨o, es, n, hs' _ _ hcl.1 e, hd⟩
 | succ r ih =>
  intro i s₀ s mg oI oS hr' hi w sc
  have hlt : i < G.xs.length := nL hr'
  have eI : s.heap.get? G.I = some oI := (w.f.g.priv (G.I, oI) (.head _)).exact (fun es n z => by rw [w.data] at z; exact nomatch z)
  have hit : s.heap.IsListIter G.I G.l i := ⟨oI, eI, w.cls, w.data⟩
  refine A3 (w.held) fun nd pl rs => ?_
  obtain ⟨a, ha⟩ : ∃ a, G.xs[i]? = some a := ⟨G.xs[i], List.getElem?_eq_getElem hlt⟩
  refine E1A2 (rs.get i a ha) fun v hv rv => ?_
  have hmem : (v, a) ∈ G.vs.zip G.xs := List.mem_of_getElem? (i := i) (by rw [List.getElem?_zip_eq_some]; exact ⟨hv, ha⟩)
  show Seg _ A _ _ _ s₀ _ ((compTurn (gE es k tp x px iter ifs scope pos) 0 (.ref G.I) .none G.genv).onRaise (leaving G.genv)) [] s
  rw [compTurn_gen, Sem.onRaise_eq_wrap]
  refine seg_bind_wrap (wpAny_standAt ?_)
  refine seg_bind_wrap (wpAny_pyNext_list_item hit (PlainList.isList pl) (x := v) (by rw [List.getElem?_toArray]; exact hv) fun h' hit' hs' => ?_)
  refine E1A3 hit' fun oI' eI' hc' hd' => ?_; clear hit'
  have kk : ∀ b x, b ≠ G.I → s.heap.get? b = some x → h'.get? b = some x := fun b x hb e => (hs'.2 b hb).trans e
  refine A2 (w.f.turn (o' := oI') (tk := s.toks) (by simpa using Ne.symm hSI) (by unfold Cx.isTab; simp) (fun v z => by rw [w.data] at z; exact nomatch z) kk eI') fun f₁ S₁ => ?_
  refine seg_bind_wrap (wpAny_of_eq (rfl : letOwnedTupleGo (.Name x px) (.ref G.I) v = pure ()) ?_)
  have SD : ∀ {h h' : Heap} {oI oS}, Step (DD (X0 X s₀.gens) noSt [(G.I, oI), (G.S, oS)] (ownOf G.genv)) h h' → ∀ b o, h.get? b = some o → ¬ G.D b → h'.get? b = some o := fun S b o e nd => S b o e fun d => nd ((WRel.dd b).mp d)
  have rv₁ : VR (DD (X0 X s₀.gens) noSt [(G.I, oI'), (G.S, oS)] (ownOf G.genv)) h' v (.obj v a) := .obj (rv.move fun b o e nd => ⟨SD S₁ b o e nd, fun d => nd ((WRel.dd b).mp d)⟩)
  refine seg_bind_wrap (wpAny_assign_Name (f₁.store rv₁ (storeOk_kind hx) fun s₂ f₂ S₂ => ?_))
  have S₁₂ : ∀ b o, s.heap.get? b = some o → ¬ G.D b → s₂.heap.get? b = some o := fun b o e nd => SD S₂ b o (SD S₁ b o e nd) nd
  have held₂ : HeldL G.D s₂.heap G.l G.vs G.xs := let ⟨c, e⟩ := pl; ⟨nd, ⟨c, S₁₂ _ _ e nd⟩, rs.move fun b o e nd => ⟨S₁₂ b o e nd, nd⟩⟩
  have w₂ : WRel X s₀.gens G (i + 1) (upd mg x (.obj v a)) oI' oS s₂ := ⟨f₂, hc', hd', w.seq, fun y hy => by
   have hyx : y ≠ x := fun q => hxf (by rw [← q]; exact hy)
   rw [upd_ne hyx]; exact w.free y hy, held₂⟩
  have sc₂ := sc.on hkind w w₂ S₁₂
  refine A2 (hB s₀.gens [(G.I, oI'), (G.S, oS)] _ mg v a (hrA _) hmem w.free) fun hI hT => ?_
  refine seg_bind_wrap (wpAny_mono (hI.on f₂ (G := fun ok s₃ => ok = pz a ∧ FRel (X0 X s₀.gens) [(G.I, oI'), (G.S, oS)] G.genv noSt (upd mg x (.obj v a)) s₃ ∧ Step (DD (X0 X s₀.gens) noSt [(G.I, oI'), (G.S, oS)] (ownOf G.genv)) s₂.heap s₃.heap) fun s₃ f₃ S₃ => ⟨rfl, f₃, S₃⟩) (fun ok s₃ h₃ => ?_) fun _ _ e => e.elim)
  refine A2 h₃ fun hn5 hn6 => ?_; clear h₃; obtain rfl := hn5; refine A2 hn6 fun f₃ S₃ => ?_; clear hn6
  have held₃ : HeldL G.D s₃.heap G.l G.vs G.xs := let ⟨nd, ⟨c, e⟩, r⟩ := held₂; ⟨nd, ⟨c, SD S₃ _ _ e nd⟩, r.move fun b o e nd => ⟨SD S₃ b o e nd, nd⟩⟩
  have w₃ : WRel X s₀.gens G (i + 1) (upd mg x (.obj v a)) oI' oS s₃ := ⟨f₃, hc', hd', w.seq, w₂.free, held₃⟩
  have sc₃ := sc₂.on hkind w₂ w₃ (SD S₃)
  have hrem := rem_step (pz := pz) hv ha
  cases hpz : pz a with
  | false =>
   rw [hpz] at hrem
   rw [hrem, if_neg (by decide)]
   simp only [Bool.false_eq_true, if_false]
   exact seg_again rfl (ih (i + 1) s₀ s₃ _ _ _ (nS hr') hlt w₃ sc₃)
  | true =>
   rw [hpz, if_pos rfl] at hrem
   have hat := rem_at hrem
   rw [hrem, List.length_cons]
   simp only [if_true]
   have hy : ∀ v, yieldOut G.genv v = yieldValue v := fun v => by simp only [yieldOut, hco, Bool.false_eq_true, if_false]
   simp only [hy]
   rw [Sem.bind_eq_wrap', Sem.bind_eq_wrap', Sem.wrap_wrap, Sem.wrap_wrap]
   refine seg_wrap (wpAny_Tuple (wpAny_mono (hT hpz _ s₃ f₃) (fun us s₄ ⟨ru, f₄, S₄⟩ => ⟨by rw [ru.length]; exact hsz v a hmem, ?_⟩) fun _ _ e => e.elim))
   have k₅ : ∀ b o, s₄.heap.get? b = some o → (s₄.heap.push { cls := .type "tuple", data := .seq us.toArray }).get? b = some o := fun b o e => Heap.get?_push_of_some _ e
   have f₅ := f₄.push { cls := .type "tuple", data := .seq us.toArray } (tk := s₄.toks)
   have S₃₅ : ∀ b o, s₃.heap.get? b = some o → ¬ G.D b → (s₄.heap.push { cls := .type "tuple", data := .seq us.toArray }).get? b = some o := fun b o e nd => k₅ b o (SD S₄ b o e nd)
   have held₅ : HeldL G.D (s₄.heap.push { cls := .type "tuple", data := .seq us.toArray }) G.l G.vs G.xs := let ⟨nd, ⟨c, e⟩, r⟩ := held₃; ⟨nd, ⟨c, S₃₅ _ _ e nd⟩, r.move fun b o e nd => ⟨S₃₅ b o e nd, nd⟩⟩
   have w₅ : WRel X s₀.gens G (i + 1) (upd mg x (.obj v a)) oI' oS { s₄ with heap := s₄.heap.push { cls := .type "tuple", data := .seq us.toArray }, toks := s₄.toks } := ⟨f₅, hc', hd', w.seq, w₂.free, held₅⟩
   have sc₅ := sc₃.on hkind w₃ w₅ S₃₅
   have eT : (s₄.heap.push { cls := .type "tuple", data := .seq us.toArray }).get? s₄.heap.objs.size = some { cls := .type "tuple", data := .seq us.toArray } := Heap.get?_push_size _ rfl
   refine seg_at (seg_yield rfl rfl rfl ⟨⟨_, s₄.heap.objs.size, us, _, 0, hat, rfl, ?_, eT, rfl, rfl, ?_⟩, sc₅, fun s'' hok => ?_⟩)
   ·cases q : s₀.heap.get? s₄.heap.objs.size with
    | none => rfl
    | some o =>
     exfalso
     have n4 : ¬ ∃ o, s₄.heap.get? s₄.heap.objs.size = some o := fun ⟨o, e⟩ => by rw [get_size] at e; exact J.ns e
     by_cases d : G.D s₄.heap.objs.size
     ·exact n4 (f₄.din ((WRel.dd _).mpr d))
     ·have e2 := sc₃.heap _ _ (fun q => d (.inr (.inr (.inl q)))) (fun q => d (.inl q)) q
      exact n4 ⟨o, SD S₄ _ _ e2 d⟩
   ·exact ru.move fun b o e nd => ⟨k₅ b o e, fun d => nd ((WRel.dd b).mpr d)⟩
   ·refine E1 (w₅.resume hSI hok) fun oS' w₆ => ?_
    exact seg_again rfl (ih (i + 1) s'' s'' _ _ _ (nS hr') hlt w₆ (Since.refl w₆))
end
end J
namespace J
section
variable {X : Cx} {P : PL} {A : Around} {env genv : Env} {st : AS} {m mg mf : AM} {s : Shared}
theorem FRel.unprivL {h' : Heap} {tk : Nat} {Pi : PL} (f : FRel X (Pi ++ P) env st m s) (ap : Apart X Pi P) (hC : ∀ p ∈ Pi, ∀ v, p.2.data ≠ .cell v)
 (k : ∀ b x, b ∉ Pi.map (·.1) → s.heap.get? b = some x → h'.get? b = some x) :
 FRel X P env st m { s with heap := h', toks := tk } ∧ Step (DD X st (Pi ++ P) (ownOf env)) s.heap h' := by
 have hd : ∀ b, b ∈ Pi.map (·.1) → DD X st (Pi ++ P) (ownOf env) b := fun b hb => .inr (.inl (by rw [List.map_append, List.mem_append]; exact .inl hb))
 have w : ∀ b, DD X st P (ownOf env) b → DD X st (Pi ++ P) (ownOf env) b := DD.perm fun p hp => List.mem_append_right _ hp
 have S : ∀ b x, s.heap.get? b = some x → ¬ DD X st (Pi ++ P) (ownOf env) b → h'.get? b = some x ∧ ¬ DD X st P (ownOf env) b := fun b x e' nd => ⟨k b x (fun q => nd (hd b q)) e', fun d => nd (w b d)⟩
 have nP : ∀ b, b ∈ Pi.map (·.1) → b ∉ P.map (·.1) ∧ ¬ X.isTab b := fun b hb => by
  refine E1A2 (List.mem_map.mp hb) fun p hp hn1 => ?_; obtain rfl := hn1; exact ap p hp
 have kD : ∀ b x, Dom st b → s.heap.get? b = some x → h'.get? b = some x := fun b x d => k b x fun q => (f.g.off b d).1 (by rw [List.map_append, List.mem_append]; exact .inl q)
 have kO : ∀ b x, ownOf env b → s.heap.get? b = some x → h'.get? b = some x := fun b x d => k b x fun q => (f.own b d).2.1 (by rw [List.map_append, List.mem_append]; exact .inl q)
 have bB : ∀ b x, X.g0.get? b = some x → b ∉ Pi.map (·.1) := fun b x e q => by have := f.g.lo b (hd b q); rw [e] at this; exact J.sn this
 refine ⟨⟨⟨fun b x e' => k b x (bB b x e') (f.g.base b x e'), fun t ht => ?_, fun b x e' => (f.g.objs b x e').move S fun c hc y => kD c y ⟨b, x, e', hc⟩, fun b d => f.g.lo b (w b d), fun p hp => (f.g.priv p (List.mem_append_right _ hp)).by fun o => k _ o (fun q => (nP _ q).1 (List.mem_map_of_mem hp)), fun b d => ⟨fun q => (f.g.off b d).1 (by rw [List.map_append, List.mem_append]; exact .inr q), (f.g.off b d).2⟩, f.g.gens, f.g.os, f.g.tabc, f.g.nolim, fun t ht q => f.g.tabp t ht (by rw [List.map_append, List.mem_append]; exact .inr q)⟩,
  ⟨f.f.kind, f.f.glob, f.f.bi, let ⟨mv, a, b⟩ := f.f.ns; ⟨mv, a.at' fun x => kO _ x (.inl rfl), fun x e => (b x e).move S⟩, fun x hx => ?_, f.f.apart, f.f.apartL⟩, fun b hb => ⟨(f.own b hb).1, fun q => (f.own b hb).2.1 (by rw [List.map_append, List.mem_append]; exact .inr q), (f.own b hb).2.2⟩⟩, fun b x e' nd => (S b x e' nd).1⟩
 ·refine E1A2 (f.g.tabs t ht) fun more a1 b1 => ?_
  refine E1 (f.g.tabc t ht) fun y z => ?_
  have c1 := bB _ _ z
  have c2 : t.2.1 ∉ Pi.map (·.1) := fun q => (nP _ q).2 (List.mem_map_of_mem ht)
  refine A2 a1 fun hn2 e2 => ?_; clear a1; refine E2A2 hn2 fun o us e1 r1 => ?_; clear hn2
  obtain ⟨o', us', file, tf, flags, tg, inF, text, tt, op, e3, h2, h3, h4, h5, h6, h7, e4, r4⟩ := b1
  exact ⟨more, ⟨⟨o, us, k _ _ c1 e1, r1⟩, k _ _ c2 e2⟩, o', us', file, tf, flags, tg, inF, text, tt, op, k _ _ c1 e3, h2, h3, h4, h5, h6, h7, k _ _ c2 e4, r4⟩
 ·refine E2A3 (f.f.cl x hx) fun c ov h1 h2 h3 => ?_
  refine ⟨c, ov, h1, ?_, h3.move S⟩
  refine E1A2 h2 fun y z w => ?_; clear h2
  refine ⟨y, k c y (fun q => ?_) z, w⟩
  refine E1A2 (List.mem_map.mp q) fun p hp hn3 => ?_; obtain rfl := hn3
  refine E1A2 ((f.g.priv p (List.mem_append_left _ hp)).data) fun o2 this hd2 => ?_
  rw [z] at this; revert this; refine J.sse ?_; rintro rfl; exact hC p hp _ (hd2.symm.trans w)
noncomputable abbrev gEnd (G : GPar) : GenEnd := fun n s₀ r s₁ => r = .ok .next ∧ (n = 0 ∧ SinceE G s₀ s₁)
noncomputable def GSt (X : Cx) (A : Around) (G : GPar) (pz : AV → Bool) (bs : Value → AV → List AV) (k : Nat) (gs : GenState) (s : Shared) : Prop :=
 ∀ s'', RsOk G s s'' → gs.Goes (model X.prog X.w) A.in1 (gEnd G) (Yp G pz bs) k (.send .none) s''
theorem gst_fresh {n : Nat} {G : GPar} {x : Str} {px tp pos : Pos} {iter : Expr} {ifs es : List Expr} {k : Nat} {scope : Scope} {pz : AV → Bool} {bs : Value → AV → List AV} {gens : Array GenState} {oI oS : Obj} (hr : Roomy n A.in1) (hSI : G.S ≠ G.I) (hlen : G.vs.length = G.xs.length)
 (hkind : ∀ b, ownOf G.genv b → b = G.genv.locals) (hx : storeOk G.genv x = true) (hxf : G.scope.names.lookup x ≠ some .free) (hco : G.genv.scope.isCoroutine = false) (hcl : G.genv.locals ≠ G.I ∧ G.genv.locals ≠ G.S) (hsz : ∀ v a, (v, a) ∈ G.vs.zip G.xs → (bs v a).length ≤ sizeLine)
 (hB : GenB X n G x ifs es pz bs) (w : WRel X gens G 0 mg oI oS s) :
 GSt X A G pz bs (rem G pz 0).length (.fresh (.compStart (gE es k tp x px iter ifs scope pos) 0 (.ref G.I) .none G.genv)) s := fun s'' hok => by
 refine E1 (w.resume hSI hok) fun oS' w' => ?_
 refine ⟨rfl, ?_⟩
 have hit : s''.heap.IsListIter G.I G.l 0 := ⟨oI, (w'.f.g.priv (G.I, oI) (.head _)).exact (fun es n z => by rw [w'.data] at z; exact nomatch z), w'.cls, w'.data⟩
 have loop := seg_own (iter := iter) (px := px) (scope := scope) (pos := pos) (tp := tp) (k := k) hr hSI hlen hkind hx hxf hco hcl hsz hB G.xs.length 0 s'' s'' mg oI oS' (Nat.sub_zero _) (Nat.zero_le _) w' (Since.refl w')
 show Seg _ A.in1 _ _ _ s'' _ ((compStart (gE es k tp x px iter ifs scope pos) 0 (.ref G.I) .none G.genv).onRaise (leaving G.genv)) [] s''
 unfold compStart
 rw [Sem.onRaise_eq_wrap]
 show Seg _ A.in1 _ _ _ s'' _ ((ask >>= _).wrap _ _ _ _) [] s''
 refine seg_bind_wrap (wpAny_askSetting ?_)
 split
 ·exact seg_again rfl loop
 ·first
   | exact seg_bind_wrap (wpAny_rule (seg_bind_wrap (wpAny_standAt (seg_bind_wrap (wpAny_pyIter_listiter hit (seg_again rfl loop))))))
   | (refine seg_bind_wrap (wpAny_rule ?_); show Seg _ A.in1 _ _ _ s'' _ ((standAt iter.pos >>= _).wrap _ _ _ _) [] s''; exact seg_bind_wrap (wpAny_standAt (seg_bind_wrap (wpAny_pyIter_listiter hit (seg_again rfl loop)))))
structure GLoop (X : Cx) (A : Around) (G : GPar) (pz : AV → Bool) (bs : Value → AV → List AV) (a : Addr) (g : Nat) (s₀ : Shared) (k : Nat) (acc : List Value) (s : Shared) : Prop where
 heap : ∀ b o, b ≠ G.genv.locals → b ≠ G.I → b ≠ G.S → s₀.heap.get? b = some o → s.heap.get? b = some o
 list : ∃ c, s.heap.get? G.S = some ⟨.type "list", none, .seq acc.toArray c, #[]⟩
 gen : ∃ gs, s.gens[g]? = some gs ∧ GSt X A G pz bs k gs s
 gens : ∀ (j : Nat) (x : GenState), j ≠ g → s₀.gens[j]? = some x → s.gens[j]? = some x
 bare : AllBare s.gens
 os : s.os = s₀.os
 items : ∀ (j : Nat) (v : Value), acc[j]? = some v → ∃ (p : Value × AV) (T : Addr) (us : List Value) (o : Obj) (c : Nat), (rem G pz 0)[j]? = some p ∧ v = Value.ref T ∧ s₀.heap.get? T = none ∧ T ≠ G.S ∧ s.heap.get? T = some o ∧ o.cls = .type "tuple" ∧ o.data = .seq (List.toArray us) c ∧ VRs G.D s.heap us (bs p.1 p.2)
 count : acc.length + k = (rem G pz 0).length
 loc : G.genv.locals ≠ G.S ∧ G.I ≠ G.S ∧ a ≠ G.genv.locals ∧ a ≠ G.I ∧ a ≠ G.S
 isgen : s₀.heap.IsGen a g
 now : (∃ o, s.heap.get? G.genv.locals = some o) ∧ ∃ o, s.heap.get? G.I = some o
 ins : (∃ o, s₀.heap.get? G.genv.locals = some o) ∧ ∃ o, s₀.heap.get? G.I = some o
 nolim : s₀.heap.NoLimit ∧ cStatics ≠ G.genv.locals ∧ cStatics ≠ G.I ∧ cStatics ≠ G.S
theorem bare_set {s : Shared} {g : Nat} {x : GenState} (h : AllBare s.gens) (hx : x.bare = true) : AllBare (s.setGen g x).gens := fun y hy => by
 have : (s.setGen g x).gens = s.gens.setIfInBounds g x := rfl
 rw [this] at hy
 rcases Array.mem_or_eq_of_mem_setIfInBounds hy with q | q
 ·exact h y q
 ·rw [q]; exact hx
theorem set_ne {s : Shared} {g j : Nat} {x : GenState} (h : j ≠ g) : (s.setGen g x).gens[j]? = s.gens[j]? := by
 have : (s.setGen g x).gens = s.gens.setIfInBounds g x := rfl
 rw [this, Array.getElem?_setIfInBounds_ne (Ne.symm h)]
theorem gloop {G : GPar} {pz : AV → Bool} {bs : Value → AV → List AV} {a : Addr} {g : Nat} {s₀ : Shared} {R : Result → Shared → Prop} (hA : A.handled = none) (hd : A.depth < recursionLimit) (hz : (rem G pz 0).length ≤ sizeLine)
 (hR : ∀ (s' : Shared) (acc : List Value), acc.length = (rem G pz 0).length → (∀ b o, b ≠ G.genv.locals → b ≠ G.I → b ≠ G.S → s₀.heap.get? b = some o → s'.heap.get? b = some o) → (∃ c, s'.heap.get? G.S = some ⟨.type "list", none, .seq acc.toArray c, #[]⟩) →
  (∀ (j : Nat) (x : GenState), j ≠ g → s₀.gens[j]? = some x → s'.gens[j]? = some x) → AllBare s'.gens → s'.os = s₀.os →
  (∀ (j : Nat) (v : Value), acc[j]? = some v → ∃ (p : Value × AV) (T : Addr) (us : List Value) (o : Obj) (c : Nat), (rem G pz 0)[j]? = some p ∧ v = Value.ref T ∧ s₀.heap.get? T = none ∧ T ≠ G.S ∧ s'.heap.get? T = some o ∧ o.cls = .type "tuple" ∧ o.data = .seq (List.toArray us) c ∧ VRs G.D s'.heap us (bs p.1 p.2)) → R (.ok (.ret .none)) s') :
 ∀ (k : Nat) (acc : List Value) (s : Shared), GLoop X A.in1 G pz bs a g s₀ k acc s → codeAny (model X.prog X.w) A (.builtin "list.extend.loop" ⟨[.ref G.S, .ref a, .none], []⟩) R s := by
 intro k
 induction k with
 | zero =>
  intro acc s L
  refine E1A2 (L.gen) fun gs hgs hgo => ?_
  refine E1 (L.list) fun cS eS => ?_
  refine A5 (L.loc) fun hCS hIS haC haI haS => ?_
  have hgen : s.heap.IsGen a g := let ⟨o, nm, qn, ho, r⟩ := L.isgen; ⟨o, nm, qn, L.heap _ _ haC haI haS ho, r⟩
  have hnl : s.heap.NoLimit := let ⟨⟨mc, hns, hnn⟩, h1, h2, h3⟩ := L.nolim; ⟨mc, hns.at' fun o e => L.heap _ o h1 h2 h3 e, hnn⟩
  have hrs : RsOk G s (s.setGen g .running) := ⟨fun b o _ e => e, ⟨_, _, _, eS, rfl⟩, bare_set L.bare rfl, rfl⟩
  refine codeAny_builtin PySem.F.entry_extend_loop ?_
  rw [Around.under_plainId PySem.F.plain_extend_loop _]
  show wpAny _ A.in1 (pyNext (.ref a) >>= _) _ _ s
  refine wpAny_bind (wpAny_pyNext_genexpQ (P := fun n s₀ s₁ => n = 0 ∧ SinceE G s₀ s₁) hA hnl hd hgen hgs (hgo _ hrs) (fun v s₁ gs' hb hv => ?_) (fun s₁ hp h' hk => ?_))
  ·refine A3 hv fun _ sc hkap => ?_; clear hv
   exact (hkap s₁ ⟨fun b o _ e => e, ⟨_, _, _, sc.heap _ _ (Ne.symm hCS) (Ne.symm hIS) eS, rfl⟩, sc.bare, rfl⟩).elim
  ·refine A2 hp fun _ sc => ?_; clear hp
   have kk : ∀ b o, b ≠ G.genv.locals → b ≠ G.I → s.heap.get? b = some o → h'.get? b = some o := fun b o h1 h2 e => hk b o (sc.heap b o h1 h2 e)
   refine wpAny_pure (hR _ acc (by have := L.count; lia) (fun b o h1 h2 h3 e => kk b o h1 h2 (L.heap b o h1 h2 h3 e)) ⟨cS, kk _ _ (Ne.symm hCS) (Ne.symm hIS) eS⟩ (fun j x hj e => ?_) (bare_set sc.bare rfl) (by show s₁.os = _; rw [sc.os]; exact L.os) fun j v hj => ?_)
   ·show (s₁.setGen g .finished).gens[j]? = some x
    rw [set_ne hj]
    exact sc.gens j x (by rw [set_ne hj]; exact L.gens j x hj e)
   ·refine E5A8 (L.items j v hj) fun p T us o c h1 h2 h3 h4 h5 h6 h7 h8 => ?_
    exact ⟨p, T, us, o, c, h1, h2, h3, h4, kk T o (fun q => by refine A2 (L.ins) fun hn4 _ => ?_; refine E1 hn4 fun x e => ?_; clear hn4; rw [← q, h3] at e; exact J.ns e) (fun q => by obtain ⟨_, x, e⟩ := L.ins; rw [← q, h3] at e; exact J.ns e) h5, h6, h7, h8.move fun b o e nd => ⟨kk b o (fun q => nd (.inr (.inr (.inl q)))) (fun q => nd (.inl q)) e, nd⟩⟩
 | succ k ih =>
  intro acc s L
  refine E1A2 (L.gen) fun gs hgs hgo => ?_
  refine E1 (L.list) fun cS eS => ?_
  refine A5 (L.loc) fun hCS hIS haC haI haS => ?_
  have hgen : s.heap.IsGen a g := let ⟨o, nm, qn, ho, r⟩ := L.isgen; ⟨o, nm, qn, L.heap _ _ haC haI haS ho, r⟩
  have hnl : s.heap.NoLimit := let ⟨⟨mc, hns, hnn⟩, h1, h2, h3⟩ := L.nolim; ⟨mc, hns.at' fun o e => L.heap _ o h1 h2 h3 e, hnn⟩
  have hrs : RsOk G s (s.setGen g .running) := ⟨fun b o _ e => e, ⟨_, _, _, eS, rfl⟩, bare_set L.bare rfl, rfl⟩
  have hcount := L.count
  refine codeAny_builtin PySem.F.entry_extend_loop ?_
  rw [Around.under_plainId PySem.F.plain_extend_loop _]
  show wpAny _ A.in1 (pyNext (.ref a) >>= _) _ _ s
  refine wpAny_bind (wpAny_pyNext_genexpQ (P := fun n s₀ s₁ => n = 0 ∧ SinceE G s₀ s₁) hA hnl hd hgen hgs (hgo _ hrs) (fun v s₁ gs' hb hv => ?_) (fun s₁ hp h' hk => ?_))
  ·refine A3 hv fun hn5 sc hkap => ?_; clear hv; refine E5A3 hn5 fun p T us o c h1 hn6 hn7 => ?_; clear hn5; obtain rfl := hn6; refine A5 hn7 fun h3 h5 h6 h7 h8 => ?_; clear hn7
   have kk : ∀ b o, b ≠ G.genv.locals → b ≠ G.I → s.heap.get? b = some o → s₁.heap.get? b = some o := fun b o h1 h2 e => sc.heap b o h1 h2 e
   have eS₁ : s₁.heap.get? G.S = some ⟨.type "list", none, .seq acc.toArray cS, #[]⟩ := kk _ _ (Ne.symm hCS) (Ne.symm hIS) eS
   have hTS : T ≠ G.S := fun q => by rw [q] at h3; have h3 : s.heap.get? G.S = none := h3; rw [eS] at h3; exact J.sn h3
   have s1 := Heap.SameBut.update s₁.heap G.S (Obj.mapSeq fun x => x.push (Value.ref T))
   have eS₂ : ∃ c', (s₁.heap.update G.S (Obj.mapSeq fun x => x.push (Value.ref T))).get? G.S = some ⟨.type "list", none, .seq (acc ++ [Value.ref T]).toArray c', #[]⟩ := by
    have z := Heap.get?_update_self (Obj.mapSeq fun x => x.push (Value.ref T)) eS₁ rfl
    simp only [Obj.mapSeq, List.push_toArray] at z
    exact ⟨_, z⟩
   have k₂ : ∀ b o, b ≠ G.S → s₁.heap.get? b = some o → (s₁.heap.update G.S (Obj.mapSeq fun x => x.push (Value.ref T))).get? b = some o := fun b o hb e => (s1.2 b hb).trans e
   show wpAny _ A.in1 (updateSeq G.S (·.push (Value.ref T)) >>= _) _ _ _
   refine wpAny_bind ?_
   refine wpAny_updateSeq (s := s₁.setGen g gs') eS₁ rfl (wpAny_pure ⟨plainId_quiet PySem.F.plain_extend_loop _, ih (acc ++ [Value.ref T]) _ ⟨fun b o' h1 h2 h3 e => k₂ b o' h3 (kk b o' h1 h2 (L.heap b o' h1 h2 h3 e)), eS₂, ⟨gs', ?_, fun s'' hok => hkap s'' ⟨fun b o' hb e => hok.1 b o' hb (k₂ b o' hb e), hok.2.1, hok.2.2.1, hok.2.2.2⟩⟩, fun j x hj e => ?_, bare_set sc.bare hb, (by show s₁.os = _; rw [sc.os]; exact L.os), fun j v hj => ?_, by rw [List.length_append]; show acc.length + 1 + k = _; lia, L.loc, L.isgen, ?_, L.ins, L.nolim⟩⟩) (by rw [List.size_toArray]; lia) (by simp; lia)
   ·exact setGen_self (gs := .running) (sc.gens g .running (setGen_self hgs))
   ·show (s₁.setGen g gs').gens[j]? = some x
    rw [set_ne hj]
    exact sc.gens j x (by rw [set_ne hj]; exact L.gens j x hj e)
   ·have D1 : ∀ b o, s.heap.get? b = some o → ¬ G.D b → (s₁.heap.update G.S (Obj.mapSeq fun x => x.push (Value.ref T))).get? b = some o := fun b o e nd => k₂ b o (fun q => nd (.inr (.inl q))) (kk b o (fun q => nd (.inr (.inr (.inl q)))) (fun q => nd (.inl q)) e)
    by_cases hj2 : j < acc.length
    ·rw [List.getElem?_append_left hj2] at hj
     refine E5A8 (L.items j v hj) fun p T us o c h1 h2 h3 h4 h5 h6 h7 h8 => ?_
     refine ⟨p, T, us, o, c, h1, h2, h3, h4, k₂ T o h4 (kk T o (fun q => by refine A2 (L.ins) fun hn8 _ => ?_; refine E1 hn8 fun x e => ?_; clear hn8; rw [← q, h3] at e; exact J.ns e) (fun q => by obtain ⟨_, x, e⟩ := L.ins; rw [← q, h3] at e; exact J.ns e) h5), h6, h7, h8.move fun b o e nd => ⟨D1 b o e nd, nd⟩⟩
    ·rw [List.getElem?_append_right (by lia)] at hj
     have hj0 : j - acc.length = 0 := by
      rcases Nat.eq_zero_or_pos (j - acc.length) with q | q
      ·exact q
      ·rw [List.getElem?_eq_none_iff.mpr (by simp; lia)] at hj; exact J.ns hj
     rw [hj0] at hj
     have hj : Value.ref T = v := by simpa using hj
     subst hj
     have hidx : (rem G pz 0).length - 1 - (k + 1 - 1) = j := (n9 L.count).trans (Nat.le_antisymm (Nat.le_of_sub_eq_zero hj0) (Nat.le_of_not_lt hj2)).symm
     rw [hidx] at h1
     refine ⟨p, T, us, o, c, h1, rfl, ?_, hTS, k₂ T o hTS h5, h6, h7, h8.move fun b o e nd => ⟨k₂ b o (fun q => nd (.inr (.inl q))) e, nd⟩⟩
     cases q : s₀.heap.get? T with
     | none => rfl
     | some x =>
      exfalso
      have h3 : s.heap.get? T = none := h3
      by_cases qC : T = G.genv.locals
      ·refine A2 (L.now) fun hn9 _ => ?_; refine E1 hn9 fun x e => ?_; clear hn9; rw [← qC, h3] at e; exact J.ns e
      ·by_cases qI : T = G.I
       ·obtain ⟨_, x, e⟩ := L.now; rw [← qI, h3] at e; exact J.ns e
       ·have := L.heap T x qC qI hTS q
        rw [h3] at this; exact J.ns this
   ·refine E3A2 (sc.loc) fun o1 es n e1 _ => ?_
    refine E2A2 (sc.it) fun o2 vs e2 _ => ?_
    exact ⟨⟨o1, k₂ _ _ hCS e1⟩, o2, k₂ _ _ hIS e2⟩
  ·exact absurd hp.1 (Nat.succ_ne_zero k)
end
end J
namespace J
section
variable {X : Cx} {P : PL} {A : Around} {env : Env} {st : AS} {m mf : AM} {s : Shared}
noncomputable def Lent (st : AS) (a a' : Option AV) : Prop := a' = a ∨ ∃ r C ns l, a = some (.ref r) ∧ st r = some (.inst C ns l) ∧ a' = some (.inst C ns l)
structure GenR (X : Cx) (P : PL) (env : Env) (st : AS) (m mf : AM) (scope : Scope) (cl : List (Str × Addr)) (a C I l : Addr) (code : Value) (oa oC oI : Obj) (g : Nat) (vs : List Value) (xs : List AV) : Prop where
 ina : (a, oa) ∈ P
 inC : (C, oC) ∈ P
 inI : (I, oI) ∈ P
 nd : a ≠ C ∧ a ≠ I ∧ C ≠ I
 gen : oa.cls = .type "generator" ∧ (∃ nm qn, oa.data = .fields #[.int g 0, nm, qn]) ∧ oa.slots = #[]
 loc : ∃ es ep, oC.data = .dict es ep ∧ StrKeys es
 icls : oI.cls = .type "list_iterator"
 idat : oI.data = .fields #[.ref l, .int (0 : Nat) 0]
 ok : scope.kind = .function
 names : ∀ x ∈ scope.names, x.2 ≠ .cell
 free : ∀ y, scope.names.lookup y = some .free → (env.kindOf y = some .cell ∨ env.kindOf y = some .free) ∧ (∃ c, cl.lookup y = some c) ∧ Lent st (m y) (mf y)
 cls : ∀ y c, cl.lookup y = some c → env.cells.lookup y = some c
theorem GenR.enter {scope : Scope} {cl : List (Str × Addr)} {a C I l S : Addr} {code : Value} {oa oC oI oS : Obj} {g : Nat} {vs : List Value} {xs : List AV} {s' : Shared} (r : GenR X P env st m mf scope cl a C I l code oa oC oI g vs xs) (f : FRel X P env st m s) (hl : HeldL (DD X st P (ownOf env)) s.heap l vs xs)
 (k : ∀ b o, s.heap.get? b = some o → s'.heap.get? b = some o) (hg : s'.gens = s.gens) (ho : s'.os = s.os) (fr : s.heap.get? S = none) (eS : s'.heap.get? S = some oS) (hS : ∃ us n, oS.data = .seq us n) :
 WRel X s'.gens ⟨I, S, l, vs, xs, mf, scope, genEnv scope cl C code builtinsNs env⟩ 0 (fun y => if scope.names.lookup y = some .free then mf y else none) oI oS s' ∧ (∀ b, ownOf (genEnv scope cl C code builtinsNs env) b → b = C) ∧ (∀ b, GPar.D ⟨I, S, l, vs, xs, mf, scope, genEnv scope cl C code builtinsNs env⟩ b ↔ b = I ∨ b = S ∨ b = C) := by
 have hnc : ∀ x, scope.names.lookup x ≠ some .cell := fun x e => r.names _ (mem_of_lookup e) rfl
 have hown : ∀ b, ownOf (genEnv scope cl C code builtinsNs env) b → b = C := fun b h => by
  rcases h with h | ⟨x, h, _⟩
  ·exact h
  ·exact absurd h (hnc x)
 have hD : ∀ b, GPar.D ⟨I, S, l, vs, xs, mf, scope, genEnv scope cl C code builtinsNs env⟩ b ↔ b = I ∨ b = S ∨ b = C := fun b => ⟨fun d => d.imp id fun d => d.imp id (hown b), fun d => d.imp id fun d => d.imp id fun d => .inl d⟩
 have dI : DD X st P (ownOf env) I := .inr (.inl (List.mem_map_of_mem r.inI))
 have dC : DD X st P (ownOf env) C := .inr (.inl (List.mem_map_of_mem r.inC))
 have eI := (f.g.priv _ r.inI).exact fun es n z => by have := r.idat; rw [z] at this; exact nomatch this
 refine E1A2 ((f.g.priv _ r.inC).data) fun oC' eC hdC => ?_
 refine E2A2 (r.loc) fun es ep hdC0 hk => ?_
 have nSI : S ≠ I := fun q => by rw [q, eI] at fr; exact J.sn fr
 have nSC : S ≠ C := fun q => by rw [q, eC] at fr; exact J.sn fr
 have mvD : ∀ b o, s.heap.get? b = some o → ¬ DD X st P (ownOf env) b → s'.heap.get? b = some o ∧ ¬ (b = I ∨ b = S ∨ b = C) := fun b o e nd => ⟨k b o e, fun d => by
  rcases d with rfl | rfl | rfl
  ·exact nd dI
  ·rw [fr] at e; exact J.ns e
  ·exact nd dC⟩
 have mv' : ∀ b o, s.heap.get? b = some o → ¬ DD X st P (ownOf env) b → s'.heap.get? b = some o ∧ ¬ DD (X0 X s'.gens) noSt [(I, oI), (S, oS)] (ownOf (genEnv scope cl C code builtinsNs env)) b := fun b o e nd => ⟨k b o e, fun d => (mvD b o e nd).2 ((hD b).mp ((WRel.dd (G := ⟨I, S, l, vs, xs, mf, scope, genEnv scope cl C code builtinsNs env⟩) b).mp d))⟩
 have lent : ∀ ov a a', VRo (DD X st P (ownOf env)) s.heap ov a → Lent st a a' → VRo (DD (X0 X s'.gens) noSt [(I, oI), (S, oS)] (ownOf (genEnv scope cl C code builtinsNs env))) s'.heap ov a' := fun ov a a' h L => by
  rcases L with rfl | ⟨q, C', ns, l', rfl, hst, rfl⟩
  ·exact h.move mv'
  ·cases ov with
   | none => exact h.elim
   | some v =>
    cases h
    refine E2A2 (f.g.objs _ _ hst) fun d us hn1 hn2 => ?_; obtain rfl := hn1; refine A3 hn2 fun e1 x rs => ?_; clear hn2
    have n1 : Dom st (d + 1) := ⟨d + 1, _, hst, by simp [AO.foot]⟩
    have n2 : Dom st d := ⟨d + 1, _, hst, by simp [AO.foot]⟩
    have out : ∀ b, Dom st b → (∃ o, s.heap.get? b = some o) → ¬ DD (X0 X s'.gens) noSt [(I, oI), (S, oS)] (ownOf (genEnv scope cl C code builtinsNs env)) b := fun b hb ⟨o, e⟩ d => by
     rcases (hD b).mp ((WRel.dd (G := ⟨I, S, l, vs, xs, mf, scope, genEnv scope cl C code builtinsNs env⟩) b).mp d) with rfl | rfl | rfl
     ·exact (f.g.off _ hb).1 (List.mem_map_of_mem r.inI)
     ·rw [fr] at e; cases e
     ·exact (f.g.off _ hb).1 (List.mem_map_of_mem r.inC)
    exact .inst (out _ n1 ⟨_, e1⟩) (out _ n2 (by refine E2A2 x fun _ _ e _ => ?_; clear x; exact ⟨_, e⟩)) (k _ _ e1) (x.keep (k _)) (rs.move mv')
 have g0S : X.g0.get? S = none := by
  cases q : X.g0.get? S with
  | none => rfl
  | some o => have := f.g.base S o q; rw [fr] at this; exact J.ns this
 refine ⟨⟨⟨⟨fun b o e => k b o (f.g.base b o e), fun t ht => (by exact J.mn ht), fun a o e => (by exact J.ns e), fun b d => ?_, fun p hp => ?_, fun b d => (by refine E2A2 d fun _ _ e _ => ?_; clear d; exact J.ns e), ⟨(by rw [hg]; exact f.g.gens.1), fun p hp => mem_gl.mp hp⟩, ho.trans f.g.os, fun t ht => (by exact J.mn ht), f.g.nolim, fun t ht => (by exact J.mn ht)⟩,
  ⟨r.ok, f.f.glob, rfl, ⟨nsFind es, ⟨oC', es, ep, k _ _ eC, hdC.trans hdC0, hk, fun _ => rfl⟩, fun x hx => ?_⟩, fun x hx => ?_, fun x y c hx => absurd hx (hnc x), fun x c hx hc q => ?_⟩, fun b hb => ?_⟩, r.icls, r.idat, hS, fun y hy => if_pos hy, ?_⟩, hown, hD⟩
 ·rcases (hD b).mp ((WRel.dd (G := ⟨I, S, l, vs, xs, mf, scope, genEnv scope cl C code builtinsNs env⟩) b).mp d) with rfl | rfl | rfl
  ·exact f.g.lo _ dI
  ·exact g0S
  ·exact f.g.lo _ dC
 ·rcases List.mem_cons.mp hp with rfl | hp
  ·exact .of (k _ _ eI)
  ·rw [List.mem_singleton] at hp; subst hp; exact .of eS
 ·dsimp only
  rw [if_neg (by rw [show scope.names.lookup x = some NameKind.local from hx]; decide)]
  exact VRo_none _
 ·rcases hx with hx | hx
  ·exact absurd hx (hnc x)
  ·refine A3 (r.free x hx) fun h1 hn3 hL => ?_; refine E1 hn3 fun c hc => ?_; clear hn3
   refine E2A3 (f.f.cl x h1) fun c' ov e1 e2 e3 => ?_
   have := r.cls x c hc
   rw [e1] at this; cases this
   refine ⟨c, ov, hc, e2.keeps k, ?_⟩
   dsimp only
   rw [if_pos (show scope.names.lookup x = some NameKind.free from hx)]
   exact lent ov _ _ e3 hL
 ·rcases hx with hx | hx
  ·exact absurd hx (hnc x)
  ·have q : c = C := q
   refine A3 (r.free x hx) fun h1 _ _ => ?_
   refine E2A3 (f.f.cl x h1) fun c' ov e1 hn4 _ => ?_; refine E1A2 hn4 fun o e2 hd2 => ?_; clear hn4
   have := r.cls x c hc
   rw [e1] at this; revert this; refine J.sse ?_; rintro rfl
   rw [q, eC] at e2; revert e2; refine J.sse ?_; rintro rfl
   rw [hdC, hdC0] at hd2; exact nomatch hd2
 ·have := hown b hb
  subst this
  refine ⟨fun d => (by refine E2A2 d fun _ _ e _ => ?_; clear d; exact J.ns e), fun q => ?_, fun q => (by unfold Cx.isTab at q; simp at q)⟩
  simp only [List.map_cons, List.map_nil, List.mem_cons, List.not_mem_nil, or_false] at q
  rcases q with q | q
  ·exact r.nd.2.2 q
  ·exact nSC q.symm
 ·refine A3 hl fun nd hn5 rs => ?_; clear hl; refine E1 hn5 fun c e => ?_; clear hn5
  exact ⟨fun d => (mvD _ _ e nd).2 ((hD _).mp d), ⟨c, k _ _ e⟩, rs.move fun b o e nd => ⟨k b o e, fun d => (mvD b o e nd).2 ((hD b).mp d)⟩⟩
end
end J
namespace J
section
variable {X : Cx} {P : PL} {A : Around} {env : Env} {st : AS} {m mf : AM} {s : Shared}
theorem call_listgen {n : Nat} {scope : Scope} {cl : List (Str × Addr)} {a C I l : Addr} {code : Value} {oa oC oI : Obj} {g : Nat} {vs : List Value} {xs : List AV} {x : Str} {px tp pos : Pos} {iter : Expr} {ifs es : List Expr} {k : Nat} {pz : AV → Bool} {bs bs' : Value → AV → List AV} {P₁ : PL} {pg₁ : List (Nat × GenState)}
 {Q : Value → Shared → Prop} (r : GenR X P env st m mf scope cl a C I l code oa oC oI g vs xs) (hpgen : (g, .fresh (.compStart (gE es k tp x px iter ifs scope pos) 0 (.ref I) .none (genEnv scope cl C code builtinsNs env))) ∈ X.pg)
 (hr : Roomy n A.in1.in1.in1) (hx : storeOk (genEnv scope cl C code builtinsNs env) x = true) (hxf : scope.names.lookup x ≠ some .free) (hco : scope.isCoroutine = false) (hd : A.depth + 10 < recursionLimit)
 (hsz : ∀ v a, (bs v a).length ≤ sizeLine) (hxsz : xs.length ≤ sizeLine)
 (hB : ∀ S, GenB X n ⟨I, S, l, vs, xs, mf, scope, genEnv scope cl C code builtinsNs env⟩ x ifs es pz bs)
 (hconv : ∀ (D₁ D' : Addr → Prop) h v a us, (v, a) ∈ vs.zip xs → VR D' h v a → VRs D₁ h us (bs v a) → VRs D' h us (bs' v a))
 (f : FRel X P env st m s) (hl : HeldL (DD X st P (ownOf env)) s.heap l vs xs) (hP₁ : ∀ p ∈ P₁, p ∈ P ∧ p.1 ≠ C ∧ p.1 ≠ I) (haC : C ∉ P₁.map (·.1) ∧ ¬ X.isTab C) (haI : I ∉ P₁.map (·.1) ∧ ¬ X.isTab I) (hpg₁ : ∀ p ∈ pg₁, p ∈ X.pg ∧ p.1 ≠ g)
 (hQ : ∀ v s', FRel { X with pg := pg₁ } P₁ env st m s' → Step (DD X st P (ownOf env)) s.heap s'.heap → VR (DD X st P₁ (ownOf env)) s'.heap v (.lst ((rem ⟨I, 0, l, vs, xs, mf, scope, env⟩ pz 0).map fun p => .tup (bs' p.1 p.2))) → Q v s') :
 wpAny (model X.prog X.w) A (call (.type "list") [.ref a]) Q (fun _ _ => False) s := by
 have hA : A.handled = none := hr.handled
 have fr : s.heap.get? s.heap.objs.size = none := get_size _
 have dC : DD X st P (ownOf env) C := .inr (.inl (List.mem_map_of_mem r.inC))
 have dI : DD X st P (ownOf env) I := .inr (.inl (List.mem_map_of_mem r.inI))
 have da : DD X st P (ownOf env) a := .inr (.inl (List.mem_map_of_mem r.ina))
 have isgen : s.heap.IsGen a g := by
  refine A3 (r.gen) fun h1 hn1 h3 => ?_; refine E2 hn1 fun nm qn h2 => ?_; clear hn1
  exact ⟨oa, nm, qn, (f.g.priv _ r.ina).exact (fun es n z => by rw [h2] at z; exact nomatch z), h1, h2, h3⟩
 have hcs : ∀ b, DD X st P (ownOf env) b → cStatics ≠ b := fun b d q => by
  refine E1A2 (f.g.nolim) fun mc hn2 _ => ?_; refine E3A2 hn2 fun o _ _ e _ => ?_; clear hn2
  have := f.g.lo b d
  rw [← q, e] at this; exact J.sn this
 refine callType_codes (Q₁ := fun obj s₁ => obj = .ref s.heap.objs.size ∧ s₁ = { s with heap := s.heap.push { cls := .type "list", data := .seq #[] } }) PySem.F.called_list (PySem.F.typeCall_list_1 _) PySem.F.entry_list_init
  (code_list_new _ ⟨rfl, rfl⟩) fun obj s₁ h₁ => ?_
 refine A2 h₁ fun hn3 hn4 => ?_; clear h₁; obtain rfl := hn3; obtain rfl := hn4
 have hS : (s.heap.push { cls := .type "list", data := .seq #[] }).get? s.heap.objs.size = some { cls := .type "list", data := .seq #[] } := Heap.get?_push_size _ rfl
 refine ⟨⟨_, hS, rfl⟩, PySem.F.args_list_init_2 _ _, ?_⟩
 generalize hSv : s.heap.objs.size = S at *
 have k1 : ∀ b o, s.heap.get? b = some o → (s.heap.push ({ cls := .type "list", data := .seq #[] } : Obj)).get? b = some o := fun b o e => Heap.get?_push_of_some _ e
 have nSa : S ≠ a := fun q => by refine E1 (f.din da) fun o e => ?_; rw [← q, fr] at e; exact J.ns e
 have nSC : S ≠ C := fun q => by refine E1 (f.din dC) fun o e => ?_; rw [← q, fr] at e; exact J.ns e
 have nSI : S ≠ I := fun q => by refine E1 (f.din dI) fun o e => ?_; rw [← q, fr] at e; exact J.ns e
 have nSs : cStatics ≠ S := fun q => by
  refine E1A2 (f.g.nolim) fun mc hn5 _ => ?_; refine E3A2 hn5 fun o _ _ e _ => ?_; clear hn5
  have := f.g.base _ _ e
  rw [q, fr] at this; exact J.ns this
 show wpAny _ A.in1.in1 (do let old ← Builtin.List.listItems (.ref S); Builtin.List.listUpdate (.ref S) (fun _ => #[]); letGo old.toList.reverse; Builtin.List.listExtendWith (.ref S) (.ref a) .none) _ _ _
 refine wpAny_bind (listItems_at hS rfl ?_)
 show wpAny _ A.in1.in1 (updateSeq S (fun _ => #[]) >>= fun _ => letGo (#[] : Array Value).toList.reverse >>= fun _ => Builtin.List.listExtendWith (.ref S) (.ref a) .none) _ _ _
 refine wpAny_bind (wpAny_updateSeq hS rfl ?_)
 have hS₂ := Heap.get?_update_self (Obj.mapSeq (fun _ => (#[] : Array Value))) hS rfl
 refine wpAny_bind (wpAny_letGo ?_)
 have k2 : ∀ b o, s.heap.get? b = some o → ((s.heap.push ({ cls := .type "list", data := .seq #[] } : Obj)).update S (Obj.mapSeq (fun _ => (#[] : Array Value)))).get? b = some o := fun b o e =>
  (Heap.get?_update_other _ _ (fun q : S = b => by rw [← q, fr] at e; exact J.ns e)).trans (k1 b o e)
 have hT : Shared.TypeIs { s with heap := (s.heap.push ({ cls := .type "list", data := .seq #[] } : Obj)).update S (Obj.mapSeq (fun _ => (#[] : Array Value))) } (.ref a) "generator" := by
  refine E3A4 isgen fun o nm qn e h1 h2 h3 => ?_; clear isgen
  exact ⟨o, k2 _ _ e, h1⟩
 unfold Builtin.List.listExtendWith
 refine wpAny_bind (wpAny_typeOf hT ?_)
 have h1 : Builtin.List.listSameRef (.ref S) (.ref a) = false := by simp [Builtin.List.listSameRef, nSa]
 have h2 : (Value.type "generator" == Value.type "list") = false := by decide
 have h3 : (Value.type "generator" == Value.type "tuple") = false := by decide
 simp only [h1, h2, h3, Bool.or_false, Bool.false_eq_true, if_false]
 refine wpAny_bind (wpAny_pyIter_gen (let ⟨o, nm, qn, e, r⟩ := isgen; ⟨o, nm, qn, k2 _ _ e, r⟩) ?_)
 refine wpAny_bind (wpAny_holding ?_)
 unfold Builtin.List.listLengthHint
 refine wpAny_bind (wpAny_specialOf hT PySem.F.gen_no_len ?_)
 show wpAny _ A.in1.in1 (specialOf (Value.ref a) (Str.ofString "__length_hint__") >>= _) _ _ _
 refine wpAny_bind (wpAny_specialOf hT PySem.F.gen_no_hint ?_)
 refine wpAny_pure ?_
 show wpAny _ A.in1.in1 (rule "list.extend.makes-room" >>= fun _ => Builtin.List.listTouch (.ref S) >>= fun _ => again (.builtin "list.extend.loop" ⟨[.ref S, .ref a, .none], []⟩)) _ _ _
 refine wpAny_bind (wpAny_rule ?_)
 refine wpAny_bind ?_
 show wpAny _ A.in1.in1 (updateSeq S (·.push .none) >>= fun _ => updateSeq S (·.pop)) _ _ _
 refine wpAny_bind (wpAny_updateSeq hS₂ rfl ?_)
 have hS₃ := Heap.get?_update_self (Obj.mapSeq (·.push Value.none)) hS₂ rfl
 refine wpAny_updateSeq (hz := by seq_fits) hS₃ rfl ?_
 have hS₄ := Heap.get?_update_self (Obj.mapSeq (·.pop)) hS₃ rfl
 generalize hH : (((s.heap.push ({ cls := .type "list", data := .seq #[] } : Obj)).update S (Obj.mapSeq (fun _ => (#[] : Array Value)))).update S (Obj.mapSeq (·.push Value.none))).update S (Obj.mapSeq (·.pop)) = H at *
 have k4 : ∀ b o, s.heap.get? b = some o → H.get? b = some o := fun b o e => by
  rw [← hH]
  have hb : S ≠ b := fun q : S = b => by rw [← q, fr] at e; exact J.ns e
  exact (Heap.get?_update_other _ _ hb).trans ((Heap.get?_update_other _ _ hb).trans (k2 b o e))
 obtain ⟨c0, eS⟩ : ∃ c, H.get? S = some (⟨.type "list", none, .seq #[] c, #[]⟩ : Obj) := by
  simp only [Obj.mapSeq] at hS₄
  exact ⟨_, hS₄⟩
 refine A3 (r.enter (S := S) (s' := { s with heap := H }) f hl k4 rfl rfl fr eS ⟨_, _, rfl⟩) fun w hown hGD => ?_
 have hlen : vs.length = xs.length := hl.2.2.length
 have gst := gst_fresh (A := A.in1.in1) (iter := iter) (px := px) (tp := tp) (pos := pos) (k := k) (scope := scope) hr nSI hlen hown hx hxf (show (genEnv scope cl C code builtinsNs env).scope.isCoroutine = false from hco) ⟨r.nd.2.2, Ne.symm nSC⟩ (fun v a _ => hsz v a) (hB S) w
 have remle : (rem ⟨I, S, l, vs, xs, mf, scope, genEnv scope cl C code builtinsNs env⟩ pz 0).length ≤ sizeLine := by
  refine Nat.le_trans (List.length_filter_le _ _) ?_
  rw [List.drop_zero, List.length_zip]
  show min vs.length xs.length ≤ _
  lia
 refine E3A2 isgen fun oa' na qa ea ra => ?_; clear isgen
 refine wpAny_pure ⟨plainId_quiet PySem.F.plain_extend_loop _, gloop (A := A.in1) (G := ⟨I, S, l, vs, xs, mf, scope, genEnv scope cl C code builtinsNs env⟩) (s₀ := { s with heap := H }) hA (by show A.depth < _; lia) remle (fun s' acc hacc q1 q2 q3 q4 q5 q6 => ⟨rfl, ?_⟩) _ [] _
  ⟨fun b o _ _ _ e => e, ⟨c0, eS⟩, ⟨_, f.g.gens.2 _ hpgen, gst⟩, fun j x _ e => e, f.g.gens.1, rfl, fun j v e => by simp at e, by simp, ⟨Ne.symm nSC, Ne.symm nSI, r.nd.1, r.nd.2.1, Ne.symm nSa⟩, ⟨oa', na, qa, k4 _ _ ea, ra⟩,
   ⟨(let ⟨o, e⟩ := f.din dC; ⟨o, k4 _ _ e⟩), let ⟨o, e⟩ := f.din dI; ⟨o, k4 _ _ e⟩⟩, ⟨(let ⟨o, e⟩ := f.din dC; ⟨o, k4 _ _ e⟩), let ⟨o, e⟩ := f.din dI; ⟨o, k4 _ _ e⟩⟩, ⟨(let ⟨mc, hns, hnn⟩ := f.g.nolim; ⟨mc, hns.keeps fun b o e => k4 _ _ (f.g.base _ _ e), hnn⟩), hcs _ dC, hcs _ dI, nSs⟩⟩⟩
 refine E1 q2 fun c' eS' => ?_; clear q2
 have kk : ∀ b o, b ≠ C → b ≠ I → s.heap.get? b = some o → s'.heap.get? b = some o := fun b o h1 h2 e => q1 b o h1 h2 (fun q => by rw [q, fr] at e; exact J.ns e) (k4 b o e)
 have f₁ : FRel X ([(C, oC), (I, oI)] ++ P₁) env st m s := f.sub fun p hp => by
  rcases List.mem_cons.mp hp with rfl | hp
  ·exact r.inC
  ·rcases List.mem_cons.mp hp with rfl | hp
   ·exact r.inI
   ·exact (hP₁ p hp).1
 obtain ⟨f₂, S₂⟩ := f₁.unprivL (h' := s'.heap) (tk := s.toks) (fun p hp => by
  rcases List.mem_cons.mp hp with rfl | hp
  ·exact haC
  ·rw [List.mem_singleton] at hp; subst hp; exact haI) (fun p hp v z => by
  rcases List.mem_cons.mp hp with rfl | hp
  ·refine E2A2 (r.loc) fun es ep h _ => ?_; rw [h] at z; exact nomatch z
  ·rw [List.mem_singleton] at hp; subst hp; have := r.idat; rw [z] at this; exact nomatch this) fun b x hb e => by
  simp only [List.map_cons, List.map_nil, List.mem_cons, List.not_mem_nil, or_false, not_or] at hb
  exact kk b x hb.1 hb.2 e
 have sub1 : ∀ b, DD X st ([(C, oC), (I, oI)] ++ P₁) (ownOf env) b → DD X st P (ownOf env) b := DD.perm fun p hp => by
  rcases List.mem_cons.mp hp with rfl | hp
  ·exact r.inC
  ·rcases List.mem_cons.mp hp with rfl | hp
   ·exact r.inI
   ·exact (hP₁ p hp).1
 have sub2 : ∀ b, DD X st P₁ (ownOf env) b → DD X st P (ownOf env) b := DD.perm fun p hp => (hP₁ p hp).1
 have SX : Step (DD X st P (ownOf env)) s.heap s'.heap := S₂.mono fun b o e d => sub1 b d
 refine hQ (.ref S) s' (f₂.cong (s' := s') rfl q4 (fun p hp => q3 p.1 p.2 (hpg₁ p hp).2 (f.g.gens.2 p (hpg₁ p hp).1)) q5) SX (.lst (vs := acc) (fun d => f.dno fr (sub2 _ d)) ⟨c', eS'⟩ ?_)
 have held : VRs (DD X st P₁ (ownOf env)) s'.heap vs xs := (hl.2.2.step SX (Gr.refl _ _)).anti sub2
 have one : ∀ (L : List (Value × AV)) (acc : List Value), acc.length = L.length → (∀ p ∈ L, p ∈ vs.zip xs) → (∀ (j : Nat) (v : Value), acc[j]? = some v → ∃ (p : Value × AV) (T : Addr) (us : List Value) (o : Obj) (c : Nat), L[j]? = some p ∧ v = Value.ref T ∧ s.heap.get? T = none ∧ s'.heap.get? T = some o ∧ o.cls = .type "tuple" ∧ o.data = .seq (List.toArray us) c ∧ VRs (GPar.D ⟨I, S, l, vs, xs, mf, scope, genEnv scope cl C code builtinsNs env⟩) s'.heap us (bs p.1 p.2)) →
  VRs (DD X st P₁ (ownOf env)) s'.heap acc (L.map fun p => .tup (bs' p.1 p.2)) := by
  intro L
  induction L with
  | nil => intro acc h _ _; cases acc with | nil => exact .nil | cons _ _ => exact nomatch h
  | cons p L ih =>
   intro acc h hm hj
   cases acc with
   | nil => exact nomatch h
   | cons v acc =>
    refine .cons ?_ (ih acc (by simpa using h) (fun p hp => hm p (.tail _ hp)) fun j v hv => by simpa using hj (j + 1) v (by simpa using hv))
    refine E5A3 (hj 0 v rfl) fun p' T us o c h1 hn6 hn7 => ?_; obtain rfl := hn6; refine A5 hn7 fun h3 h4 h5 h6 h7 => ?_; clear hn7
    have h1 : p = p' := by simpa using h1
    subst h1
    refine .tup (vs := us) (fun d => f.dno h3 (sub2 _ d)) ⟨o, h4, h5, c, h6⟩ (hconv _ _ _ p.1 p.2 us (hm p (.head _)) ?_ h7)
    have hz : (p.1, p.2) ∈ vs.zip xs := hm p (.head _)
    obtain ⟨j, hj1, hj2⟩ := List.getElem_of_mem hz
    have hz2 : (vs.zip xs)[j]? = some (p.1, p.2) := by rw [List.getElem?_eq_getElem hj1, hj2]
    rw [List.getElem?_zip_eq_some] at hz2
    refine E1A2 (held.get j _ hz2.2) fun v' e1 r1 => ?_
    have hz3 : vs[j]? = some p.1 := hz2.1
    rw [hz3] at e1; revert e1; refine J.sse ?_; rintro rfl; exact r1
 refine one _ acc hacc (fun p hp => ?_) fun j v hv => ?_
 ·exact List.mem_of_mem_drop (List.mem_filter.mp hp).1
 ·refine E5A8 (q6 j v hv) fun p T us o c h1 h2 h3 _ h5 h6 h7 h8 => ?_
  refine ⟨p, T, us, o, c, h1, h2, ?_, h5, h6, h7, h8⟩
  cases q : s.heap.get? T with
  | none => rfl
  | some y => have h3 : H.get? T = none := h3; rw [k4 _ _ q] at h3; exact J.sn h3
end
end J
namespace J
section
variable {X : Cx} {P : PL} {A : Around} {env : Env} {st : AS} {m mf : AM} {s : Shared}
theorem FRel.tab {h' : Heap} {tk : Nat} {t : Addr × Addr × Array Value} {more : Array Value} (f : FRel X P env st m s) (ht : t ∈ X.tabs) (hu : ∀ t' ∈ X.tabs, t'.2.1 = t.2.1 → t' = t)
 (hx : Heap.ExtBut t.2.1 s.heap h') (h1 : h'.TableAt t.1 t.2.1 (t.2.2 ++ more)) (h2 : h'.IsCode t.1 t.2.1 (t.2.2 ++ more)) :
 FRel X P env st m { s with heap := h', toks := tk } ∧ Step (DD X st P (ownOf env)) s.heap h' := by
 have dT : DD X st P (ownOf env) t.2.1 := .inr (.inr (.inr (List.mem_map_of_mem ht)))
 have gT := f.g.lo _ dT
 have S : ∀ b x, s.heap.get? b = some x → ¬ DD X st P (ownOf env) b → h'.get? b = some x ∧ ¬ DD X st P (ownOf env) b := fun b x e nd => ⟨hx b x (fun q => nd (q ▸ dT)) e, nd⟩
 have kD : ∀ b x, Dom st b → s.heap.get? b = some x → h'.get? b = some x := fun b x d => hx b x fun q => (f.g.off b d).2 (q ▸ List.mem_map_of_mem ht)
 have kO : ∀ b x, ownOf env b → s.heap.get? b = some x → h'.get? b = some x := fun b x d => hx b x fun q => (f.own b d).2.2 (q ▸ List.mem_map_of_mem ht)
 refine E1A2 (f.g.tabs t ht) fun _ hn1 _ => ?_; refine A2 hn1 fun _ eT => ?_; clear hn1
 refine ⟨⟨⟨fun b x e' => hx b x (fun q => by rw [q, gT] at e'; exact J.ns e') (f.g.base b x e'), fun t' ht' => ?_, fun b x e' => (f.g.objs b x e').move S fun c hc y => kD c y ⟨b, x, e', hc⟩, f.g.lo, fun p hp => (f.g.priv p hp).by fun o => hx _ o (fun q => f.g.tabp t ht (q ▸ List.mem_map_of_mem hp)), f.g.off, f.g.gens, f.g.os, f.g.tabc, f.g.nolim, f.g.tabp⟩,
  ⟨f.f.kind, f.f.glob, f.f.bi, let ⟨mv, a, b⟩ := f.f.ns; ⟨mv, a.at' fun x => kO _ x (.inl rfl), fun x e => (b x e).move S⟩, fun x hx' => ?_, f.f.apart, f.f.apartL⟩, f.own⟩, fun b x e' nd => (S b x e' nd).1⟩
 ·by_cases q : t'.2.1 = t.2.1
  ·cases hu t' ht' q
   exact ⟨more, h1, h2⟩
  ·refine E1 (f.g.tabc t' ht') fun o e => ?_
   have qc : t'.1 ≠ t.2.1 := fun z => by rw [z, gT] at e; exact J.ns e
   refine E1A2 (f.g.tabs t' ht') fun more' a b => ?_
   exact ⟨more', a.extBut hx qc q, b.extBut hx qc q⟩
 ·refine E2A3 (f.f.cl x hx') fun c ov h1 h2 h3 => ?_
  refine ⟨c, ov, h1, ?_, h3.move S⟩
  refine E1A2 h2 fun y z w => ?_; clear h2
  exact ⟨y, hx c y (fun q => by rw [q, eT] at z; revert z; refine J.sse ?_; rintro rfl; exact nomatch w) z, w⟩
theorem w_gcode {c T : Addr} {ps : Array Value} {pos : Pos} {qn : Str} {scope : Scope} {Q : Value → Shared → Prop} {E : Value → Shared → Prop} (f : FRel X P env st m s) (hc : env.code = .ref c) (ht : (c, T, ps) ∈ X.tabs) (hu : ∀ t' ∈ X.tabs, t'.2.1 = T → t' = (c, T, ps))
 (hQ : ∀ code h' tk, FRel X P env st m { s with heap := h', toks := tk } → Step (DD X st P (ownOf env)) s.heap h' → Heap.ExtBut T s.heap h' → Q code { s with heap := h', toks := tk }) :
 wpAny (model X.prog X.w) A (genexprCode env pos qn scope) Q E s := by
 refine E1A2 (f.g.tabs _ ht) fun more h1 h2 => ?_
 cases hf : codeAmong pos (ps ++ more).toList with
 | some c' => exact wpAny_genexprCode_hit hc h2 hf (hQ c' s.heap s.toks f (.refl _ _) (Heap.ExtBut.refl _ _))
 | none =>
  refine wpAny_genexprCodeX hc h2 h1 hf fun c' h' tk hx _ _ a1 _ a2 _ => ?_
  rw [Array.append_assoc] at a1 a2
  refine A2 (f.tab (tk := tk) ht hu hx a2 a1) fun f' S' => ?_
  exact hQ _ h' tk f' S' hx
structure BiOk (X : Cx) (bm : Addr) : Prop where
 ns : nsIn X.K mainGlobals "__builtins__" = some (some (.ref bm))
 ne : bm ≠ builtinsNs
 ob : ∃ o, X.g0.get? bm = some o ∧ o.cls = .type "module" ∧ o.dict = some builtinsNs ∧ o.data = .plain
theorem w_bif {bm : Addr} {Q : Addr → Shared → Prop} {E : Value → Shared → Prop} (f : FRel X P env st m s) (hX : X.Ok) (hb : BiOk X bm) (hQ : Q builtinsNs s) : wpAny (model X.prog X.w) A (builtinsFor env.globals env.builtins) Q E s := by
 refine E1 (hX.glob) fun mg hg => ?_
 refine E1A4 (hb.ob) fun o e h1 h2 h3 => ?_
 rw [f.f.glob]
 exact wpAny_builtinsFor (hg.keeps f.g.base) (nsIn_is hX.kin hg hb.ns) hb.ne (f.g.base _ _ e) h1 h2 h3 hQ
set_option tactic.hygienic true in
theorem gen_make {bm : Addr} {elt target iter : Expr} {ifs : List Expr} {scope : Scope} {cl : List (Str × Addr)} {pos : Pos} {c T : Addr} {ps : Array Value} {xs : List AV} {Q : Value → Shared → Prop}
 (hX : X.Ok) (hb : BiOk X bm) (hco : scope.isCoroutine = false) (hclos : closureFor scope env = pure cl) (hcell : ∀ y ∈ scope.names, y.2 ≠ .cell) (h0 : scope.names.lookup (".0" : Str) = some NameKind.local) (hkind : scope.kind = .function) (hroom : A.depth < recursionLimit)
 (hc : env.code = .ref c) (ht : (c, T, ps) ∈ X.tabs) (hu : ∀ t' ∈ X.tabs, t'.2.1 = T → t' = (c, T, ps)) (hs : ∀ x, genFold iter env x = pure x) (hi : EV X P A env st m (eval iter env) (.lst xs))
 (hfree : ∀ y, scope.names.lookup y = some .free → (env.kindOf y = some .cell ∨ env.kindOf y = some .free) ∧ (∃ c, cl.lookup y = some c) ∧ Lent st (m y) (mf y)) (hcls : ∀ y c, cl.lookup y = some c → env.cells.lookup y = some c)
 (f : FRel X P env st m s)
 (hQ : ∀ (a C I l : Addr) (vs : List Value) (code : Value) (oa oC oI : Obj) (g : Nat) (s' : Shared),
  GenR { X with pg := (g, .fresh (.compStart (.GeneratorExp elt [⟨target, iter, ifs, 0⟩] scope pos) 0 (.ref I) .none (genEnv scope cl C code builtinsNs env))) :: X.pg } ([(a, oa), (C, oC)] ++ ([(I, oI)] ++ P)) env st m mf scope cl a C I l code oa oC oI g vs xs →
  FRel { X with pg := (g, .fresh (.compStart (.GeneratorExp elt [⟨target, iter, ifs, 0⟩] scope pos) 0 (.ref I) .none (genEnv scope cl C code builtinsNs env))) :: X.pg } ([(a, oa), (C, oC)] ++ ([(I, oI)] ++ P)) env st m s' →
  Step (DD X st P (ownOf env)) s.heap s'.heap → HeldL (DD X st ([(a, oa), (C, oC)] ++ ([(I, oI)] ++ P)) (ownOf env)) s'.heap l vs xs →
  (∀ b, b = a ∨ b = C ∨ b = I → s.heap.get? b = none) → (∀ p ∈ X.pg, p.1 ≠ g) → Q (.ref a) s') :
 wpAny (model X.prog X.w) A (eval (.GeneratorExp elt [⟨target, iter, ifs, 0⟩] scope pos) env) Q (fun _ _ => False) s := by
 refine wpAny_GeneratorExp_make hco hclos hcell h0 hkind hroom (hi.on f fun xv s₁ f₁ r S₁ => ?_) hs
 cases r with
 | lst nd pl rs =>
  rename_i l vs
  refine wpAny_pyIter_list (PlainList.isList pl) ?_
  obtain ⟨oI, hoI⟩ : ∃ o : Obj, o = { cls := .type "list_iterator", data := .fields #[.ref l, .int 0 0] } := ⟨_, rfl⟩
  rw [← hoI]
  have k₀ : ∀ b o, s₁.heap.get? b = some o → (s₁.heap.push oI).get? b = some o := fun b o e => Heap.get?_push_of_some _ e
  have eI : (s₁.heap.push oI).get? s₁.heap.objs.size = some oI := Heap.get?_push_size _ (by rw [hoI]; rfl)
  refine A2 (f₁.privL (tk := s₁.toks) (Pi := [(s₁.heap.objs.size, oI)]) k₀ (fun p hp => by rw [List.mem_singleton] at hp; subst hp; exact get_size _) (fun p hp => by rw [List.mem_singleton] at hp; subst hp; exact eI)) fun f₂ apI => ?_
  generalize hI : s₁.heap.objs.size = I at *
  have frI : s₁.heap.get? I = none := by rw [← hI]; exact get_size _
  have back : ∀ b, s₁.heap.get? b = none → s.heap.get? b = none := fun b e => by
   cases q : s.heap.get? b with
   | none => rfl
   | some o =>
    by_cases d : DD X st P (ownOf env) b
    ·refine E1 (f₁.din d) fun o' e' => ?_; rw [e] at e'; exact J.ns e'
    ·have := S₁ b o q d; rw [e] at this; exact J.ns this
  refine ⟨(let ⟨mc, hns, hnn⟩ := f₂.g.nolim; ⟨mc, hns.keeps f₂.g.base, hnn⟩), w_gcode f₂ hc ht hu fun code h₃ tk f₃ S₃ x₃ => w_bif f₃ hX hb fun h' hn hsb => ?_⟩
  dsimp only at hn hsb ⊢
  generalize hC : h₃.objs.size = C at *
  have frC : h₃.get? C = none := by rw [← hC]; exact get_size _
  refine E3A4 hn fun oC es ep eC dC kC _ => ?_; clear hn
  have k₄ : ∀ b o, h₃.get? b = some o → h'.get? b = some o := fun b o e => by
   have hne : b ≠ C := fun q => by rw [q, frC] at e; exact J.ns e
   rw [hsb.2 b hne]; exact Heap.get?_push_of_some _ e
  have fra : h'.get? h'.objs.size = none := get_size _
  obtain ⟨oa, hoa⟩ : ∃ o : Obj, o = { cls := .type "generator", data := .fields #[.int s₁.gens.size 0, .str "<genexpr>" (tk + 1), .str (env.qual ++ "<genexpr>") (tk + 1 + 1)] } := ⟨_, rfl⟩
  rw [← hoa]
  have ea : (h'.push oa).get? h'.objs.size = some oa := Heap.get?_push_size _ (by rw [hoa]; rfl)
  generalize h'.objs.size = a at *
  have k₅ : ∀ b o, h₃.get? b = some o → (h'.push oa).get? b = some o := fun b o e => Heap.get?_push_of_some _ (k₄ b o e)
  have fra₃ : h₃.get? a = none := by
   cases q : h₃.get? a with
   | none => rfl
   | some o => have := k₄ a o q; rw [fra] at this; exact J.ns this
  have eC' : (h'.push oa).get? C = some oC := Heap.get?_push_of_some _ eC
  have hnaC : a ≠ C := fun q => by rw [q, eC] at fra; exact J.sn fra
  have hI₃ : h₃.get? I = some oI := by
   have := (f₃.g.priv (I, oI) (.head _)).exact fun es n z => by rw [hoI] at z; exact nomatch z
   exact this
  have hnaI : a ≠ I := fun q => by rw [q, hI₃] at fra₃; exact J.sn fra₃
  have hnCI : C ≠ I := fun q => by rw [q, hI₃] at frC; exact J.sn frC
  have hnT : ∀ b, h₃.get? b = none → b ≠ T := fun b e q => by
   refine E1A2 (f₃.g.tabs _ ht) fun _ hn2 _ => ?_; refine A2 hn2 fun _ eT => ?_; clear hn2
   rw [q] at e; rw [e] at eT; exact J.ns eT
  have back₃ : ∀ b, h₃.get? b = none → s₁.heap.get? b = none := fun b e => by
   cases q : s₁.heap.get? b with
   | none => rfl
   | some o =>
    have := x₃ b o (hnT b e) (k₀ b o q)
    rw [e] at this; exact J.ns this
  obtain ⟨f₅, ap₅⟩ := f₃.privL (tk := tk + 1 + 1 + 1) (Pi := [(a, oa), (C, oC)]) k₅ (fun p hp => by
   rcases List.mem_cons.mp hp with rfl | hp
   ·exact fra₃
   ·rw [List.mem_singleton] at hp; subst hp; exact frC) (fun p hp => by
   rcases List.mem_cons.mp hp with rfl | hp
   ·exact ea
   ·rw [List.mem_singleton] at hp; subst hp; exact eC')
  have S₂₅ : Step (DD X st ([(I, oI)] ++ P) (ownOf env)) (s₁.heap.push oI) (h'.push oa) := S₃.on (Step.of_keeps k₅)
  have g₂ : Gr s₁.heap (DD X st P (ownOf env)) (DD X st ([(I, oI)] ++ P) (ownOf env)) := fun b o e d => by
   rcases d.app with q | d
   ·have q : b = I := by simpa using q
    rw [q, frI] at e; exact J.ns e
   ·exact d
  have g₅ : Gr (s₁.heap.push oI) (DD X st ([(I, oI)] ++ P) (ownOf env)) (DD X st ([(a, oa), (C, oC)] ++ ([(I, oI)] ++ P)) (ownOf env)) := fun b o e d => by
   rcases d.app with q | d
   ·have q : b = a ∨ b = C := by simpa using q
    rcases q with q | q
    ·have := x₃ b o (hnT b (q ▸ fra₃)) e
     rw [q, fra₃] at this; exact J.ns this
    ·have := x₃ b o (hnT b (q ▸ frC)) e
     rw [q, frC] at this; exact J.ns this
   ·exact d
  have S₁₅ : Step (DD X st P (ownOf env)) s₁.heap (h'.push oa) := (Step.of_keeps k₀).trans S₂₅ g₂
  have hsz : ∀ p ∈ X.pg, p.1 < s₁.gens.size := fun p hp => by
   have := f₁.g.gens.2 p hp
   exact (Array.getElem?_eq_some_iff.mp this).1
  refine hQ a C I l vs code oa oC oI s₁.gens.size _ ⟨.head _, .tail _ (.head _), .tail _ (.tail _ (.head _)), ⟨hnaC, hnaI, hnCI⟩, by rw [hoa]; exact ⟨rfl, ⟨_, _, rfl⟩, rfl⟩, ⟨es, ep, dC, kC⟩, by rw [hoI], by rw [hoI]; rfl, hkind, hcell, hfree, hcls⟩
   (f₅.cong (s' := { s₁ with heap := h'.push oa, toks := tk + 1 + 1 + 1, gens := s₁.gens.push _ }) rfl (f₁.g.gens.1.push rfl) (fun p hp => ?_) rfl) (S₁.on S₁₅) ?_ ?_ fun p hp => Nat.ne_of_lt (hsz p hp)
  ·rcases List.mem_cons.mp hp with rfl | hp
   ·exact Array.getElem?_push_size
   ·dsimp only
    rw [Array.getElem?_push_lt (hsz p hp)]
    have := f₁.g.gens.2 p hp
    rw [← this]
    exact (Array.getElem?_eq_getElem (hsz p hp)).symm
  ·refine E1 pl fun n e => ?_; clear pl
   refine ⟨fun d => nd (g₂ l _ e (g₅ l _ (k₀ _ _ e) d)), ⟨n, S₁₅ l _ e nd⟩, rs.step S₁₅ fun b o e d => g₂ b o e (g₅ b o (k₀ _ _ e) d)⟩
  ·intro b hb
   refine back b ?_
   rcases hb with rfl | rfl | rfl
   ·exact back₃ _ fra₃
   ·exact back₃ _ frC
   ·exact frI
end
end J
namespace J
section
variable {X : Cx} {P : PL} {A : Around} {env : Env} {st : AS} {m mf : AM} {s : Shared}
theorem HeldL.go {D D' : Addr → Prop} {h h' : Heap} {l : Addr} {vs : List Value} {xs : List AV} (x : HeldL D h l vs xs) (S : Step D h h') (g : Gr h D D') : HeldL D' h' l vs xs :=
 let ⟨nd, ⟨n, e⟩, r⟩ := x; ⟨fun d => nd (g _ _ e d), ⟨n, S _ _ e nd⟩, r.step S g⟩
theorem HeldL.anti {D D' : Addr → Prop} {h : Heap} {l : Addr} {vs : List Value} {xs : List AV} (x : HeldL D h l vs xs) (g : ∀ b, D' b → D b) : HeldL D' h l vs xs :=
 let ⟨nd, p, r⟩ := x; ⟨fun d => nd (g _ d), p, r.anti g⟩
theorem GenR.as {X' : Cx} {P' : PL} {m' : AM} {scope : Scope} {cl : List (Str × Addr)} {a C I l : Addr} {code : Value} {oa oC oI : Obj} {g : Nat} {vs : List Value} {xs : List AV} (r : GenR X P env st m mf scope cl a C I l code oa oC oI g vs xs)
 (h1 : (a, oa) ∈ P') (h2 : (C, oC) ∈ P') (h3 : (I, oI) ∈ P') (hm : ∀ y, scope.names.lookup y = some .free → m' y = m y) : GenR X' P' env st m' mf scope cl a C I l code oa oC oI g vs xs :=
 ⟨h1, h2, h3, r.nd, r.gen, r.loc, r.icls, r.idat, r.ok, r.names, fun y hy => by rw [hm y hy]; exact r.free y hy, r.cls⟩
theorem filter_zip {pz : AV → Bool} {f : AV → AV} : ∀ {vs : List Value} {xs : List AV}, vs.length = xs.length → ((vs.zip xs).filter fun p => pz p.2).map (fun p => f p.2) = (xs.filter pz).map f
 | [], [], _ => rfl
 | v :: vs, a :: xs, h => by
  have ih := filter_zip (pz := pz) (f := f) (vs := vs) (xs := xs) (by simpa using h)
  rw [List.zip_cons_cons, List.filter_cons, List.filter_cons]
  cases pz a with
  | true => simpa using ih
  | false => simpa using ih
 | [], _ :: _, h => by exact nomatch h
 | _ :: _, [], h => by exact nomatch h
theorem upd_upd (m : AM) (x : Str) (a b : AV) : upd (upd m x a) x b = upd m x b := by
 funext y; unfold upd; by_cases h : y = x <;> simp [h]
structure GenOk (X : Cx) (A : Around) (env : Env) (st : AS) (m mf : AM) (n : Nat) (es : List Expr) (x : Str) (iter : Expr) (ifs : List Expr) (scope : Scope) (cl : List (Str × Addr)) (xs : List AV) (pz : AV → Bool) (bs : Value → AV → List AV) (bs' : AV → List AV) : Prop where
 co : scope.isCoroutine = false
 clos : closureFor scope env = pure cl
 cell : ∀ y ∈ scope.names, y.2 ≠ .cell
 h0 : scope.names.lookup (".0" : Str) = some NameKind.local
 kind : scope.kind = .function
 hs : ∀ x, genFold iter env x = pure x
 free : ∀ y, scope.names.lookup y = some .free → (env.kindOf y = some .cell ∨ env.kindOf y = some .free) ∧ (∃ c, cl.lookup y = some c) ∧ Lent st (m y) (mf y)
 cls : ∀ y c, cl.lookup y = some c → env.cells.lookup y = some c
 hx : ∀ C code, storeOk (genEnv scope cl C code builtinsNs env) x = true
 hxf : scope.names.lookup x ≠ some .free
 hsz : ∀ v a, (bs v a).length ≤ sizeLine
 B : ∀ pg C code I S l vs, GenB { X with pg := pg } n ⟨I, S, l, vs, xs, mf, scope, genEnv scope cl C code builtinsNs env⟩ x ifs es pz bs
 conv : ∀ (D₁ D' : Addr → Prop) h v a us, a ∈ xs → VR D' h v a → VRs D₁ h us (bs v a) → VRs D' h us (bs' a)
theorem w_call1 {x : Str} {xp pos : Pos} {e : Expr} {a : AV} {Q : Value → Shared → Prop} (hX : X.Ok) (ok : bltAt X.K env x (.type "list") = true) (ha : EVA X P A env st m [e] [a]) (f : FRel X P env st m s)
 (h : ∀ v s₁, FRel X P env st m s₁ → VR (DD X st P (ownOf env)) s₁.heap v a → Step (DD X st P (ownOf env)) s.heap s₁.heap → wpAny (model X.prog X.w) A (call (.type "list") [v]) Q (fun _ _ => False) s₁) :
 wpAny (model X.prog X.w) A (eval (.Call (.Name x xp) [e] [] pos) env) Q (fun _ _ => False) s :=
 wpAny_Call_NameR ((e_blt hX ok).on f fun v' s₁ f₁ r S₁ => by
  (first | cases r using VR.intE | cases r using VR.noneE | cases r using VR.boolE | cases r using VR.refE | cases r using VRs.nilE | cases r)
  refine A2 (ha pos) fun h1 h2 => ?_
  exact PyProof.Rows.callWith_type h1 (wpAny_mono (h2 (.type "list") s₁ f₁) (fun a s₂ p => by
   refine E1A2 p fun vs hn1 hn2 => ?_; clear p; obtain rfl := hn1; refine A3 hn2 fun r₂ f₂ S₂ => ?_; clear hn2
   cases r₂ using VRs.consE with | cons r rs => (first | cases rs using VR.intE | cases rs using VR.noneE | cases rs using VR.boolE | cases rs using VR.refE | cases rs using VRs.nilE | cases rs); exact h _ s₂ f₂ r (S₁.on S₂)) fun _ _ e => e))
noncomputable abbrev genP (a C I : Addr) (oa oC oI : Obj) (P : PL) : PL := [(a, oa), (C, oC)] ++ ([(I, oI)] ++ P)
noncomputable abbrev genX (X : Cx) (g : Nat) (st : GenState) : Cx := { X with pg := (g, st) :: X.pg }
noncomputable abbrev genS (es : List Expr) (k : Nat) (tp : Pos) (x : Str) (px : Pos) (iter : Expr) (ifs : List Expr) (scope : Scope) (pos : Pos) (cl : List (Str × Addr)) (C I : Addr) (code : Value) (env : Env) : GenState :=
 .fresh (.compStart (gE es k tp x px iter ifs scope pos) 0 (.ref I) .none (genEnv scope cl C code builtinsNs env))
theorem x_gen1 {bm c T : Addr} {ps : Array Value} {y x : Str} {yp px tp pos spos : Pos} {kk n : Nat} {es ifs : List Expr} {iter : Expr} {scope : Scope} {cl : List (Str × Addr)} {xs : List AV} {pz : AV → Bool} {bs : Value → AV → List AV} {bs' : AV → List AV} {ts : List Stmt} {G : Flow → Shared → Prop}
 (hX : X.Ok) (hb : BiOk X bm) (hroom : A.depth < recursionLimit) (hc : env.code = .ref c) (ht : (c, T, ps) ∈ X.tabs) (hu : ∀ t' ∈ X.tabs, t'.2.1 = T → t' = (c, T, ps))
 (o : GenOk X A env st m mf n es x iter ifs scope cl xs pz bs bs') (hi : EV X P A env st m (eval iter env) (.lst xs)) (ok : storeOk env y = true) (hs : swapsWith (gE es kk tp x px iter ifs scope pos) (some (.Name y yp)) spos.line env = pure false)
 (f : FRel X P env st m s)
 (k : ∀ (a C I l : Addr) (vs : List Value) (code : Value) (oa oC oI : Obj) (g : Nat) (s' : Shared),
  GenR (genX X g (genS es kk tp x px iter ifs scope pos cl C I code env)) (genP a C I oa oC oI P) env st m mf scope cl a C I l code oa oC oI g vs xs →
  FRel (genX X g (genS es kk tp x px iter ifs scope pos cl C I code env)) (genP a C I oa oC oI P) env st (upd m y (.ref a)) s' →
  Step (DD X st P (ownOf env)) s.heap s'.heap → Gr s.heap (DD X st P (ownOf env)) (DD X st (genP a C I oa oC oI P) (ownOf env)) → HeldL (DD X st (genP a C I oa oC oI P) (ownOf env)) s'.heap l vs xs →
  (∀ b, b = a ∨ b = C ∨ b = I → s.heap.get? b = none) → (∀ p ∈ X.pg, p.1 ≠ g) → wpAny (model X.prog X.w) A (execs ts env) G (fun _ _ => False) s') :
 wpAny (model X.prog X.w) A (execs (.Assign [.Name y yp] (gE es kk tp x px iter ifs scope pos) spos :: ts) env) G (fun _ _ => False) s := by
 refine wpAny_execs_cons (wpAny_Assign_Name ?_ hs)
 refine gen_make hX hb o.co o.clos o.cell o.h0 o.kind hroom hc ht hu o.hs hi o.free o.cls f fun a C I l vs code oa oC oI g s₁ r f₁ S₁ hl fr hg => ?_
 have gr : Gr s.heap (DD X st P (ownOf env)) (DD X st (genP a C I oa oC oI P) (ownOf env)) := fun b o e d => by
  rcases d.app with q | d
  ·have q : b = a ∨ b = C := by simpa using q
   rw [fr b (q.elim .inl fun q => .inr (.inl q))] at e; exact J.ns e
  ·rcases d.app with q | d
   ·have q : b = I := by simpa using q
    rw [fr b (.inr (.inr q))] at e; exact J.ns e
   ·exact d
 exact f₁.store (.ref a) (storeOk_kind ok) fun s₂ f₂ S₂ => k a C I l vs code oa oC oI g s₂ r f₂ (S₁.trans S₂ gr) gr (hl.go S₂ (Gr.refl _ _)) fr hg
end
end J
namespace J
section
variable {X : Cx} {P : PL} {A : Around} {env : Env} {st : AS} {m mf : AM} {s : Shared}
theorem w_listg {n kk : Nat} {lx : Str} {lp cp : Pos} {e : Expr} {scope : Scope} {cl : List (Str × Addr)} {a C I l g : Addr} {code : Value} {oa oC oI : Obj} {vs : List Value} {xs : List AV} {x : Str} {px tp pos : Pos} {iter : Expr} {ifs es : List Expr} {pz : AV → Bool} {bs : Value → AV → List AV} {bs' : AV → List AV} {P₁ : PL} {pg₁ : List (Nat × GenState)} {m₀ : AM}
 {Q : Value → Shared → Prop} (hX : X.Ok) (ok : bltAt X.K env lx (.type "list") = true) (ha : EVA X P A env st m [e] [.ref a])
 (r : GenR X P env st m mf scope cl a C I l code oa oC oI g vs xs) (hpgen : (g, genS es kk tp x px iter ifs scope pos cl C I code env) ∈ X.pg)
 (o : GenOk X A env st m₀ mf n es x iter ifs scope cl xs pz bs bs') (hr : Roomy n A.in1.in1.in1) (hd : A.depth + 10 < recursionLimit) (hxsz : xs.length ≤ sizeLine)
 (f : FRel X P env st m s) (hl : HeldL (DD X st P (ownOf env)) s.heap l vs xs) (hP₁ : ∀ p ∈ P₁, p ∈ P ∧ p.1 ≠ C ∧ p.1 ≠ I) (hpg₁ : ∀ p ∈ pg₁, p ∈ X.pg ∧ p.1 ≠ g)
 (hQ : ∀ v s', FRel { X with pg := pg₁ } P₁ env st m s' → Step (DD X st P (ownOf env)) s.heap s'.heap → VR (DD X st P₁ (ownOf env)) s'.heap v (.lst ((xs.filter pz).map fun a => .tup (bs' a))) → Q v s') :
 wpAny (model X.prog X.w) A (eval (.Call (.Name lx lp) [e] [] cp) env) Q (fun _ _ => False) s := by
 refine w_call1 hX ok ha f fun v s₁ f₁ rv S₁ => ?_
 (first | cases rv using VR.intE | cases rv using VR.noneE | cases rv using VR.boolE | cases rv using VR.refE | cases rv using VRs.nilE | cases rv)
 have notT : ∀ b ob, (b, ob) ∈ P → ¬ X.isTab b := fun b ob h q => by
  refine E1A2 (List.mem_map.mp q) fun t ht hn1 => ?_; obtain rfl := hn1
  exact f.g.tabp t ht (List.mem_map_of_mem h)
 have hl₁ := hl.go S₁ (Gr.refl _ _)
 have hlen : vs.length = xs.length := hl.2.2.length
 refine call_listgen (bs' := fun _ a => bs' a) r hpgen hr (o.hx C code) o.hxf o.co hd o.hsz hxsz (fun S => o.B X.pg C code I S l vs) (fun D₁ D' h v a us hv => o.conv D₁ D' h v a us (List.of_mem_zip hv).2) f₁ hl₁ hP₁
  ⟨fun q => by refine E1A2 (List.mem_map.mp q) fun p hp e => ?_; exact (hP₁ p hp).2.1 e, notT _ _ r.inC⟩ ⟨fun q => by refine E1A2 (List.mem_map.mp q) fun p hp e => ?_; exact (hP₁ p hp).2.2 e, notT _ _ r.inI⟩ hpg₁ fun v s₂ f₂ S₂ rv => hQ v s₂ f₂ (S₁.on S₂) ?_
 have := filter_zip (pz := pz) (f := fun a => .tup (bs' a)) hlen
 rw [← this]
 exact rv
theorem x_gens {bm c T : Addr} {ps : Array Value} {fn fr ft lx x₁ x₂ : Str} {fnp frp ftp px₁ tp₁ pos₁ sp₁ px₂ tp₂ pos₂ sp₂ sp₃ sp₄ lp₁ cp₁ lp₂ cp₂ bp : Pos} {k₁ k₂ n : Nat} {es₁ ifs₁ es₂ ifs₂ : List Expr} {iter₁ iter₂ test e₁ e₂ : Expr} {body ts : List Stmt} {sc₁ sc₂ : Scope} {cl₁ cl₂ : List (Str × Addr)} {xs : List AV} {pz₁ pz₂ : AV → Bool} {bs₁ bs₂ : Value → AV → List AV} {bs₁' bs₂' : AV → List AV} {mf₁ mf₂ : AM} {b : Bool} {Q : AF → AS → AM → Prop}
 (hX : X.Ok) (hb : BiOk X bm) (hd : A.depth + 10 < recursionLimit) (hc : env.code = .ref c) (ht : (c, T, ps) ∈ X.tabs) (hu : ∀ t' ∈ X.tabs, t'.2.1 = T → t' = (c, T, ps)) (hr : Roomy n A.in1.in1.in1) (ok : bltAt X.K env lx (.type "list") = true)
 (o₁ : GenOk X A env st m mf₁ n es₁ x₁ iter₁ ifs₁ sc₁ cl₁ xs pz₁ bs₁ bs₁') (o₂ : GenOk X A env st m mf₂ n es₂ x₂ iter₂ ifs₂ sc₂ cl₂ xs pz₂ bs₂ bs₂') (hz : xs.length + xs.length ≤ sizeLine)
 (i₁ : EV X P A env st m (eval iter₁ env) (.lst xs)) (i₂ : ∀ pg P' v, EV { X with pg := pg } P' A env st (upd m fn v) (eval iter₂ env) (.lst xs))
 (w₁ : storeOk env fn = true) (w₂ : storeOk env fr = true) (w₃ : storeOk env ft = true) (hne : fn ≠ fr) (q₁ : sc₁.names.lookup fn ≠ some .free ∧ sc₁.names.lookup fr ≠ some .free) (q₂ : sc₂.names.lookup fn ≠ some .free ∧ sc₂.names.lookup fr ≠ some .free)
 (s₁ : swapsWith (gE es₁ k₁ tp₁ x₁ px₁ iter₁ ifs₁ sc₁ pos₁) (some (.Name fn fnp)) sp₁.line env = pure false) (s₂ : swapsWith (gE es₂ k₂ tp₂ x₂ px₂ iter₂ ifs₂ sc₂ pos₂) (some (.Name fr frp)) sp₂.line env = pure false)
 (s₄ : swapsWith (.BinOp (.Call (.Name lx lp₁) [e₁] [] cp₁) .Add (.Call (.Name lx lp₂) [e₂] [] cp₂) bp) (some (.Name ft ftp)) sp₄.line env = pure false)
 (hrot : ∀ pg P' v₁ v₂, EvT { X with pg := pg } P' A env st (upd (upd m fn v₁) fr v₂) test b)
 (hbody : b = true → ∀ pg P' m', WX { X with pg := pg } P' A env st m' (execs body env) fun φ st' m'' => φ = .next ∧ st' = st ∧ m'' = upd m' fr (.lst []))
 (v₁ : ∀ pg P' m' v, m' fn = some v → EVA { X with pg := pg } P' A env st m' [e₁] [v]) (v₂ : ∀ pg P' m' v, m' fr = some v → EVA { X with pg := pg } P' A env st m' [e₂] [v])
 (rest : ∀ v₁ v₂, WX X P A env st (upd (upd (upd m fn v₁) fr v₂) ft (.lst ((xs.filter pz₁).map (fun a => .tup (bs₁' a)) ++ if b then [] else (xs.filter pz₂).map fun a => .tup (bs₂' a)))) (execs ts env) Q) :
 WX X P A env st m (execs (.Assign [.Name fn fnp] (gE es₁ k₁ tp₁ x₁ px₁ iter₁ ifs₁ sc₁ pos₁) sp₁ :: .Assign [.Name fr frp] (gE es₂ k₂ tp₂ x₂ px₂ iter₂ ifs₂ sc₂ pos₂) sp₂ :: .If test body [] sp₃ ::
  .Assign [.Name ft ftp] (.BinOp (.Call (.Name lx lp₁) [e₁] [] cp₁) .Add (.Call (.Name lx lp₂) [e₂] [] cp₂) bp) sp₄ :: ts) env) Q := fun s f => by
 have hroom : A.depth < recursionLimit := Nat.lt_of_le_of_lt (Nat.le_add_right _ _) hd
 have hxz : xs.length ≤ sizeLine := Nat.le_trans (Nat.le_add_right _ _) hz
 have XO : ∀ pg, Cx.Ok { X with pg := pg } := fun pg => ⟨hX.kin, hX.glob, hX.bi⟩
 have BO : ∀ pg, BiOk { X with pg := pg } bm := fun pg => ⟨hb.ns, hb.ne, hb.ob⟩
 refine x_gen1 hX hb hroom hc ht hu o₁ i₁ w₁ s₁ f fun a C I l vs code oa oC oI g sA rA fA SA gA hlA frA hgA => ?_
 have o₂' : GenOk (genX X g (genS es₁ k₁ tp₁ x₁ px₁ iter₁ ifs₁ sc₁ pos₁ cl₁ C I code env)) A env st (upd m fn (.ref a)) mf₂ n es₂ x₂ iter₂ ifs₂ sc₂ cl₂ xs pz₂ bs₂ bs₂' :=
  ⟨o₂.co, o₂.clos, o₂.cell, o₂.h0, o₂.kind, o₂.hs, fun y hy => by (have hy' : y ≠ fn := fun q => q₂.1 (by rw [← q]; exact hy)); rw [upd_ne hy']; exact o₂.free y hy, o₂.cls, o₂.hx, o₂.hxf, o₂.hsz, o₂.B, o₂.conv⟩
 refine x_gen1 (X := genX X g (genS es₁ k₁ tp₁ x₁ px₁ iter₁ ifs₁ sc₁ pos₁ cl₁ C I code env)) (XO _) (BO _) hroom hc ht hu o₂' (i₂ _ _ _) w₂ s₂ fA fun a₂ C₂ I₂ l₂ vs₂ code₂ oa₂ oC₂ oI₂ g₂ sB rB fB SB gB hlB frB hgB => ?_
 have hlA' := hlA.go SB gB
 have nn : ∀ p ∈ genP a₂ C₂ I₂ oa₂ oC₂ oI₂ P, p.1 ≠ C ∧ p.1 ≠ I := fun p hp => by
  have inA : ∀ b ob, (b, ob) ∈ genP a C I oa oC oI P → ∃ o, sA.heap.get? b = some o := fun b ob h => fA.din (.inr (.inl (List.mem_map_of_mem h)))
  refine E1 (inA _ _ rA.inC) fun oc eC => ?_
  refine E1 (inA _ _ rA.inI) fun oi eI => ?_
  have fresh : ∀ b, sA.heap.get? b = none → b ≠ C ∧ b ≠ I := fun b e => ⟨fun q => (by rw [q, eC] at e; exact J.sn e), fun q => (by rw [q, eI] at e; exact J.sn e)⟩
  have hp : p = (a₂, oa₂) ∨ p = (C₂, oC₂) ∨ p = (I₂, oI₂) ∨ p ∈ P := by simpa using hp
  rcases hp with rfl | rfl | rfl | hp
  ·exact fresh _ (frB _ (.inl rfl))
  ·exact fresh _ (frB _ (.inr (.inl rfl)))
  ·exact fresh _ (frB _ (.inr (.inr rfl)))
  ·refine E1 (f.din (.inr (.inl (List.mem_map_of_mem hp)) : DD X st P (ownOf env) p.1)) fun op ep => ?_
   exact ⟨fun q => (by rw [q, frA _ (.inr (.inl rfl))] at ep; exact J.ns ep), fun q => (by rw [q, frA _ (.inr (.inr rfl))] at ep; exact J.ns ep)⟩
 have n2 : ∀ p ∈ P, p.1 ≠ C₂ ∧ p.1 ≠ I₂ := fun p hp => by
  refine E1 (fA.din (.inr (.inl (List.mem_map_of_mem (List.mem_append_right _ (List.mem_append_right _ hp)))) : DD (genX X g (genS es₁ k₁ tp₁ x₁ px₁ iter₁ ifs₁ sc₁ pos₁ cl₁ C I code env)) st (genP a C I oa oC oI P) (ownOf env) p.1)) fun op ep => ?_
  exact ⟨fun q => (by rw [q, frB _ (.inr (.inl rfl))] at ep; exact J.ns ep), fun q => (by rw [q, frB _ (.inr (.inr rfl))] at ep; exact J.ns ep)⟩
 have sub : ∀ p ∈ genP a₂ C₂ I₂ oa₂ oC₂ oI₂ P, p ∈ genP a₂ C₂ I₂ oa₂ oC₂ oI₂ (genP a C I oa oC oI P) := fun p hp => by
  have hp : p = (a₂, oa₂) ∨ p = (C₂, oC₂) ∨ p = (I₂, oI₂) ∨ p ∈ P := by simpa using hp
  have : p = (a₂, oa₂) ∨ p = (C₂, oC₂) ∨ p = (I₂, oI₂) ∨ p = (a, oa) ∨ p = (C, oC) ∨ p = (I, oI) ∨ p ∈ P := hp.imp id fun h => h.imp id fun h => h.imp id fun h => .inr (.inr (.inr h))
  simpa using this
 have gAll : Gr s.heap (DD X st P (ownOf env)) (DD X st (genP a₂ C₂ I₂ oa₂ oC₂ oI₂ (genP a C I oa oC oI P)) (ownOf env)) := fun b o e d => by
  by_cases q : DD X st (genP a C I oa oC oI P) (ownOf env) b
  ·exact gA b o e q
  ·have hd : b = a₂ ∨ b = C₂ ∨ b = I₂ := by
    rcases d.app with z | z
    ·have z : b = a₂ ∨ b = C₂ := by simpa using z
     exact z.elim .inl fun z => .inr (.inl z)
    ·rcases z.app with z | z
     ·have z : b = I₂ := by simpa using z
      exact .inr (.inr z)
     ·exact absurd z q
   by_cases q' : DD X st P (ownOf env) b
   ·exact q'
   ·have := SA b o e q'
    rw [frB b hd] at this; exact J.ns this
 have SAB : Step (DD X st P (ownOf env)) s.heap sB.heap := SA.trans SB gA
 have tell : ∀ (m' : AM) (v : AV) (Lr : List AV) (sC : Shared),
  FRel (genX (genX X g (genS es₁ k₁ tp₁ x₁ px₁ iter₁ ifs₁ sc₁ pos₁ cl₁ C I code env)) g₂ (genS es₂ k₂ tp₂ x₂ px₂ iter₂ ifs₂ sc₂ pos₂ cl₂ C₂ I₂ code₂ env)) (genP a₂ C₂ I₂ oa₂ oC₂ oI₂ (genP a C I oa oC oI P)) env st m' sC →
  Step (DD X st (genP a₂ C₂ I₂ oa₂ oC₂ oI₂ (genP a C I oa oC oI P)) (ownOf env)) sB.heap sC.heap → m' = upd (upd m fn (.ref a)) fr v → Lr.length ≤ xs.length →
  (∀ (sD : Shared) (QD : Value → Shared → Prop), FRel { X with pg := [(g₂, genS es₂ k₂ tp₂ x₂ px₂ iter₂ ifs₂ sc₂ pos₂ cl₂ C₂ I₂ code₂ env)] ++ X.pg } (genP a₂ C₂ I₂ oa₂ oC₂ oI₂ P) env st m' sD → Step (DD X st (genP a₂ C₂ I₂ oa₂ oC₂ oI₂ (genP a C I oa oC oI P)) (ownOf env)) sC.heap sD.heap →
   (∀ v sE, FRel X P env st m' sE → Step (DD X st (genP a₂ C₂ I₂ oa₂ oC₂ oI₂ P) (ownOf env)) sD.heap sE.heap → VR (DD X st P (ownOf env)) sE.heap v (.lst Lr) → QD v sE) →
   wpAny (model X.prog X.w) A (eval (.Call (.Name lx lp₂) [e₂] [] cp₂) env) QD (fun _ _ => False) sD) →
  (∀ v₁ v₂, WX X P A env st (upd (upd (upd m fn v₁) fr v₂) ft (.lst ((xs.filter pz₁).map (fun a => .tup (bs₁' a)) ++ Lr))) (execs ts env) Q) →
  wpAny (model X.prog X.w) A (execs (.Assign [.Name ft ftp] (.BinOp (.Call (.Name lx lp₁) [e₁] [] cp₁) .Add (.Call (.Name lx lp₂) [e₂] [] cp₂) bp) sp₄ :: ts) env) (Post X P env st s EF Q) (fun _ _ => False) sC := by
  intro m' v Lr sC fC SC hm' hLr second rest'
  have m1 : m' fn = some (.ref a) := by rw [hm', upd_ne hne, upd_same]
  have rC : GenR (genX (genX X g (genS es₁ k₁ tp₁ x₁ px₁ iter₁ ifs₁ sc₁ pos₁ cl₁ C I code env)) g₂ (genS es₂ k₂ tp₂ x₂ px₂ iter₂ ifs₂ sc₂ pos₂ cl₂ C₂ I₂ code₂ env)) (genP a₂ C₂ I₂ oa₂ oC₂ oI₂ (genP a C I oa oC oI P)) env st m' mf₁ sc₁ cl₁ a C I l code oa oC oI g vs xs :=
   rA.as (by simp) (by simp) (by simp) fun y hy => by (have h1 : y ≠ fr := fun q => q₁.2 (by rw [← q]; exact hy)); (have h2 : y ≠ fn := fun q => q₁.1 (by rw [← q]; exact hy)); rw [hm', upd_ne h1, upd_ne h2]
  have oC' : GenOk (genX (genX X g (genS es₁ k₁ tp₁ x₁ px₁ iter₁ ifs₁ sc₁ pos₁ cl₁ C I code env)) g₂ (genS es₂ k₂ tp₂ x₂ px₂ iter₂ ifs₂ sc₂ pos₂ cl₂ C₂ I₂ code₂ env)) A env st m mf₁ n es₁ x₁ iter₁ ifs₁ sc₁ cl₁ xs pz₁ bs₁ bs₁' :=
   ⟨o₁.co, o₁.clos, o₁.cell, o₁.h0, o₁.kind, o₁.hs, o₁.free, o₁.cls, o₁.hx, o₁.hxf, o₁.hsz, o₁.B, o₁.conv⟩
  refine wpAny_execs_cons (wpAny_Assign_Name (wpAny_BinOp ?_) s₄)
  refine w_listg (X := genX (genX X g (genS es₁ k₁ tp₁ x₁ px₁ iter₁ ifs₁ sc₁ pos₁ cl₁ C I code env)) g₂ (genS es₂ k₂ tp₂ x₂ px₂ iter₂ ifs₂ sc₂ pos₂ cl₂ C₂ I₂ code₂ env)) (P₁ := genP a₂ C₂ I₂ oa₂ oC₂ oI₂ P) (pg₁ := [(g₂, genS es₂ k₂ tp₂ x₂ px₂ iter₂ ifs₂ sc₂ pos₂ cl₂ C₂ I₂ code₂ env)] ++ X.pg) (XO _) ok (v₁ _ _ _ _ m1) rC (.tail _ (.head _)) oC' hr hd hxz fC (hlA'.go SC (Gr.refl _ _)) (fun p hp => ⟨sub p hp, nn p hp⟩) (fun p hp => ?_) fun v₁ sD fD SD rD => ?_
  ·rcases List.mem_append.mp hp with hp | hp
   ·rw [List.mem_singleton] at hp; subst hp
    exact ⟨.head _, fun q => hgB _ (.head _) q.symm⟩
   ·exact ⟨.tail _ (.tail _ hp), hgA p hp⟩
  ·refine second sD _ fD SD fun v₂ sE fE SE rE => ?_
   have SsD : Step (DD X st P (ownOf env)) s.heap sD.heap := SAB.trans (SC.on SD) gAll
   have gP₁ : ∀ b, DD X st (genP a₂ C₂ I₂ oa₂ oC₂ oI₂ P) (ownOf env) b → DD X st (genP a₂ C₂ I₂ oa₂ oC₂ oI₂ (genP a C I oa oC oI P)) (ownOf env) b := DD.perm sub
   have SsE : Step (DD X st P (ownOf env)) s.heap sE.heap := SsD.trans SE fun b o e d => gAll b o e (gP₁ b d)
   have rD' : VR (DD X st P (ownOf env)) sE.heap v₁ (.lst ((xs.filter pz₁).map fun a => .tup (bs₁' a))) := (rD.step SE (Gr.refl _ _)).anti (DD.perm fun p hp => List.mem_append_right _ (List.mem_append_right _ hp))
   have hlenz : ((xs.filter pz₁).map fun a => AV.tup (bs₁' a)).length + Lr.length ≤ sizeLine := by
    rw [List.length_map]
    exact Nat.le_trans (Nat.add_le_add (List.length_filter_le _ _) hLr) hz
   refine wpAny_mono (o_addL (A := A) (m := m') (.inl rfl) (.inl rfl) hlenz sE v₁ v₂ fE rD' rE) (fun v₃ sF p => ?_) fun _ _ e => e
   obtain ⟨b', st', m'', hr', fF, SF, gF, h1, h2, h3⟩ := p
   subst h1 h2 h3
   refine fF.store hr' (storeOk_kind w₃) fun sG fG SG => ?_
   subst hm'
   exact wpAny_mono (rest' _ _ sG fG) (fun _ _ p => Post.after ((SsE.on SF).on SG) (Gr.refl _ _) p) fun _ _ e => e
 have subP : ∀ p ∈ P, p ∈ genP a₂ C₂ I₂ oa₂ oC₂ oI₂ P := fun p hp => List.mem_append_right _ (List.mem_append_right _ hp)
 refine wpAny_execs_cons (W.on (X := (genX (genX X g (genS es₁ k₁ tp₁ x₁ px₁ iter₁ ifs₁ sc₁ pos₁ cl₁ C I code env)) g₂ (genS es₂ k₂ tp₂ x₂ px₂ iter₂ ifs₂ sc₂ pos₂ cl₂ C₂ I₂ code₂ env))) (x_if (X := (genX (genX X g (genS es₁ k₁ tp₁ x₁ px₁ iter₁ ifs₁ sc₁ pos₁ cl₁ C I code env)) g₂ (genS es₂ k₂ tp₂ x₂ px₂ iter₂ ifs₂ sc₂ pos₂ cl₂ C₂ I₂ code₂ env))) (Q := fun φ st' m'' => φ = .next ∧ st' = st ∧ m'' = if b then upd (upd (upd m fn (.ref a)) fr (.ref a₂)) fr (.lst []) else upd (upd m fn (.ref a)) fr (.ref a₂)) (hrot _ _ _ _)
  (fun hb' => (hbody hb' _ _ _).mono fun φ st' m'' ⟨h1, h2, h3⟩ => ⟨h1, h2, by rw [h3, hb']; rfl⟩) fun hb' => x_nil ⟨rfl, rfl, by rw [hb']; rfl⟩) fB fun φ φ' st₁ m₁ sC q fC rC SC gC => ?_)
 refine A2 q fun hn2 hn3 => ?_; clear q; obtain rfl := hn2; refine A2 hn3 fun hn4 hn5 => ?_; clear hn3; obtain rfl := hn4; obtain rfl := hn5
 cases φ <;> first | exact rC.elim | skip
 cases b with
 | true =>
  refine tell _ (.lst []) [] sC fC SC (upd_upd _ _ _ _) (Nat.zero_le _) (fun sD QD fD SD kD => ?_) rest
  refine W.on (X := { X with pg := [(g₂, genS es₂ k₂ tp₂ x₂ px₂ iter₂ ifs₂ sc₂ pos₂ cl₂ C₂ I₂ code₂ env)] ++ X.pg }) (w_blt (X := { X with pg := [(g₂, genS es₂ k₂ tp₂ x₂ px₂ iter₂ ifs₂ sc₂ pos₂ cl₂ C₂ I₂ code₂ env)] ++ X.pg }) (pos := cp₂) (xp := lp₂) (XO _) ok (v₂ _ _ _ _ (upd_same _ _ _)) (b_list (Nat.zero_le _)) (.inr ⟨_, rfl⟩)) fD fun v b' st₁ m₁ sE q fE rE SE gE => ?_
  refine A2 q fun hn6 hn7 => ?_; clear q; obtain rfl := hn6; refine A2 hn7 fun hn8 hn9 => ?_; clear hn7; obtain rfl := hn8; obtain rfl := hn9
  exact kD v sE ((fE.sub subP).cong (pg := X.pg) rfl fE.g.gens.1 (fun p hp => fE.g.gens.2 p (List.mem_append_right _ hp)) rfl) SE (rE.anti (DD.perm subP))
 | false =>
  refine tell _ (.ref a₂) ((xs.filter pz₂).map fun a => .tup (bs₂' a)) sC fC SC rfl (by rw [List.length_map]; exact List.length_filter_le _ _) (fun sD QD fD SD kD => ?_) rest
  refine w_listg (X := { X with pg := [(g₂, genS es₂ k₂ tp₂ x₂ px₂ iter₂ ifs₂ sc₂ pos₂ cl₂ C₂ I₂ code₂ env)] ++ X.pg }) (P := genP a₂ C₂ I₂ oa₂ oC₂ oI₂ P) (P₁ := P) (pg₁ := X.pg) (m₀ := m) (mf := mf₂) (XO _) ok (v₂ _ _ _ _ (upd_same _ _ _))
   (rB.as (by simp) (by simp) (by simp) fun y hy => by (have h1 : y ≠ fr := fun q => q₂.2 (by rw [← q]; exact hy)); exact upd_ne h1) (.head _)
   ⟨o₂.co, o₂.clos, o₂.cell, o₂.h0, o₂.kind, o₂.hs, o₂.free, o₂.cls, o₂.hx, o₂.hxf, o₂.hsz, o₂.B, o₂.conv⟩ hr hd hxz fD ((hlB.go (SC.on SD) (Gr.refl _ _)).anti (DD.perm sub)) (fun p hp => ⟨subP p hp, n2 p hp⟩) (fun p hp => ⟨List.mem_append_right _ hp, hgB p (.tail _ hp)⟩) fun v sE fE SE rE => kD v sE fE SE rE
end
end J
namespace J
section
variable {X : Cx} {P : PL} {A : Around} {env : Env} {st : AS} {m : AM} {s : Shared}
inductive HasI (st : AS) (C : Addr) (ns : List Str) (l : List AV) : AV → Prop
 | inst : HasI st C ns l (.inst C ns l)
 | ref {y : Addr} (h : st y = some (.inst C ns l)) : HasI st C ns l (.ref y)
 | obj {v : Value} {a : AV} (h : HasI st C ns l a) : HasI st C ns l (.obj v a)
theorem HasI.get {C : Addr} {ns : List Str} {l : List AV} {a : AV} {v : Value} (h : HasI st C ns l a) (f : FRel X P env st m s) (r : VR (DD X st P (ownOf env)) s.heap v a) :
 ∃ d vs, v = .ref (d + 1) ∧ s.heap.get? (d + 1) = some (instObj C d) ∧ DictAt s.heap d ns vs ∧ VRs (DD X st P (ownOf env)) s.heap vs l := by
 induction h with
 | inst => cases r with | inst _ _ e x r => exact ⟨_, _, rfl, e, x, r⟩
 | ref h => (first | cases r using VR.intE | cases r using VR.noneE | cases r using VR.boolE | cases r using VR.refE | cases r using VRs.nilE | cases r); refine E2A2 (f.g.objs _ _ h) fun d vs hn1 hn2 => ?_; obtain rfl := hn1; refine A3 hn2 fun e x r => ?_; clear hn2; exact ⟨d, vs, rfl, e, x, r⟩
 | obj h ih => cases r using VR.objE with | obj r => exact ih r
theorem e_attrI {x : Str} {xp : Pos} {attr : Str} {pos : Pos} {C : Addr} {ns : List Str} {l : List AV} {a b : AV} (hX : X.Ok) (hb : HasI st C ns l b) (h : EV X P A env st m (eval (.Name x xp) env) b) (hp : plainAttr X.K C attr = true) (hl : (ns.zip l).lookup attr = some a) :
 EV X P A env st m (eval (.Attribute (.Name x xp) attr pos) env) a :=
 fun s f => Attribute_name (h.on f fun v s₁ f₁ r S₁ => by
  refine E2A2 (hb.get f₁ r) fun d vs hn3 hn4 => ?_; obtain rfl := hn3; refine A3 hn4 fun e x r => ?_; clear hn4
  exact wpAny_mono (attr_load hX.kin f₁ e x r hp hl) (fun _ _ p => Post.after S₁ (Gr.refl _ _) p) fun _ _ e => e)
set_option tactic.hygienic true in
theorem e_propI {x : Str} {xp : Pos} {name : Str} {pos : Pos} {C p g : Addr} {ns : List Str} {l : List AV} {a b : AV} {n : Nat} (hX : X.Ok) (hb : HasI st C ns l b) (ho : EV X P A env st m (eval (.Name x xp) env) b) (hp : propAt X.K C name p g = true) (h : FNv X n g st [b] a) (R : Room (n + 1) A P (locOf env)) :
 EV X P A env st m (eval (.Attribute (.Name x xp) name pos) env) a := fun s f => Attribute_name (ho.on f fun v s₁ f₁ r S₁ => by
 have r' := r
 refine E2A2 (hb.get f₁ r) fun d vs hn5 hn6 => ?_; obtain rfl := hn5; refine A3 hn6 fun e x _ => ?_; clear hn6
 unfold propAt at hp
 simp only [Bool.and_eq_true, beq_iff_eq] at hp
 refine A2 hp fun hn7 h7 => ?_; clear hp; refine A2 hn7 fun hn8 h6 => ?_; clear hn7; refine A2 hn8 fun hn9 h5 => ?_; clear hn8; refine A2 hn9 fun hn10 h4 => ?_; clear hn9; refine A2 hn10 fun hn11 h3 => ?_; clear hn10; refine A2 hn11 fun h1 h2 => ?_; clear hn11
 refine E2A2 (inst_at (D := fun _ => False) e x) fun es k I q => ?_
 split at h7
 ·rename_i g' rest hr
  obtain rfl := beq_iff_eq.mp h7
  refine get_bind (f₁.kin hX.kin) I h1 (findObj_data h3 h4 h5 h6) h2 (wpAny_call (prop_get (s := { s₁ with toks := s₁.toks + 1 }) (f₁.kin hX.kin) hr ?_))
  refine E1A4 ((f₁.tok (tk := s₁.toks + 1)).leave) fun P' c hR hd back => ?_
  refine codeAny_mono (h P' A.in1 _ _ (hR _ _ R.in1) c (.cons ((r'.keeps fun _ _ e => e).anti fun b d => (hd b).mp d) .nil)) fun res s' z => ?_
  obtain ⟨v, b, st', rfl, rv, g', S, G, rfl, rfl⟩ := z
  refine A3 (back _ s' g' S G) fun f' S' w => ?_
  dsimp only
  rw [handedOut_of rv.handed]
  exact wpAny_pure (Post.here f' (S₁.on S') (rv.anti w))
 ·exact J.ft h7)
theorem e_methI {o : Expr} {name : Str} {apos pos : Pos} {es : List Expr} {as : List AV} {C : Addr} {ns : List Str} {l : List AV} {b : AV} {g : Addr} {n : Nat} {pl : Sem Bool} {Q : AV → AS → Prop} (hX : X.Ok) (hb : HasI st C ns l b) (ho : EV X P A env st m (eval o env) b)
 (hm : methodAt X.K C name g = true) (hh : ns.contains name = false) (hk : keepIn X.K (.ref g) = true) (ha : EVA X P A env st m es as) (h : FN X n g st (b :: as) Q) (R : Room n A P (locOf env))
 (he : eval (.Call (.Attribute o name apos) es [] pos) env = (do
  let ov ← eval o env
  standAt apos.atName
  let (f, first) ← holding [ov] (getMethod ov name pl)
  callWith pos f first (backTo pos (starEach es env)) (backToKw pos (keywordEach [] env)))) :
 WE X P A env st m (eval (.Call (.Attribute o name apos) es [] pos) env) fun a st' m' => Q a st' ∧ m' = m := fun s f =>
 methodCall_KW (ho.on f fun v s₁ f₁ r S₁ => by
  have r' := r
  refine E2A2 (hb.get f₁ r) fun d vs hn16 hn17 => ?_; obtain rfl := hn16; refine A3 hn17 fun e x _ => ?_; clear hn17
  refine get_meth (f₁.kin hX.kin) e x hm hh ?_
  refine c_with hX hk ha f₁ fun vs s₂ f₂ r₂ S₂ => ?_
  exact wpAny_mono (call_fn h R f₂ (.cons (r'.held S₂) r₂)) (fun _ _ p => Post.after (S₁.on S₂) (Gr.refl _ _) p) fun _ _ e => e) he
end
theorem HasI.put {st : AS} {z : Addr} {o : AO} {C : Addr} {ns : List Str} {l : List AV} {b : AV} (h0 : st z = none) (h : HasI st C ns l b) : HasI (put st z o) C ns l b := by
 induction h with
 | inst => exact .inst
 | ref h => exact .ref (by rw [put_ne (fun q => by rw [q, h0] at h; exact J.ns h)]; exact h)
 | obj _ ih => exact .obj ih
end J
namespace J
section
variable {X : Cx} {P : PL} {A : Around} {env : Env} {st : AS} {m : AM} {s : Shared}
theorem FRel.relabel (f : FRel X P env st m s) {x : Str} {a : AV} (h : ∀ ov, VRo (DD X st P (ownOf env)) s.heap ov (m x) → VRo (DD X st P (ownOf env)) s.heap ov (some a)) : FRel X P env st (upd m x a) s := by
 have up : ∀ y ov, VRo (DD X st P (ownOf env)) s.heap ov (m y) → VRo (DD X st P (ownOf env)) s.heap ov (upd m x a y) := fun y ov r => by
  by_cases q : y = x
  ·subst q; rw [upd_same]; exact h ov r
  ·rw [upd_ne q]; exact r
 exact ⟨f.g, ⟨f.f.kind, f.f.glob, f.f.bi, (let ⟨mv, h1, h2⟩ := f.f.ns; ⟨mv, h1, fun y hy => up y _ (h2 y hy)⟩), fun y hy => (let ⟨c, ov, h1, h2, h3⟩ := f.f.cl y hy; ⟨c, ov, h1, h2, up y _ h3⟩), f.f.apart, f.f.apartL⟩, f.own⟩
theorem W.settle {α β : Type} {R : (Addr → Prop) → Heap → α → β → Prop} {t : Sem α} {Q : β → AS → AM → Prop} {x : Str} {z : Addr} {l : List AV} (hz : st z = some (.list l)) (hx : m x = some (.ref z)) (h : W X P A env (drop st z) (upd m x (.lst l)) R t Q) : W X P A env st m R t Q := fun s f => by
 obtain ⟨f₁, r₁⟩ := f.freeze hz
 have f₂ := f₁.relabel (x := x) (a := .lst l) fun ov r => by
  rw [hx] at r
  cases ov with
  | none => exact r.elim
  | some v => (first | cases r using VR.intE | cases r using VR.noneE | cases r using VR.boolE | cases r using VR.refE | cases r using VRs.nilE | cases r); exact r₁
 have w : ∀ b, DD X (drop st z) P (ownOf env) b → DD X st P (ownOf env) b := fun b d => d.imp Dom.of_drop id
 refine wpAny_mono (h s f₂) (fun v s' p => ?_) fun _ _ e => e
 obtain ⟨b, st', m', r, f', S, g, q⟩ := p
 exact ⟨b, st', m', r, f', S.mono fun b o e d => w b d, fun b o e d => (g b o e d).of_drop, q⟩
end
end J
namespace J
section
variable {X : Cx} {P : PL} {A : Around} {env : Env} {st : AS} {m : AM} {s : Shared}
theorem mm_loc {scope : Scope} {m ml : AM} {y : Str} {a : AV} (h : (scope.names.lookup y == some .local) = true) (t : ml y = some a) : MM scope m ml y = some a := by
 unfold MM mix; rw [if_pos (beq_iff_eq.mp h)]; exact t
theorem mm_free {scope : Scope} {m ml : AM} {y : Str} {a : AV} (h : (scope.names.lookup y == some .free) = true) (t : m y = some a) : MM scope m ml y = some a := by
 have h := beq_iff_eq.mp h
 unfold MM mix; rw [if_neg (by rw [h]; decide)]; unfold freeM; rw [if_pos h]; exact t
theorem mm_upd {scope : Scope} {m ml : AM} {y : Str} {a : AV} (h : (scope.names.lookup y == some .local) = true) : upd (MM scope m ml) y a = MM scope m (upd ml y a) := by
 have h := beq_iff_eq.mp h
 funext z
 unfold upd MM mix
 by_cases q : z = y
 ·subst q; rw [if_pos rfl, if_pos h]; exact (if_pos rfl).symm
 ·rw [if_neg q]
  by_cases q2 : scope.names.lookup z = some .local
  ·rw [if_pos q2, if_pos q2]; exact (if_neg q).symm
  ·rw [if_neg q2, if_neg q2]
theorem e_indexA {value idx : Expr} {pos : Pos} {a b : AV} {xs : List AV} {k : Int} (hv : EV X P A env st m (eval value env) a) (hL : IsL st a xs) (hi : EV X P A env st m (eval idx env) (.int k)) (h0 : 0 ≤ k) (hf : k < 2 ^ 63) (hx : xs[k.toNat]? = some b)
 (ok : ∀ l k u, subscripted idx false (.ref l) (.int k u) = operate [.ref l, .int k u] (getItem (.ref l) (.int k u))) :
 EV X P A env st m (eval (.Subscript value idx pos) env) b := fun s f => Subscript_ (hv.on f fun v s₁ f₁ r₁ S₁ => hi.on f₁ fun i s₂ f₂ r₂ S₂ => by
 refine E3A2 (hL.get f₂ (r₁.held S₂)) fun l vs n hn1 hn2 => ?_; obtain rfl := hn1; refine A2 hn2 fun e rs => ?_; clear hn2
 cases r₂
 refine E1A2 (rs.get _ _ hx) fun v hv rv => ?_
 exact tail_any (list_is e).typeIs slot_list_getitem.lookup (wpAny_getItem_list (list_is e) h0 hf (x := v) (by rw [List.getElem?_toArray]; exact hv) (Post.here f₂ (S₁.on S₂) rv)) (ok _ _ _))
noncomputable def TG (X : Cx) (A : Around) (scope : Scope) (env : Env) (m : AM) (tgt : Expr) (a : AV) (F : AM → AM) : Prop :=
 ∀ P' cl C ml, ∃ F', ASG X P' A (compEnvC scope cl C env) tgt a F' ∧ F' (MM scope m ml) = MM scope m (F ml)
theorem tg_name {scope : Scope} {x : Str} {px : Pos} {a : AV} (h : ∀ cl C, storeOk (compEnvC scope cl C env) x = true) (hl : (scope.names.lookup x == some .local) = true) : TG X A scope env m (.Name x px) a (fun ml => upd ml x a) :=
 fun _ _ _ _ => ⟨_, a_name (h _ _), mm_upd hl⟩
theorem e_comp1 {elt tgt iter : Expr} {ifs : List Expr} {scope : Scope} {pos : Pos} {xs : List AV} {NS : AS → Prop} (g : AV → List AV) (L : AV → AM → AM)
 (ok : compOk env scope = true) (hs : ∀ x, foldedSetIterable iter env x = pure x) (hi : EVI X P A env st m tgt iter xs NS) (hNS : ∀ st', Ext st st' → NS st')
 (hz : (xs.flatMap g).length ≤ sizeLine) (hT : ∀ a ∈ xs, TG X A scope env m tgt a (L a))
 (turn : ∀ P' cl C D a ml, st D = none → (∀ n, Room n A P (locOf env) → Room n A P' (locOf (compEnvC scope cl C env))) → a ∈ xs → ∃ q, (∀ acc, EvIfs X P' A (compEnvC scope cl C env) (put st D (.list acc)) (MM scope m (L a ml)) ifs q) ∧
  (q = true → ∃ b, (∀ acc, EV X P' A (compEnvC scope cl C env) (put st D (.list acc)) (MM scope m (L a ml)) (eval elt (compEnvC scope cl C env)) b) ∧ g a = [b]) ∧ (q = false → g a = [])) :
 EV X P A env st m (eval (.ListComp elt [⟨tgt, iter, ifs, 0⟩] scope pos) env) (.lst (xs.flatMap g)) :=
 e_comp g (turn1 elt tgt iter ifs scope pos) ok hs hi hNS hz fun P' cl C D a ml hD hR ha => by
  refine E1A3 (turn P' cl C D a ml hD hR ha) fun q h1 h2 h3 => ?_
  refine E1A2 (hT a ha P' cl C ml) fun F' hF e => ?_
  exact ⟨F', L a ml, q, hF, e, h1, fun h => let ⟨b, hb, e⟩ := h2 h; e ▸ cm_emit hb ⟨_, rfl⟩, h3⟩
theorem x_set_comp1 {y : Str} {py : Pos} {elt tgt iter : Expr} {ifs : List Expr} {scope : Scope} {pos spos : Pos} {xs : List AV} {NS : AS → Prop} {Q : AF → AS → AM → Prop} (g : AV → List AV) (L : AV → AM → AM)
 (hsw : swapsWith (.ListComp elt [⟨tgt, iter, ifs, 0⟩] scope pos) (some (.Name y py)) spos.line env = pure true) (hy : storeOk env y = true)
 (ok : compOk env scope = true) (hs : ∀ x, foldedSetIterable iter env x = pure x) (hi : EVI X P A env st m tgt iter xs NS) (hNS : ∀ st', Ext st st' → NS st')
 (hz : (xs.flatMap g).length ≤ sizeLine) (hT : ∀ a ∈ xs, TG X A scope env m tgt a (L a))
 (turn : ∀ P' cl C D a ml, st D = none → (∀ n, Room n A P (locOf env) → Room n A P' (locOf (compEnvC scope cl C env))) → a ∈ xs → ∃ q, (∀ acc, EvIfs X P' A (compEnvC scope cl C env) (put st D (.list acc)) (MM scope m (L a ml)) ifs q) ∧
  (q = true → ∃ b, (∀ acc, EV X P' A (compEnvC scope cl C env) (put st D (.list acc)) (MM scope m (L a ml)) (eval elt (compEnvC scope cl C env)) b) ∧ g a = [b]) ∧ (q = false → g a = []))
 (q : Q .next st (upd m y (.lst (xs.flatMap g)))) :
 WX X P A env st m (exec (.Assign [.Name y py] (.ListComp elt [⟨tgt, iter, ifs, 0⟩] scope pos) spos) env) Q :=
 x_set_comp g hsw hy (turn1 elt tgt iter ifs scope pos) ok hs hi hNS hz (fun P' cl C D a ml hD hR ha => by
  refine E1A3 (turn P' cl C D a ml hD hR ha) fun q h1 h2 h3 => ?_
  refine E1A2 (hT a ha P' cl C ml) fun F' hF e => ?_
  exact ⟨F', L a ml, q, hF, e, h1, fun h => let ⟨b, hb, e⟩ := h2 h; e ▸ cm_emit hb ⟨_, rfl⟩, h3⟩) q
theorem e_comp2 {elt t0 i0 t1 i1 : Expr} {f1 : List Expr} {scope : Scope} {pos : Pos} {xs : List AV} {NS : AS → Prop} (ys : AV → List AV) (g : AV → AV → List AV) (L0 L1 : AV → AM → AM) (J1 : AV → AM → Prop)
 (ok : compOk env scope = true) (hs : ∀ x, foldedSetIterable i0 env x = pure x) (hs1 : ∀ cl C x, foldedSetIterable i1 (compEnvC scope cl C env) x = pure x) (hi : EVI X P A env st m t0 i0 xs NS) (hNS : ∀ st', Ext st st' → NS st')
 (hz : (xs.flatMap fun a => (ys a).flatMap (g a)).length ≤ sizeLine) (hT0 : ∀ a ∈ xs, TG X A scope env m t0 a (L0 a)) (hT1 : ∀ a ∈ xs, ∀ b ∈ ys a, TG X A scope env m t1 b (L1 b))
 (hJ0 : ∀ a ml, J1 a (L0 a ml)) (hJ1 : ∀ a b ml, J1 a ml → J1 a (L1 b ml))
 (hi1 : ∀ P' cl C D a ml, st D = none → (∀ n, Room n A P (locOf env) → Room n A P' (locOf (compEnvC scope cl C env))) → a ∈ xs → J1 a ml → ∃ NS1 : AS → Prop, (∀ acc, EVI X P' A (compEnvC scope cl C env) (put st D (.list acc)) (MM scope m ml) t1 i1 (ys a) NS1) ∧ (∀ acc, NS1 (put st D (.list acc))))
 (turn : ∀ P' cl C D a b ml, st D = none → (∀ n, Room n A P (locOf env) → Room n A P' (locOf (compEnvC scope cl C env))) → a ∈ xs → b ∈ ys a → J1 a ml → ∃ q, (∀ acc, EvIfs X P' A (compEnvC scope cl C env) (put st D (.list acc)) (MM scope m (L1 b ml)) f1 q) ∧
  (q = true → ∃ r, (∀ acc, EV X P' A (compEnvC scope cl C env) (put st D (.list acc)) (MM scope m (L1 b ml)) (eval elt (compEnvC scope cl C env)) r) ∧ g a b = [r]) ∧ (q = false → g a b = [])) :
 EV X P A env st m (eval (e2 elt t0 i0 [] t1 i1 f1 scope pos) env) (.lst (xs.flatMap fun a => (ys a).flatMap (g a))) :=
 e_comp (fun a => (ys a).flatMap (g a)) (turn2 elt t0 i0 [] t1 i1 f1 scope pos) ok hs hi hNS hz fun P' cl C D a ml hD hR ha => by
  refine E1A2 (hT0 a ha P' cl C ml) fun F' hF e => ?_
  refine ⟨F', L0 a ml, true, hF, e, fun acc => ifs_nil, fun _ => ?_, fun h => by cases h⟩
  refine E1A2 (hi1 P' cl C D a (L0 a ml) hD hR ha (hJ0 a ml)) fun NS1 h1 h2 => ?_
  refine cm_inner (JI := fun m' => ∃ ml', m' = MM scope m ml' ∧ J1 a ml') (fun acc m' e => e ▸ h1 acc) (hs1 cl C) h2 (fun m' e => ⟨_, e, hJ0 a ml⟩) (fun m' ⟨ml', e, _⟩ => ⟨ml', e⟩) ?_
  intro Pk b _ hb hr1; refine E1A2 hr1 fun ml' hr2 hJ => ?_; clear hr1; obtain rfl := hr2
  refine E1A3 (turn (Pk ++ P') cl C D a b ml' hD (fun n R => (hR n R).more fun p hp => List.mem_append_right _ hp) ha hb hJ) fun q k1 k2 k3 => ?_
  refine E1A2 (hT1 a ha b hb (Pk ++ P') cl C ml') fun F1 hF1 e1 => ?_
  exact ⟨F1, q, hF1, fun acc => e1 ▸ k1 acc, fun h => let ⟨r, hr, e⟩ := k2 h; ⟨r, fun acc => e1 ▸ hr acc, e⟩, k3, ⟨_, e1, hJ1 a b ml' hJ⟩⟩
end
end J
namespace J
section
variable {X : Cx} {P : PL} {A : Around} {env : Env} {st : AS} {m : AM} {s : Shared}
theorem e_appendA {ox : Expr} {ap cp : Pos} {e : Expr} {a : Addr} {Q : AV → AS → AM → Prop} {pl : Sem Bool} (hx : EV X P A env st m (eval ox env) (.ref a))
 (hv : WE X P A env st m (eval e env) fun b st' m' => ∃ l, st' a = some (.list l) ∧ l.length ≤ sizeLine ∧ Q .none (put st' a (.list (l ++ [b]))) m') (hl : ∃ l, st a = some (.list l))
 (hse : starEach [e] env = [(false, eval e env)])
 (he : eval (.Call (.Attribute ox "append" ap) [e] [] cp) env = (do
  let ov ← eval ox env
  standAt ap.atName
  let (f, first) ← holding [ov] (getMethod ov "append" pl)
  callWith cp f first (backTo cp (starEach [e] env)) (backToKw cp (keywordEach [] env)))) :
 WE X P A env st m (eval (.Call (.Attribute ox "append" ap) [e] [] cp) env) Q := fun s f =>
 methodCall_KW (hx.on f fun v s₁ f₁ r S₁ => by
  (first | cases r using VR.intE | cases r using VR.noneE | cases r using VR.boolE | cases r using VR.refE | cases r using VRs.nilE | cases r)
  refine E1 hl fun l₀ hl₀ => ?_; clear hl
  refine E2A2 (f₁.g.objs a _ hl₀) fun vs₀ n₀ e₀ _ => ?_
  refine getMethod_list_append e₀ rfl rfl ?_
  refine callWith_method1 ?_ hse
  rw [hse]
  refine spliced_cons ?_
  refine W.on hv f₁ fun b bv st₂ m₂ s₂ q f₂ r₂ S₂ g₂ => ?_
  refine spliced_nil ?_
  refine E1A3 q fun l hl hz q => ?_
  obtain ⟨vs, n, e, rs⟩ := f₂.g.objs a _ hl
  refine wpAny_list_append_plain ⟨n, e⟩ (fun h' hp hs => ?_) (by rw [List.size_toArray, rs.length]; exact hz)
  obtain ⟨n', e'⟩ := hp
  have kk : ∀ b x, b ∉ AO.foot a (.list (l ++ [bv])) → s₂.heap.get? b = some x → h'.get? b = some x := fun b x hb e => (hs.2 b (fun z => hb (by rw [z]; simp [AO.foot]))).trans e
  have md := f₂.mod (o := .list (l ++ [bv])) (tk := s₂.toks) hl rfl kk ⟨vs ++ [b], n', by rw [e', List.push_toArray], VRs.move (D := DD X st₂ P (ownOf env)) (h := s₂.heap) (fun c x e nd => ⟨kk c x (fun z => nd (.inl ⟨a, _, hl, z⟩)) e, nd⟩) (rs.append (.cons r₂ .nil))⟩
  exact ⟨.none, _, m₂, .none, md.1, (S₁.trans S₂ (Gr.refl _ _)).trans md.2.1 (DD.grow (grow_on S₁ (Gr.refl _ _) f₂ g₂)), grow_on (S₁.on S₂) (grow_on S₁ (Gr.refl _ _) f₂ g₂) md.1 md.2.2, q⟩) he
end
end J
namespace J
section
variable {X : Cx} {P : PL} {A : Around} {env : Env} {st : AS} {m : AM} {s : Shared}
theorem CRel.keeps (g : CRel X P st s) {h' : Heap} {tk : Nat} (k : ∀ b o, s.heap.get? b = some o → h'.get? b = some o) : CRel X P st { s with heap := h', toks := tk } := GRel.keeps (d := s.drawn) g k
theorem CRel.addP {h' : Heap} {tk : Nat} (g : CRel X P st s) (k : ∀ b o, s.heap.get? b = some o → h'.get? b = some o) (I : Addr) (o : Obj) (fresh : s.heap.get? I = none) (e : h'.get? I = some o) :
 CRel X ((I, o) :: P) st { s with heap := h', toks := tk } := by
 have S : ∀ b x, s.heap.get? b = some x → ¬ D0 X st P b → h'.get? b = some x ∧ ¬ D0 X st ((I, o) :: P) b := fun b x e' nd => ⟨k b x e', fun d => by
  rcases d with d | d | d | d
  ·exact nd (.inl d)
  ·rcases List.mem_cons.mp d with q | d
   ·subst q; rw [fresh] at e'; exact J.ns e'
   ·exact nd (.inr (.inl d))
  ·exact nd (.inr (.inr (.inl d)))
  ·exact nd (.inr (.inr (.inr d)))⟩
 refine ⟨fun b x e' => k b x (g.base b x e'), fun t ht => let ⟨more, a, b⟩ := g.tabs t ht; ⟨more, a.keeps k, b.keeps k⟩, fun b x e' => (g.objs b x e').move S fun c _ y => k c y, fun b d => ?_, fun p hp => ?_, fun b d => ⟨fun q => ?_, (g.off b d).2⟩, g.gens, g.os, g.tabc, g.nolim, fun t ht q => (by
  rcases List.mem_cons.mp q with q | q
  ·refine E1A2 (g.tabs t ht) fun _ a1 _ => ?_
   have := a1.2
   rw [show t.2.1 = I from q, fresh] at this; exact J.ns this
  ·exact g.tabp t ht q)⟩
 ·rcases d with d | d | d | d
  ·exact g.lo b (.inl d)
  ·rcases List.mem_cons.mp d with q | d
   ·have q : b = I := q
    subst q
    cases z : X.g0.get? b with
    | none => rfl
    | some y => have := g.base b y z; rw [fresh] at this; exact J.ns this
   ·exact g.lo b (.inr (.inl d))
  ·exact g.lo b (.inr (.inr (.inl d)))
  ·exact g.lo b (.inr (.inr (.inr d)))
 ·rcases List.mem_cons.mp hp with rfl | hp
  ·exact .of e
  ·exact (g.priv p hp).by (k _)
 ·rcases List.mem_cons.mp q with q | q
  ·have q : b = I := q
   subst q; refine E1 (g.din (.inl d)) fun y z => ?_; rw [fresh] at z; exact J.ns z
  ·exact (g.off b d).1 q
theorem CRel.sub {P₂ : PL} (g : CRel X P st s) (h : ∀ p ∈ P₂, p ∈ P) : CRel X P₂ st s := by
 have hm : ∀ b, b ∈ P₂.map (·.1) → b ∈ P.map (·.1) := fun b hb => by
  refine E1A2 (List.mem_map.mp hb) fun p hp hn1 => ?_; obtain rfl := hn1; exact List.mem_map_of_mem (h p hp)
 have w : ∀ b, D0 X st P₂ b → D0 X st P b := fun b d => d.imp id fun d => d.imp (hm b) id
 exact ⟨g.base, g.tabs, fun a o e => (g.objs a o e).anti w, fun b d => g.lo b (w b d), fun p hp => g.priv p (h p hp), fun b d => ⟨fun q => (g.off b d).1 (hm b q), (g.off b d).2⟩, g.gens, g.os, g.tabc, g.nolim, fun t ht q => g.tabp t ht (hm _ q)⟩
set_option tactic.hygienic true in
theorem wp_peekA {α : Type} {K : Frag} {M : Model} {E : Value → Shared → Prop} {Q : α → Shared → Prop} {o : Obj} (X : K.In s.heap) :
 ∀ (t : Sem α) (g : Addr → Sem α), peekA K ⟨M.prog, M.w.params⟩ t = some (o, g) → wpAny M A (g s.heap.objs.size) Q E { s with heap := s.heap.push o } → wpAny M A t Q E s := by
 intro t
 induction t with
 | rule _ k ih => intro g e q Γ p hΓ; exact ih () g e q Γ p hΓ
 | point _ k ih => intro g e q Γ p hΓ; exact ih () g e q Γ p hΓ
 | ask k ih => intro g e q Γ p hΓ; exact ih _ g e q Γ p hΓ
 | load a _ k ih =>
  intro g e q Γ p hΓ
  simp only [peekA] at e
  split at e
  ·rename_i ob ho; exact ⟨ob, X _ _ ho, ih ob g e q Γ p hΓ⟩
  ·exact J.ns e
 | alloc ob k _ =>
  intro g e q
  have e : some (ob, k) = some (o, g) := e
  refine A2 (Prod.mk.inj (Option.some.inj e)) fun e1 e2 => ?_
  subst e1
  subst e2
  show wpAny M A (alloc ob >>= k) Q E s
  exact wpAny_bind (wpAny_alloc q)
 | _ => intro g e; exact J.ns e
theorem bindA_rel {D : Addr → Prop} {h : Heap} {x : Str} {bs : List (Str × Value)} {as : List (Str × AV)} (br : BR D h bs as) (mv : Option Value) (m : AM) (hm : VRo D h mv (m x)) : VRo D h ((bs.reverse.lookup x).or mv) (bindA as m x) := by
 induction br generalizing mv m with
 | nil => exact hm
 | @cons n v a bs as r rs ih =>
  rw [List.reverse_cons, List.lookup_append]
  have ih := ih (if x = n then some v else mv) (upd m n a) (by
   unfold upd
   by_cases q : x = n
   ·rw [if_pos q, if_pos q]; exact r
   ·rw [if_neg q, if_neg q]; exact hm)
  have e : ((bs.reverse.lookup x).or ([(n, v)].lookup x)).or mv = (bs.reverse.lookup x).or (if x = n then some v else mv) := by
   rw [Option.or_assoc]
   congr 1
   by_cases q : x = n
   ·subst q; simp
   ·rw [if_neg q]
    have : (x == n) = false := by simpa using q
    simp [List.lookup, this]
  rw [e]; exact ih
theorem FN.ofX {β : Type} {n : Nat} {f : Addr} {args : List AV} {Q : AV → AS → Prop} {name qual : Str} {params : Arguments} {body : List Stmt} {scope : Scope} {cl : List (Str × Addr)} {dV kV doc pm cdv ct oc : Value} {an od : Option Addr} {osl : Array (Option Value)} {abinds : β → List (Str × AV)} {PP : β → PL → Prop}
 (hK : X.K.In X.g0) (ho : X.K.lookup f = some ⟨oc, od, .func (fnX name qual params body scope cl dV kV doc pm an cdv ct), osl⟩) (hcd : codeIn X.K cdv qual = true)
 (hbind : ∀ (P : PL) (A : Around) (s : Shared) (vals : List Value) (G : List (Str × Value) → Shared → Prop) (E : Value → Shared → Prop), CRel X P st s → VRs (D0 X st P) s.heap vals args →
  (∀ k P₁ binds h' tk, (∀ b o, s.heap.get? b = some o → h'.get? b = some o) → PP k P₁ → (∀ p ∈ P₁, s.heap.get? p.1 = none) → CRel X (P₁ ++ P) st { s with heap := h', toks := tk } → BR (D0 X st (P₁ ++ P)) h' binds (abinds k) → G binds { s with heap := h', toks := tk }) →
  wpAny (model X.prog X.w) A (bindArgs (fnX name qual params body scope cl dV kV doc pm an cdv ct) ⟨vals, []⟩) G E s)
 (hk : scope.kind = .function) (hco : scope.isCoroutine = false) (hgen : scope.isGenerator = false)
 (hkind : ∀ k, ((abinds k).all fun y => scope.names.lookup y.1 == some .local) = true) (hcell : (scope.names.all fun y => y.2 != .cell) = true)
 (hfree : ∀ y, scope.names.lookup y = some .free → ∃ c v oc od sl, cl.lookup y = some c ∧ X.K.lookup c = some ⟨oc, od, .cell v, sl⟩)
 (h : ∀ P A L k P₁, PP k P₁ → Room n A (P₁ ++ P) (locOf (envX qual scope L f cdv cl)) → (50 ≤ n → ∃ l, A.frames = some (envX qual scope L f cdv cl :: l)) → WX X (P₁ ++ P) A (envX qual scope L f cdv cl) st (bindA (abinds k) noM) (execs body (envX qual scope L f cdv cl))
  fun φ st' _ => match φ with | .ret a => Q a st' | _ => Q .none st') : FN X (n + 1) f st args Q := by
 intro P A s vals R g rv
 have hX : X.K.In s.heap := hK.keeps g.base
 have hnc : ∀ x ∈ scope.names, x.2 ≠ .cell := fun x hx => by have := List.all_eq_true.mp hcell x hx; simpa using this
 have hnc' : ∀ x, scope.names.lookup x ≠ some .cell := fun x e => hnc _ (mem_of_lookup e) rfl
 refine codeAny_call_function (body := body) R.ok (hX _ _ ho) rfl hco hgen rfl (codeRec_of hX hcd) (hbind P A.in1 s vals _ _ g rv fun k P₁ binds h₀ tk₀ k₀ pp fr g₁ br => ?_)
 have hkb : ∀ x ∈ binds, scope.names.lookup x.1 = some .local := by
  have hkind := hkind k
  generalize abinds k = ab at br hkind
  clear h hbind
  induction br with
  | nil => intro x hx; exact J.mn hx
  | cons r rs ih =>
   rw [List.all_cons, Bool.and_eq_true] at hkind
   intro x hx
   rcases List.mem_cons.mp hx with rfl | hx
   ·simpa using hkind.1
   ·exact ih hkind.2 x hx
 refine wpAny_newFunctionEnv hnc hkb (fun h₁ hns hsb => ?_) hk
 have hlim : h₁.NoLimit := (g₁.nolim.keeps g₁.base).fresh _ hsb
 refine ⟨hlim, codeAny_func ?_⟩
 generalize hL : ({ s with heap := h₀, toks := tk₀ } : Shared).heap.objs.size = L at hns hsb ⊢
 have hL : h₀.objs.size = L := hL
 have hkeep : ∀ b o, h₀.get? b = some o → h₁.get? b = some o := fun b o e => hsb.extBut b o (by rw [← hL]; exact Nat.ne_of_lt (Heap.lt_size e)) (Heap.get?_push_of_some _ e)
 have hown : ∀ b, ownOf (envX qual scope L f cdv cl) b → b = L := by
  rintro b (rfl | ⟨y, hy, _⟩)
  ·rfl
  ·exact absurd hy (hnc' y)
 have nm : ∀ b o, h₀.get? b = some o → ¬ D0 X st (P₁ ++ P) b → h₁.get? b = some o ∧ ¬ DD X st (P₁ ++ P) (ownOf (envX qual scope L f cdv cl)) b := fun b o e nd => ⟨hkeep b o e, fun d => by
  rcases d with d | d | d | d
  ·exact nd (.inl d)
  ·exact nd (.inr (.inl d))
  ·have := hown b d
   rw [this, ← hL, get_size] at e; exact J.ns e
  ·exact nd (.inr (.inr (.inr d)))⟩
 have br' := br.move nm
 have F : FRel X (P₁ ++ P) (envX qual scope L f cdv cl) st (bindA (abinds k) noM) { s with heap := h₁, toks := tk₀ + binds.length } := by
  refine enter (s := { s with heap := h₀, toks := tk₀ }) g₁ hkeep hk rfl rfl ?_ ⟨_, hns, ?_⟩ ?_ ?_ ?_
  ·intro b hb
   rw [hown b hb, ← hL]; exact get_size _
  ·intro y _
   have := bindA_rel (x := y) br' none noM trivial
   rwa [Option.or_none] at this
  ·rintro y (hy | hy)
   ·exact absurd hy (hnc' y)
   ·refine E5A2 (hfree y hy) fun c v oc' od' sl' h1 h2 => ?_
    refine ⟨c, v, h1, ⟨_, hkeep _ _ (k₀ _ _ (hX _ _ h2)), rfl⟩, ?_⟩
    have hb : bindA (abinds k) noM y = none := by
     have hn : ∀ z ∈ abinds k, z.1 ≠ y := fun z hz e => by
      have := List.all_eq_true.mp (hkind k) z hz
      rw [beq_iff_eq] at this
      rw [e] at this
      have hy : scope.names.lookup y = some .free := hy
      rw [hy] at this; exact nomatch this
     generalize abinds k = ab at hn
     suffices ∀ (ab : List (Str × AV)) (m : AM), (∀ z ∈ ab, z.1 ≠ y) → m y = none → bindA ab m y = none from this ab noM hn rfl
     intro ab
     induction ab with
     | nil => intro m _ h; exact h
     | cons p ab ih =>
      intro m hz hm
      obtain ⟨n', a'⟩ := p
      exact ih _ (fun z hz' => hz z (.tail _ hz')) (by rw [upd_ne (fun e => hz _ (.head _) e.symm)]; exact hm)
    rw [hb]; exact VRo_none _
  ·intro y z c hy
   exact absurd hy (hnc' y)
  ·rintro y c (hy | hy) hc e
   ·exact absurd hy (hnc' y)
   ·refine E5A2 (hfree y hy) fun c' v oc' od' sl' h1 h2 => ?_
    have hc : cl.lookup y = some c := hc
    rw [h1] at hc; revert hc; refine J.sse ?_; rintro rfl
    have := k₀ _ _ (hX _ _ h2)
    rw [e] at this
    have : h₀.get? L = _ := this
    rw [← hL, get_size] at this; exact J.ns this
 have R' : Room (n + 1) A (P₁ ++ P) noOwn := R.more fun p hp => List.mem_append_right _ hp
 have B := h P (A.deeper (envX qual scope L f cdv cl)) L k P₁ pp (R'.deeper _ ⟨rfl, by rw [show (envX qual scope L f cdv cl).scope.kind = _ from hk]; decide⟩) (fun h' => by refine E1A2 (R'.frames (by lia)) fun l hl _ => ?_; exact ⟨l, by show A.frames.map _ = _; rw [hl]; rfl⟩) _ F
 refine wpAny_mono B (fun fl s₂ p => ?_) fun _ _ e => e.elim
 obtain ⟨b, st', m', r, f', S, G, q⟩ := p
 have hsub : ∀ p ∈ P, p ∈ P₁ ++ P := fun p hp => List.mem_append_right _ hp
 have wk : ∀ b, D0 X st' P b → D0 X st' (P₁ ++ P) b := fun b d => d.imp id fun d => d.imp (fun hb => by rw [List.map_append]; exact List.mem_append_right _ hb) id
 have S' : Step (D0 X st P) s.heap s₂.heap := fun b o e nd => by
  have nd' : ¬ D0 X st (P₁ ++ P) b := fun d => by
   rcases d with d | d | d | d
   ·exact nd (.inl d)
   ·rw [List.map_append] at d
    rcases List.mem_append.mp d with d | d
    ·refine E1A2 (List.mem_map.mp d) fun p hp hn2 => ?_; obtain rfl := hn2
     rw [fr p hp] at e; exact J.ns e
    ·exact nd (.inr (.inl d))
   ·exact nd (.inr (.inr (.inl d)))
   ·exact nd (.inr (.inr (.inr d)))
  exact S b o (nm b o (k₀ b o e) nd').1 (nm b o (k₀ b o e) nd').2
 have G' : Gr s.heap (Dom st) (Dom st') := fun b o e d => G b o (hkeep b o (k₀ b o e)) d
 have out := CRel.sub f'.out hsub
 cases fl <;> cases b <;> first | exact r.elim | skip
 ·exact ⟨_, .none, st', rfl, .none, out, S', G', q⟩
 ·exact ⟨_, .none, st', rfl, .none, out, S', G', q⟩
 ·exact ⟨_, .none, st', rfl, .none, out, S', G', q⟩
 ·exact ⟨_, _, st', rfl, VR.anti (fun b d => DD.of0 (wk b d)) r, out, S', G', q⟩
end
end J
namespace J
theorem merge_empty {prog : Program} {w : World} {A : Around} {E : Value → Shared → Prop} {s : Shared} {d kd : Addr} {od ok : Obj} {n n' : Nat} {Q : Unit → Shared → Prop}
 (h1 : s.heap.get? kd = some ok) (e1 : ok.cls = .type "dict") (e2 : ok.data = .dict #[] n) (h2 : s.heap.get? d = some od) (e3 : od.data = .dict #[] n') (hk : (kd == sysModules) = false) (hq : Q () s) : wpAny (model prog w) A (mergeMapping d (.ref kd) true) Q E s := by
 have t1 : s.TypeIs (.ref kd) "dict" := ⟨_, h1, e1⟩
 unfold mergeMapping
 refine wpAny_bind (wpAny_isInstance t1 isSubtype_dict_dict ?_)
 simp only [if_true]
 refine wpAny_bind (wpAny_specialOf t1 F.slot_dict_iter.lookup (wpAny_bind (wpAny_pure ?_)))
 simp only [beq_self_eq_true, hk, Bool.false_eq_true, if_false]
 refine wpAny_bind (wpAny_dictEntries h2 e3 ?_)
 simp only [show (#[] : Array DictEntry).isEmpty = true from rfl, if_true]
 refine wpAny_bind (wpAny_dictEntries h1 e2 ?_)
 refine wpAny_bind (wpAny_pure ?_)
 refine wpAny_bind (wpAny_dictEntries h1 e2 ?_)
 refine wpAny_bind (wpAny_dictEpoch h1 e2 ?_)
 exact wpAny_pure hq
noncomputable abbrev dict0 : Obj := { cls := .type "dict", data := .dict #[] }
theorem evalArgs_skw {prog : Program} {w : World} {A : Around} {E : Value → Shared → Prop} {s : Shared} {f : Value} {a0 a1 : Bool × Sem Value} {rest : List (Bool × Sem Value)} {x : Sem Value} {Q : Args → Shared → Prop} (ha : a0.1 = false)
 (h : wpAny (model prog w) A (spliced (a0 :: a1 :: rest)) (fun vs s₁ => wpAny (model prog w) A x (fun v s₂ => ∃ kd ok n, v = .ref kd ∧ s₂.heap.get? kd = some ok ∧ ok.cls = .type "dict" ∧ ok.data = .dict #[] n ∧ (kd == sysModules) = false ∧ s₂.heap.get? s₁.heap.objs.size = some dict0 ∧ Q ⟨vs, []⟩ s₂) (fun _ _ => False) { s₁ with heap := s₁.heap.push dict0 }) (fun _ _ => False) s) :
 wpAny (model prog w) A (evalArgs f true (a0 :: a1 :: rest) [(none, x)]) Q E s := by
 unfold evalArgs
 obtain ⟨b0, t0⟩ := a0
 subst ha
 refine wpAny_bind (wpAny_mono h (fun vs s₁ h₁ => wpAny_bind (wpAny_pure ?_)) fun _ _ e => False.elim e)
 dsimp only
 refine wpAny_holding ?_
 simp only [List.all_cons, List.all_nil, Option.isSome_none, Bool.and_true, Bool.false_eq_true, if_false]
 unfold mergedKeywords
 refine wpAny_bind (wpAny_bind (wpAny_alloc (wpAny_bind (wpAny_holding ?_))))
 change wpAny _ _ (forIn [((none : Option Str), x)] ([] : List (Str × Sem Value)) _ >>= _) _ _ _
 rw [List.forIn_cons]
 refine wpAny_bind (wpAny_bind ?_)
 change wpAny _ _ ((if ([] : List (Str × Sem Value)).isEmpty = true then pure () else _) >>= _) _ _ _
 refine wpAny_bind (wpAny_pure ?_)
 refine wpAny_bind (wpAny_mono h₁ (fun v s₂ h₂ => ?_) fun _ _ e => False.elim e)
 refine E3A2 h₂ fun kd ok n hn1 hn2 => ?_; clear h₂; obtain rfl := hn1; refine A6 hn2 fun e1 e2 e3 e4 e5 hq => ?_; clear hn2
 refine wpAny_bind (wpAny_onRaise (wpAny_holding (wpAny_tryCatch (wpAny_onRaise (merge_empty e1 e2 e3 e5 rfl e4 ?_)))))
 refine wpAny_pure ?_
 change wpAny _ _ (forIn ([] : List (Option Str × Sem Value)) ([] : List (Str × Sem Value)) _) _ _ _
 rw [List.forIn_nil]
 refine wpAny_pure ?_
 change wpAny _ _ (if ([] : List (Str × Sem Value)).isEmpty = true then pure () else _) _ _ _
 refine wpAny_pure (wpAny_pure ?_)
 refine wpAny_bind (wpAny_pure ?_)
 unfold keywordsIn
 refine wpAny_bind (wpAny_holding (wpAny_bind (wpAny_dictEntries e5 rfl (wpAny_bind ?_))))
 exact wpAny_pure (wpAny_pure (wpAny_pure hq))
section
variable {X : Cx} {P : PL} {A : Around} {env : Env} {st : AS} {m : AM} {s : Shared}
theorem callWith_any {M : Model} {E : Value → Shared → Prop} {pos : Pos} {f : Value} {first : List Value} {Q : Value → Shared → Prop} {PH : Heap → Prop} {args : List (Bool × Sem Value)} {keywords : List (Option Str × Sem Value)} (hst : (args.any (·.1) || keywords.any (·.1.isNone)) = true)
 (hk : ∀ h, PH h → ∃ k, (k = Keeper.frame ∨ k = Keeper.machine ∨ k = Keeper.boundFrame) ∧ Looks M h (keeperOf f) k)
 (h : wpAny M A (evalArgs f true args keywords) (fun a s₁ => PH s₁.heap ∧ wpAny M A (call f (first ++ a.pos) a.kw) Q E s₁) E s) : wpAny M A (callWith pos f first args keywords) Q E s := by
 unfold callWith
 refine wpAny_bind (wpAny_holding (wpAny_mono h (fun a s₁ h₁ => wpAny_bind (wpAny_standAt ?_)) fun _ _ x => x))
 refine E1A2 (hk _ h₁.1) fun k hk' L => ?_
 simp only [hst]
 refine wpAny_bind (L.here ?_)
 have tail : ∀ {t : Sem Value}, wpAny M A t Q E s₁ → wpAny M A (t >>= fun r => holding [r] point >>= fun _ => pure r) Q E s₁ :=
  fun ht => wpAny_bind (wpAny_mono ht (fun r s₂ hr => wpAny_bind (wpAny_holding (wpAny_point (wpAny_pure hr)))) fun _ _ x => x)
 have marked (mk : Value) : wpAny M A (callMarked mk f (first ++ a.pos) a.kw) Q E s₁ := by unfold callMarked; exact Calls.wpAny_keep h₁.2
 rcases hk' with rfl | rfl | rfl <;> dsimp only <;> first | exact tail (marked _) | exact tail (wpAny_operating h₁.2)
theorem code_fn {n : Nat} {g : Addr} {args : List AV} {Q : AV → AS → Prop} {vals : List Value} {G : Value → Shared → Prop} (h : FN X n g st args Q) (R : Room n A P (locOf env)) (f : FRel X P env st m s) (r : VRs (DD X st P (ownOf env)) s.heap vals args)
 (k : ∀ v s', Post X P env st s VR (fun a st' m' => Q a st' ∧ m' = m) v s' → G v s') :
 codeAny (model X.prog X.w) A (.call (.ref g) ⟨vals, []⟩) (fun r s' => match r with | .ok (.ret v) => G v s' | .ok _ => False | .error _ => False) s := by
 refine E1A4 (f.leave) fun P' c hR hd back => ?_
 refine codeAny_mono (h P' A s vals (hR _ _ R) c (r.anti fun b d => (hd b).mp d)) fun res s' p => ?_
 obtain ⟨v, b, st', rfl, rv, g', S, G', q⟩ := p
 refine A3 (back st' s' g' S G') fun f' S' w => ?_
 exact k v s' ⟨b, st', m, rv.anti w, f', S', G', q, rfl⟩
noncomputable def superOk (K : Frag) (C D f2 : Addr) (name : Str) : Bool := (clsIn K D).isSome && (mroIn K C (.ref D) == some true) && (ks_superIn K C D name == some (some (.ref f2))) && (typeIn K (.ref f2) == some (.type "function")) && (nsIn K cStatics "thirdparty.any" == some none) && !(name == ("__class__" : Str)) && fnIn K f2
theorem super_attr {prog : Program} {w : World} {E : Value → Shared → Prop} {h : Heap} {g : Array GenState} {d : Drawn} {t : Nat} {os : OsState} {so D x C f : Addr} {of : Obj} {l₀ l : List Value} {K : Frag} {name : Str} {Q : Value → Shared → Prop}
 (hso : h.get? so = some { cls := .type "super", dict := none, data := .fields #[.ref D, .ref x, .ref C], slots := #[] }) (hno : Looks (model prog w) h (opaqueClassAbove (.ref C)) none)
 (hC : Looks (model prog w) h (mroOf (.ref C)) l₀) (hl : (l₀.dropWhile (· != .ref D)).drop 1 = l) (X : K.In h)
 (hf : alongIn K name l = some (some (.ref f))) (hfo : h.get? f = some of) (hfc : of.cls = .type "function") (hxC : x ≠ C) (hn : (name == ("__class__" : Str)) = false)
 (hq : Q (.ref h.objs.size) ⟨h.push { cls := .type "method", data := .fields #[.ref f, .ref x] }, g, d, t + 1, os⟩) :
 wpAny (model prog w) A (getAttr (.ref so) name true) Q E ⟨h, g, d, t, os⟩ := by
 have hlk := PySem.F.ks_slot_super_ga.lookup
 have hT : ∀ t', (⟨h, g, d, t', os⟩ : Shared).TypeIs (.ref so) "super" := fun _ => ⟨_, hso, rfl⟩
 have call1 : wpAny (model prog w) A (boundAndCalled (.builtin "super.__getattribute__") (.ref so) (.str name t)) (fun v s' => v = .ref h.objs.size ∧ s' = ⟨h.push { cls := .type "method", data := .fields #[.ref f, .ref x] }, g, d, t + 1, os⟩) (fun _ _ => False) ⟨h, g, d, t + 1, os⟩ := by
  unfold boundAndCalled
  refine wpAny_bind (wpAny_of_eq (PySem.F.ks_slot_super_ga.bind _) ?_)
  exact wpAny_call_entry PySem.F.ks_slot_super_ga (hT _) PySem.F.ks_entry_super_ga (ks_wpAny_super_ga hso hno hC hl X hf hfo hfc hxC hn ⟨_, rfl, rfl, rfl⟩) (PySem.F.ks_gaArgs_super _ _)
 unfold getAttr getAttrBy
 refine wpAny_bind (wpAny_mkText (wpAny_holding (wpAny_bind (wpAny_typeOf (hT _) (wpAny_bind (wpAny_of_eq hlk ?_))))))
 show wpAny _ _ (getAttrByItsOwn (.ref so) (.str name t) (.type "super") (.builtin "super.__getattribute__") true true) _ _ _
 unfold getAttrByItsOwn hookBefore
 refine wpAny_bind (wpAny_of_eq (show (if onTheHeap (.type "super") then typeLookup (.type "super") "__getattr__" else pure none) = pure none from rfl) ?_)
 refine wpAny_bind (wpAny_attempt (wpAny_holding ?_))
 show wpAny _ _ (boundAndCalled (.builtin "super.__getattribute__") (.ref so) (.str name t)) _ _ _
 refine wpAny_mono call1 (fun v s' hv => ?_) fun _ _ z => z.elim
 refine A2 hv fun hn5 hn6 => ?_; clear hv; obtain rfl := hn5; obtain rfl := hn6
 exact wpAny_pure hq
theorem w_super {sp dp xp cp ap pos : Pos} {dn xn name : Str} {es : List Expr} {kws : List Keyword} {y C D f2 : Addr} {ns : List Str} {l : List AV} {G : Value → Shared → Prop} (hX : X.Ok) (f : FRel X P env st m s) (hy : st y = some (.inst C ns l)) (ok : bltAt X.K env "super" (.type "super") = true)
 (ha : EVA X P A env st m [.Name dn dp, .Name xn xp] [.ref D, .ref y]) (hs : superOk X.K C D f2 name = true) (gm : Value → Sem (Value × List Value)) (hgm : gm = (fun ov => getMethod ov name (pure false)) ∨ gm = (fun ov => do pure (← getAttr ov name true, [])))
 (he : eval (.Call (.Attribute (.Call (.Name "super" sp) [.Name dn dp, .Name xn xp] [] cp) name ap) es kws pos) env = (do
  let ov ← eval (.Call (.Name "super" sp) [.Name dn dp, .Name xn xp] [] cp) env
  standAt ap.atName
  let (f, first) ← holding [ov] (gm ov)
  callWith pos f first (backTo pos (starEach es env)) (backToKw pos (keywordEach kws env))))
 (k : ∀ q s₁, FRel X P env st m s₁ → Step (DD X st P (ownOf env)) s.heap s₁.heap → s₁.heap.get? q = some (methodObj (.ref f2) (.ref y)) → ¬ DD X st P (ownOf env) q → wpAny (model X.prog X.w) A (callWith pos (.ref q) [] (backTo pos (starEach es env)) (backToKw pos (keywordEach kws env))) G (fun _ _ => False) s₁) :
 wpAny (model X.prog X.w) A (eval (.Call (.Attribute (.Call (.Name "super" sp) [.Name dn dp, .Name xn xp] [] cp) name ap) es kws pos) env) G (fun _ _ => False) s := by
 unfold superOk at hs
 simp only [Bool.and_eq_true] at hs
 refine A2 hs fun hn7 h7 => ?_; clear hs; refine A2 hn7 fun hn8 h6 => ?_; clear hn7; refine A2 hn8 fun hn9 h5 => ?_; clear hn8; refine A2 hn9 fun hn10 h4 => ?_; clear hn9; refine A2 hn10 fun hn11 h3 => ?_; clear hn10; refine A2 hn11 fun h1 h2 => ?_; clear hn11
 have h2 := beq_iff_eq.mp h2; have h3 := beq_iff_eq.mp h3; have h4 := beq_iff_eq.mp h4; have h5 := beq_iff_eq.mp h5
 have h6 : (name == ("__class__" : Str)) = false := by simpa using h6
 rw [he]
 refine wpAny_bind (call_blt hX ok ha (.inr ⟨_, rfl⟩) f fun s₁ vals f₁ r S₁ => ?_)
 rcases r with _ | ⟨r1, _ | ⟨r2, _ | _⟩⟩
 (first | cases r1 using VR.intE | cases r1 using VR.noneE | cases r1 using VR.boolE | cases r1 using VR.refE | cases r1 using VRs.nilE | cases r1); (first | cases r2 using VR.intE | cases r2 using VR.noneE | cases r2 using VR.boolE | cases r2 using VR.refE | cases r2 using VRs.nilE | cases r2)
 have Xk := f₁.kin hX.kin
 refine E2A2 (f₁.g.objs y _ hy) fun d vs hn12 hn13 => ?_; obtain rfl := hn12; refine A3 hn13 fun e1 x _ => ?_; clear hn13
 refine E2A2 (inst_at (D := fun _ => False) e1 x) fun es' n' I _ => ?_
 obtain ⟨hh, g, dr, t, os⟩ := s₁
 refine E1 (Option.isSome_iff_exists.mp h1) fun cdD hcd => ?_
 obtain ⟨oD, hD1, hD2⟩ : ∃ oD, hh.get? D = some oD ∧ oD.data = .cls cdD := by
  unfold clsIn at hcd
  split at hcd
  ·rename_i c d cd' sl ho
   revert hcd; refine J.sse ?_; rintro rfl
   exact ⟨_, Xk _ _ ho, rfl⟩
  ·exact J.ns hcd
 refine ks_wpAny_call_super hD1 hD2 I.at_ I.cls (fun c e => ?_) (looks_mroIn Xk h2) fun h' e k' => wpAny_bind (wpAny_standAt (wpAny_bind (wpAny_holding ?_)))
 ·have := I.no
  unfold notCls at this
  rw [e] at this
  exact Bool.noConfusion this
 have f₂ : FRel X P env st m ⟨h', g, dr, t, os⟩ := f₁.keeps (d := dr) (tk := t) k'
 have S₂ : Step (DD X st P (ownOf env)) hh h' := Step.of_keeps k'
 have Xk' := f₂.kin hX.kin
 have I' : InstAt h' (d + 1) (instObj C d) C _ := inst_at (D := fun _ => False) (k' _ _ e1) (x.keep (k' _)) |>.choose_spec.choose_spec.1
 cases hc : clsIn X.K C with
 | none => unfold ks_superIn at h3; rw [hc] at h3; exact J.ns h3
 | some cd =>
  unfold ks_superIn at h3
  rw [hc] at h3
  obtain ⟨of, hof, hofc⟩ : ∃ of, h'.get? f2 = some of ∧ of.cls = .type "function" := by
   have ht' : (X.K.lookup f2).map (·.cls) = some (.type "function") := h4
   cases z : X.K.lookup f2 with
   | none => rw [z] at ht'; exact J.ns ht'
   | some of => rw [z] at ht'; exact ⟨of, Xk' _ _ z, Option.some.inj ht'⟩
  have k2 : ∀ b o, h'.get? b = some o → (h'.push { cls := .type "method", data := .fields #[.ref f2, .ref (d + 1)] }).get? b = some o := fun b o e => Heap.get?_push_of_some _ e
  have f₃ := f₂.push (tk := t + 1) ({ cls := .type "method", data := .fields #[.ref f2, .ref (d + 1)] } : Obj)
  have fin := k _ _ f₃ (S₁.on (S₂.on (Step.of_keeps k2))) (Heap.get?_push_at rfl rfl) (f₂.dno (get_size _))
  rcases hgm with rfl | rfl
  ·exact ks_wpAny_getMethod_super e (looks_opaque Xk' h5) (l₀ := cd.mro) (fun A Q E s k q => wpAny_bind ((looks_clsIn Xk' hc) A _ E s k (wpAny_pure q))) rfl Xk' h3 hof hofc (ks_ne Xk' I' hc) h6 fin
  ·exact wpAny_bind (super_attr e (looks_opaque Xk' h5) (l₀ := cd.mro) (fun A Q E s k q => wpAny_bind ((looks_clsIn Xk' hc) A _ E s k (wpAny_pure q))) rfl Xk' h3 hof hofc (ks_ne Xk' I' hc) h6 (wpAny_pure fin))
theorem e_super0 {sp dp xp cp ap pos : Pos} {dn xn name : Str} {y C D f2 : Addr} {ns : List Str} {l : List AV} {n k : Nat} {Q : AV → AS → Prop} (hX : X.Ok) (hy : st y = some (.inst C ns l)) (ok : bltAt X.K env "super" (.type "super") = true)
 (ha : EVA X P A env st m [.Name dn dp, .Name xn xp] [.ref D, .ref y]) (hs : superOk X.K C D f2 name = true) (h : FN X k f2 st [.ref y] Q) (R : Room n A P (locOf env)) (hn : k ≤ n)
 (he : eval (.Call (.Attribute (.Call (.Name "super" sp) [.Name dn dp, .Name xn xp] [] cp) name ap) [] [] pos) env = (do
  let ov ← eval (.Call (.Name "super" sp) [.Name dn dp, .Name xn xp] [] cp) env
  standAt ap.atName
  let (f, first) ← holding [ov] (getMethod ov name (pure false))
  callWith pos f first (backTo pos (starEach [] env)) (backToKw pos (keywordEach [] env)))) :
 WE X P A env st m (eval (.Call (.Attribute (.Call (.Name "super" sp) [.Name dn dp, .Name xn xp] [] cp) name ap) [] [] pos) env) fun a st' m' => Q a st' ∧ m' = m := fun s f => by
 have h7 : fnIn X.K f2 = true := by unfold superOk at hs; simp only [Bool.and_eq_true] at hs; exact hs.2
 refine w_super hX f hy ok ha hs _ (.inl rfl) he fun q s₁ f₁ S₁ hq _ => ?_
 refine callWith_M0 ⟨hq, f₁.kin hX.kin⟩ h7 (wpAny_call (method_call hq (code_fn h (R.mono hn) f₁ (.cons (.ref y) .nil) fun v s' p => Post.after S₁ (Gr.refl _ _) p)))
end
end J
namespace J
section
variable {X : Cx} {P : PL} {A : Around} {env : Env} {st : AS} {m : AM} {s : Shared}
set_option tactic.hygienic true in
theorem star_tup0 {G : List Value → Shared → Prop} {E : Value → Shared → Prop} {v : Value} (f : FRel X P env st m s) (r : VR (DD X st P (ownOf env)) s.heap v (.tup [])) (k : ∀ s', FRel X P env st m s' → Step (DD X st P (ownOf env)) s.heap s'.heap → G [] s') : StarOf (model X.prog X.w) A E v G s := by
 cases r with
 | tup nd t rs =>
  (first | cases rs using VR.intE | cases rs using VR.noneE | cases rs using VR.boolE | cases rs using VR.refE | cases rs using VRs.nilE | cases rs)
  obtain ⟨o, e, hc, n, hd⟩ := t
  rename_i a
  have hT' : s.TypeIs (.ref a) "tuple" := ⟨o, e, hc⟩
  unfold StarOf notIterableAtAll
  refine wpAny_bind (wpAny_specialOf hT' PySem.F.slot_tuple_iter.lookup (wpAny_pure ⟨rfl, ?_⟩))
  exact wpAny_collect_seq a (.inr rfl) e hc hd (fun h' hk => k _ (f.keeps (d := s.drawn) (tk := s.toks) hk) (Step.of_keeps hk)) (Nat.zero_le _)
theorem e_superS {sp dp xp cp ap pos p1 kp : Pos} {dn xn name : Str} {e1 e2 e3 ea ek : Expr} {a1 a2 a3 : AV} {y C D f2 kd : Addr} {ns : List Str} {l : List AV} {n k : Nat} {Q : AV → AS → Prop} (hX : X.Ok) (hy : st y = some (.inst C ns l)) (ok : bltAt X.K env "super" (.type "super") = true)
 (ha : EVA X P A env st m [.Name dn dp, .Name xn xp] [.ref D, .ref y]) (hs : superOk X.K C D f2 name = true)
 (h1 : EV X P A env st m (eval e1 env) a1) (h2 : EV X P A env st m (eval e2 env) a2) (h3 : EV X P A env st m (eval e3 env) a3) (h4 : EV X P A env st m (eval ea env) (.tup [])) (h5 : EV X P A env st m (eval ek env) (.ref kd)) (hkd : (kd, dict0) ∈ P) (hsm : (kd == sysModules) = false)
 (h : FN X k f2 st [.ref y, a1, a2, a3] Q) (R : Room n A P (locOf env)) (hn : k ≤ n)
 (hse : starEach [e1, e2, e3, .Starred ea p1] env = [(false, eval e1 env), (false, eval e2 env), (false, eval e3 env), (true, eval ea env)])
 (he : eval (.Call (.Attribute (.Call (.Name "super" sp) [.Name dn dp, .Name xn xp] [] cp) name ap) [e1, e2, e3, .Starred ea p1] [⟨none, ek, kp⟩] pos) env = (do
  let ov ← eval (.Call (.Name "super" sp) [.Name dn dp, .Name xn xp] [] cp) env
  standAt ap.atName
  let (f, first) ← holding [ov] (do pure (← getAttr ov name true, ([] : List Value)))
  callWith pos f first (backTo pos (starEach [e1, e2, e3, .Starred ea p1] env)) (backToKw pos (keywordEach [⟨none, ek, kp⟩] env)))) :
 WE X P A env st m (eval (.Call (.Attribute (.Call (.Name "super" sp) [.Name dn dp, .Name xn xp] [] cp) name ap) [e1, e2, e3, .Starred ea p1] [⟨none, ek, kp⟩] pos) env) fun a st' m' => Q a st' ∧ m' = m := fun s f => by
 have h7 : fnIn X.K f2 = true := by unfold superOk at hs; simp only [Bool.and_eq_true] at hs; exact hs.2
 refine w_super hX f hy ok ha hs _ (.inr rfl) he fun q s₁ f₁ S₁ hq hnq => ?_
 rw [hse]
 refine callWith_any (PH := MethP X.K q f2 (.ref y)) rfl (keeps_M h7) ?_
 refine evalArgs_skw rfl ?_
 refine spliced_cons (h1.on f₁ fun v1 s₂ f₂ r1 S₂ => spliced_cons (h2.on f₂ fun v2 s₃ f₃ r2 S₃ => spliced_cons (h3.on f₃ fun v3 s₄ f₄ r3 S₄ => ks_spliced (h4.on f₄ fun v4 s₅ f₅ r4 S₅ => star_tup0 f₅ r4 fun s₆ f₆ S₆ => spliced_nil ?_))))
 have k7 : ∀ b o, s₆.heap.get? b = some o → (s₆.heap.push dict0).get? b = some o := fun b o e => Heap.get?_push_of_some _ e
 have f₇ : FRel X P env st m { s₆ with heap := s₆.heap.push dict0 } := f₆.push (tk := s₆.toks) dict0
 refine wpAny_bind (h5.on f₇ fun v5 s₈ f₈ r5 S₈ => wpAny_bind (wpAny_standAt (wpAny_pure ?_)))
 (first | cases r5 using VR.intE | cases r5 using VR.noneE | cases r5 using VR.boolE | cases r5 using VR.refE | cases r5 using VRs.nilE | cases r5)
 obtain ⟨ok, e1, near⟩ := f₈.g.priv _ hkd
 have hdd : ok.cls = .type "dict" ∧ ok.data = .dict #[] 0 := by
  rcases near with rfl | ⟨_, sl, rfl⟩
  ·exact ⟨rfl, rfl⟩
  ·exact ⟨rfl, rfl⟩
 have S18 : Step (DD X st P (ownOf env)) s₁.heap s₈.heap := S₂.on (S₃.on (S₄.on (S₅.on (S₆.on ((Step.of_keeps k7).on S₈)))))
 refine ⟨kd, ok, 0, rfl, e1, hdd.1, hdd.2, hsm, ?_, ⟨S18 _ _ hq hnq, f₈.kin hX.kin⟩, ?_⟩
 ·exact S₈ _ _ (Heap.get?_push_at rfl rfl) (f₆.dno (get_size _))
 have h18 := S18 _ _ hq hnq
 show wpAny _ A (call (.ref q) ([] ++ (v1 :: v2 :: v3 :: ([] ++ []))) []) _ _ _
 refine wpAny_call (method_call h18 (code_fn h (R.mono hn) f₈ (.cons (.ref y) (.cons ?_ (.cons ?_ (.cons ?_ .nil)))) fun v s' p => Post.after (S₁.on S18) (Gr.refl _ _) p))
 ·exact r1.held (S₃.on (S₄.on (S₅.on (S₆.on ((Step.of_keeps k7).on S₈)))))
 ·exact r2.held (S₄.on (S₅.on (S₆.on ((Step.of_keeps k7).on S₈))))
 ·exact r3.held (S₅.on (S₆.on ((Step.of_keeps k7).on S₈)))
end
end J
namespace J
structure GF where
 L : Addr
 I : Addr
 rl : Addr
 vs : List Value
structure GF.Rest (G : GF) (i : Nat) (h : Heap) : Prop where
 ns : ∃ mv, h.Ns G.L mv
 it : h.IsListIter G.I G.rl i
 li : h.IsList G.rl G.vs.toArray
structure GF.Since (G : GF) (s₀ s : Shared) : Prop where
 heap : ∀ b o, b ≠ G.L → b ≠ G.I → s₀.heap.get? b = some o → s.heap.get? b = some o
 gens : s.gens = s₀.gens
 os : s.os = s₀.os
 loc : ∃ mv, s.heap.Ns G.L mv
noncomputable def GF.Y (G : GF) : Protocol := fun k s₀ v s kap => k < G.vs.length ∧ G.vs[G.vs.length - 1 - k]? = some v ∧ G.Rest (G.vs.length - k) s.heap ∧ G.Since s₀ s ∧ ∀ s'', G.Rest (G.vs.length - k) s''.heap → kap (.send .none) s''
noncomputable def GF.R (G : GF) : GenEnd := fun n s₀ r s₁ => r = .ok (.ret .none) ∧ (n = 0 ∧ G.Since s₀ s₁)
theorem GF.Since.refl {G : GF} {s : Shared} (h : ∃ mv, s.heap.Ns G.L mv) : G.Since s s := ⟨fun _ _ _ _ e => e, rfl, rfl, h⟩
noncomputable abbrev yBody (x : Str) (yp1 yp2 yp3 : Pos) : List Stmt := [.Expr (.Yield (some (.Name x yp1)) yp2) yp3]
section
variable {prog : Program} {w : World} {A : Around} {genv : Env} {s₀ s : Shared}
theorem seg_gf {G : GF} {x : Str} {xp yp1 yp2 yp3 : Pos} {fs : List Frame} (hh : A.handled = none) (hL : G.L ≠ G.I) (hLr : G.L ≠ G.rl) (hIr : G.I ≠ G.rl) (hloc : genv.locals = G.L) (hk : genv.scope.kind = .function) (hco : genv.scope.isCoroutine = false) (hx : genv.kindOf x = some .local) (hxd : (x == ("__debug__" : Str)) = false)
 (hi : interactive genv = false) (hfs : splitAtGen fs = none) (hfg : fs.any Frame.guarded = false) (hmk : (A.over (.forLoop (.Name x xp) (.ref G.I) (yBody x yp1 yp2 yp3) [] genv) fs).handled = none)
 (hend : ∀ s₀ s', G.Since s₀ s' → Seg (model prog w) A G.R G.Y 0 s₀ (.forLoop (.Name x xp) (.ref G.I) (yBody x yp1 yp2 yp3) [] genv) (.pure (.again (.block [] genv))) fs s') :
 ∀ (r i : Nat) (s₀ s : Shared), G.vs.length - i = r → i ≤ G.vs.length → G.Rest i s.heap → G.Since s₀ s →
  Seg (model prog w) A G.R G.Y r s₀ (.forLoop (.Name x xp) (.ref G.I) (yBody x yp1 yp2 yp3) [] genv) ((model prog w).den (.forLoop (.Name x xp) (.ref G.I) (yBody x yp1 yp2 yp3) [] genv)) fs s := by
 intro r
 induction r with
 | zero =>
  intro i s₀ s hr hi' rest sc
  have hin : i = G.vs.length := nE hr hi'
  subst hin
  show Seg _ A _ _ _ s₀ _ ((forTurn (.Name x xp) (.ref G.I) (yBody x yp1 yp2 yp3) [] genv).onRaise (fun x => do noteFrame x genv; theTreesLotGoes x)) fs s
  unfold forTurn
  rw [Sem.onRaise_eq_wrap]
  refine seg_bind_wrap (wpAny_standAt ?_)
  refine seg_bind_wrap (wpAny_onRaise (wpAny_pyNext_list_end hmk rest.it rest.li (by simp) fun h' hs' => ?_))
  refine hend s₀ _ ⟨fun b o h1 h2 e => hs' b o h2 (sc.heap b o h1 h2 e), sc.gens, sc.os, ?_⟩
  refine E4A2 (sc.loc) fun mv o es n e hd => ?_
  exact ⟨mv, o, es, n, hs' _ _ hL e, hd⟩
 | succ r ih =>
  intro i s₀ s hr hi' rest sc
  have hlt : i < G.vs.length := nL hr
  have hv : G.vs.toArray[i]? = some (G.vs[i]) := by rw [List.getElem?_toArray, List.getElem?_eq_getElem hlt]
  show Seg _ A _ _ _ s₀ _ ((forTurn (.Name x xp) (.ref G.I) (yBody x yp1 yp2 yp3) [] genv).onRaise (fun x => do noteFrame x genv; theTreesLotGoes x)) fs s
  unfold forTurn
  rw [Sem.onRaise_eq_wrap]
  refine seg_bind_wrap (wpAny_standAt ?_)
  refine seg_bind_wrap (wpAny_onRaise (wpAny_pyNext_list_item rest.it rest.li hv fun h' hit' hs' => ?_))
  refine seg_bind_wrap (wpAny_of_eq (rfl : letOwnedTupleGo (.Name x xp) (.ref G.I) G.vs[i] = pure ()) ?_)
  refine E1 (rest.ns) fun mv hns => ?_
  have hns' : h'.Ns genv.locals mv := by
   rw [hloc]
   refine E3A2 hns fun o es n e hd => ?_; clear hns
   exact ⟨o, es, n, (hs'.2 _ hL).trans e, hd⟩
  refine seg_bind_wrap (wpAny_assign_Name (wpAny_storeName_local hx hns' (fun h₂ hn₂ hs₂ => ?_) (by rw [hk]; rfl)))
  rw [hloc] at hs₂
  have hli : h₂.IsList G.rl G.vs.toArray := (rest.li.extBut hs'.extBut (Ne.symm hIr)).extBut hs₂.extBut (Ne.symm hLr)
  have hit₂ : h₂.IsListIter G.I G.rl (i + 1) := let ⟨o, e, r⟩ := hit'; ⟨o, (hs₂.2 _ (Ne.symm hL)).trans e, r⟩
  have rest₂ : G.Rest (i + 1) h₂ := ⟨⟨_, hloc ▸ hn₂⟩, hit₂, hli⟩
  rw [Sem.bind_eq_wrap', Sem.wrap_wrap]
  refine seg_execs_cons (seg_Expr_Yield hfs rfl hfg (wpAny_Name (wpAny_loadName_local hk hx hn₂ (if_pos rfl) ?_) hxd) hco hi)
  intro kap hkap
  refine ⟨n3 hr, ?_, ?_, ⟨fun b o h1 h2 e => (hs₂.2 b h1).trans ((hs'.2 b h2).trans (sc.heap b o h1 h2 e)), sc.gens, sc.os, rest₂.ns⟩, fun s'' hr'' => hkap _ _ ?_⟩
  ·rw [n1 hr]; exact List.getElem?_eq_getElem hlt
  ·rw [n2 hr]; exact rest₂
  ·rw [n2 hr] at hr''
   exact seg_execs_nil (seg_again rfl (ih (i + 1) s'' s'' (nS hr) hlt hr'' (GF.Since.refl hr''.ns)))
theorem seg_gf0 {G : GF} {x : Str} {xp yp1 yp2 yp3 fp : Pos} {iter : Expr} (hh : A.handled = none) (hL : G.L ≠ G.I) (hLr : G.L ≠ G.rl) (hIr : G.I ≠ G.rl) (hloc : genv.locals = G.L) (hk : genv.scope.kind = .function) (hco : genv.scope.isCoroutine = false) (hx : genv.kindOf x = some .local) (hxd : (x == ("__debug__" : Str)) = false)
 (hi : interactive genv = false) (hs : ∀ v, foldedSetIterable iter genv v = pure v) (hI : s.heap.objs.size = G.I) (hns : ∃ mv, s.heap.Ns G.L mv) (hli : s.heap.IsList G.rl G.vs.toArray)
 (hev : ∀ A' E Q, (∀ tk, Q (.ref G.rl) { s with toks := tk }) → wpAny (model prog w) A' (eval iter genv) Q E s) :
 Seg (model prog w) A G.R G.Y G.vs.length s (.func [.For (.Name x xp) iter (yBody x yp1 yp2 yp3) [] fp] genv) ((model prog w).den (.func [.For (.Name x xp) iter (yBody x yp1 yp2 yp3) [] fp] genv)) [] s := by
 refine seg_func (seg_execs_cons ?_)
 rw [exec_For]
 refine seg_bind_wrap (wpAny_standAt ?_)
 refine seg_bind_wrap (hev _ _ _ fun tk => ?_)
 refine seg_bind_wrap (wpAny_of_eq (hs _) ?_)
 refine seg_bind_wrap (wpAny_standAt ?_)
 refine seg_bind_wrap (wpAny_holding (wpAny_pyIter_list hli ?_))
 dsimp only
 rw [hI]
 have kk : ∀ b o, s.heap.get? b = some o → (s.heap.push { cls := .type "list_iterator", data := .fields #[.ref G.rl, .int 0 0] }).get? b = some o := fun b o e => Heap.get?_push_of_some _ e
 refine seg_call fun p => ?_
 refine seg_gf hh hL hLr hIr hloc hk hco hx hxd hi rfl rfl ?_ (fun s₀' s' sc => seg_again rfl ?_) G.vs.length 0 s _ rfl (Nat.zero_le _) ⟨?_, ?_, ?_⟩ ⟨fun b o h1 h2 e => kk b o e, rfl, rfl, ?_⟩
 ·exact hh
 ·show Seg _ _ _ _ _ _ _ (leafOf (.ok .next)) _ _
  refine seg_leaf (.ok .next) ?_
  exact seg_end (.ok (.ret .none)) ⟨rfl, rfl, sc⟩
 ·refine E4A2 hns fun mv o es n e hd => ?_; clear hns
  exact ⟨mv, o, es, n, kk _ _ e, hd⟩
 ·exact ⟨_, hI ▸ Heap.get?_push_size _ rfl, rfl, rfl⟩
 ·exact hli.push _
 ·refine E4A2 hns fun mv o es n e hd => ?_; clear hns
  exact ⟨mv, o, es, n, kk _ _ e, hd⟩
end
end J
namespace J
section
variable {prog : Program} {w : World} {A : Around} {E : Value → Shared → Prop} {s : Shared}
theorem next_gf {a : Addr} {g n : Nat} {gs : GenState} {P : Nat → Shared → Shared → Prop} {Y : Protocol} {Q : Option Value → Shared → Prop} (hh : A.handled = none)
 (hl : s.heap.NoLimit) (hroom : A.depth < recursionLimit) (hg : s.heap.IsGen a g) (hgs : s.gens[g]? = some gs)
 (hgo : gs.Goes (model prog w) A.in1 (fun n s₀ r s₁ => r = .ok (.ret .none) ∧ P n s₀ s₁) Y n (.send .none) (s.setGen g .running))
 (hY : ∀ v s₁ gs', gs'.bare = true → Y (n - 1) (s.setGen g .running) v s₁ (fun r' s'' => match n with
  | 0 => False
  | m + 1 => gs'.Goes (model prog w) A.in1 (fun n s₀ r s₁ => r = .ok (.ret .none) ∧ P n s₀ s₁) Y m r' s'') → Q (some v) (s₁.setGen g gs'))
 (hP : ∀ s₁, P n (s.setGen g .running) s₁ → ∀ h', (∀ b o, s₁.heap.get? b = some o → h'.get? b = some o) → Q none { s₁.setGen g .finished with heap := h' }) :
 wpAny (model prog w) A (pyNext (.ref a)) Q E s := by
 have live : gs ≠ .running ∧ gs ≠ .finished := ⟨fun e => by subst e; exact hgo, fun e => by subst e; exact hgo⟩
 unfold pyNext
 refine wpAny_bind (wpAny_attempt (wpAny_callSpecial?_slot (name := Str.ofString "__next__") hg.typeIs slot_gen_next
  (wpAny_call_entry slot_gen_next hg.typeIs entry_gen_next (?_ : wpAny (model prog w) A.in1 (Builtin.Generator.genWake (.ref a) (.send .none)) _ _ s) (args_gen_next _))))
 unfold Builtin.Generator.genWake
 refine wpAny_bind (wpAny_holding (wpAny_genNumber hg (wpAny_bind (wpAny_genState hgs ?_))))
 cases gs with
 | running => exact absurd rfl live.1
 | finished => exact absurd rfl live.2
 | _ =>
  refine wpAny_bind (wpAny_roomToWake hl hroom ?_)
  show wpAny _ A.in1 (.resume g (.send .none) [] _) _ _ s
  refine wpAny_resumeQ hgs hgo (fun x s₁ hx => ?_) fun v s₁ gs' hb hv => wpAny_pure ⟨v, rfl, wpAny_pure (hY v s₁ gs' hb hv)⟩
  refine A2 hx fun hn1 hp => ?_; clear hx; obtain rfl := hn1
  show wpAny _ A.in1 (newExc (.type "StopIteration") [] >>= _) _ _ _
  refine wpAny_bind ?_
  simp only [newExc, newTuple]
  refine wpAny_bind (wpAny_newObj_type ?_ (by size_fits))
  refine wpAny_bind (m := firstArgMember _ _) (wpAny_of_eq (a := Value.none) (by first | rfl | (simp only [firstArgMember]; rfl)) ?_)
  refine wpAny_newObj_type ?_ (by size_fits)
  simp only [raiseNew]
  refine wpAny_bind (wpAny_bind (wpAny_handled ?_))
  rw [show A.in1.handled = none from hh]
  refine wpAny_throw ?_
  refine wpAny_bind (wpAny_isInstance (T := "StopIteration") (b := true) ⟨_, Heap.get?_push_size _ rfl, rfl⟩ isSubtype_stop ?_)
  exact wpAny_pure (hP s₁ hp _ fun b o hb => Heap.get?_push_of_some _ (Heap.get?_push_of_some _ hb))
theorem iter_inst {K : Frag} {x C f : Addr} {ox : Obj} {od : Option Obj} {Q : Value → Shared → Prop} (X : K.In s.heap) (I : InstAt s.heap x ox C od) (hs : findIn K (.ref C) "__iter__" = some (some (.ref f))) (hf : isFn K (.ref f) = true)
 (h : wpAny (model prog w) A (call (.ref f) [.ref x]) (fun it s' => ∃ T' r, s'.TypeIs it T' ∧ typeLookup (.type T') "__next__" = pure (some r) ∧ Q it s') E s) : wpAny (model prog w) A (pyIter (.ref x)) Q E s := by
 have got : ∀ refuse : Sem Value, wpAny (model prog w) A (callSpecialIfBoundUnlessNone? (.ref x) "__iter__" refuse) (fun r s' => ∃ it, r = some it ∧ ∃ T' r, s'.TypeIs it T' ∧ typeLookup (.type T') "__next__" = pure (some r) ∧ Q it s') E s := by
  intro refuse
  have run : wpAny (model prog w) A (if (Value.ref f == Value.none) = true then (refuse >>= fun v => pure (some v)) else (call (.ref f) [.ref x] >>= fun v => pure (some v))) (fun r s' => ∃ it, r = some it ∧ ∃ T' r, s'.TypeIs it T' ∧ typeLookup (.type T') "__next__" = pure (some r) ∧ Q it s') E s := by
   rw [if_neg (show ¬ ((Value.ref f == Value.none) = true) from Bool.false_ne_true)]
   exact wpAny_bind (wpAny_mono h (fun v s' h' => wpAny_pure ⟨v, rfl, h'⟩) fun _ _ z => z)
  unfold callSpecialIfBoundUnlessNone? bindSpecialIfBound?
  refine wpAny_holding (wpAny_bind (wpAny_bind (wpAny_bind (I.type.here ((looks_findIn X hs).here ?_)))))
  refine wpAny_bind (wpAny_askSetting (wpAny_ite ?_))
  split
  ·exact wpAny_bind ((bind_fn X _ (beq_iff_eq.mp hf)).here (wpAny_pure (by exact run)))
  ·exact wpAny_tryCatch (wpAny_bind ((bind_fn X _ (beq_iff_eq.mp hf)).here (wpAny_pure (by exact run))))
 unfold pyIter
 refine wpAny_bind (wpAny_bind (I.type.here ((looks_findIn X hs).here ?_)))
 refine wpAny_bind (wpAny_mono (got _) (fun r s' hr => ?_) fun _ _ z => z)
 refine E1A2 hr fun it hn3 hn4 => ?_; clear hr; obtain rfl := hn3; refine E2A3 hn4 fun T' r hT hl hQ => ?_; clear hn4
 exact wpAny_bind (wpAny_specialOf hT hl (wpAny_pure hQ))
end
end J
namespace J
section
variable {X : Cx} {P : PL} {A : Around} {env : Env} {st : AS} {m : AM} {s : Shared}
theorem refs_vals {D : Addr → Prop} {h : Heap} {vs : List Value} {zs : List Addr} (r : VRs D h vs (zs.map .ref)) : vs = zs.map .ref := by
 induction zs generalizing vs with
 | nil => cases r using VRs.nilE; rfl
 | cons z zs ih =>
  cases r using VRs.consE with | cons x r =>
  cases x using VR.refE
  rw [ih r]; rfl
structure ShP (G : GF) (a : Addr) (g i : Nat) (oa oL : Obj) (Pi : PL) : Prop where
 cls : oa.cls = .type "generator"
 dat : ∃ nm qn, oa.data = .fields #[.int g 0, nm, qn]
 slt : oa.slots = #[]
 ns : ∃ mv, ∀ (h : Heap) (o : Obj), h.get? G.L = some o → o.data = oL.data → h.Ns G.L mv
 dct : ∃ es n, oL.data = .dict es n
 sh : (i = 0 ∧ Pi = [(a, oa), (G.L, oL)]) ∨ ∃ oI : Obj, Pi = [(G.I, oI), (a, oa), (G.L, oL)] ∧ oI.cls = .type "list_iterator" ∧ oI.data = .fields #[.ref G.rl, .int i 0]
theorem ShP.cell {G : GF} {a : Addr} {g i : Nat} {oa oL : Obj} {Pi : PL} (h : ShP G a g i oa oL Pi) : ∀ p ∈ Pi, ∀ v, p.2.data ≠ .cell v := by
 refine E2 (h.dat) fun nm qn hd => ?_
 refine E2 (h.dct) fun es n hl => ?_
 intro p hp v e
 rcases h.sh with ⟨_, rfl⟩ | ⟨oI, rfl, h1, h2⟩
 ·rcases hp with _ | ⟨_, _ | ⟨_, hp⟩⟩
  ·rw [show ((a, oa) : Addr × Obj).2.data = _ from hd] at e; exact nomatch e
  ·rw [show ((G.L, oL) : Addr × Obj).2.data = _ from hl] at e; exact nomatch e
  ·exact J.mn hp
 ·rcases hp with _ | ⟨_, _ | ⟨_, _ | ⟨_, hp⟩⟩⟩
  ·rw [show ((G.I, oI) : Addr × Obj).2.data = _ from h2] at e; exact nomatch e
  ·rw [show ((a, oa) : Addr × Obj).2.data = _ from hd] at e; exact nomatch e
  ·rw [show ((G.L, oL) : Addr × Obj).2.data = _ from hl] at e; exact nomatch e
  ·exact J.mn hp
theorem ShP.ina {G : GF} {a : Addr} {g i : Nat} {oa oL : Obj} {Pi : PL} (h : ShP G a g i oa oL Pi) : (a, oa) ∈ Pi ∧ (G.L, oL) ∈ Pi := by
 rcases h.sh with ⟨_, rfl⟩ | ⟨oI, rfl, _⟩
 ·exact ⟨.head _, .tail _ (.head _)⟩
 ·exact ⟨.tail _ (.head _), .tail _ (.tail _ (.head _))⟩
theorem ShP.isGen {G : GF} {a : Addr} {g i : Nat} {oa oL : Obj} {Pi : PL} {h : Heap} (x : ShP G a g i oa oL Pi) (p : Pv h (a, oa)) : h.IsGen a g := by
 refine E2 (x.dat) fun nm qn hd => ?_
 have e := p.exact (fun es n z => by rw [show ((a, oa) : Addr × Obj).2.data = _ from hd] at z; exact nomatch z)
 exact ⟨oa, nm, qn, e, x.cls, hd, x.slt⟩
theorem ShP.rest {G : GF} {a : Addr} {g i : Nat} {oa oL : Obj} {Pi : PL} {h : Heap} (x : ShP G a g i oa oL Pi) (hp : ∀ p ∈ Pi, Pv h p) (hi : i ≠ 0) (hl : h.IsList G.rl G.vs.toArray) : G.Rest i h := by
 refine E1 (x.ns) fun mv hmv => ?_
 refine E1A2 ((hp _ x.ina.2).data) fun o e hd => ?_
 refine ⟨⟨mv, hmv h o e hd⟩, ?_, hl⟩
 rcases x.sh with ⟨h0, _⟩ | ⟨oI, rfl, h1, h2⟩
 ·exact absurd h0 hi
 ·exact ⟨oI, (hp _ (.head _)).exact (fun es n z => by rw [show ((G.I, oI) : Addr × Obj).2.data = _ from h2] at z; exact nomatch z), h1, h2⟩
theorem ns_obj {h : Heap} {L : Addr} {mv : Str → Option Value} (x : h.Ns L mv) : ∃ oL, h.get? L = some oL ∧ (∃ es n, oL.data = .dict es n) ∧ ∀ (h' : Heap) (o : Obj), h'.get? L = some o → o.data = oL.data → h'.Ns L mv := by
 refine E3A3 x fun o es ep e hd r => ?_; clear x
 exact ⟨o, e, ⟨_, _, hd⟩, fun h' o' e' hd' => ⟨o', es, ep, e', hd'.trans hd, r⟩⟩
theorem gf_adv {G : GF} {a : Addr} {g i : Nat} {oa oL : Obj} {Pi : PL} {h₁ : Heap} {tk : Nat} (f : FRel X (Pi ++ P) env st m s) (ap : Apart X Pi P) (x : ShP G a g i oa oL Pi) (hI : i = 0 → s.heap.objs.size = G.I) (naL : a ≠ G.L) (naI : a ≠ G.I)
 (k : ∀ b o, b ≠ G.L → b ≠ G.I → s.heap.get? b = some o → h₁.get? b = some o) (r : G.Rest (i + 1) h₁) :
 ∃ oL' Pk, ShP G a g (i + 1) oa oL' Pk ∧ FRel X (Pk ++ P) env st m { s with heap := h₁, toks := tk } ∧ Apart X Pk P ∧ (∀ p ∈ Pk, p.1 = G.L ∨ p.1 = G.I ∨ p.1 = a) ∧ ∀ p ∈ Pk, h₁.get? p.1 = some p.2 := by
 refine E1 (r.ns) fun mv hns => ?_
 refine E1A3 (ns_obj hns) fun oL' eL' dL' nL' => ?_
 refine E1A3 (r.it) fun oI' eI' cI' dI' => ?_
 have ea : s.heap.get? a = some oa := by
  refine E2 (x.dat) fun nm qn hd => ?_
  exact (f.g.priv _ (List.mem_append_left _ x.ina.1)).exact (fun es n z => by rw [show ((a, oa) : Addr × Obj).2.data = _ from hd] at z; exact nomatch z)
 have ea' := k a oa naL naI ea
 have at' : ∀ p ∈ [(G.I, oI'), (a, oa), (G.L, oL')], h₁.get? p.1 = some p.2 := by
  intro p hp
  rcases hp with _ | ⟨_, _ | ⟨_, _ | ⟨_, hp⟩⟩⟩
  ·exact eI'
  ·exact ea'
  ·exact eL'
  ·exact J.mn hp
 refine ⟨oL', [(G.I, oI'), (a, oa), (G.L, oL')], ⟨x.cls, x.dat, x.slt, ⟨mv, nL'⟩, dL', .inr ⟨oI', rfl, cI', dI'⟩⟩, ?_⟩
 rcases x.sh with ⟨h0, rfl⟩ | ⟨oI, rfl, h1, h2⟩
 ·have hI := hI h0
  obtain ⟨f₂, ap₂⟩ := f.privL (h' := s.heap.push oI') (tk := s.toks) (Pi := [(G.I, oI')]) (fun b o e => Heap.get?_push_of_some _ e) (fun p hp => by rw [List.mem_singleton] at hp; subst hp; show s.heap.get? G.I = none; rw [← hI]; exact get_size _)
   (fun p hp => by rw [List.mem_singleton] at hp; subst hp; show (s.heap.push oI').get? G.I = some oI'; rw [← hI]; exact Heap.get?_push_at rfl (Heap.get?_some_iff.mp eI').2)
  have ap' : Apart X ([(G.I, oI')] ++ [(a, oa), (G.L, oL)]) P := fun p hp => by
   rcases List.mem_append.mp hp with hp | hp
   ·exact ⟨fun q => (ap₂ p hp).1 (by rw [List.map_append]; exact List.mem_append_right _ q), (ap₂ p hp).2⟩
   ·exact ap p hp
  have f₂' : FRel X (([(G.I, oI')] ++ [(a, oa), (G.L, oL)]) ++ P) env st m { s with heap := s.heap.push oI' } := by rw [List.append_assoc]; exact f₂
  refine E2 (x.dat) fun nm qn hd => ?_
  refine E2 (x.dct) fun es n hl => ?_
  obtain ⟨f₃, _⟩ := f₂'.turnL (Pj := [(G.I, oI'), (a, oa), (G.L, oL')]) (h' := h₁) (tk := tk) ap' rfl (fun p hp v e => by
   rcases hp with _ | ⟨_, _ | ⟨_, _ | ⟨_, hp⟩⟩⟩
   ·rw [show ((G.I, oI') : Addr × Obj).2.data = _ from dI'] at e; exact nomatch e
   ·rw [show ((a, oa) : Addr × Obj).2.data = _ from hd] at e; exact nomatch e
   ·rw [show ((G.L, oL) : Addr × Obj).2.data = _ from hl] at e; exact nomatch e
   ·exact J.mn hp) (fun b o hb e => by
   have hb : b ≠ G.I ∧ b ≠ a ∧ b ≠ G.L := by simpa using hb
   have e : (s.heap.push oI').get? b = some o := e
   rw [Heap.get?_push_ne _ _ _ (by rw [hI]; exact hb.1)] at e
   exact k b o hb.2.2 hb.1 e) at'
  exact ⟨f₃, (fun p hp => by
   have : p.1 ∈ ([(G.I, oI')] ++ [(a, oa), (G.L, oL)]).map (·.1) := List.mem_map_of_mem (f := (·.1)) hp
   refine E1A2 (List.mem_map.mp this) fun q hq e => ?_
   have := ap' q hq
   rw [e] at this; exact this), (fun p hp => by
   rcases hp with _ | ⟨_, _ | ⟨_, _ | ⟨_, hp⟩⟩⟩
   ·exact .inr (.inl rfl)
   ·exact .inr (.inr rfl)
   ·exact .inl rfl
   ·exact J.mn hp), at'⟩
 ·obtain ⟨f₃, _⟩ := f.turnL (Pj := [(G.I, oI'), (a, oa), (G.L, oL')]) (h' := h₁) (tk := tk) ap rfl x.cell (fun b o hb e => by
   have hb : b ≠ G.I ∧ b ≠ a ∧ b ≠ G.L := by simpa using hb
   exact k b o hb.2.2 hb.1 e) at'
  exact ⟨f₃, (fun p hp => by
   have : p.1 ∈ [(G.I, oI), (a, oa), (G.L, oL)].map (·.1) := List.mem_map_of_mem (f := (·.1)) hp
   refine E1A2 (List.mem_map.mp this) fun q hq e => ?_
   have := ap q hq
   rw [e] at this; exact this), (fun p hp => by
   rcases hp with _ | ⟨_, _ | ⟨_, _ | ⟨_, hp⟩⟩⟩
   ·exact .inr (.inl rfl)
   ·exact .inr (.inr rfl)
   ·exact .inl rfl
   ·exact J.mn hp), at'⟩
theorem for_gf {G : GF} {a : Addr} {g : Nat} {oa oL : Obj} {Pi : PL} {zs : List Addr} {gs : GenState} {tx : Str} {tp : Pos} {body : List Stmt} {s₀ : Shared} {Q : AF → AS → AM → Prop} (hA : A.handled = none) (hroom : A.depth < recursionLimit)
 (hvs : G.vs = zs.map .ref) (naL : a ≠ G.L) (naI : a ≠ G.I) (nLr : G.L ≠ G.rl) (nIr : G.I ≠ G.rl) (hrl : st G.rl = some (.list (zs.map .ref)))
 (fr : ∀ b, b = a ∨ b = G.L ∨ b = G.I → s₀.heap.get? b = none) (hpg : ∀ p ∈ X.pg, p.1 ≠ g)
 (S₀ : Step (DD X st P (ownOf env)) s₀.heap s.heap) (f : FRel { X with pg := (g, gs) :: X.pg } (Pi ++ P) env st m s) (ap : Apart X Pi P) (x : ShP G a g 0 oa oL Pi) (hI : s.heap.objs.size = G.I)
 (go : gs.Goes (model X.prog X.w) A.in1 G.R G.Y G.vs.length (.send .none) (s.setGen g .running))
 (J : Nat → AS → AM → Prop) (h0 : J 0 st m) (hN : ∀ i st' m', J i st' m' → st' G.rl = some (.list (zs.map .ref)))
 (turn : ∀ pg P' i z st' m', (∀ p ∈ P, p ∈ P') → zs[i]? = some z → J i st' m' → ∃ F, ASG { X with pg := pg } P' A env (.Name tx tp) (.ref z) F ∧ WX { X with pg := pg } P' A env st' (F m') (execs body env) fun φ st'' m'' => match φ with
  | .next => J (i + 1) st'' m'' | .cont => J (i + 1) st'' m'' | .brk => Q .next st'' m'' | .ret r => Q (.ret r) st'' m'')
 (done : ∀ st' m', J zs.length st' m' → Q .next st' m') :
 codeAny (model X.prog X.w) A (.forLoop (.Name tx tp) (.ref a) body [] env) (fun r s' => match r with | .ok fl => Post X P env st s₀ EF Q fl s' | .error _ => False) s := by
 have hlen : G.vs.length = zs.length := by rw [hvs, List.length_map]
 let Inv : Nat → Shared → Prop := fun n s' => ∃ i st' m' gs' oL' Pj, n = zs.length - i ∧ i ≤ zs.length ∧ J i st' m' ∧ ShP G a g i oa oL' Pj ∧ Apart X Pj P ∧ FRel { X with pg := (g, gs') :: X.pg } (Pj ++ P) env st' m' s' ∧ (i = 0 → s'.heap.objs.size = G.I) ∧
  gs'.Goes (model X.prog X.w) A.in1 G.R G.Y (zs.length - i) (.send .none) (s'.setGen g .running) ∧ Step (DD X st P (ownOf env)) s₀.heap s'.heap ∧ Gr s₀.heap (Dom st) (Dom st')
 refine codeAny_forLoop_any Inv ?_ zs.length ⟨0, st, m, gs, oL, Pi, rfl, Nat.zero_le _, h0, x, ap, f, fun _ => hI, by rw [Nat.sub_zero, ← hlen]; exact go, S₀, Gr.refl _ _⟩
 rintro n s' ⟨i, st', m', gs', oL', Pj, rfl, hi', hJ, xj, apj, fi, hIi, goi, Si, Gi⟩
 have eP : ∀ p ∈ Pj, Pv s'.heap p := fun p hp => fi.g.priv p (List.mem_append_left _ hp)
 have hgen : s'.heap.IsGen a g := xj.isGen (eP _ xj.ina.1)
 have hgs : s'.gens[g]? = some gs' := fi.g.gens.2 (g, gs') (.head _)
 have hnl : s'.heap.NoLimit := fi.g.nolim.keeps fi.g.base
 have pgs : ∀ (s₁ : Shared) (gs₂ : GenState), s₁.gens = (s'.setGen g .running).gens → gs₂.bare = true → AllBare (s₁.setGen g gs₂).gens ∧ (s₁.setGen g gs₂).gens[g]? = some gs₂ ∧ ∀ p ∈ X.pg, (s₁.setGen g gs₂).gens[p.1]? = some p.2 := fun s₁ gs₂ hg hb => by
  have e1 : s₁.gens[g]? = some .running := by rw [hg]; exact setGen_self hgs
  refine ⟨bare_set (by rw [hg]; exact bare_set fi.g.gens.1 rfl) hb, setGen_self e1, fun p hp => ?_⟩
  rw [set_ne (hpg p hp), hg, set_ne (hpg p hp)]
  exact fi.g.gens.2 p (.tail _ hp)
 refine next_gf (n := zs.length - i) (P := fun n s₀ s₁ => n = 0 ∧ G.Since s₀ s₁) hA hnl hroom hgen hgs goi (fun v s₁ gs₂ hb hy => ?_) fun s₁ hp h' kh => ?_
 ·-- one more thing
  refine A5 hy fun hk hv rest sc kap => ?_; clear hy
  have hlt : i < zs.length := by
   rcases Nat.lt_or_ge i zs.length with h | h
   ·exact h
   ·have := kap s₁ rest
    rw [Nat.sub_eq_zero_of_le h] at this
    exact this.elim
  have hsucc : G.vs.length - (zs.length - i - 1) = i + 1 := n5 (by assumption) hlt
  rw [hsucc] at rest kap
  rw [n6 (by assumption) hlt, hvs, List.getElem?_map, List.getElem?_eq_getElem hlt] at hv
  have hv : Value.ref zs[i] = v := Option.some.inj hv
  subst hv
  have k1 : ∀ b o, b ≠ G.L → b ≠ G.I → s'.heap.get? b = some o → s₁.heap.get? b = some o := fun b o h1 h2 e => sc.heap b o h1 h2 e
  refine E2A5 (gf_adv (tk := s₁.toks) fi apj xj hIi naL naI k1 rest) fun oL₂ Pk xk fk apk hPk ePk => ?_
  have apk : Apart X Pk P := apk
  refine A3 (pgs s₁ gs₂ sc.gens hb) fun b1 b2 b3 => ?_
  have f₂ : FRel { X with pg := (g, gs₂) :: X.pg } (Pk ++ P) env st' m' (s₁.setGen g gs₂) := fk.cong rfl b1 (fun p hp => by
   rcases List.mem_cons.mp hp with rfl | hp
   ·exact b2
   ·exact b3 p hp) (sc.os)
  have S₂ : Step (DD X st P (ownOf env)) s₀.heap s₁.heap := fun b o e nd => k1 b o (fun q => by rw [q, fr _ (.inr (.inl rfl))] at e; exact nomatch e) (fun q => by rw [q, fr _ (.inr (.inr rfl))] at e; exact nomatch e) (Si b o e nd)
  show wpAny _ A (letOwnedTupleGo (.Name tx tp) (.ref a) (.ref zs[i])) _ _ _
  refine wpAny_of_eq (rfl : letOwnedTupleGo (.Name tx tp) (.ref a) (.ref zs[i]) = pure ()) ?_
  refine E1A2 (turn ((g, gs₂) :: X.pg) (Pk ++ P) i zs[i] st' m' (fun p hp => List.mem_append_right _ hp) (List.getElem?_eq_getElem hlt) hJ) fun F hF hB => ?_
  refine hF st' m' _ (.ref zs[i]) f₂ (.ref _) _ _ fun s₂ f₃ S₃ => ?_
  refine wpAny_mono (hB s₂ f₃) (fun fl s₃ p => ?_) fun _ _ e => e.elim
  obtain ⟨φ, st₃, m₃, r₃, f₄, S₄, G₄, q₄⟩ := p
  have frk : ∀ b o, s₀.heap.get? b = some o → b ∉ Pk.map (·.1) := fun b o e q => by
   refine E1A2 (List.mem_map.mp q) fun p hp hn1 => ?_; obtain rfl := hn1
   have : s₀.heap.get? p.1 = none := by
    rcases hPk p hp with h | h | h
    ·rw [h]; exact fr _ (.inr (.inl rfl))
    ·rw [h]; exact fr _ (.inr (.inr rfl))
    ·rw [h]; exact fr _ (.inl rfl)
   rw [this] at e; exact nomatch e
  have base : Gr s₀.heap (DD X st P (ownOf env)) (DD X st' (Pk ++ P) (ownOf env)) := fun b o e d => by
   rcases d.app with q | d
   ·exact absurd q (frk b o e)
   ·exact DD.grow Gi b o e d
  have S₅ : Step (DD X st P (ownOf env)) s₀.heap s₂.heap := S₂.trans (D' := DD X st' (Pk ++ P) (ownOf env)) S₃ base
  have S₆ : Step (DD X st P (ownOf env)) s₀.heap s₃.heap := S₅.trans (D' := DD X st' (Pk ++ P) (ownOf env)) S₄ base
  have fu : FRel { X with pg := (g, gs₂) :: X.pg } P env st₃ m₃ s₃ := f₄.sub fun p hp => List.mem_append_right _ hp
  have fx : FRel X P env st₃ m₃ s₃ := FRel.cong (X := { X with pg := (g, gs₂) :: X.pg }) (pg := X.pg) fu rfl fu.g.gens.1 (fun p hp => fu.g.gens.2 p (.tail _ hp)) rfl
  have Gz : Gr s₀.heap (Dom st) (Dom st₃) := fun b o e d => by
   by_cases q : DD X st P (ownOf env) b
   ·rcases q with q | q | q | q
    ·exact q
    ·exact absurd q (fx.g.off b d).1
    ·exact absurd d (fx.own b q).1
    ·exact absurd q (fx.g.off b d).2
   ·exact Gi b o e (G₄ b o (S₅ b o e q) d)
  have again : J (i + 1) st₃ m₃ → ∃ n', n' < zs.length - i ∧ Inv n' s₃ := fun hJ' => by
   have e₄ : ∀ p ∈ Pk, Pv s₃.heap p := fun p hp => f₄.g.priv p (List.mem_append_left _ hp)
   have hl₄ : s₃.heap.IsList G.rl G.vs.toArray := by
    refine E2A2 (fx.g.objs _ _ (hN _ _ _ hJ')) fun vs' n' e' r' => ?_
    rw [hvs, ← refs_vals r']
    exact list_is e'
   have rest₄ := xk.rest e₄ (Nat.succ_ne_zero i) hl₄
   refine ⟨zs.length - (i + 1), nD hlt, i + 1, st₃, m₃, gs₂, oL₂, Pk, rfl, hlt, hJ', xk, apk, f₄, fun h => absurd h (Nat.succ_ne_zero i), ?_, S₆, Gz⟩
   have := kap (s₃.setGen g .running) rest₄
   rw [n4 hlt] at this
   exact this
  cases fl <;> cases φ <;> first | exact r₃.elim | skip
  ·exact again q₄
  ·exact ⟨.next, st₃, m₃, trivial, fx, S₆, Gz, q₄⟩
  ·exact again q₄
  ·exact ⟨.ret _, st₃, m₃, VR.anti (DD.perm fun p hp => List.mem_append_right _ hp) r₃, fx, S₆, Gz, q₄⟩
 ·-- the end
  refine A2 hp fun hn0 sc => ?_; clear hp
  have hin : i = zs.length := nE hn0 (by assumption)
  subst hin
  have k1 : ∀ b o, b ≠ G.L → b ≠ G.I → s'.heap.get? b = some o → h'.get? b = some o := fun b o h1 h2 e => kh b o (sc.heap b o h1 h2 e)
  refine A3 (pgs s₁ .finished sc.gens rfl) fun b1 b2 b3 => ?_
  obtain ⟨fu, _⟩ := fi.unprivL (h' := h') (tk := s₁.toks) apj xj.cell (fun b o hb e => by
   refine k1 b o (fun q => hb (by rw [q]; exact List.mem_map_of_mem (f := (·.1)) xj.ina.2)) (fun q => ?_) e
   rcases xj.sh with ⟨h0, _⟩ | ⟨oI, rfl, _⟩
   ·rw [q, ← hIi h0, get_size] at e; exact nomatch e
   ·exact hb (by rw [q]; exact .head _))
  have fx : FRel X P env st' m' { s₁.setGen g .finished with heap := h' } := FRel.cong (X := { X with pg := (g, gs') :: X.pg }) (pg := X.pg) fu rfl b1 b3 sc.os
  have S₂ : Step (DD X st P (ownOf env)) s₀.heap h' := fun b o e nd => k1 b o (fun q => by rw [q, fr _ (.inr (.inl rfl))] at e; exact nomatch e) (fun q => by rw [q, fr _ (.inr (.inr rfl))] at e; exact nomatch e) (Si b o e nd)
  exact wpAny_execs_nil ⟨.next, st', m', trivial, fx, S₂, Gi, done st' m' hJ⟩
end
end J
namespace J
section
variable {X : Cx} {P : PL} {A : Around} {env : Env} {st : AS} {m : AM} {s : Shared}
theorem x_for_gf {n : Nat} {tx sf x attr name qual : Str} {tp pos p1 p2 xp yp1 yp2 yp3 fp : Pos} {iter : Expr} {body : List Stmt} {y C fa rl : Addr} {ns : List Str} {l : List AV} {zs : List Addr} {params : Arguments} {scope : Scope} {dV kV doc pm cdv ct oc : Value} {an od : Option Addr} {osl : Array (Option Value)} {Q : AF → AS → AM → Prop}
 (hX : X.Ok) (R : Room n A P (locOf env)) (hi : EV X P A env st m (eval iter env) (.ref y)) (hs : ∀ x, foldedSetIterable iter env x = pure x) (hy : st y = some (.inst C ns l)) (hrl : st rl = some (.list (zs.map .ref))) (hlook : (ns.zip l).lookup attr = some (.ref rl)) (hpl : plainAttr X.K C attr = true)
 (hit : findIn X.K (.ref C) "__iter__" = some (some (.ref fa))) (hfn : isFn X.K (.ref fa) = true)
 (ho : X.K.lookup fa = some ⟨oc, od, .func (fnOf name qual params [.For (.Name x xp) (.Attribute (.Name sf p1) attr p2) (yBody x yp1 yp2 yp3) [] fp] scope dV kV doc pm an cdv ct), osl⟩) (hcd : codeIn X.K cdv qual = true)
 (hb : ∀ v, bindArgs (fnOf name qual params [.For (.Name x xp) (.Attribute (.Name sf p1) attr p2) (yBody x yp1 yp2 yp3) [] fp] scope dV kV doc pm an cdv ct) ⟨[v], []⟩ = pure [(sf, v)])
 (hk : scope.kind = .function) (hco : scope.isCoroutine = false) (hgen : scope.isGenerator = true) (hx : scope.names.lookup x = some .local) (hsf : scope.names.lookup sf = some .local) (hcell : (scope.names.all fun y => y.2 != .cell) = true)
 (hxd : (x == ("__debug__" : Str)) = false) (hsd : (sf == ("__debug__" : Str)) = false) (hin : ∀ L, interactive (envX qual scope L fa cdv []) = false) (hfs : ∀ L v, foldedSetIterable (.Attribute (.Name sf p1) attr p2) (envX qual scope L fa cdv []) v = pure v)
 (J : Nat → AS → AM → Prop) (h0 : J 0 st m) (hN : ∀ i st' m', J i st' m' → st' rl = some (.list (zs.map .ref)))
 (turn : ∀ pg P' i z st' m', (∀ p ∈ P, p ∈ P') → zs[i]? = some z → J i st' m' → ∃ F, ASG { X with pg := pg } P' A env (.Name tx tp) (.ref z) F ∧ WX { X with pg := pg } P' A env st' (F m') (execs body env) fun φ st'' m'' => match φ with
  | .next => J (i + 1) st'' m'' | .cont => J (i + 1) st'' m'' | .brk => Q .next st'' m'' | .ret r => Q (.ret r) st'' m'')
 (done : ∀ st' m', J zs.length st' m' → Q .next st' m') : WX X P A env st m (exec (.For (.Name tx tp) iter body [] pos) env) Q := fun s f => by
 refine wpAny_For (hi.on f fun v s₁ f₁ r S₁ => ?_) hs
 (first | cases r using VR.intE | cases r using VR.noneE | cases r using VR.boolE | cases r using VR.refE | cases r using VRs.nilE | cases r)
 have Xk := f₁.kin hX.kin
 refine E2A2 (f₁.g.objs y _ hy) fun d vs hn1 hn2 => ?_; obtain rfl := hn1; refine A3 hn2 fun e1 xd rv => ?_; clear hn2
 refine E2A2 (inst_at (D := fun _ => False) e1 xd) fun es nn I q => ?_
 have hnc : ∀ x ∈ scope.names, x.2 ≠ .cell := fun x hx => by have := List.all_eq_true.mp hcell x hx; simpa using this
 refine iter_inst Xk I hit hfn (wpAny_call (codeAny_call_generator R.ok (Xk _ _ ho) rfl hco hgen rfl (codeRec_of Xk hcd) (wpAny_of_eq (hb _) ?_)))
 refine wpAny_newFunctionEnv hnc (fun x hx => by rw [List.mem_singleton] at hx; subst hx; exact hsf) (fun h₁ hns hsb => ⟨(f₁.g.nolim.keeps f₁.g.base).fresh _ hsb, ?_⟩) hk
 dsimp only at hns hsb ⊢
 obtain ⟨L, hL⟩ : ∃ L, L = s₁.heap.objs.size := ⟨_, rfl⟩
 rw [← hL] at hns hsb ⊢
 have k₁ : ∀ b o, s₁.heap.get? b = some o → h₁.get? b = some o := fun b o e => hsb.extBut b o (by rw [hL]; exact Nat.ne_of_lt (Heap.lt_size e)) (Heap.get?_push_of_some _ e)
 have hLlt : L < h₁.objs.size := hns.lt
 refine E1A3 (ns_obj hns) fun oL eL dL nL => ?_
 generalize hoa : ({ cls := .type "generator", data := .fields #[.int s₁.gens.size 0, .str name (s₁.toks + [(sf, Value.ref (d + 1))].length), .str qual (s₁.toks + [(sf, Value.ref (d + 1))].length + 1)] } : Obj) = oa
 have k₂ : ∀ b o, h₁.get? b = some o → (h₁.push oa).get? b = some o := fun b o e => Heap.get?_push_of_some _ e
 have ea : (h₁.push oa).get? h₁.objs.size = some oa := Heap.get?_push_size _ (by rw [← hoa]; rfl)
 have eL' := k₂ _ _ eL
 have fra : s₁.heap.get? h₁.objs.size = none := get_ge (by rw [← hL]; exact Nat.le_of_lt hLlt)
 have frL : s₁.heap.get? L = none := by rw [hL]; exact get_size _
 obtain ⟨f₂, ap⟩ := f₁.privL (h' := h₁.push oa) (tk := s₁.toks + [(sf, Value.ref (d + 1))].length + 1 + 1) (Pi := [(h₁.objs.size, oa), (L, oL)]) (fun b o e => k₂ b o (k₁ b o e)) (fun p hp => by
  rcases hp with _ | ⟨_, _ | ⟨_, hp⟩⟩
  ·exact fra
  ·exact frL
  ·exact nomatch hp) (fun p hp => by
  rcases hp with _ | ⟨_, _ | ⟨_, hp⟩⟩
  ·exact ea
  ·exact eL'
  ·exact nomatch hp)
 have hsz : ∀ p ∈ X.pg, p.1 < s₁.gens.size := fun p hp => (Array.getElem?_eq_some_iff.mp (f₁.g.gens.2 p hp)).1
 refine E2A2 (f₁.g.objs _ _ hrl) fun vs' n' eR rR => ?_
 have hvs := refs_vals rR
 have f₃ : FRel { X with pg := (s₁.gens.size, GenState.fresh (.func [.For (.Name x xp) (.Attribute (.Name sf p1) attr p2) (yBody x yp1 yp2 yp3) [] fp] (envX qual scope L fa cdv []))) :: X.pg } ([(h₁.objs.size, oa), (L, oL)] ++ P) env st m
  { s₁ with heap := h₁.push oa, toks := s₁.toks + [(sf, Value.ref (d + 1))].length + 1 + 1, gens := s₁.gens.push (GenState.fresh (.func [.For (.Name x xp) (.Attribute (.Name sf p1) attr p2) (yBody x yp1 yp2 yp3) [] fp] (envX qual scope L fa cdv []))) } :=
  f₂.cong rfl (f₁.g.gens.1.push rfl) (fun p hp => by
   rcases List.mem_cons.mp hp with rfl | hp
   ·exact Array.getElem?_push_size
   ·dsimp only
    rw [Array.getElem?_push_lt (hsz p hp)]
    have := f₁.g.gens.2 p hp
    rw [← this]
    exact (Array.getElem?_eq_getElem (hsz p hp)).symm) rfl
 have Xk₃ := f₃.kin hX.kin
 have e1' := k₂ _ _ (k₁ _ _ e1)
 have eR' := k₂ _ _ (k₁ _ _ eR)
 have naL : h₁.objs.size ≠ L := Nat.ne_of_gt hLlt
 have nLr : L ≠ rl := fun q => by rw [q] at frL; rw [frL] at eR; exact nomatch eR
 have hrlt := Heap.lt_size (k₁ _ _ eR)
 have loop := for_gf (X := X) (P := P) (A := A) (env := env) (st := st) (m := m) (G := ⟨L, (h₁.push oa).objs.size, rl, zs.map .ref⟩) (a := h₁.objs.size) (g := s₁.gens.size) (oa := oa) (oL := oL) (zs := zs) (tx := tx) (tp := tp) (body := body) (s₀ := s) (Q := Q) R.handled R.ok rfl naL
  (by rw [Heap.size_push]; exact Nat.ne_of_lt (Nat.lt_succ_self _)) nLr (by rw [Heap.size_push]; exact Nat.ne_of_gt (Nat.lt_succ_of_lt hrlt)) hrl ?_ (fun p hp => Nat.ne_of_lt (hsz p hp)) (S₁.on (Step.of_keeps fun b o e => k₂ b o (k₁ b o e))) f₃ ap
  ⟨by rw [← hoa], by rw [← hoa]; exact ⟨_, _, rfl⟩, by rw [← hoa], ⟨_, nL⟩, dL, .inl ⟨rfl, rfl⟩⟩ rfl ⟨rfl, ?_⟩ J h0 hN turn done
 ·refine ⟨"generator", _, ⟨_, ea, by rw [← hoa]⟩, slot_gen_next.lookup, ?_⟩
  exact codeAny_mono loop fun r s' h => by
   cases r with
   | ok fl => exact h
   | error e => exact h.elim
 ·have back : ∀ b, s₁.heap.get? b = none → s.heap.get? b = none := fun b e => by
   cases q : s.heap.get? b with
   | none => rfl
   | some o =>
    by_cases dd : DD X st P (ownOf env) b
    ·refine E1 (f₁.din dd) fun o' e' => ?_; rw [e] at e'; exact nomatch e'
    ·have := S₁ b o q dd; rw [e] at this; exact nomatch this
  intro b hb
  refine back b ?_
  rcases hb with rfl | rfl | rfl
  ·exact fra
  ·exact frL
  ·refine get_ge ?_
   rw [Heap.size_push, ← hL]
   exact Nat.le_of_lt (Nat.lt_succ_of_lt hLlt)
 ·refine seg_gf0 (G := ⟨L, (h₁.push oa).objs.size, rl, zs.map .ref⟩) R.handled ?_ nLr ?_ rfl hk hco hx hxd (hin L) (hfs L) rfl ⟨_, nL _ _ eL' rfl⟩ ?_ ?_
  ·rw [Heap.size_push]; exact Nat.ne_of_lt (Nat.lt_succ_of_lt hLlt)
  ·rw [Heap.size_push]; exact Nat.ne_of_gt (Nat.lt_succ_of_lt hrlt)
  ·show (h₁.push oa).IsList rl (zs.map Value.ref).toArray
   rw [← hvs]; exact list_is eR'
  ·intro A' E Q' hq
   refine Attribute_name (wpAny_Name (wpAny_loadName_local (v := .ref (d + 1)) hk hsf (nL _ _ eL' rfl) (by simp) ?_) hsd)
   refine E2A2 (inst_at (D := fun _ => False) e1' (xd.keep fun o e => k₂ _ _ (k₁ _ _ e))) fun es' n₂ I' q' => ?_
   refine E1A2 (q'.look rv hlook) fun en w1 w2 => ?_
   refine A2 (find_plain (od := ⟨.type "dict", none, .dict es'.toArray n₂, #[]⟩) (v := en.val) hpl (by unfold lookIn; dsimp only; rw [w1])) fun h3 h4 => ?_
   have hen : en.val = .ref rl := by
    generalize en.val = v at w2
    cases w2; rfl
   refine get_value (K := X.K) Xk₃ I' h4 h3 w2.handed ?_
   rw [hen]
   exact hq _
end
end J
namespace J
theorem lex_tri : ∀ a b : List Int, lexLt a b = false → lexLt b a = false → a = b
 | [], [], _, _ => rfl
 | [], _ :: _, h, _ => by simp [lexLt] at h
 | _ :: _, [], _, h => by simp [lexLt] at h
 | x :: l, y :: l', h, h2 => by
  unfold lexLt at h h2
  by_cases q : x = y
  ·subst q
   rw [if_pos (by simp)] at h h2
   rw [lex_tri l l' h h2]
  ·rw [if_neg (by simpa using q)] at h
   rw [if_neg (by simpa using Ne.symm q)] at h2
   simp only [decide_eq_false_iff_not] at h h2
   lia
theorem asc_unique : ∀ {L L' : List (List Int)}, L.Perm L' → Asc L → Asc L' → L = L'
 | [], L', p, _, _ => by rw [p.nil_eq]
 | a :: l, [], p, _, _ => by have := p.length_eq; simp at this
 | a :: l, b :: l', p, h, h' => by
  have e : a = b := by
   have ha : a ∈ b :: l' := p.subset (.head _)
   have hb : b ∈ a :: l := p.symm.subset (.head _)
   rcases List.mem_cons.mp ha with e | ha
   ·exact e
   ·rcases List.mem_cons.mp hb with e | hb
    ·exact e.symm
    ·exact lex_tri a b ((List.pairwise_cons.mp h').1 a ha) ((List.pairwise_cons.mp h).1 b hb)
  subst e
  rw [asc_unique p.cons_inv (List.pairwise_cons.mp h).2 (List.pairwise_cons.mp h').2]
open Classical in
noncomputable def srt (L : List (List Int)) : List (List Int) := if h : ∃ L', L'.Perm L ∧ Asc L' then Classical.choose h else L
theorem srt_of {L L' : List (List Int)} (p : L'.Perm L) (h : Asc L') : srt L = L' := by
 unfold srt
 rw [dif_pos ⟨L', p, h⟩]
 refine A2 (Classical.choose_spec (⟨L', p, h⟩ : ∃ L', L'.Perm L ∧ Asc L')) fun h1 h2 => ?_
 exact asc_unique (h1.trans p.symm) h2 h
section
variable {X : Cx} {P : PL} {A : Around} {env : Env} {st : AS} {m : AM} {s : Shared}
theorem b_srt {a : AV} {L : List (List Int)} (hL : IsL st a (L.map rowI)) (hn : ∀ l ∈ L, l ≠ []) (h64 : L.length < 64) :
 Blt X P A env st m (.builtin "sorted") [a] (fun b st' m' => b = .lst ((srt L).map rowI) ∧ st' = st ∧ m' = m ∧ (srt L).Perm L ∧ Asc (srt L)) := fun s vals f r =>
 wpAny_mono (b_sorted hL hn h64 s vals f r) (fun _ _ p => p.mono fun b st' m' ⟨h1, h2, L', h3, h4, h5⟩ => by
  rw [srt_of h4 h5]; exact ⟨h3, h1, h2, h4, h5⟩) fun _ _ e => e
theorem i_isL {tgt iter : Expr} {a : AV} {xs : List AV} (hA : A.handled = none) (hi : EV X P A env st m (eval iter env) a) (h : IsL st a xs) : ∃ NS : AS → Prop, EVI X P A env st m tgt iter xs NS ∧ (∀ st', Ext st st' → NS st') ∧ NS st := by
 rcases h with rfl | ⟨r, rfl, h⟩
 ·exact ⟨_, i_list hA hi, fun _ _ => trivial, trivial⟩
 ·exact ⟨_, i_tracked hA hi h, fun st' e => e r _ h, h⟩
theorem x_forL {tgt iter : Expr} {body : List Stmt} {pos : Pos} {b : AV} {xs : List AV} {Q : AF → AS → AM → Prop} (hA : A.handled = none) (hi : EV X P A env st m (eval iter env) b) (hL : IsL st b xs) (hs : ∀ x, foldedSetIterable iter env x = pure x)
 (J : Nat → AS → AM → Prop) (h0 : J 0 st m) (hN : ∀ i st' m', J i st' m' → IsL st' b xs)
 (turn : ∀ P' i a st' m', (∀ p ∈ P, p ∈ P') → xs[i]? = some a → J i st' m' → ∃ F, ASG X P' A env tgt a F ∧ WX X P' A env st' (F m') (execs body env) fun φ st'' m'' => match φ with
  | .next => J (i + 1) st'' m'' | .cont => J (i + 1) st'' m'' | .brk => Q .next st'' m'' | .ret r => Q (.ret r) st'' m'')
 (done : ∀ st' m', J xs.length st' m' → Q .next st' m') : WX X P A env st m (exec (.For tgt iter body [] pos) env) Q := by
 rcases hL with rfl | ⟨r, rfl, h⟩
 ·exact x_for (i_list hA hi) hs J h0 (fun _ _ _ _ => trivial) turn done
 ·refine x_for (i_tracked hA hi h) hs J h0 (fun i st' m' hj => ?_) turn done
  rcases hN i st' m' hj with e | ⟨r', e, h'⟩
  ·exact nomatch e
  ·cases e; exact h'
theorem e_tix {value : Expr} {k : Int} {kk : Nat} {kp pos : Pos} {xs : List AV} {b : AV} (hv : EV X P A env st m (eval value env) (.tup xs)) (h0 : 0 ≤ k) (hf : k < 2 ^ 63) (hx : xs[k.toNat]? = some b) (ok : subOk value (.Constant (.int k) kk kp)) :
 EV X P A env st m (eval (.Subscript value (.Constant (.int k) kk kp) pos) env) b := by
 obtain ⟨j, rfl⟩ : ∃ j : Nat, k = (j : Int) := ⟨k.toNat, (Int.toNat_of_nonneg h0).symm⟩
 exact e_tindex (k := j) hv e_int hf hx ok
theorem e_comp1L {elt tgt iter : Expr} {ifs : List Expr} {scope : Scope} {pos : Pos} {b : AV} {xs : List AV} (g : AV → List AV) (L : AV → AM → AM) (hA : A.handled = none)
 (ok : compOk env scope = true) (hs : ∀ x, foldedSetIterable iter env x = pure x) (hi : EV X P A env st m (eval iter env) b) (hL : IsL st b xs)
 (hz : (xs.flatMap g).length ≤ sizeLine) (hT : ∀ a ∈ xs, TG X A scope env m tgt a (L a))
 (turn : ∀ P' cl C D a ml, st D = none → (∀ n, Room n A P (locOf env) → Room n A P' (locOf (compEnvC scope cl C env))) → a ∈ xs → ∃ q, (∀ acc, EvIfs X P' A (compEnvC scope cl C env) (put st D (.list acc)) (MM scope m (L a ml)) ifs q) ∧
  (q = true → ∃ b, (∀ acc, EV X P' A (compEnvC scope cl C env) (put st D (.list acc)) (MM scope m (L a ml)) (eval elt (compEnvC scope cl C env)) b) ∧ g a = [b]) ∧ (q = false → g a = [])) :
 EV X P A env st m (eval (.ListComp elt [⟨tgt, iter, ifs, 0⟩] scope pos) env) (.lst (xs.flatMap g)) := by
 refine E1A3 (i_isL (tgt := tgt) hA hi hL) fun NS h1 h2 _ => ?_
 exact e_comp1 g L ok hs h1 h2 hz hT turn
theorem x_setE {x : Str} {pos' : Pos} {value : Expr} {pos : Pos} {a : AV} {ts : List Stmt} {Q : AF → AS → AM → Prop} (h : EV X P A env st m (eval value env) a) (ok : storeOk env x = true) (hs : swapsWith value (some (.Name x pos')) pos.line env = pure false)
 (k : WX X P A env st (upd m x a) (execs ts env) Q) : WX X P A env st m (execs (.Assign [.Name x pos'] value pos :: ts) env) Q := x_cons (x_set (WE.of h k) ok hs)
theorem x_setW {x : Str} {pos' : Pos} {value : Expr} {pos : Pos} {ts : List Stmt} {Q : AF → AS → AM → Prop} (ok : storeOk env x = true) (hs : swapsWith value (some (.Name x pos')) pos.line env = pure false)
 (h : WE X P A env st m (eval value env) fun a st' m' => WX X P A env st' (upd m' x a) (execs ts env) Q) : WX X P A env st m (execs (.Assign [.Name x pos'] value pos :: ts) env) Q := x_cons (x_set h ok hs)
theorem x_forM {tgt iter : Expr} {body : List Stmt} {pos : Pos} {b : AV} {xs : List AV} {ts : List Stmt} {Q : AF → AS → AM → Prop} (J : Nat → AS → AM → Prop) (hA : A.handled = none) (hi : EV X P A env st m (eval iter env) b) (hL : IsL st b xs) (hs : ∀ x, foldedSetIterable iter env x = pure x)
 (h0 : J 0 st m) (hN : ∀ i st' m', J i st' m' → IsL st' b xs)
 (turn : ∀ P' i a st' m' Q', (∀ p ∈ P, p ∈ P') → xs[i]? = some a → J i st' m' → (∀ st'' m'', J (i + 1) st'' m'' → Q' .next st'' m'') → ∃ F, ASG X P' A env tgt a F ∧ WX X P' A env st' (F m') (execs body env) Q')
 (done : ∀ st' m', J xs.length st' m' → WX X P A env st' m' (execs ts env) Q) : WX X P A env st m (execs (.For tgt iter body [] pos :: ts) env) Q :=
 x_cons (x_forL hA hi hL hs J h0 hN (fun P' i a st' m' h1 h2 h3 => turn P' i a st' m' _ h1 h2 h3 fun _ _ h => h) done)
theorem x_last {t : Stmt} {Q : AF → AS → AM → Prop} (h : WX X P A env st m (exec t env) Q) : WX X P A env st m (execs [t] env) Q := x_cons (h.mono fun φ _ _ q => by cases φ <;> first | exact x_nil q | exact q)
end
end J
namespace J
noncomputable abbrev CX (w : World) (g0 : Heap) (tb : List (Addr × Addr × Array Value)) (os : OsState) (pg : List (Nat × GenState)) : Cx := ⟨PySem.Challenge.pw_jb0030_02, w, K1 w.params, g0, tb, os, pg⟩
variable {w : World} {g0 : Heap} {tb : List (Addr × Addr × Array Value)} {os : OsState} {pg : List (Nat × GenState)} {st : AS}
noncomputable abbrev rcn : List Str := ["width", "height", "x", "y", "rid"]
noncomputable abbrev rcl (x y w h : Int) (r : AV) : List AV := [.int w, .int h, .int x, .int y, r]
noncomputable abbrev HR (st : AS) (b : AV) (x y w h : Int) (r : AV) : Prop := HasI st 203 rcn (rcl x y w h r) b
noncomputable abbrev rc (x y w h : Int) (r : AV) : AV := .inst 203 rcn (rcl x y w h r)
local macro_rules | `(tactic| walk_at "jm") => `(tactic| first | with_reducible exact um_hd | (with_reducible refine' um_tl ?h ?t; (case h => kernel_rfl); (case t => walk_at "jm")))
local macro_rules | `(tactic| walk_at "jl") => `(tactic| first | with_reducible exact lk_hd | (with_reducible refine' lk_tl ?h ?t; (case h => kernel_rfl); (case t => walk_at "jl")))
local macro_rules | `(tactic| walk_at "jv") => `(tactic| first
 | (with_reducible refine' e_name ?h ?k; (case h => walk_at "jm"); (case k => kernel_rfl))
 | with_reducible exact e_int
 | with_reducible exact e_none
 | with_reducible exact e_bool
 | (with_reducible refine' e_bin ?l ?r ?o; (case l => walk_at "jv"); (case r => walk_at "jv"); (case o => walk_at "jo"))
 | (with_reducible refine' e_cmp ?l ?r ?o ?m; (case l => walk_at "jv"); (case r => walk_at "jv"); (case o => walk_at "jo"); (case m => kernel_rfl))
 | (with_reducible refine' e_and ?l ?r; (case l => walk_at "jv"); (case r => intro _; walk_at "jv"))
 | (with_reducible refine' e_or ?l ?r; (case l => walk_at "jv"); (case r => intro _; walk_at "jv"))
 | (with_reducible refine' e_and1 ?l; (case l => walk_at "jv"))
 | (with_reducible refine' e_not ?l; (case l => walk_at "jv"))
 | (with_reducible refine' e_attrI (by assumption) ?hb ?l ?p ?r; (case l => walk_at "jv"); (case hb => assumption); (case p => kernel_rfl); (case r => walk_at "jl")))
local macro_rules | `(tactic| walk_at "jo") => `(tactic| with_reducible first | exact o_add | exact o_sub | exact o_lt | exact o_le | exact o_gt | exact o_ge | exact o_eq | exact o_ne | exact o_isNone | exact o_isNotNone)
theorem binds1 {D : Addr → Prop} {s : Shared} {vals : List Value} {fd : FuncData} {n1 : Str} {a1 : AV} (hb : ∀ v1, bindArgs fd ⟨[v1], []⟩ = pure [(n1, v1)]) (r : VRs D s.heap vals [a1]) : ∃ binds, BindsTo s fd ⟨vals, []⟩ binds ∧ BR D s.heap binds [(n1, a1)] := by
 cases r using VRs.consE with | cons r1 r => (first | cases r using VR.intE | cases r using VR.noneE | cases r using VR.boolE | cases r using VR.refE | cases r using VRs.nilE | cases r); exact ⟨_, BindsTo.of_eq (hb _), .cons r1 .nil⟩
theorem binds2 {D : Addr → Prop} {s : Shared} {vals : List Value} {fd : FuncData} {n1 n2 : Str} {a1 a2 : AV} (hb : ∀ v1 v2, bindArgs fd ⟨[v1, v2], []⟩ = pure [(n1, v1), (n2, v2)]) (r : VRs D s.heap vals [a1, a2]) : ∃ binds, BindsTo s fd ⟨vals, []⟩ binds ∧ BR D s.heap binds [(n1, a1), (n2, a2)] := by
 cases r using VRs.consE with | cons r1 r => cases r using VRs.consE with | cons r2 r => (first | cases r using VR.intE | cases r using VR.noneE | cases r using VR.boolE | cases r using VR.refE | cases r using VRs.nilE | cases r); exact ⟨_, BindsTo.of_eq (hb _ _), .cons r1 (.cons r2 .nil)⟩
theorem binds4 {D : Addr → Prop} {s : Shared} {vals : List Value} {fd : FuncData} {n1 n2 n3 n4 : Str} {a1 a2 a3 a4 : AV} (hb : ∀ v1 v2 v3 v4, bindArgs fd ⟨[v1, v2, v3, v4], []⟩ = pure [(n1, v1), (n2, v2), (n3, v3), (n4, v4)]) (r : VRs D s.heap vals [a1, a2, a3, a4]) : ∃ binds, BindsTo s fd ⟨vals, []⟩ binds ∧ BR D s.heap binds [(n1, a1), (n2, a2), (n3, a3), (n4, a4)] := by
 cases r using VRs.consE with | cons r1 r => cases r using VRs.consE with | cons r2 r => cases r using VRs.consE with | cons r3 r => cases r using VRs.consE with | cons r4 r => (first | cases r using VR.intE | cases r using VR.noneE | cases r using VR.boolE | cases r using VR.refE | cases r using VRs.nilE | cases r); exact ⟨_, BindsTo.of_eq (hb _ _ _ _), .cons r1 (.cons r2 (.cons r3 (.cons r4 .nil)))⟩
theorem f_bottom (hX : (CX w g0 tb os pg).Ok) {b : AV} {x y a c : Int} {r : AV} (h : HR st b x y a c r) : FNv (CX w g0 tb os pg) 1 78 st [b] (.int y) := by
 refine FN.of (abinds := [("self", b)]) hX.kin (by rfl) (by kernel_rfl) (fun P s vals g rv => binds1 (fun _ => by kernel_rfl) rv) rfl rfl rfl (by kernel_rfl) (by kernel_rfl) fun P A L R hf => ?_
 dsimp only [bindA]
 exact x_cons (x_ret (WE.of (by walk_at "jv") ⟨rfl, rfl⟩))
theorem f_top (hX : (CX w g0 tb os pg).Ok) {b : AV} {x y a c : Int} {r : AV} (h : HR st b x y a c r) : FNv (CX w g0 tb os pg) 1 86 st [b] (.int (y + c)) := by
 refine FN.of (abinds := [("self", b)]) hX.kin (by rfl) (by kernel_rfl) (fun P s vals g rv => binds1 (fun _ => by kernel_rfl) rv) rfl rfl rfl (by kernel_rfl) (by kernel_rfl) fun P A L R hf => ?_
 dsimp only [bindA]
 exact x_cons (x_ret (WE.of (by walk_at "jv") ⟨rfl, rfl⟩))
theorem f_left (hX : (CX w g0 tb os pg).Ok) {b : AV} {x y a c : Int} {r : AV} (h : HR st b x y a c r) : FNv (CX w g0 tb os pg) 1 94 st [b] (.int x) := by
 refine FN.of (abinds := [("self", b)]) hX.kin (by rfl) (by kernel_rfl) (fun P s vals g rv => binds1 (fun _ => by kernel_rfl) rv) rfl rfl rfl (by kernel_rfl) (by kernel_rfl) fun P A L R hf => ?_
 dsimp only [bindA]
 exact x_cons (x_ret (WE.of (by walk_at "jv") ⟨rfl, rfl⟩))
theorem f_right (hX : (CX w g0 tb os pg).Ok) {b : AV} {x y a c : Int} {r : AV} (h : HR st b x y a c r) : FNv (CX w g0 tb os pg) 1 102 st [b] (.int (x + a)) := by
 refine FN.of (abinds := [("self", b)]) hX.kin (by rfl) (by kernel_rfl) (fun P s vals g rv => binds1 (fun _ => by kernel_rfl) rv) rfl rfl rfl (by kernel_rfl) (by kernel_rfl) fun P A L R hf => ?_
 dsimp only [bindA]
 exact x_cons (x_ret (WE.of (by walk_at "jv") ⟨rfl, rfl⟩))
theorem f_contains (hX : (CX w g0 tb os pg).Ok) {b b' : AV} {x y a c x' y' a' c' : Int} {r r' : AV} (h : HR st b x y a c r) (h' : HR st b' x' y' a' c' r') : FNv (CX w g0 tb os pg) 1 177 st [b, b'] (.bool (decide (y ≤ y') && (decide (x ≤ x') && (decide (y' + c' ≤ y + c) && decide (x' + a' ≤ x + a))))) := by
 refine FN.of (abinds := [("self", b), ("rect", b')]) hX.kin (by rfl) (by kernel_rfl) (fun P s vals g rv => binds2 (fun _ _ => by kernel_rfl) rv) rfl rfl rfl (by kernel_rfl) (by kernel_rfl) fun P A L R hf => ?_
 dsimp only [bindA]
 refine' x_cons (x_ret (WE.of (a := ?a) ?h ?q))
 case h => walk_at "jv"
 case q => exact ⟨rfl, rfl⟩
theorem VRs.e1 {D : Addr → Prop} {h : Heap} {a1 : AV} {M : List Value → Prop} (k : ∀ {v1 : Value}, VR D h v1 a1 → M [v1]) {vs : List Value} (x : VRs D h vs [a1]) : M vs := by
 cases x using VRs.consE with | cons r1 x => cases x using VRs.nilE; exact k r1
theorem VRs.e2 {D : Addr → Prop} {h : Heap} {a1 a2 : AV} {M : List Value → Prop} (k : ∀ {v1 v2 : Value}, VR D h v1 a1 → VR D h v2 a2 → M [v1, v2]) {vs : List Value} (x : VRs D h vs [a1, a2]) : M vs := by
 cases x using VRs.consE with | cons r1 x => cases x using VRs.consE with | cons r2 x => cases x using VRs.nilE; exact k r1 r2
theorem VRs.e3 {D : Addr → Prop} {h : Heap} {a1 a2 a3 : AV} {M : List Value → Prop} (k : ∀ {v1 v2 v3 : Value}, VR D h v1 a1 → VR D h v2 a2 → VR D h v3 a3 → M [v1, v2, v3]) {vs : List Value} (x : VRs D h vs [a1, a2, a3]) : M vs := by
 cases x using VRs.consE with | cons r1 x => cases x using VRs.consE with | cons r2 x => cases x using VRs.consE with | cons r3 x => cases x using VRs.nilE; exact k r1 r2 r3
theorem VRs.e5 {D : Addr → Prop} {h : Heap} {a1 a2 a3 a4 a5 : AV} {M : List Value → Prop} (k : ∀ {v1 v2 v3 v4 v5 : Value}, VR D h v1 a1 → VR D h v2 a2 → VR D h v3 a3 → VR D h v4 a4 → VR D h v5 a5 → M [v1, v2, v3, v4, v5]) {vs : List Value} (x : VRs D h vs [a1, a2, a3, a4, a5]) : M vs := by
 cases x using VRs.consE with | cons r1 x => cases x using VRs.consE with | cons r2 x => cases x using VRs.consE with | cons r3 x => cases x using VRs.consE with | cons r4 x => cases x using VRs.consE with | cons r5 x => cases x using VRs.nilE; exact k r1 r2 r3 r4 r5
theorem VRs.e6 {D : Addr → Prop} {h : Heap} {a1 a2 a3 a4 a5 a6 : AV} {M : List Value → Prop} (k : ∀ {v1 v2 v3 v4 v5 v6 : Value}, VR D h v1 a1 → VR D h v2 a2 → VR D h v3 a3 → VR D h v4 a4 → VR D h v5 a5 → VR D h v6 a6 → M [v1, v2, v3, v4, v5, v6]) {vs : List Value} (x : VRs D h vs [a1, a2, a3, a4, a5, a6]) : M vs := by
 cases x using VRs.consE with | cons r1 x => cases x using VRs.consE with | cons r2 x => cases x using VRs.consE with | cons r3 x => cases x using VRs.consE with | cons r4 x => cases x using VRs.consE with | cons r5 x => cases x using VRs.consE with | cons r6 x => cases x using VRs.nilE; exact k r1 r2 r3 r4 r5 r6
theorem al0 {α : Type} {p : α → Prop} : ∀ z, z ∈ ([] : List α) → p z := fun _ h => nomatch h
theorem al {α : Type} {p : α → Prop} {a : α} {l : List α} (h : p a) (k : ∀ z, z ∈ l → p z) : ∀ z, z ∈ a :: l → p z := fun z m => (List.mem_cons.mp m).elim (fun e => e ▸ h) (k z)
end J
namespace J
variable {w : World} {g0 : Heap} {tb : List (Addr × Addr × Array Value)} {os : OsState} {pg : List (Nat × GenState)} {st : AS} {P : PL} {A : Around} {env : Env} {m : AM}
local macro_rules | `(tactic| walk_at "jm") => `(tactic| first | with_reducible exact um_hd | (with_reducible refine' um_tl ?h ?t; (case h => kernel_rfl); (case t => walk_at "jm")))
local macro_rules | `(tactic| walk_at "jl") => `(tactic| first | with_reducible exact lk_hd | (with_reducible refine' lk_tl ?h ?t; (case h => kernel_rfl); (case t => walk_at "jl")))
theorem e_bottom (hX : (CX w g0 tb os pg).Ok) {n : Nat} {o : Str} {op p : Pos} {b : AV} {x y a c : Int} {r : AV} (h : EV (CX w g0 tb os pg) P A env st m (eval (.Name o op) env) b) (hb : HR st b x y a c r) (R : Room n A P (locOf env)) (hn : 2 ≤ n) : EV (CX w g0 tb os pg) P A env st m (eval (.Attribute (.Name o op) "bottom" p) env) (.int y) :=
 e_propI (p := 79) (g := 78) (n := 1) hX hb h (by kernel_rfl) (f_bottom hX hb) (R.mono hn)
theorem e_top (hX : (CX w g0 tb os pg).Ok) {n : Nat} {o : Str} {op p : Pos} {b : AV} {x y a c : Int} {r : AV} (h : EV (CX w g0 tb os pg) P A env st m (eval (.Name o op) env) b) (hb : HR st b x y a c r) (R : Room n A P (locOf env)) (hn : 2 ≤ n) : EV (CX w g0 tb os pg) P A env st m (eval (.Attribute (.Name o op) "top" p) env) (.int (y + c)) :=
 e_propI (p := 87) (g := 86) (n := 1) hX hb h (by kernel_rfl) (f_top hX hb) (R.mono hn)
theorem e_left (hX : (CX w g0 tb os pg).Ok) {n : Nat} {o : Str} {op p : Pos} {b : AV} {x y a c : Int} {r : AV} (h : EV (CX w g0 tb os pg) P A env st m (eval (.Name o op) env) b) (hb : HR st b x y a c r) (R : Room n A P (locOf env)) (hn : 2 ≤ n) : EV (CX w g0 tb os pg) P A env st m (eval (.Attribute (.Name o op) "left" p) env) (.int x) :=
 e_propI (p := 95) (g := 94) (n := 1) hX hb h (by kernel_rfl) (f_left hX hb) (R.mono hn)
theorem e_right (hX : (CX w g0 tb os pg).Ok) {n : Nat} {o : Str} {op p : Pos} {b : AV} {x y a c : Int} {r : AV} (h : EV (CX w g0 tb os pg) P A env st m (eval (.Name o op) env) b) (hb : HR st b x y a c r) (R : Room n A P (locOf env)) (hn : 2 ≤ n) : EV (CX w g0 tb os pg) P A env st m (eval (.Attribute (.Name o op) "right" p) env) (.int (x + a)) :=
 e_propI (p := 103) (g := 102) (n := 1) hX hb h (by kernel_rfl) (f_right hX hb) (R.mono hn)
local macro_rules | `(tactic| walk_at "jo") => `(tactic| with_reducible first | exact o_add | exact o_sub | exact o_lt | exact o_le | exact o_gt | exact o_ge | exact o_eq | exact o_ne | exact o_isNone | exact o_isNotNone)
local macro_rules | `(tactic| walk_at "jv") => `(tactic| first
 | (with_reducible refine' e_name ?h ?k; (case h => walk_at "jm"); (case k => kernel_rfl))
 | with_reducible exact e_int
 | with_reducible exact e_none
 | with_reducible exact e_bool
 | (with_reducible refine' e_bin ?l ?r ?o; (case l => walk_at "jv"); (case r => walk_at "jv"); (case o => walk_at "jo"))
 | (with_reducible refine' e_cmp ?l ?r ?o ?m; (case l => walk_at "jv"); (case r => walk_at "jv"); (case o => walk_at "jo"); (case m => kernel_rfl))
 | (with_reducible refine' e_and ?l ?r; (case l => walk_at "jv"); (case r => intro _; walk_at "jv"))
 | (with_reducible refine' e_or ?l ?r; (case l => walk_at "jv"); (case r => intro _; walk_at "jv"))
 | (with_reducible refine' e_and1 ?l; (case l => walk_at "jv"))
 | (with_reducible refine' e_not ?l; (case l => walk_at "jv"))
 | (with_reducible refine' e_bottom (by assumption) ?l ?hb (by assumption) (by decide); (case l => walk_at "jv"); (case hb => assumption))
 | (with_reducible refine' e_top (by assumption) ?l ?hb (by assumption) (by decide); (case l => walk_at "jv"); (case hb => assumption))
 | (with_reducible refine' e_left (by assumption) ?l ?hb (by assumption) (by decide); (case l => walk_at "jv"); (case hb => assumption))
 | (with_reducible refine' e_right (by assumption) ?l ?hb (by assumption) (by decide); (case l => walk_at "jv"); (case hb => assumption))
 | (with_reducible refine' e_attrI (by assumption) ?hb ?l ?p ?r; (case l => walk_at "jv"); (case hb => assumption); (case p => kernel_rfl); (case r => walk_at "jl")))
local macro_rules | `(tactic| walk_at "jt") => `(tactic| first
 | (with_reducible refine' t_cmp ?l ?r ?o ?m; (case l => walk_at "jv"); (case r => walk_at "jv"); (case o => walk_at "jo"); (case m => kernel_rfl))
 | (with_reducible refine' t_not ?l; (case l => walk_at "jt"))
 | (with_reducible refine' t_and ?l ?r; (case l => walk_at "jt"); (case r => intro _; walk_at "jt"))
 | (with_reducible refine' t_or ?l ?r; (case l => walk_at "jt"); (case r => intro _; walk_at "jt"))
 | with_reducible exact t_and_nil
 | with_reducible exact t_or_nil
 | (with_reducible refine' t_plain ?l ?t ?e; (case l => walk_at "jv"); (case t => with_reducible first | exact tr_bool | exact tr_none); (case e => kernel_rfl)))
noncomputable abbrev Meet (x y a c x' y' a' c' : Int) : Bool := !(decide (y ≥ y' + c') || (decide (y + c ≤ y') || (decide (x ≥ x' + a') || (decide (x + a ≤ x') || false))))
theorem f_intersects (hX : (CX w g0 tb os pg).Ok) {b b' : AV} {x y a c x' y' a' c' : Int} {r r' : AV} (h : HR st b x y a c r) (h' : HR st b' x' y' a' c' r') : FNv (CX w g0 tb os pg) 3 185 st [b, b'] (.bool (Meet x y a c x' y' a' c')) := by
 refine FN.of (abinds := [("self", b), ("rect", b'), ("edges", .bool false)]) hX.kin (by rfl) (by kernel_rfl) (fun P s vals g rv => ?_) rfl rfl rfl (by kernel_rfl) (by kernel_rfl) fun P A L R hf => ?_
 ·refine VRs.e2 (M := fun vs => ∃ b, BindsTo s _ { pos := vs } b ∧ BR _ _ b _) (fun r1 r2 => ?_) rv
  exact ⟨_, binds_K (hX.kin.keeps g.base) rfl (by rfl) rfl rfl rfl, .cons r1 (.cons r2 (.cons (.bool _) .nil))⟩
 ·dsimp only [bindA]
  refine' x_cons (x_if (b := false) ?t1 (fun h => by exact J.ft h) fun _ => x_cons (x_if (b := ?b0) ?t2 ?h1 ?h2))
  case t1 => walk_at "jt"
  case t2 => walk_at "jt"
  case h1 => exact fun hb => x_cons (x_ret (WE.of e_bool ⟨by unfold Meet; rw [hb]; rfl, rfl⟩))
  case h2 => exact fun hb => x_nil (x_nil (x_cons (x_ret (WE.of e_bool ⟨by unfold Meet; rw [hb]; rfl, rfl⟩))))
end J
namespace J
local macro_rules | `(tactic| walk_at "jm") => `(tactic| first | assumption | with_reducible exact um_hd | (with_reducible refine' um_tl ?h ?t; (case h => kernel_rfl); (case t => walk_at "jm")) | (with_reducible refine' mm_loc ?h ?t; (case h => kernel_rfl); (case t => walk_at "jm")) | (with_reducible refine' mm_free ?h ?t; (case h => kernel_rfl); (case t => walk_at "jm")))
local macro_rules | `(tactic| walk_at "jl") => `(tactic| first | with_reducible exact lk_hd | (with_reducible refine' lk_tl ?h ?t; (case h => kernel_rfl); (case t => walk_at "jl")))
local macro_rules | `(tactic| walk_at "jo") => `(tactic| with_reducible first | exact o_add | exact o_sub | exact o_lt | exact o_le | exact o_gt | exact o_ge | exact o_eq | exact o_ne | exact o_isNone | exact o_isNotNone)
local macro_rules | `(tactic| walk_at "jv") => `(tactic| first
 | (with_reducible refine' e_name ?h ?k; (case h => walk_at "jm"); (case k => kernel_rfl))
 | with_reducible exact e_int
 | with_reducible exact e_none
 | with_reducible exact e_bool
 | (with_reducible refine' e_bin ?l ?r ?o; (case l => walk_at "jv"); (case r => walk_at "jv"); (case o => walk_at "jo"))
 | (with_reducible refine' e_cmp ?l ?r ?o ?m; (case l => walk_at "jv"); (case r => walk_at "jv"); (case o => walk_at "jo"); (case m => kernel_rfl))
 | (with_reducible refine' e_and ?l ?r; (case l => walk_at "jv"); (case r => intro _; walk_at "jv"))
 | (with_reducible refine' e_or ?l ?r; (case l => walk_at "jv"); (case r => intro _; walk_at "jv"))
 | (with_reducible refine' e_and1 ?l; (case l => walk_at "jv"))
 | (with_reducible refine' e_not ?l; (case l => walk_at "jv"))
 | (with_reducible refine' e_tix ?v ?h0 ?hf ?hx ?ok; (case v => walk_at "jv"); (case h0 => decide); (case hf => decide); (case hx => with_unfolding_all rfl); (case ok => exact ⟨fun _ _ _ => (by kernel_rfl), fun _ _ => (by kernel_rfl)⟩))
 | (with_reducible refine' e_bottom (by assumption) ?l ?hb (by assumption) (by decide); (case l => walk_at "jv"); (case hb => first | assumption | exact HasI.put (by assumption) (by assumption)))
 | (with_reducible refine' e_top (by assumption) ?l ?hb (by assumption) (by decide); (case l => walk_at "jv"); (case hb => first | assumption | exact HasI.put (by assumption) (by assumption)))
 | (with_reducible refine' e_left (by assumption) ?l ?hb (by assumption) (by decide); (case l => walk_at "jv"); (case hb => first | assumption | exact HasI.put (by assumption) (by assumption)))
 | (with_reducible refine' e_right (by assumption) ?l ?hb (by assumption) (by decide); (case l => walk_at "jv"); (case hb => first | assumption | exact HasI.put (by assumption) (by assumption)))
 | (with_reducible refine' e_attrI (by assumption) ?hb ?l ?p ?r; (case l => walk_at "jv"); (case hb => first | assumption | exact HasI.put (by assumption) (by assumption)); (case p => first | assumption | kernel_rfl); (case r => walk_at "jl")))
local macro_rules | `(tactic| walk_at "jt") => `(tactic| first
 | (with_reducible refine' t_cmp ?l ?r ?o ?m; (case l => walk_at "jv"); (case r => walk_at "jv"); (case o => walk_at "jo"); (case m => kernel_rfl))
 | (with_reducible refine' t_not ?l; (case l => walk_at "jt"))
 | (with_reducible refine' t_and ?l ?r; (case l => walk_at "jt"); (case r => intro _; walk_at "jt"))
 | (with_reducible refine' t_or ?l ?r; (case l => walk_at "jt"); (case r => intro _; walk_at "jt"))
 | with_reducible exact t_and_nil
 | with_reducible exact t_or_nil
 | (with_reducible refine' t_plain ?l ?t ?e; (case l => walk_at "jv"); (case t => with_reducible first | exact tr_bool | exact tr_none); (case e => kernel_rfl)))
local macro_rules | `(tactic| walk_at "jL") => `(tactic| first | with_reducible exact el_nil | (with_reducible refine' el_cons ?l ?t ?e; (case l => walk_at "jv"); (case t => walk_at "jL"); (case e => kernel_rfl)))
local macro_rules | `(tactic| walk_at "ja") => `(tactic| first | with_reducible exact ea_nil | (with_reducible refine' ea ?h ?p ?e; (case h => walk_at "jL"); (case p => kernel_rfl); (case e => kernel_rfl)))
local macro_rules | `(tactic| walk_at "jp") => `(tactic| first | exact put_same _ _ _ | (rw [put_ne (by first | assumption | exact Ne.symm (by assumption))]; walk_at "jp") | assumption)
section
variable {w : World} {g0 : Heap} {tb : List (Addr × Addr × Array Value)} {os : OsState} {pg : List (Nat × GenState)} {st : AS} {P : PL} {A : Around} {env : Env} {m : AM}
noncomputable def fitn (way : Nat) (a c p q : Int) : Int := match way with | 2 => min (a - p) (c - q) | 3 => a * c - p * q | 4 => max (a - p) (c - q) | _ => 0
noncomputable def fitv (way : Nat) (a c p q : Int) : AV := if p ≤ a ∧ q ≤ c then .int (fitn way a c p q) else .none
theorem f_first (hX : (CX w g0 tb os pg).Ok) {b : AV} {l : List AV} : FNv (CX w g0 tb os pg) 1 315 st [.tup (b :: l)] b := by
 refine FN.of (abinds := [("one", .tup (b :: l))]) hX.kin (by rfl) (by kernel_rfl) (fun P s vals g rv => binds1 (fun _ => by kernel_rfl) rv) rfl rfl rfl (by kernel_rfl) (by kernel_rfl) fun P A L R hf => ?_
 dsimp only [bindA]
 exact x_cons (x_ret (WE.of (e_tindex (k := 0) (xs := b :: l) (by walk_at "jv") e_int (by decide) rfl ⟨fun _ _ _ => (by kernel_rfl), fun _ _ => (by kernel_rfl)⟩) ⟨rfl, rfl⟩))
theorem f_fit0 (hX : (CX w g0 tb os pg).Ok) {sf b : AV} {x y a c p q : Int} {r : AV} (h : HR st b x y a c r) : FNv (CX w g0 tb os pg) 1 339 st [sf, b, .int p, .int q] (fitv 0 a c p q) := by
 refine FN.of (abinds := [("self", sf), ("max_rect", b), ("width", .int p), ("height", .int q)]) hX.kin (by rfl) (by kernel_rfl) (fun P s vals g rv => binds4 (fun _ _ _ _ => by kernel_rfl) rv) rfl rfl rfl (by kernel_rfl) (by kernel_rfl) fun P A L R hf => ?_
 dsimp only [bindA]
 refine' x_cons (x_if (b := ?b0) ?t2 ?h1 ?h2)
 case t2 => walk_at "jt"
 case h1 => exact fun hb => x_cons (x_ret (WE.of e_int ⟨by unfold fitv fitn; rw [if_pos (by simpa using hb)]; rfl, rfl⟩))
 case h2 => exact fun hb => x_cons (x_ret (WE.of e_none ⟨by unfold fitv; rw [if_neg (fun h => by simp [h.1, h.2] at hb)], rfl⟩))
theorem f_fit2 (hX : (CX w g0 tb os pg).Ok) {sf b : AV} {x y a c p q : Int} {r : AV} (h : HR st b x y a c r) : FNv (CX w g0 tb os pg) 2 426 st [sf, b, .int p, .int q] (fitv 2 a c p q) := by
 refine FN.of (abinds := [("self", sf), ("max_rect", b), ("width", .int p), ("height", .int q)]) hX.kin (by rfl) (by kernel_rfl) (fun P s vals g rv => binds4 (fun _ _ _ _ => by kernel_rfl) rv) rfl rfl rfl (by kernel_rfl) (by kernel_rfl) fun P A L R hf => ?_
 dsimp only [bindA]
 refine' x_cons (x_if (b := ?b0) ?t2 ?h1 ?h2)
 case t2 => walk_at "jt"
 case h1 => exact fun hb => x_cons (x_ret (WE.of e_none ⟨by unfold fitv; rw [if_neg (fun h => by simp at hb; lia)], rfl⟩))
 case h2 => exact fun hb => x_nil (x_cons (x_ret (W.mono (w_blt hX (by kernel_rfl) (by walk_at "ja") (b_min2 R.handled) (.inl ⟨_, rfl⟩)) fun _ _ _ h => ⟨by rw [h.1]; unfold fitv fitn; rw [if_pos (by simp at hb; lia)]; rfl, h.2.1⟩)))
theorem f_fit3 (hX : (CX w g0 tb os pg).Ok) {sf b : AV} {x y a c p q : Int} {r : AV} (h : HR st b x y a c r) (k1 : IntMulOk a c) (k2 : IntMulOk p q) : FNv (CX w g0 tb os pg) 1 445 st [sf, b, .int p, .int q] (fitv 3 a c p q) := by
 refine FN.of (abinds := [("self", sf), ("max_rect", b), ("width", .int p), ("height", .int q)]) hX.kin (by rfl) (by kernel_rfl) (fun P s vals g rv => binds4 (fun _ _ _ _ => by kernel_rfl) rv) rfl rfl rfl (by kernel_rfl) (by kernel_rfl) fun P A L R hf => ?_
 dsimp only [bindA]
 refine' x_cons (x_if (b := ?b0) ?t2 ?h1 ?h2)
 case t2 => walk_at "jt"
 case h1 => exact fun hb => x_cons (x_ret (WE.of e_none ⟨by unfold fitv; rw [if_neg (fun h => by simp at hb; lia)], rfl⟩))
 case h2 => exact fun hb => x_nil (x_cons (x_ret (WE.of (e_bin (e_bin (by walk_at "jv") (by walk_at "jv") (o_mul k1)) (e_bin (by walk_at "jv") (by walk_at "jv") (o_mul k2)) o_sub) ⟨by unfold fitv fitn; rw [if_pos (by simp at hb; lia)]; rfl, rfl⟩)))
theorem f_fit4 (hX : (CX w g0 tb os pg).Ok) {sf b : AV} {x y a c p q : Int} {r : AV} (h : HR st b x y a c r) : FNv (CX w g0 tb os pg) 2 464 st [sf, b, .int p, .int q] (fitv 4 a c p q) := by
 refine FN.of (abinds := [("self", sf), ("max_rect", b), ("width", .int p), ("height", .int q)]) hX.kin (by rfl) (by kernel_rfl) (fun P s vals g rv => binds4 (fun _ _ _ _ => by kernel_rfl) rv) rfl rfl rfl (by kernel_rfl) (by kernel_rfl) fun P A L R hf => ?_
 dsimp only [bindA]
 refine' x_cons (x_if (b := ?b0) ?t2 ?h1 ?h2)
 case t2 => walk_at "jt"
 case h1 => exact fun hb => x_cons (x_ret (WE.of e_none ⟨by unfold fitv; rw [if_neg (fun h => by simp at hb; lia)], rfl⟩))
 case h2 => exact fun hb => x_nil (x_cons (x_ret (W.mono (w_blt hX (by kernel_rfl) (by walk_at "ja") (b_max2 R.handled) (.inl ⟨_, rfl⟩)) fun _ _ _ h => ⟨by rw [h.1]; unfold fitv fitn; rw [if_pos (by simp at hb; lia)]; rfl, h.2.1⟩)))
end
section
variable {w : World} {g0 : Heap} {tb : List (Addr × Addr × Array Value)} {os : OsState} {pg : List (Nat × GenState)} {st : AS} {P : PL} {A : Around} {env : Env} {m : AM}
theorem x_seti {X : Cx} {x : Str} {xp pos' pos : Pos} {attr : Str} {value : Expr} {a C : Addr} {ns : List Str} {l : List AV} {b : AV} {Q : AF → AS → AM → Prop} (hX : X.Ok) (hv : EV X P A env (put st a (.inst C ns l)) m (eval value env) b) (hm : m x = some (.ref a)) (q : Q .next (put st a (.inst C (putNs attr ns) (putVs attr b ns l))) m)
 (hn : nameOk env x = true) (ok : setOk X.K C attr = true) (hz : ns.length ≤ 900) (hs : swapsWith value (some (.Attribute (.Name x xp) attr pos')) pos.line env = pure false) :
 WX X P A env (put st a (.inst C ns l)) m (exec (.Assign [.Attribute (.Name x xp) attr pos'] value pos) env) Q :=
 x_setattr hX (WE.of hv ⟨hm, put_same _ _ _, by rw [put_put]; exact q⟩) hn ok hz hs
theorem f_init (hX : (CX w g0 tb os pg).Ok) {z : Addr} {x y a c : Int} (ha : 0 ≤ a) (hc : 0 ≤ c) : FN (CX w g0 tb os pg) 1 71 (put st z (.inst 203 [] [])) [.ref z, .int x, .int y, .int a, .int c] fun b st' => b = .none ∧ st' = put st z (.inst 203 rcn (rcl x y a c .none)) := by
 refine FN.of (abinds := [("self", .ref z), ("x", .int x), ("y", .int y), ("width", .int a), ("height", .int c), ("rid", .none)]) hX.kin (by rfl) (by kernel_rfl) (fun P s vals g rv => ?_) rfl rfl rfl (by kernel_rfl) (by kernel_rfl) fun P A L R hf => ?_
 ·refine VRs.e5 (M := fun vs => ∃ b, BindsTo s _ { pos := vs } b ∧ BR _ _ b _) (fun r1 r2 r3 r4 r5 => ?_) rv
  exact ⟨_, binds_K (hX.kin.keeps g.base) rfl (by rfl) rfl rfl rfl, .cons r1 (.cons r2 (.cons r3 (.cons r4 (.cons r5 (.cons .none .nil)))))⟩
 ·dsimp only [bindA]
  refine' x_cons (x_assert (Q := _) ?t ?q)
  case t => exact Eq.mp (congrArg _ (show (decide (c ≥ 0) && (decide (a ≥ 0) && true)) = true by simp [ha, hc])) (by walk_at "jt")
  case q =>
   refine' x_cons (x_seti hX ?v1 (by walk_at "jm") ?k1 (by kernel_rfl) (by kernel_rfl) (by decide) (by kernel_rfl)); case v1 => walk_at "jv"
   refine' x_cons (x_seti hX ?v2 (by walk_at "jm") ?k2 (by kernel_rfl) (by kernel_rfl) (by decide) (by kernel_rfl)); case v2 => walk_at "jv"
   refine' x_cons (x_seti hX ?v3 (by walk_at "jm") ?k3 (by kernel_rfl) (by kernel_rfl) (by decide) (by kernel_rfl)); case v3 => walk_at "jv"
   refine' x_cons (x_seti hX ?v4 (by walk_at "jm") ?k4 (by kernel_rfl) (by kernel_rfl) (by decide) (by kernel_rfl)); case v4 => walk_at "jv"
   refine' x_cons (x_seti hX ?v5 (by walk_at "jm") ?k5 (by kernel_rfl) (by kernel_rfl) (by decide) (by kernel_rfl)); case v5 => walk_at "jv"
   exact x_nil ⟨rfl, rfl⟩
end
section
variable {w : World} {g0 : Heap} {tb : List (Addr × Addr × Array Value)} {os : OsState} {pg : List (Nat × GenState)} {st : AS} {P : PL} {A : Around} {env : Env} {m : AM}
theorem e_rectT (hX : (CX w g0 tb os pg).Ok) {n : Nat} {es : List Expr} {xp pos : Pos} {x y a c : Int} (ha : EVA (CX w g0 tb os pg) P A env st m es [.int x, .int y, .int a, .int c]) (h1 : 0 ≤ a) (h2 : 0 ≤ c) (hg : globAt (K1 w.params) env "Rectangle" (.ref 203) = true) (R : Room n A P (locOf env)) (hn : 2 ≤ n) :
 WE (CX w g0 tb os pg) P A env st m (eval (.Call (.Name "Rectangle" xp) es [] pos) env) fun b st' m' => ∃ z, b = .ref z ∧ st z = none ∧ st' = put st z (.inst 203 rcn (rcl x y a c .none)) ∧ m' = m :=
 e_new (Q := fun z st' => st' = put st z (.inst 203 rcn (rcl x y a c .none))) hX hg (by kernel_rfl) ha (by kernel_rfl) (fun z _ => f_init hX h1 h2) (R.mono hn)
theorem e_rect (hX : (CX w g0 tb os pg).Ok) {n : Nat} {es : List Expr} {xp pos : Pos} {x y a c : Int} (ha : EVA (CX w g0 tb os pg) P A env st m es [.int x, .int y, .int a, .int c]) (h1 : 0 ≤ a) (h2 : 0 ≤ c) (hg : globAt (K1 w.params) env "Rectangle" (.ref 203) = true) (R : Room n A P (locOf env)) (hn : 2 ≤ n) :
 EV (CX w g0 tb os pg) P A env st m (eval (.Call (.Name "Rectangle" xp) es [] pos) env) (rc x y a c .none) :=
 WE.freeze (W.mono (e_rectT hX ha h1 h2 hg R hn) fun b st' m' ⟨z, e1, e2, e3, e4⟩ => ⟨z, .inst 203 rcn (rcl x y a c .none), e1, by rw [e3]; exact put_same _ _ _, rfl, by rw [e3]; exact drop_put e2, e4⟩)
theorem x_ifapp {X : Cx} {test e : Expr} {x : Str} {xp ap cp p q : Pos} {z : Addr} {l : List AV} {b : Bool} {r : AV} (ht : EvT X P A env (put st z (.list l)) m test b) (hx : EV X P A env (put st z (.list l)) m (eval (.Name x xp) env) (.ref z)) (hl : l.length ≤ sizeLine)
 (hv : b = true → EV X P A env (put st z (.list l)) m (eval e env) r) (hi : interactive env = false) (hs : swapsWith (.Call (.Attribute (.Name x xp) "append" ap) [e] [] cp) none p.line env = pure false)
 (hse : starEach [e] env = [(false, eval e env)])
 (he : eval (.Call (.Attribute (.Name x xp) "append" ap) [e] [] cp) env = (do
  let ov ← eval (.Name x xp) env
  standAt ap.atName
  let (f, first) ← holding [ov] (getMethod ov "append" (do return (← importBound (.Name x xp) env).getD true))
  callWith cp f first (backTo cp (starEach [e] env)) (backToKw cp (keywordEach [] env)))) :
 WX X P A env (put st z (.list l)) m (exec (.If test [.Expr (.Call (.Attribute (.Name x xp) "append" ap) [e] [] cp) p] [] q) env) fun φ st' m' => φ = .next ∧ st' = put st z (.list (l ++ if b then [r] else [])) ∧ m' = m :=
 x_if ht (fun hb => x_cons (x_expr (e_append hx (WE.of (hv hb) ⟨l, put_same _ _ _, hl, rfl, by exact x_nil ⟨rfl, by rw [put_put, if_pos hb], rfl⟩⟩) ⟨l, put_same _ _ _⟩ hse he) hi hs)) fun hb => x_nil ⟨rfl, by rw [hb]; simp, rfl⟩
theorem x_ifk {X : Cx} {test e : Expr} {x : Str} {xp ap cp p q : Pos} {z : Addr} {l : List AV} {b : Bool} {r : AV} {ts : List Stmt} {Q : AF → AS → AM → Prop} (ht : EvT X P A env (put st z (.list l)) m test b) (hx : EV X P A env (put st z (.list l)) m (eval (.Name x xp) env) (.ref z)) (hl : l.length ≤ sizeLine)
 (hv : b = true → EV X P A env (put st z (.list l)) m (eval e env) r) (hi : interactive env = false) (hs : swapsWith (.Call (.Attribute (.Name x xp) "append" ap) [e] [] cp) none p.line env = pure false)
 (hse : starEach [e] env = [(false, eval e env)])
 (he : eval (.Call (.Attribute (.Name x xp) "append" ap) [e] [] cp) env = (do
  let ov ← eval (.Name x xp) env
  standAt ap.atName
  let (f, first) ← holding [ov] (getMethod ov "append" (do return (← importBound (.Name x xp) env).getD true))
  callWith cp f first (backTo cp (starEach [e] env)) (backToKw cp (keywordEach [] env))))
 (k : WX X P A env (put st z (.list (l ++ if b then [r] else []))) m (execs ts env) Q) :
 WX X P A env (put st z (.list l)) m (execs (.If test [.Expr (.Call (.Attribute (.Name x xp) "append" ap) [e] [] cp) p] [] q :: ts) env) Q :=
 x_cons (W.mono (x_ifapp ht hx hl hv hi hs hse he) fun φ st' m' ⟨e1, e2, e3⟩ => by subst e1 e2 e3; exact k)
theorem iflen {b : Bool} {l : List AV} {r : AV} {n : Nat} (h : l.length ≤ n) : (l ++ if b then [r] else []).length ≤ n + 1 := by
 cases b <;> simp <;> lia
noncomputable def gsplits (x y a c x' y' a' c' : Int) : List AV :=
 ((([] ++ if decide (x' > x) then [rc x y (x' - x) c .none] else []) ++ if decide (x' + a' < x + a) then [rc (x' + a') y (x + a - (x' + a')) c .none] else []) ++ if decide (y' + c' < y + c) then [rc x (y' + c') a (y + c - (y' + c')) .none] else []) ++ if decide (y' > y) then [rc x y a (y' - y) .none] else []
set_option maxHeartbeats 2000000 in
theorem f_gsplits (hX : (CX w g0 tb os pg).Ok) {sf b b' : AV} {x y a c x' y' a' c' : Int} {r r' : AV} (h : HR st b x y a c r) (h' : HR st b' x' y' a' c' r') (ha : 0 ≤ a) (hc : 0 ≤ c) : FNv (CX w g0 tb os pg) 3 353 st [sf, b, b'] (.lst (gsplits x y a c x' y' a' c')) := by
 refine FN.of (abinds := [("self", sf), ("m", b), ("r", b')]) hX.kin (by rfl) (by kernel_rfl) (fun P s vals g rv => ?_) rfl rfl rfl (by kernel_rfl) (by kernel_rfl) fun P A L R hf => ?_
 ·refine VRs.e3 (M := fun vs => ∃ b, BindsTo s _ { pos := vs } b ∧ BR _ _ b _) (fun r1 r2 r3 => ?_) rv
  exact ⟨_, BindsTo.of_eq (by kernel_rfl), .cons r1 (.cons r2 (.cons r3 .nil))⟩
 ·dsimp only [bindA]
  refine x_cons (x_set (w_newlist fun z hz => ?_) (by kernel_rfl) (by kernel_rfl))
  refine' x_ifk ?t1 (by walk_at "jv") ?l1 ?v1 (by kernel_rfl) (by kernel_rfl) (by kernel_rfl) (by kernel_rfl) ?k1
  case t1 => walk_at "jt"
  case l1 => exact Nat.le_trans (Nat.le_refl 0) (by decide)
  case v1 =>
   intro hb
   refine' e_rect hX ?a1 ?x1 ?y1 ?g1 R (by decide)
   case a1 => walk_at "ja"
   case x1 => have hb := of_decide_eq_true hb; lia
   case y1 => have hb := of_decide_eq_true hb; lia
   case g1 => kernel_rfl
  refine' x_ifk ?t2 (by walk_at "jv") ?l2 ?v2 (by kernel_rfl) (by kernel_rfl) (by kernel_rfl) (by kernel_rfl) ?k2
  case t2 => walk_at "jt"
  case l2 => exact Nat.le_trans (iflen (Nat.le_refl 0)) (by decide)
  case v2 =>
   intro hb
   refine' e_rect hX ?a2 ?x2 ?y2 ?g2 R (by decide)
   case a2 => walk_at "ja"
   case x2 => have hb := of_decide_eq_true hb; lia
   case y2 => have hb := of_decide_eq_true hb; lia
   case g2 => kernel_rfl
  refine' x_ifk ?t3 (by walk_at "jv") ?l3 ?v3 (by kernel_rfl) (by kernel_rfl) (by kernel_rfl) (by kernel_rfl) ?k3
  case t3 => walk_at "jt"
  case l3 => exact Nat.le_trans (iflen (iflen (Nat.le_refl 0))) (by decide)
  case v3 =>
   intro hb
   refine' e_rect hX ?a3 ?x3 ?y3 ?g3 R (by decide)
   case a3 => walk_at "ja"
   case x3 => have hb := of_decide_eq_true hb; lia
   case y3 => have hb := of_decide_eq_true hb; lia
   case g3 => kernel_rfl
  refine' x_ifk ?t4 (by walk_at "jv") ?l4 ?v4 (by kernel_rfl) (by kernel_rfl) (by kernel_rfl) (by kernel_rfl) ?k4
  case t4 => walk_at "jt"
  case l4 => exact Nat.le_trans (iflen (iflen (iflen (Nat.le_refl 0)))) (by decide)
  case v4 =>
   intro hb
   refine' e_rect hX ?a4 ?x4 ?y4 ?g4 R (by decide)
   case a4 => walk_at "ja"
   case x4 => have hb := of_decide_eq_true hb; lia
   case y4 => have hb := of_decide_eq_true hb; lia
   case g4 => kernel_rfl
  refine x_cons (x_ret (WE.freeze (WE.of (a := .ref z) (by walk_at "jv") ⟨z, _, rfl, put_same _ _ _, ?_⟩)))
  exact ⟨rfl, drop_put hz⟩
end
section
variable {w : World} {g0 : Heap} {tb : List (Addr × Addr × Array Value)} {os : OsState} {pg : List (Nat × GenState)} {st : AS} {P : PL} {A : Around} {env : Env} {m : AM}
structure Rt where
 x : Int
 y : Int
 w : Int
 h : Int
noncomputable abbrev rcv (t : Rt) : AV := rc t.x t.y t.w t.h .none
noncomputable abbrev Rt.ok (t : Rt) : Prop := 0 ≤ t.w ∧ 0 ≤ t.h
noncomputable def Rt.meet (t r : Rt) : Bool := Meet t.x t.y t.w t.h r.x r.y r.w r.h
noncomputable def Rt.split (t r : Rt) : List Rt :=
 ((([] ++ if decide (r.x > t.x) then [⟨t.x, t.y, r.x - t.x, t.h⟩] else []) ++ if decide (r.x + r.w < t.x + t.w) then [⟨r.x + r.w, t.y, t.x + t.w - (r.x + r.w), t.h⟩] else []) ++ if decide (r.y + r.h < t.y + t.h) then [⟨t.x, r.y + r.h, t.w, t.y + t.h - (r.y + r.h)⟩] else []) ++ if decide (r.y > t.y) then [⟨t.x, t.y, t.w, r.y - t.y⟩] else []
theorem gsplits_map (t r : Rt) : gsplits t.x t.y t.w t.h r.x r.y r.w r.h = (t.split r).map rcv := by
 have one : ∀ (b : Bool) (q : Rt), (if b then [rcv q] else []) = (if b then [q] else []).map rcv := fun b q => by cases b <;> rfl
 unfold gsplits Rt.split
 simp only [List.map_append, ← one]
 rfl
noncomputable def Rt.cut (r t : Rt) : List Rt := if t.meet r then t.split r else [t]
noncomputable def cutAll (ms : List Rt) (r : Rt) : List Rt := ms.flatMap r.cut
noncomputable abbrev bxn : List Str := ["width", "height", "rot", "rectangles", "bid", "_surface", "_max_rects"]
noncomputable abbrev bxl (W H : Int) (rot : Bool) (rl : Addr) (sf : AV) (mr : List AV) : List AV := [.int W, .int H, .bool rot, .ref rl, .none, sf, .lst mr]
structure BoxC (K : Frag) (C : Addr) : Prop where
 a1 : plainAttr K C "width" = true
 a2 : plainAttr K C "height" = true
 a3 : plainAttr K C "rot" = true
 a4 : plainAttr K C "rectangles" = true
 a5 : plainAttr K C "_max_rects" = true
 s1 : setOk K C "width" = true
 s2 : setOk K C "height" = true
 s3 : setOk K C "rot" = true
 s4 : setOk K C "rectangles" = true
 s5 : setOk K C "bid" = true
 s6 : setOk K C "_surface" = true
 s7 : setOk K C "_max_rects" = true
 m1 : methodAt K C "_generate_splits" 353 = true
 m2 : methodAt K C "_split" 360 = true
 m3 : methodAt K C "_remove_duplicates" 365 = true
 m4 : methodAt K C "fitness" 372 = true
 m5 : methodAt K C "add_rect" 380 = true
 m6 : methodAt K C "reset" 388 = true
theorem box0 : BoxC (K1 w.params) 391 := by constructor <;> kernel_rfl
theorem box1 : BoxC (K1 w.params) 410 := by constructor <;> kernel_rfl
theorem box2 : BoxC (K1 w.params) 429 := by constructor <;> kernel_rfl
theorem box3 : BoxC (K1 w.params) 448 := by constructor <;> kernel_rfl
theorem box4 : BoxC (K1 w.params) 467 := by constructor <;> kernel_rfl
end
section
variable {w : World} {g0 : Heap} {tb : List (Addr × Addr × Array Value)} {os : OsState} {pg : List (Nat × GenState)} {st : AS} {P : PL} {A : Around} {env : Env} {m : AM}
theorem e_methN {X : Cx} {x : Str} {xp : Pos} {name : Str} {apos pos : Pos} {es : List Expr} {as : List AV} {C : Addr} {ns : List Str} {l : List AV} {b : AV} {g : Addr} {n k : Nat} {a : AV} (hX : X.Ok) (hb : HasI st C ns l b) (ho : EV X P A env st m (eval (.Name x xp) env) b)
 (hm : methodAt X.K C name g = true) (hh : ns.contains name = false) (hk : keepIn X.K (.ref g) = true) (ha : EVA X P A env st m es as) (h : FNv X k g st (b :: as) a) (R : Room n A P (locOf env)) (hn : k ≤ n)
 (he : eval (.Call (.Attribute (.Name x xp) name apos) es [] pos) env = (do
  let ov ← eval (.Name x xp) env
  standAt apos.atName
  let (f, first) ← holding [ov] (getMethod ov name (do return (← importBound (.Name x xp) env).getD true))
  callWith pos f first (backTo pos (starEach es env)) (backToKw pos (keywordEach [] env)))) :
 EV X P A env st m (eval (.Call (.Attribute (.Name x xp) name apos) es [] pos) env) a := EV.ofW (e_methI hX hb ho hm hh hk ha h (R.mono hn) he)
theorem x_app {X : Cx} {e : Expr} {x : Str} {xp ap cp p : Pos} {z : Addr} {l : List AV} {r : AV} {ts : List Stmt} {Q : AF → AS → AM → Prop} (hx : EV X P A env (put st z (.list l)) m (eval (.Name x xp) env) (.ref z)) (hl : l.length ≤ sizeLine)
 (hv : EV X P A env (put st z (.list l)) m (eval e env) r) (hi : interactive env = false) (hs : swapsWith (.Call (.Attribute (.Name x xp) "append" ap) [e] [] cp) none p.line env = pure false)
 (hse : starEach [e] env = [(false, eval e env)])
 (he : eval (.Call (.Attribute (.Name x xp) "append" ap) [e] [] cp) env = (do
  let ov ← eval (.Name x xp) env
  standAt ap.atName
  let (f, first) ← holding [ov] (getMethod ov "append" (do return (← importBound (.Name x xp) env).getD true))
  callWith cp f first (backTo cp (starEach [e] env)) (backToKw cp (keywordEach [] env))))
 (k : WX X P A env (put st z (.list (l ++ [r]))) m (execs ts env) Q) :
 WX X P A env (put st z (.list l)) m (execs (.Expr (.Call (.Attribute (.Name x xp) "append" ap) [e] [] cp) p :: ts) env) Q :=
 x_cons (x_expr (e_append hx (WE.of hv ⟨l, put_same _ _ _, hl, rfl, by rw [put_put]; exact k⟩) ⟨l, put_same _ _ _⟩ hse he) hi hs)
theorem x_ext {X : Cx} {e : Expr} {x : Str} {xp ap cp p : Pos} {z : Addr} {l ys : List AV} {ts : List Stmt} {Q : AF → AS → AM → Prop} (hx : EV X P A env (put st z (.list l)) m (eval (.Name x xp) env) (.ref z))
 (hv : EV X P A env (put st z (.list l)) m (eval e env) (.lst ys)) (hz : l.length + ys.length ≤ sizeLine) (hi : interactive env = false) (hs : swapsWith (.Call (.Attribute (.Name x xp) "extend" ap) [e] [] cp) none p.line env = pure false)
 (hse : starEach [e] env = [(false, eval e env)])
 (he : eval (.Call (.Attribute (.Name x xp) "extend" ap) [e] [] cp) env = (do
  let ov ← eval (.Name x xp) env
  standAt ap.atName
  let (f, first) ← holding [ov] (getMethod ov "extend" (do return (← importBound (.Name x xp) env).getD true))
  callWith cp f first (backTo cp (starEach [e] env)) (backToKw cp (keywordEach [] env))))
 (k : WX X P A env (put st z (.list (l ++ ys))) m (execs ts env) Q) :
 WX X P A env (put st z (.list l)) m (execs (.Expr (.Call (.Attribute (.Name x xp) "extend" ap) [e] [] cp) p :: ts) env) Q :=
 x_cons (x_expr (J.W.mono (e_extend hx (put_same _ _ _) hv hz hse he) fun v st' m' ⟨u1, u2, u3⟩ => ⟨u1, by subst u2 u3; rw [put_put]; exact k⟩) hi hs)
theorem iflen' {α : Type} {b : Bool} {l : List α} {r : α} {n : Nat} (h : l.length ≤ n) : (l ++ if b then [r] else []).length ≤ n + 1 := by
 cases b <;> simp <;> lia
theorem cut_len (t q : Rt) : (t.cut q).length ≤ 4 := by
 unfold Rt.cut
 split
 ·exact iflen' (iflen' (iflen' (iflen' (Nat.le_refl 0))))
 ·show 1 ≤ 4
  decide
theorem cuts_len (t : Rt) : ∀ ms : List Rt, (ms.flatMap t.cut).length ≤ 4 * ms.length
 | [] => by simp
 | q :: ms => by
  have := cuts_len t ms
  have := cut_len t q
  rw [List.flatMap_cons, List.length_append, List.length_cons]
  lia
theorem f_split (hX : (CX w g0 tb os pg).Ok) {C y rl : Addr} {W H : Int} {rot : Bool} {sf b : AV} {ms : List Rt} {t : Rt} {r : AV} (hC : BoxC (K1 w.params) C) (hy : st y = some (.inst C bxn (bxl W H rot rl sf (ms.map rcv)))) (hb : HR st b t.x t.y t.w t.h r) (hok : ∀ q ∈ ms, q.ok) (hz : 5 * ms.length ≤ sizeLine) :
 FN (CX w g0 tb os pg) 10 360 st [.ref y, b] fun v st' => v = .none ∧ st' = put st y (.inst C bxn (bxl W H rot rl sf ((cutAll ms t).map rcv))) := by
 refine FN.of (abinds := [("self", .ref y), ("rect", b)]) hX.kin (by rfl) (by kernel_rfl) (fun P s vals g rv => binds2 (fun _ _ => by kernel_rfl) rv) rfl rfl rfl (by kernel_rfl) (by kernel_rfl) fun P A L R hf => ?_
 dsimp only [bindA]
 refine x_cons (x_set (w_newlist fun z hz' => ?_) (by kernel_rfl) (by kernel_rfl))
 have nyz : y ≠ z := fun q => by rw [q, hz'] at hy; exact J.ns hy
 have hyz : ∀ o, HasI (put st z o) C bxn (bxl W H rot rl sf (ms.map rcv)) (.ref y) := fun o => .ref (by rw [put_ne nyz]; exact hy)
 refine WX.forget z ?_
 refine' x_cons (x_for (NS := fun _ => True) (xs := ms.map rcv) (i_list R.handled (e_attrI hX (hyz _) ?n1 hC.a5 ?l1)) (fun _ => by kernel_rfl)
  (fun i st' m' => st' = put st z (.list (((ms.take i).flatMap t.cut).map rcv)) ∧ m' "self" = some (.ref y) ∧ m' "rect" = some b ∧ m' "max_rects" = some (.ref z)) ⟨rfl, ?j1, ?j2, ?j3⟩ (fun _ _ _ _ => trivial) ?turn ?done)
 case n1 => walk_at "jv"
 case l1 => walk_at "jl"
 case j1 => walk_at "jm"
 case j2 => walk_at "jm"
 case j3 => walk_at "jm"
 case turn =>
  intro P' i a st' m' hP hi hr1; refine A4 hr1 fun e1 h1 h2 h3 => ?_; clear hr1
  obtain ⟨q, hq, rfl⟩ : ∃ q, ms[i]? = some q ∧ rcv q = a := by simpa using hi
  refine ⟨_, a_name (by kernel_rfl), ?_⟩
  subst e1
  have hcut : (ms.take (i+1)).flatMap t.cut = (ms.take i).flatMap t.cut ++ t.cut q := by rw [List.take_add_one, hq]; simp
  have qok : q.ok := hok q (List.mem_of_getElem? hq)
  have R' : Room 9 A P' (locOf _) := R.more hP
  have hbz : HR (put st z (.list (((ms.take i).flatMap t.cut).map rcv))) b t.x t.y t.w t.h r := HasI.put hz' hb
  have hqz : HR (put st z (.list (((ms.take i).flatMap t.cut).map rcv))) (rcv q) q.x q.y q.w q.h .none := .inst
  have hil : i < ms.length := by
   refine O2 (Nat.lt_or_ge i ms.length) (fun h => ?_) (fun h => ?_)
   ·exact h
   ·rw [List.getElem?_eq_none_iff.mpr h] at hq; exact J.ns hq
  have len1 : (((ms.take i).flatMap t.cut).map rcv).length ≤ 4 * i := by
   rw [List.length_map]
   have := cuts_len t (ms.take i)
   rw [List.length_take] at this
   lia
  refine' x_cons (x_if (b := q.meet t) (t_plain (e_methN (g := 185) (k := 3) hX hqz ?o1 (by kernel_rfl) (by kernel_rfl) (by kernel_rfl) ?a1 (f_intersects hX hqz hbz) R' (by decide) (by kernel_rfl)) tr_bool (by kernel_rfl)) ?yes ?no)
  case o1 => walk_at "jv"
  case a1 => walk_at "ja"
  case yes =>
   intro hm
   have hc : t.cut q = q.split t := by unfold Rt.cut; rw [if_pos hm]
   refine' x_ext ?x1 (e_methN (g := 353) (k := 3) hX (hyz _) ?o2 hC.m1 (by kernel_rfl) (by kernel_rfl) ?a2 (f_gsplits hX hqz hbz qok.1 qok.2) R' (by decide) (by kernel_rfl)) ?z1 (by kernel_rfl) (by kernel_rfl) (by kernel_rfl) (by kernel_rfl) ?k1
   case x1 => walk_at "jv"
   case o2 => walk_at "jv"
   case a2 => walk_at "ja"
   case z1 =>
    rw [gsplits_map, ← hc, List.length_map (as := t.cut q)]
    have := cut_len t q
    lia
   case k1 =>
    refine x_nil (x_nil ⟨?_, by walk_at "jm", by walk_at "jm", by walk_at "jm"⟩)
    rw [gsplits_map, ← hc, hcut, List.map_append]
  case no =>
   intro hm
   have hc : t.cut q = [q] := by unfold Rt.cut; rw [if_neg (by rw [hm]; decide)]
   refine' x_app (r := rcv q) ?x3 (Nat.le_trans len1 (by lia)) ?v3 (by kernel_rfl) (by kernel_rfl) (by kernel_rfl) (by kernel_rfl) ?k3
   case x3 => walk_at "jv"
   case v3 => walk_at "jv"
   case k3 =>
    refine x_nil (x_nil ⟨?_, by walk_at "jm", by walk_at "jm", by walk_at "jm"⟩)
    rw [hcut, hc, List.map_append]; rfl
 case done =>
  intro st' m' hr2; refine A4 hr2 fun e1 h1 h2 h3 => ?_; clear hr2
  subst e1
  rw [List.length_map, List.take_length]
  refine' x_cons (x_setattr hX (J.W.mono (w_blt hX (v := .type "list") (by kernel_rfl) (as := [.ref z]) ?a5 (b_listT (put_same _ _ _) ?z5) (.inr ⟨_, rfl⟩)) fun v st' m'' ⟨u1, u2, u3⟩ => ⟨by rw [u3]; exact h1, by rw [u2, put_ne nyz]; exact hy, ?k5⟩) (by kernel_rfl) hC.s7 (by decide) (by kernel_rfl))
  case a5 => walk_at "ja"
  case z5 =>
   rw [List.length_map]
   have := cuts_len t ms
   lia
  case k5 =>
   subst u1 u2 u3
   refine x_nil ⟨rfl, ?_⟩
   funext d
   unfold drop put
   by_cases q1 : d = z
   ·subst q1; rw [if_pos rfl, if_neg (fun h => nyz h.symm), hz']
   ·rw [if_neg q1]
    by_cases q2 : d = y
    ·rw [if_pos q2, if_pos q2]; rfl
    ·rw [if_neg q2, if_neg q2, if_neg q1]
end
section
variable {w : World} {g0 : Heap} {tb : List (Addr × Addr × Array Value)} {os : OsState} {pg : List (Nat × GenState)} {st : AS} {P : PL} {A : Around} {env : Env} {m : AM}
theorem b_isinst {X : Cx} {C D : Addr} {ns : List Str} {l : List AV} {b : AV} (hX : X.Ok) (hb : HasI st C ns l b) (e : isIn X.K (.ref C) D = true) : Blt X P A env st m (.builtin "isinstance") [b, .ref D] (Is (.bool true) st m) := fun s vals f r => by
 rcases r with _ | ⟨r1, _ | ⟨r2, _ | _⟩⟩
 (first | cases r2 using VR.intE | cases r2 using VR.noneE | cases r2 using VR.boolE | cases r2 using VR.refE | cases r2 using VRs.nilE | cases r2)
 refine E2A2 (hb.get f r1) fun d vs hn1 hn2 => ?_; obtain rfl := hn1; refine A3 hn2 fun e1 x _ => ?_; clear hn2
 refine E2A2 (inst_at (D := fun _ => False) e1 x) fun es n I _ => ?_
 exact isi_call (f.kin hX.kin) (fun M => InstAt.type I) e (fun h => by exact nomatch h) (Post.same f (.bool true))
noncomputable abbrev Same (x y a c x' y' a' c' : Int) : Bool := decide (a = a') && (decide (c = c') && (decide (x = x') && decide (y = y')))
theorem f_eq (hX : (CX w g0 tb os pg).Ok) {b b' : AV} {x y a c x' y' a' c' : Int} {r r' : AV} (h : HR st b x y a c r) (h' : HR st b' x' y' a' c' r') : FNv (CX w g0 tb os pg) 2 149 st [b, b'] (.bool (Same x y a c x' y' a' c')) := by
 refine FN.of (abinds := [("self", b), ("other", b')]) hX.kin (by rfl) (by kernel_rfl) (fun P s vals g rv => binds2 (fun _ _ => by kernel_rfl) rv) rfl rfl rfl (by kernel_rfl) (by kernel_rfl) fun P A L R hf => ?_
 dsimp only [bindA]
 refine' x_cons (x_if (b := !true) (t_not (t_plain (w_blt (v := .builtin "isinstance") (as := [b', .ref 203]) hX (by kernel_rfl) (ea (el_cons ?n1 (el_cons (e_glob hX (by kernel_rfl)) el_nil (by kernel_rfl)) (by kernel_rfl)) (by kernel_rfl) (by kernel_rfl)) (b_isinst hX h' (by kernel_rfl)) (.inl ⟨_, rfl⟩)) tr_bool (by kernel_rfl))) (fun h => by exact J.ft h) fun _ => x_nil (x_cons (x_ret (WE.of (a := ?a) ?hv ?q))))
 case n1 => walk_at "jv"
 case hv => walk_at "jv"
 case q => exact ⟨rfl, rfl⟩
end
section
variable {w : World} {g0 : Heap} {tb : List (Addr × Addr × Array Value)} {os : OsState} {pg : List (Nat × GenState)} {st : AS} {P : PL} {A : Around} {env : Env} {m : AM}
theorem flatMap_len {α β : Type} {f : α → List β} {k : Nat} : ∀ {xs : List α}, (∀ a ∈ xs, (f a).length ≤ k) → (xs.flatMap f).length ≤ xs.length * k
 | [], _ => by simp
 | a :: xs, h => by
  have h1 := h a (.head _)
  have h2 := flatMap_len (xs := xs) fun b hb => h b (.tail _ hb)
  rw [List.flatMap_cons, List.length_append, List.length_cons, Nat.succ_mul]; lia
noncomputable def Rt.has (t r : Rt) : Bool := decide (t.y ≤ r.y) && (decide (t.x ≤ r.x) && (decide (r.y + r.h ≤ t.y + t.h) && decide (r.x + r.w ≤ t.x + t.w)))
noncomputable abbrev r0 : Rt := ⟨0, 0, 0, 0⟩
noncomputable def pairs (ms : List Rt) : List (Rt × Rt) := (List.range ms.length).flatMap fun i => (List.range (ms.length - (i + 1))).map fun k => (ms.getD i r0, ms.getD (i + 1 + k) r0)
noncomputable def lost (p : Rt × Rt) : List Rt := if p.1.has p.2 then [p.2] else if p.2.has p.1 then [p.1] else []
noncomputable def contd (ms : List Rt) : List Rt := (pairs ms).flatMap lost
noncomputable def rtOf : AV → Rt | .inst _ _ [.int w, .int h, .int x, .int y, _] => ⟨x, y, w, h⟩ | _ => r0
noncomputable def Rt.same (c q : Rt) : Bool := Same c.x c.y c.w c.h q.x q.y q.w q.h
noncomputable def thin (ms : List Rt) : List Rt := ms.filter fun q => !(contd ms).any fun c => c.same q
noncomputable def aiv : AV → Int | .int i => i | _ => 0
noncomputable abbrev ysA (n : Nat) (a : AV) : List AV := rangeL (aiv a + 1) 1 ((n : Int) - (aiv a + 1)).toNat
noncomputable abbrev gA (ms : List Rt) (a b : AV) : List AV := [.tup [rcv (ms.getD (aiv a).toNat r0), rcv (ms.getD (aiv b).toNat r0)]]
theorem pairs_av (ms : List Rt) : ((rangeL 0 1 ms.length).flatMap fun a => (ysA ms.length a).flatMap (gA ms a)) = (pairs ms).map fun p => .tup [rcv p.1, rcv p.2] := by
 unfold pairs rangeL
 rw [List.flatMap_map, List.map_flatMap]
 refine congrArg (fun f => List.flatMap f (List.range ms.length)) (funext fun i => ?_)
 unfold ysA rangeL
 rw [List.flatMap_map, List.map_map, List.flatMap_def, ← List.flatMap_def]
 have e : ((ms.length : Int) - (aiv (.int (0 + 1 * (i : Int))) + 1)).toNat = ms.length - (i + 1) := by show ((ms.length : Int) - ((0 + 1 * (i : Int)) + 1)).toNat = _; rw [Int.one_mul, Int.zero_add]; exact Int.toNat_sub ms.length (i + 1)
 rw [e, ← List.map_eq_flatMap]
 refine congrArg (fun f => List.map f (List.range (ms.length - (i + 1)))) (funext fun k => ?_)
 have e1 : (aiv (.int (0 + 1 * (i : Int)))).toNat = i := by show (0 + 1 * (i : Int)).toNat = _; rw [Int.one_mul, Int.zero_add]; rfl
 have e2 : (aiv (.int (aiv (.int (0 + 1 * (i : Int))) + 1 + 1 * (k : Int)))).toNat = i + 1 + k := by show ((0 + 1 * (i : Int)) + 1 + 1 * (k : Int)).toNat = _; rw [Int.one_mul, Int.one_mul, Int.zero_add]; rfl
 rw [e1, e2]; rfl
theorem pairs_len (ms : List Rt) : (pairs ms).length ≤ ms.length * ms.length := by
 have := flatMap_len (k := ms.length) (f := fun i => (List.range (ms.length - (i + 1))).map fun k => (ms.getD i r0, ms.getD (i + 1 + k) r0)) (xs := List.range ms.length) fun i _ => by rw [List.length_map, List.length_range]; exact Nat.sub_le _ _
 rw [List.length_range] at this
 exact this
theorem lost_len (p : Rt × Rt) : (lost p).length ≤ 1 := by unfold lost; split; · simp
                                                           split <;> simp
theorem inL {n : Nat} {a : AV} (h : a ∈ rangeL 0 1 n) : ∃ i : Nat, i < n ∧ a = .int (i : Int) := by
 refine E1A2 (rangeL_mem h) fun i h1 h2 => ?_
 exact ⟨i, h1, by rw [h2, Int.one_mul, Int.zero_add]⟩
theorem filter_fm {α : Type} (p : α → Bool) : ∀ l : List α, l.filter p = l.flatMap fun a => if p a then [a] else []
 | [] => rfl
 | a :: l => by
  rw [List.flatMap_cons, ← filter_fm p l, List.filter_cons]
  cases p a <;> rfl
theorem drop_none {st : AS} {y z : Addr} {o : AO} (h : y ≠ z) (hz : st z = none) : drop (put st y o) z = put st y o := by
 funext d
 unfold drop put
 by_cases q1 : d = z
 ·subst q1; rw [if_pos rfl, if_neg (fun h' => h h'.symm), hz]
 ·rw [if_neg q1]
theorem at_rcv {ms : List Rt} {k : Int} {i : Nat} (e : k = (i : Int)) (h : i < ms.length) : (ms.map rcv)[k.toNat]? = some (rcv (ms.getD i r0)) := by
 subst e; rw [Int.toNat_natCast, List.getElem?_map, List.getD, List.getElem?_eq_getElem h]; rfl
theorem e_lenL {X : Cx} (hX : X.Ok) {e : Expr} {lp cp : Pos} {xs : List AV} {k : Nat} (ok : bltAt X.K env "len" (.builtin "len") = true) (h : EV X P A env st m (eval e env) (.lst xs)) (hl : xs.length = k) (hk : k < 2 ^ 62) (h1 : starEach [e] env = (false, eval e env) :: starEach [] env) (h2 : (starEach [e] env).any (·.1) = false) :
 EV X P A env st m (eval (.Call (.Name "len" lp) [e] [] cp) env) (.int k) := by
 subst hl
 exact w_blt hX ok (ea (el_cons h el_nil h1) h2 h1) (b_len (Int.lt_of_lt_of_le (Int.ofNat_lt.mpr hk) (by decide))) (.inl ⟨_, rfl⟩)
theorem f_dups (hX : (CX w g0 tb os pg).Ok) {C y rl : Addr} {W H : Int} {rot : Bool} {sf : AV} {ms : List Rt} (hC : BoxC (K1 w.params) C) (hy : st y = some (.inst C bxn (bxl W H rot rl sf (ms.map rcv)))) (hz : ms.length * ms.length ≤ sizeLine) :
 FN (CX w g0 tb os pg) 20 365 st [.ref y] fun v st' => v = .none ∧ st' = put st y (.inst C bxn (bxl W H rot rl sf ((thin ms).map rcv))) := by
 refine FN.of (abinds := [("self", .ref y)]) hX.kin (by rfl) (by kernel_rfl) (fun P s vals g rv => binds1 (fun _ => by kernel_rfl) rv) rfl rfl rfl (by kernel_rfl) (by kernel_rfl) fun P A L R hf => ?_
 dsimp only [bindA]
 refine x_cons (x_set (w_newlist fun z hz' => ?_) (by kernel_rfl) (by kernel_rfl))
 have nyz : y ≠ z := fun q => by rw [q, hz'] at hy; exact J.ns hy
 have hy0 : HasI st C bxn (bxl W H rot rl sf (ms.map rcv)) (.ref y) := .ref hy
 have hyz : ∀ o, HasI (put st z o) C bxn (bxl W H rot rl sf (ms.map rcv)) (.ref y) := fun o => .ref (by rw [put_ne nyz]; exact hy)
 have a5 := hC.a5
 have hn : ms.length < 2 ^ 24 := by
  unfold sizeLine at hz
  refine O2 (Nat.lt_or_ge ms.length (2 ^ 24)) (fun h => ?_) (fun h => ?_)
  ·exact h
  ·have := Nat.mul_le_mul h h; lia
 refine WX.forget z ?_
 refine' x_cons (x_for (NS := fun _ => True) (i_list R.handled (e_comp2 (NS := fun _ => True) (xs := rangeL 0 1 ms.length) (ysA ms.length) (gA ms) (fun a ml => upd ml "i" a) (fun b ml => upd ml "j" b) (fun a ml => ml "i" = some a)
  (by kernel_rfl) (fun _ => by kernel_rfl) (fun _ _ _ => by kernel_rfl) ?i0 (fun _ _ => trivial) ?z0 (fun a _ => tg_name (fun _ _ => by kernel_rfl) (by kernel_rfl)) (fun a _ b _ => tg_name (fun _ _ => by kernel_rfl) (by kernel_rfl)) (fun a ml => um_hd) (fun a b ml h => um_tl (by kernel_rfl) h) ?i1 ?t1)) (fun _ => by kernel_rfl)
  (fun i st' m' => st' = put st z (.list ((((pairs ms).take i).flatMap lost).map rcv)) ∧ m' "self" = some (.ref y) ∧ m' "contained" = some (.ref z)) ⟨rfl, ?j1, ?j2⟩ (fun _ _ _ _ => trivial) ?turn ?done)
 case j1 => walk_at "jm"
 case j2 => walk_at "jm"
 case i0 =>
  refine' i_range1 hX R.handled (by kernel_rfl) (ea (el_cons (e_lenL (xs := ms.map rcv) hX (by kernel_rfl) ?l0 (by rw [List.length_map]) (by lia) (by kernel_rfl) (by kernel_rfl)) el_nil (by kernel_rfl)) (by kernel_rfl) (by kernel_rfl)) (by lia)
  have hys := hyz (.list [])
  walk_at "jv"
 case z0 =>
  rw [pairs_av, List.length_map]
  exact Nat.le_trans (pairs_len ms) hz
 case i1 =>
  intro P' cl C' D a ml hD hR ha hJ
  refine E1A2 (inL ha) fun i hi hn1 => ?_; obtain rfl := hn1
  refine ⟨fun _ => True, fun acc => ?_, fun _ => trivial⟩
  have hys := hyz (.list [])
  refine' i_range2 hX R.handled (by kernel_rfl) (lo := (i : Int) + 1) (hi := (ms.length : Int)) (ea (el_cons ?a1 (el_cons (e_lenL (xs := ms.map rcv) hX (by kernel_rfl) ?l1 (by rw [List.length_map]) (by lia) (by kernel_rfl) (by kernel_rfl)) el_nil (by kernel_rfl)) (by kernel_rfl)) (by kernel_rfl) (by kernel_rfl)) (by lia) (by lia)
  case a1 => walk_at "jv"
  case l1 => walk_at "jv"
 case t1 =>
  intro P' cl C' D a b ml hD hR ha hb hJ
  refine E1A2 (inL ha) fun i hi hn2 => ?_; obtain rfl := hn2
  refine E1A2 (rangeL_mem hb) fun k hk hn3 => ?_; obtain rfl := hn3
  have e1 : (aiv (.int (i : Int)) + 1 + 1 * (k : Int)) = ((i + 1 + k : Nat) : Int) := by show ((i : Int) + 1 + 1 * (k : Int)) = _; rw [Int.one_mul]; rfl
  have hk' : i + 1 + k < ms.length := by
   have : k < ((ms.length : Int) - ((i : Int) + 1)).toNat := hk
   rw [show ((ms.length : Int) - ((i : Int) + 1)).toNat = ms.length - (i + 1) from Int.toNat_sub ms.length (i + 1)] at this
   exact Nat.add_lt_of_lt_sub' this
  rw [e1]
  have hys := hyz (.list [])
  refine ⟨true, fun acc => ifs_nil, fun _ => ⟨_, fun acc => ?_, rfl⟩, fun h => by cases h⟩
  have hyD := HasI.put (o := .list acc) hD hys
  refine' e_tup (el_cons (e_indexA (k := i) (xs := ms.map rcv) ?v1 (.inl rfl) ?k1 (by lia) (by lia) ?x1 (fun _ _ _ => by kernel_rfl)) (el_cons (e_indexA (k := ((i + 1 + k : Nat) : Int)) (xs := ms.map rcv) ?v2 (.inl rfl) ?k2 (by lia) (by lia) ?x2 (fun _ _ _ => by kernel_rfl)) el_nil (by kernel_rfl)) (by kernel_rfl)) (lb (by kernel_rfl))
  case v1 => walk_at "jv"
  case k1 => walk_at "jv"
  case x1 => exact at_rcv rfl hi
  case v2 => walk_at "jv"
  case k2 => walk_at "jv"
  case x2 => exact at_rcv rfl hk'
 case turn =>
  intro P' i a st' m' hP hi hr1; refine A3 hr1 fun e1 h1 h2 => ?_; clear hr1
  rw [pairs_av] at hi
  obtain ⟨p, hp, rfl⟩ : ∃ p, (pairs ms)[i]? = some p ∧ AV.tup [rcv p.1, rcv p.2] = a := by
   rw [List.getElem?_map] at hi
   cases e : (pairs ms)[i]? with
   | none => rw [e] at hi; exact J.ns hi
   | some p => rw [e] at hi; revert hi; refine J.sse ?_; rintro rfl; exact ⟨p, rfl, rfl⟩
  refine ⟨_, a_tup R.handled (as_cons (a_name (by kernel_rfl)) (as_cons (a_name (by kernel_rfl)) as_nil (by kernel_rfl)) (by kernel_rfl)), ?_⟩
  subst e1
  dsimp only [id]
  have R' : Room 19 A P' (locOf _) := R.more hP
  have htk : ((pairs ms).take (i+1)).flatMap lost = ((pairs ms).take i).flatMap lost ++ lost p := by rw [List.take_add_one, hp]; simp
  have hp1 : HR (put st z (.list ((((pairs ms).take i).flatMap lost).map rcv))) (rcv p.1) p.1.x p.1.y p.1.w p.1.h .none := .inst
  have hp2 : HR (put st z (.list ((((pairs ms).take i).flatMap lost).map rcv))) (rcv p.2) p.2.x p.2.y p.2.w p.2.h .none := .inst
  have hil : i < (pairs ms).length := by
   refine O2 (Nat.lt_or_ge i (pairs ms).length) (fun h => ?_) (fun h => ?_)
   ·exact h
   ·rw [List.getElem?_eq_none_iff.mpr h] at hp; exact J.ns hp
  have len1 : ((((pairs ms).take i).flatMap lost).map rcv).length ≤ sizeLine := by
   rw [List.length_map]
   have := flatMap_len (f := lost) (k := 1) (xs := (pairs ms).take i) fun a _ => lost_len a
   rw [List.length_take] at this
   exact Nat.le_trans this (Nat.le_trans (Nat.le_of_eq (Nat.mul_one _)) (Nat.le_trans (Nat.min_le_right _ _) (Nat.le_trans (pairs_len ms) hz)))
  refine' x_cons (x_if (b := p.1.has p.2) (t_plain (e_methN (g := 177) (k := 1) hX hp1 ?o1 (by kernel_rfl) (by kernel_rfl) (by kernel_rfl) ?a1 (f_contains hX hp1 hp2) R' (by decide) (by kernel_rfl)) tr_bool (by kernel_rfl)) ?yes ?no)
  case o1 => walk_at "jv"
  case a1 => walk_at "ja"
  case yes =>
   intro hm
   have hc : lost p = [p.2] := by unfold lost; rw [if_pos hm]
   refine' x_app (r := rcv p.2) ?x3 len1 ?v3 (by kernel_rfl) (by kernel_rfl) (by kernel_rfl) (by kernel_rfl) ?k3
   case x3 => walk_at "jv"
   case v3 => walk_at "jv"
   case k3 =>
    refine x_nil (x_nil ⟨?_, by walk_at "jm", by walk_at "jm"⟩)
    rw [htk, hc, List.map_append]; rfl
  case no =>
   intro hm
   refine' x_cons (x_if (b := p.2.has p.1) (t_plain (e_methN (g := 177) (k := 1) hX hp2 ?o4 (by kernel_rfl) (by kernel_rfl) (by kernel_rfl) ?a4 (f_contains hX hp2 hp1) R' (by decide) (by kernel_rfl)) tr_bool (by kernel_rfl)) ?yes4 ?no4)
   case o4 => walk_at "jv"
   case a4 => walk_at "ja"
   case yes4 =>
    intro hm4
    have hc : lost p = [p.1] := by unfold lost; rw [if_neg (by rw [hm]; decide), if_pos hm4]
    refine' x_app (r := rcv p.1) ?x5 len1 ?v5 (by kernel_rfl) (by kernel_rfl) (by kernel_rfl) (by kernel_rfl) ?k5
    case x5 => walk_at "jv"
    case v5 => walk_at "jv"
    case k5 =>
     refine x_nil (x_nil (x_nil ⟨?_, by walk_at "jm", by walk_at "jm"⟩))
     rw [htk, hc, List.map_append]; rfl
   case no4 =>
    intro hm4
    have hc : lost p = [] := by unfold lost; rw [if_neg (by rw [hm]; decide), if_neg (by rw [hm4]; decide)]
    refine x_nil (x_nil (x_nil ⟨?_, by walk_at "jm", by walk_at "jm"⟩))
    rw [htk, hc, List.append_nil]
 case done =>
  intro st' m' hr2; refine A3 hr2 fun e1 h1 h2 => ?_; clear hr2
  subst e1
  rw [pairs_av, List.length_map, List.take_length, show (pairs ms).flatMap lost = contd ms from rfl]
  refine J.W.settle (z := z) (x := "contained") (put_same _ _ _) h2 ?_
  rw [drop_put hz']
  have hgs : ∀ q : Rt, (if !((contd ms).map rcv).any fun c => (rtOf c).same q then [rcv q] else []) = (if !(contd ms).any (fun c => c.same q) then [q] else []).map rcv := fun q => by
   rw [List.any_map]
   cases h : (contd ms).any fun c => c.same q with
   | true => rw [show ((fun c => (rtOf c).same q) ∘ rcv) = fun c : Rt => c.same q from rfl, h]; rfl
   | false => rw [show ((fun c => (rtOf c).same q) ∘ rcv) = fun c : Rt => c.same q from rfl, h]; rfl
  have hthin : ((ms.map rcv).flatMap fun a => if !((contd ms).map rcv).any (fun c => (rtOf c).same (rtOf a)) then [a] else []) = (thin ms).map rcv := by
   rw [List.flatMap_map]
   unfold thin
   rw [filter_fm, List.map_flatMap]
   exact congrArg (fun f => List.flatMap f ms) (funext fun q => hgs q)
  refine' x_cons (x_setattr hX (WE.of (e_comp1 (NS := fun _ => True) (xs := ms.map rcv) (fun a => if !((contd ms).map rcv).any (fun c => (rtOf c).same (rtOf a)) then [a] else []) (fun a ml => upd ml "m" a) (by kernel_rfl) (fun _ => by kernel_rfl) (i_list R.handled ?i9) (fun _ _ => trivial) ?z9 (fun a _ => tg_name (fun _ _ => by kernel_rfl) (by kernel_rfl)) ?t9) ⟨?m9, hy, ?q9⟩) (by kernel_rfl) hC.s7 (by decide) (by kernel_rfl))
  case i9 => walk_at "jv"
  case z9 =>
   rw [hthin, List.length_map]
   have : (thin ms).length ≤ ms.length := List.length_filter_le _ _
   exact Nat.le_trans this (Nat.le_of_lt hn)
  case t9 =>
   intro P' cl C' D a ml hD hR ha
   refine E1A2 (List.mem_map.mp ha) fun q hq hn4 => ?_; obtain rfl := hn4
   refine ⟨_, fun acc => ifs_one ?_, fun h => ⟨rcv q, fun acc => ?_, if_pos h⟩, fun h => if_neg (by rw [h]; decide)⟩
   ·refine' t_cmp (a := rcv q) (b := .lst ((contd ms).map rcv)) ?v1 ?v2 (o_notinR (xs := (contd ms).map rcv) (e := fun c => (rtOf c).same (rtOf (rcv q))) rfl ?heq) (by kernel_rfl)
    case v1 => walk_at "jv"
    case v2 => walk_at "jv"
    case heq =>
     intro A' q1 q2 q3 q4 s v x c hc f rv rx
     refine E1A2 (List.mem_map.mp hc) fun t ht hn5 => ?_; obtain rfl := hn5
     have RD := hR _ R
     refine eq_inst (n := 2) (g := 149) (b := t.same q) hX f rv rx (by kernel_rfl) (by kernel_rfl) rfl rfl (fun e => ?_) (f_eq hX .inst .inst) ⟨q2.trans RD.handled, by have := RD.depth; rw [q1]; lia, by have := RD.units; rw [q4]; lia, fun h => by lia⟩ (by have := RD.units; rw [q4]; lia)
     injection e with u1 e; injection e with u2 e; injection e with u3 e; injection e with u4 e
     injection u1 with u1; injection u2 with u2; injection u3 with u3; injection u4 with u4
     simp [Rt.same, Same, u1, u2, u3, u4]
   ·walk_at "jv"
  case m9 => walk_at "jm"
  case q9 => rw [hthin]; exact x_nil ⟨rfl, drop_none nyz hz'⟩
end
section
variable {w : World} {g0 : Heap} {tb : List (Addr × Addr × Array Value)} {os : OsState} {pg : List (Nat × GenState)} {st : AS} {P : PL} {A : Around} {env : Env} {m : AM}
noncomputable def Rt.fits (t : Rt) (p q : Int) : Bool := decide (p ≤ t.w) && decide (q ≤ t.h)
noncomputable def cand (rot : Bool) (ms : List Rt) (p q : Int) : List (Rt × Int × Int) := (ms.filter fun t => t.fits p q).map (fun t => (t, p, q)) ++ if rot then (ms.filter fun t => t.fits q p).map (fun t => (t, q, p)) else []
noncomputable def keyOf (way : Nat) (c : Rt × Int × Int) : Int := if way = 1 then c.1.y + c.2.2 else fitn way c.1.w c.1.h c.2.1 c.2.2
theorem w_tupc {X : Cx} {e : Expr} {es : List Expr} {k : Nat} {pos : Pos} {Q : AV → AS → AM → Prop} (h : WE X P A env st m (eval e env) fun a st' m' => ∃ as, EVL X P A env st' m' es as ∧ (a :: as).length ≤ sizeLine ∧ Q (.tup (a :: as)) st' m') (he : starEach (e :: es) env = (false, eval e env) :: starEach es env) :
 WE X P A env st m (eval (.Tuple (e :: es) k pos) env) Q := fun s f => by
 refine wpAny_Tuple ?_
 rw [he]
 refine spliced_cons (wpAny_mono (h s f) (fun v s₁ p => ?_) fun _ _ e => e)
 obtain ⟨a, st', m', r', f₁, S₁, g₁, as, ht, hn, q⟩ := p
 refine wpAny_mono (ht _ s₁ f₁) (fun vs s₂ ⟨rs, f₂, S₂⟩ => ?_) fun _ _ e => e
 have rr := VRs.cons (r'.held S₂) rs
 refine ⟨by rw [rr.length]; exact hn, Post.after S₁ g₁ (Post.after S₂ (Gr.refl _ _) ((new_tup (tk := s₂.toks) f₂ rr).mono fun _ _ _ ⟨e1, e2, e3⟩ => e1 ▸ e2 ▸ e3 ▸ q))⟩
theorem Lent.same {a a' : Option AV} {v : AV} (h : a = some v) (h' : a' = some v) : Lent st a a' := .inl (h'.trans h.symm)
theorem Lent.inst {a a' : Option AV} {y C : Addr} {ns : List Str} {l : List AV} (h : a = some (.ref y)) (hy : st y = some (.inst C ns l)) (h' : a' = some (.inst C ns l)) : Lent st a a' := .inr ⟨y, C, ns, l, h, hy, h'⟩
theorem fitv_none (way : Nat) (t : Rt) (p q : Int) : (!(fitv way t.w t.h p q).isNone) = t.fits p q := by
 unfold fitv Rt.fits
 by_cases h1 : p ≤ t.w <;> by_cases h2 : q ≤ t.h <;> simp [h1, h2, AV.isNone]
theorem fitv_some {way : Nat} {t : Rt} {p q : Int} (h : t.fits p q = true) : fitv way t.w t.h p q = .int (fitn way t.w t.h p q) := by
 unfold Rt.fits at h
 unfold fitv
 rw [Bool.and_eq_true, decide_eq_true_iff, decide_eq_true_iff] at h
 exact if_pos h
noncomputable abbrev candT (way : Nat) (c : Rt × Int × Int) : AV := .tup [.int (keyOf way c), .int c.2.1, .int c.2.2, rcv c.1]
theorem half_list {way : Nat} (hw : way ≠ 1) (ms : List Rt) (p q : Int) :
 ((ms.map rcv).filter fun a => !(fitv way (rtOf a).w (rtOf a).h p q).isNone).map (fun a => AV.tup [fitv way (rtOf a).w (rtOf a).h p q, .int p, .int q, a]) = ((ms.filter fun t => t.fits p q).map (fun t => (t, p, q))).map (candT way) := by
 rw [List.filter_map, List.map_map, List.map_map]
 have e : ((fun a => !(fitv way (rtOf a).w (rtOf a).h p q).isNone) ∘ rcv) = fun t : Rt => t.fits p q := funext fun t => fitv_none way t p q
 rw [e]
 refine List.map_congr_left fun t ht => ?_
 have hf := (List.mem_filter.mp ht).2
 show AV.tup [fitv way t.w t.h p q, .int p, .int q, rcv t] = candT way (t, p, q)
 rw [fitv_some hf]
 unfold candT keyOf
 rw [if_neg hw]
theorem cand_list {way : Nat} (hw : way ≠ 1) (rot : Bool) (ms : List Rt) (p q : Int) :
 (((ms.map rcv).filter fun a => !(fitv way (rtOf a).w (rtOf a).h p q).isNone).map (fun a => AV.tup [fitv way (rtOf a).w (rtOf a).h p q, .int p, .int q, a]) ++
   if !rot then [] else ((ms.map rcv).filter fun a => !(fitv way (rtOf a).w (rtOf a).h q p).isNone).map fun a => AV.tup [fitv way (rtOf a).w (rtOf a).h q p, .int q, .int p, a]) = (cand rot ms p q).map (candT way) := by
 rw [half_list hw, half_list hw]
 unfold cand
 cases rot <;> simp
theorem VRs.four {D : Addr → Prop} {h : Heap} {vs : List Value} {a b c d : AV} (r : VRs D h vs [a, b, c, d]) : ∃ x y z w, vs = [x, y, z, w] ∧ VR D h x a ∧ VR D h y b ∧ VR D h z c ∧ VR D h w d := by
 cases r using VRs.consE with | cons r1 r => cases r using VRs.consE with | cons r2 r => cases r using VRs.consE with | cons r3 r => cases r using VRs.consE with | cons r4 r => (first | cases r using VR.intE | cases r using VR.noneE | cases r using VR.boolE | cases r using VR.refE | cases r using VRs.nilE | cases r); exact ⟨_, _, _, _, rfl, r1, r2, r3, r4⟩
noncomputable def keyA : AV → Int | .tup (.int k :: _) => k | _ => 0
theorem VR.int_any {D D' : Addr → Prop} {h h' : Heap} {v : Value} {i : Int} (r : VR D h v (.int i)) : VR D' h' v (.int i) := by (first | cases r using VR.intE | cases r using VR.noneE | cases r using VR.boolE | cases r using VR.refE | cases r using VRs.nilE | cases r); exact .int _ _
theorem cand_mem {rot : Bool} {ms : List Rt} {p q : Int} {c : Rt × Int × Int} (h : c ∈ cand rot ms p q) : c.1 ∈ ms ∧ c.1.fits c.2.1 c.2.2 = true ∧ ((c.2.1 = p ∧ c.2.2 = q) ∨ (rot = true ∧ c.2.1 = q ∧ c.2.2 = p)) := by
 unfold cand at h
 rcases List.mem_append.mp h with h | h
 ·refine E1A2 (List.mem_map.mp h) fun t ht hn1 => ?_; obtain rfl := hn1
  refine A2 (List.mem_filter.mp ht) fun h1 h2 => ?_
  exact ⟨h1, h2, .inl ⟨rfl, rfl⟩⟩
 ·cases rot with
  | false => exact J.mn h
  | true =>
   refine E1A2 (List.mem_map.mp h) fun t ht hn2 => ?_; obtain rfl := hn2
   refine A2 (List.mem_filter.mp ht) fun h1 h2 => ?_
   exact ⟨h1, h2, .inr ⟨rfl, rfl, rfl⟩⟩
theorem free_all {names : List (Str × NameKind)} {p : Str → Prop} (h : ∀ z ∈ names, z.2 = .free → p z.1) : ∀ y, names.lookup y = some .free → p y := fun y e => h (y, .free) (mem_of_lookup e) rfl
theorem VR.fitv {D D' : Addr → Prop} {h : Heap} {v : Value} {way : Nat} {a c p q : Int} (x : VR D h v (fitv way a c p q)) : VR D' h v (fitv way a c p q) := by
 unfold J.fitv at x ⊢
 split at x
 ·rename_i q1; rw [if_pos q1]; cases x; exact .int _ _
 ·rename_i q1; rw [if_neg q1]; cases x; exact .none
theorem FN.mono {X : Cx} {n k : Nat} {f : Addr} {args : List AV} {Q : AV → AS → Prop} (h : FN X n f st args Q) (hn : n ≤ k) : FN X k f st args Q := fun P A s vals R g rv => h P A s vals (R.mono hn) g rv
theorem CX.ok {tb' : List (Addr × Addr × Array Value)} {pg' : List (Nat × GenState)} (hX : (CX w g0 tb os pg).Ok) : (CX w g0 tb' os pg').Ok := ⟨hX.kin, hX.glob, hX.bi⟩
noncomputable def FitOk (w : World) (g0 : Heap) (os : OsState) (way : Nat) (fa : Addr) : Prop := ∀ tb pg st sf b x y a c p q r, HR st b x y a c r → IntMulOk a c → IntMulOk p q → FNv (CX w g0 tb os pg) 2 fa st [sf, b, .int p, .int q] (fitv way a c p q)
theorem fit0 (hX : (CX w g0 tb os pg).Ok) : FitOk w g0 os 0 339 := fun _ _ _ _ _ _ _ _ _ _ _ _ h _ _ => (f_fit0 (CX.ok hX) h).mono (by decide)
theorem fit2 (hX : (CX w g0 tb os pg).Ok) : FitOk w g0 os 2 426 := fun _ _ _ _ _ _ _ _ _ _ _ _ h _ _ => (f_fit2 (CX.ok hX) h).mono (by decide)
theorem fit3 (hX : (CX w g0 tb os pg).Ok) : FitOk w g0 os 3 445 := fun _ _ _ _ _ _ _ _ _ _ _ _ h k1 k2 => (f_fit3 (CX.ok hX) h k1 k2).mono (by decide)
theorem fit4 (hX : (CX w g0 tb os pg).Ok) : FitOk w g0 os 4 464 := fun _ _ _ _ _ _ _ _ _ _ _ _ h _ _ => (f_fit4 (CX.ok hX) h).mono (by decide)
theorem fit1 (hX : (CX w g0 tb os pg).Ok) : FitOk w g0 os 1 339 := fit0 hX
noncomputable def Sel (way : Nat) (rot : Bool) (ms : List Rt) (p q : Int) (o : Option (Rt × Int × Int)) : Prop :=
 match o with
 | none => cand rot ms p q = []
 | some c => c ∈ cand rot ms p q ∧ ∀ c' ∈ cand rot ms p q, keyOf way c ≤ keyOf way c'
noncomputable def SelQ (way : Nat) (rot : Bool) (ms : List Rt) (p q : Int) (st : AS) (v : AV) (st' : AS) : Prop :=
 ∃ o, Sel way rot ms p q o ∧ match o with
  | none => v = .tup [.none, .none] ∧ st' = st
  | some c => ∃ z, st z = none ∧ st' = put st z (.inst 203 rcn (rcl c.1.x c.1.y c.2.1 c.2.2 .none)) ∧ v = .tup [.ref z, rcv c.1]
theorem f_sel {bm : Addr} {ps : Array Value} (hX : (CX w g0 tb os pg).Ok) {C y rl fa : Addr} {W H p q : Int} {rot : Bool} {sf : AV} {ms : List Rt} {way : Nat} (hC : BoxC (K1 w.params) C) (hm : methodAt (K1 w.params) C "_rect_fitness" fa = true) (hk : keepIn (K1 w.params) (.ref fa) = true) (hF : FitOk w g0 os way fa) (hw : way ≠ 1)
 (hy : st y = some (.inst C bxn (bxl W H rot rl sf (ms.map rcv)))) (hz : ms.length + ms.length ≤ sizeLine) (hM : ∀ t ∈ ms, IntMulOk t.w t.h) (hb : BiOk (CX w g0 tb os pg) bm) (ht : (345, 341, ps) ∈ tb) (hu : ∀ t ∈ tb, t.2.1 = 341 → t = (345, 341, ps)) (hp0 : 0 ≤ p) (hq0 : 0 ≤ q) (hpq : IntMulOk p q) (hqp : IntMulOk q p) :
 FN (CX w g0 tb os pg) 60 346 st [.ref y, .int p, .int q] (SelQ way rot ms p q st) := by
 refine FN.of (abinds := [("self", .ref y), ("w", .int p), ("h", .int q)]) hX.kin (by rfl) (by kernel_rfl) (fun P s vals g rv => ?_) rfl rfl rfl (by kernel_rfl) (by kernel_rfl) fun P A L R hf => ?_
 ·refine VRs.e3 (M := fun vs => ∃ b, BindsTo s _ { pos := vs } b ∧ BR _ _ b _) (fun r1 r2 r3 => ?_) rv
  exact ⟨_, BindsTo.of_eq (by kernel_rfl), .cons r1 (.cons r2 (.cons r3 .nil))⟩
 ·dsimp only [bindA]
  have a5 := hC.a5
  have a3 := hC.a3
  have hI : HasI st C bxn (bxl W H rot rl sf (ms.map rcv)) (.ref y) := .ref hy
  refine' x_cons (x_if (t_not (t_plain (a := .lst (ms.map rcv)) ?v1 (tr_list (.inl rfl) ?z1) (by kernel_rfl))) ?yes fun _ => x_nil ?no)
  case v1 => walk_at "jv"
  case z1 => rw [List.length_map]; unfold sizeLine at hz; lia
  case yes =>
   intro he
   refine' x_cons (x_ret (WE.of (e_tup ?l2 (lb (by kernel_rfl))) ?q2))
   case l2 => walk_at "jL"
   case q2 =>
    refine ⟨none, ?_, rfl, rfl⟩
    have : ms = [] := by simpa using he
    subst this
    show cand rot [] p q = []
    cases rot <;> rfl
  case no =>
   refine' x_gens (n := 10) (pz₁ := fun a => !(fitv way (rtOf a).w (rtOf a).h p q).isNone) (pz₂ := fun a => !(fitv way (rtOf a).w (rtOf a).h q p).isNone)
    (bs₁ := fun v a => [fitv way (rtOf a).w (rtOf a).h p q, .int p, .int q, .obj v a]) (bs₂ := fun v a => [fitv way (rtOf a).w (rtOf a).h q p, .int q, .int p, .obj v a])
    (bs₁' := fun a => [fitv way (rtOf a).w (rtOf a).h p q, .int p, .int q, a]) (bs₂' := fun a => [fitv way (rtOf a).w (rtOf a).h q p, .int q, .int p, a]) (xs := ms.map rcv)
    (mf₁ := upd (upd (upd noM "self" (.inst C bxn (bxl W H rot rl sf (ms.map rcv)))) "w" (.int p)) "h" (.int q)) (mf₂ := upd (upd (upd noM "self" (.inst C bxn (bxl W H rot rl sf (ms.map rcv)))) "w" (.int p)) "h" (.int q))
    (b := !rot) hX hb ?hd rfl ht hu ?hr (by kernel_rfl) ?o1 ?o2 ?hz ?i1 ?i2 (by kernel_rfl) (by kernel_rfl) (by kernel_rfl) (by decide) ?q1 ?q2 (by kernel_rfl) (by kernel_rfl) (by kernel_rfl) ?hrot ?hbody ?v1 ?v2 ?rest
   case hd => have := R.depth; lia
   case hr => exact ⟨R.handled, (by have := R.depth; show A.depth + _ + _ < _; lia), (by have := R.units; show A.units + 1 + 1 + 1 + _ + _ < _; lia), by decide⟩
   case hz => simpa using hz
   case i1 => walk_at "jv"
   case i2 =>
    intro pg' P' v
    have hX' := CX.ok (pg' := pg') (tb' := tb) hX
    change EV (CX w g0 tb os pg') _ _ _ _ _ _ _
    walk_at "jv"
   case q1 => exact ⟨by decide, by decide⟩
   case q2 => exact ⟨by decide, by decide⟩
   case hrot =>
    intro pg' P' v₁ v₂
    have hX' := CX.ok (pg' := pg') (tb' := tb) hX
    change EvT (CX w g0 tb os pg') _ _ _ _ _ _ _
    walk_at "jt"
   case hbody =>
    intro hb pg' P' m'
    exact x_cons (x_set (WE.of (e_lst el_nil (Nat.zero_le _)) (x_nil ⟨rfl, rfl, rfl⟩)) (by kernel_rfl) (by kernel_rfl))
   case v1 =>
    intro pg' P' m' v hv
    walk_at "ja"
   case v2 =>
    intro pg' P' m' v hv
    walk_at "ja"
   case o1 =>
    refine' ⟨rfl, ?c0, ?c1, rfl, rfl, fun _ => by kernel_rfl, ?c2, ?c3, fun _ _ => by kernel_rfl, by decide, fun _ _ => lb (by kernel_rfl), ?c4, ?c5⟩
    case c0 => rfl
    case c1 => decide
    case c2 =>
     refine free_all ?_
     repeat' first | exact al0 | refine al (fun hk => ?_) ?_
     all_goals first | (exfalso; revert hk; exact (by decide)) | (cases hz; done) | skip
     all_goals refine ⟨.inl (by kernel_rfl), ⟨_, rfl⟩, ?_⟩
     all_goals first
      | exact Lent.inst (by walk_at "jm") hy (by walk_at "jm")
      | exact Lent.same (v := .int p) (by walk_at "jm") (by walk_at "jm")
      | exact Lent.same (v := .int q) (by walk_at "jm") (by walk_at "jm")
    case c3 => exact (closL_lookup [(".0", .local), ("m", .local), ("h", .free), ("self", .free), ("w", .free)] [] _ (by rfl) fun x c q => by exact J.ns q).1
    case c4 =>
     intro pg' C' code I' S' l' vs' gens P' A' mg v a R2 hva hmg
     refine E1A2 (List.mem_map.mp (List.of_mem_zip hva).2) fun t ht' hn3 => ?_; obtain rfl := hn3
     have hX' : (CX w g0 [] os (gl gens)).Ok := CX.ok hX
     have hI' : HasI noSt C bxn (bxl W H rot rl sf (ms.map rcv)) (.inst C bxn (bxl W H rot rl sf (ms.map rcv))) := .inst
     have hR' : HR noSt (.obj v (rcv t)) t.x t.y t.w t.h .none := .obj .inst
     have s1 : mg "self" = some (.inst C bxn (bxl W H rot rl sf (ms.map rcv))) := (hmg "self" (by rfl)).trans (by walk_at "jm")
     have s2 : mg "w" = some (.int p) := (hmg "w" (by rfl)).trans (by walk_at "jm")
     have s3 : mg "h" = some (.int q) := (hmg "h" (by rfl)).trans (by walk_at "jm")
     refine' ⟨ifs_one (X := CX w g0 [] os (gl gens)) (t_cmp (e_methN (n := 10) (k := 2) (g := fa) hX' hI' ?n1 hm (by kernel_rfl) hk ?a1 (hF [] (gl gens) noSt (.inst C bxn (bxl W H rot rl sf (ms.map rcv))) (.obj v (rcv t)) t.x t.y t.w t.h p q .none hR' (hM t ht') hpq) R2 (by decide) (by kernel_rfl)) e_none o_isNotNone (by kernel_rfl)),
      fun hpz => el_cons (X := CX w g0 [] os (gl gens)) (e_methN (n := 10) (k := 2) (g := fa) hX' hI' ?n2 hm (by kernel_rfl) hk ?a2 (hF [] (gl gens) noSt (.inst C bxn (bxl W H rot rl sf (ms.map rcv))) (.obj v (rcv t)) t.x t.y t.w t.h p q .none hR' (hM t ht') hpq) R2 (by decide) (by kernel_rfl)) ?l2 (by kernel_rfl)⟩
     case n1 => walk_at "jv"
     case a1 => walk_at "ja"
     case n2 => walk_at "jv"
     case a2 => walk_at "ja"
     case l2 => walk_at "jL"
    case c5 =>
     intro D1 D2 h v a us ha hv hs
     refine E1A2 (List.mem_map.mp ha) fun t ht' hn4 => ?_; obtain rfl := hn4
     refine E4A2 (VRs.four hs) fun u1 u2 u3 u4 hn5 hn6 => ?_; obtain rfl := hn5; refine A4 hn6 fun z1 z2 z3 z4 => ?_; clear hn6
     have e4 : u4 = v := by cases z4; rfl
     subst e4
     exact .cons (VR.fitv z1) (.cons z2.int_any (.cons z3.int_any (.cons hv .nil)))
   case o2 =>
    refine' ⟨rfl, ?c0, ?c1, rfl, rfl, fun _ => by kernel_rfl, ?c2, ?c3, fun _ _ => by kernel_rfl, by decide, fun _ _ => lb (by kernel_rfl), ?c4, ?c5⟩
    case c0 => rfl
    case c1 => decide
    case c2 =>
     refine free_all ?_
     repeat' first | exact al0 | refine al (fun hk => ?_) ?_
     all_goals first | (exfalso; revert hk; exact (by decide)) | (cases hz; done) | skip
     all_goals refine ⟨.inl (by kernel_rfl), ⟨_, rfl⟩, ?_⟩
     all_goals first
      | exact Lent.inst (by walk_at "jm") hy (by walk_at "jm")
      | exact Lent.same (v := .int p) (by walk_at "jm") (by walk_at "jm")
      | exact Lent.same (v := .int q) (by walk_at "jm") (by walk_at "jm")
    case c3 => exact (closL_lookup [(".0", .local), ("m", .local), ("h", .free), ("self", .free), ("w", .free)] [] _ (by rfl) fun x c q => by exact J.ns q).1
    case c4 =>
     intro pg' C' code I' S' l' vs' gens P' A' mg v a R2 hva hmg
     refine E1A2 (List.mem_map.mp (List.of_mem_zip hva).2) fun t ht' hn7 => ?_; obtain rfl := hn7
     have hX' : (CX w g0 [] os (gl gens)).Ok := CX.ok hX
     have hI' : HasI noSt C bxn (bxl W H rot rl sf (ms.map rcv)) (.inst C bxn (bxl W H rot rl sf (ms.map rcv))) := .inst
     have hR' : HR noSt (.obj v (rcv t)) t.x t.y t.w t.h .none := .obj .inst
     have s1 : mg "self" = some (.inst C bxn (bxl W H rot rl sf (ms.map rcv))) := (hmg "self" (by rfl)).trans (by walk_at "jm")
     have s2 : mg "w" = some (.int p) := (hmg "w" (by rfl)).trans (by walk_at "jm")
     have s3 : mg "h" = some (.int q) := (hmg "h" (by rfl)).trans (by walk_at "jm")
     refine' ⟨ifs_one (X := CX w g0 [] os (gl gens)) (t_cmp (e_methN (n := 10) (k := 2) (g := fa) hX' hI' ?n1 hm (by kernel_rfl) hk ?a1 (hF [] (gl gens) noSt (.inst C bxn (bxl W H rot rl sf (ms.map rcv))) (.obj v (rcv t)) t.x t.y t.w t.h q p .none hR' (hM t ht') hqp) R2 (by decide) (by kernel_rfl)) e_none o_isNotNone (by kernel_rfl)),
      fun hpz => el_cons (X := CX w g0 [] os (gl gens)) (e_methN (n := 10) (k := 2) (g := fa) hX' hI' ?n2 hm (by kernel_rfl) hk ?a2 (hF [] (gl gens) noSt (.inst C bxn (bxl W H rot rl sf (ms.map rcv))) (.obj v (rcv t)) t.x t.y t.w t.h q p .none hR' (hM t ht') hqp) R2 (by decide) (by kernel_rfl)) ?l2 (by kernel_rfl)⟩
     case n1 => walk_at "jv"
     case a1 => walk_at "ja"
     case n2 => walk_at "jv"
     case a2 => walk_at "ja"
     case l2 => walk_at "jL"
    case c5 =>
     intro D1 D2 h v a us ha hv hs
     refine E1A2 (List.mem_map.mp ha) fun t ht' hn8 => ?_; obtain rfl := hn8
     refine E4A2 (VRs.four hs) fun u1 u2 u3 u4 hn9 hn10 => ?_; obtain rfl := hn9; refine A4 hn10 fun z1 z2 z3 z4 => ?_; clear hn10
     have e4 : u4 = v := by cases z4; rfl
     subst e4
     exact .cons (VR.fitv z1) (.cons z2.int_any (.cons z3.int_any (.cons hv .nil)))
   case rest =>
    intro v₁ v₂
    rw [cand_list hw]
    have hkey : ∀ c, keyA (candT way c) = keyOf way c := fun _ => rfl
    refine' x_cons (x_tryVE (n := 59) (C := (cand rot ms p q).map (candT way) = []) hX (by kernel_rfl) (by decide) (hf (by decide)) R (fun s f => x_min hX R.handled (by kernel_rfl) ?jl (e_glob hX (by kernel_rfl)) (KeyC.of (n := 58) (key := keyA) ?hk1 R.in1) ?hT (by kernel_rfl) (by kernel_rfl) (fun _ => by kernel_rfl) s f) ?hh)
    case jl => walk_at "jL"
    case hk1 =>
     intro a ha
     refine E1A2 (List.mem_map.mp ha) fun c hc hn11 => ?_; obtain rfl := hn11
     exact (f_first hX).mono (by decide)
    case hT =>
     intro b hb hmin
     refine E1A2 (List.mem_map.mp hb) fun c hc hn12 => ?_; obtain rfl := hn12
     refine ⟨_, a_tup R.handled (as_cons (a_name (by kernel_rfl)) (as_cons (a_name (by kernel_rfl)) (as_cons (a_name (by kernel_rfl)) (as_cons (a_name (by kernel_rfl)) as_nil (by kernel_rfl)) (by kernel_rfl)) (by kernel_rfl)) (by kernel_rfl)), ?_⟩
     dsimp only [id]
     refine A3 (cand_mem hc) fun hc1 hc2 hc3 => ?_
     have hcR : HR st (rcv c.1) c.1.x c.1.y c.1.w c.1.h .none := .inst
     refine' x_cons (x_ret (w_tupc (J.W.mono (e_rectT (x := c.1.x) (y := c.1.y) (a := c.2.1) (c := c.2.2) hX ?ra ?r1 ?r2 (by kernel_rfl) R (by decide)) ?rk) (by kernel_rfl)))
     case ra => walk_at "ja"
     case r1 => rcases hc3 with ⟨h, _⟩ | ⟨_, h, _⟩ <;> rw [h] <;> assumption
     case r2 => rcases hc3 with ⟨_, h⟩ | ⟨_, _, h⟩ <;> rw [h] <;> assumption
     case rk =>
      rintro b st' m' ⟨z, rfl, hz', rfl, rfl⟩
      refine ⟨[rcv c.1], ?_, lb (by kernel_rfl), ?_⟩
      ·walk_at "jL"
      ·exact ⟨some c, ⟨hc, fun c' hc' => hmin _ (List.mem_map_of_mem hc')⟩, z, hz', rfl, rfl⟩
    case hh =>
     intro hC' A' P'
     refine' x_cons (x_ret (WE.of (e_tup ?l3 (lb (by kernel_rfl))) ?q3))
     case l3 => walk_at "jL"
     case q3 => exact ⟨none, by simpa [Sel] using hC', rfl, rfl⟩
end
section
variable {w : World} {g0 : Heap} {tb : List (Addr × Addr × Array Value)} {os : OsState} {pg : List (Nat × GenState)} {st : AS} {P : PL} {A : Around} {env : Env} {m : AM}
noncomputable abbrev candB (c : Rt × Int × Int) : AV := .tup [.int (keyOf 1 c), .int c.1.x, .int c.2.1, .int c.2.2, rcv c.1]
theorem half_listB (ms : List Rt) (p q : Int) :
 ((ms.map rcv).filter fun a => !(fitv 1 (rtOf a).w (rtOf a).h p q).isNone).map (fun a => AV.tup [.int ((rtOf a).y + q), .int (rtOf a).x, .int p, .int q, a]) = ((ms.filter fun t => t.fits p q).map (fun t => (t, p, q))).map candB := by
 rw [List.filter_map, List.map_map, List.map_map]
 have e : ((fun a => !(fitv 1 (rtOf a).w (rtOf a).h p q).isNone) ∘ rcv) = fun t : Rt => t.fits p q := funext fun t => fitv_none 1 t p q
 rw [e]
 rfl
theorem cand_listB (rot : Bool) (ms : List Rt) (p q : Int) :
 (((ms.map rcv).filter fun a => !(fitv 1 (rtOf a).w (rtOf a).h p q).isNone).map (fun a => AV.tup [.int ((rtOf a).y + q), .int (rtOf a).x, .int p, .int q, a]) ++
   if !rot then [] else ((ms.map rcv).filter fun a => !(fitv 1 (rtOf a).w (rtOf a).h q p).isNone).map fun a => AV.tup [.int ((rtOf a).y + p), .int (rtOf a).x, .int q, .int p, a]) = (cand rot ms p q).map candB := by
 rw [half_listB, half_listB]
 unfold cand
 cases rot <;> simp
theorem VRs.five {D : Addr → Prop} {h : Heap} {vs : List Value} {a b c d e : AV} (r : VRs D h vs [a, b, c, d, e]) : ∃ x y z w u, vs = [x, y, z, w, u] ∧ VR D h x a ∧ VR D h y b ∧ VR D h z c ∧ VR D h w d ∧ VR D h u e := by
 cases r using VRs.consE with | cons r1 r => refine E4A2 (r.four) fun x y z w hn1 hn2 => ?_; obtain rfl := hn1; refine A4 hn2 fun h1 h2 h3 h4 => ?_; clear hn2; exact ⟨_, x, y, z, w, rfl, r1, h1, h2, h3, h4⟩
theorem f_selB {bm : Addr} {ps : Array Value} (hX : (CX w g0 tb os pg).Ok) {C y rl fa : Addr} {W H p q : Int} {rot : Bool} {sf : AV} {ms : List Rt} (hC : BoxC (K1 w.params) C) (hm : methodAt (K1 w.params) C "_rect_fitness" fa = true) (hk : keepIn (K1 w.params) (.ref fa) = true) (hF : FitOk w g0 os 1 fa)
 (hy : st y = some (.inst C bxn (bxl W H rot rl sf (ms.map rcv)))) (hz : ms.length + ms.length ≤ sizeLine) (hM : ∀ t ∈ ms, IntMulOk t.w t.h) (hb : BiOk (CX w g0 tb os pg) bm) (ht : (406, 402, ps) ∈ tb) (hu : ∀ t ∈ tb, t.2.1 = 402 → t = (406, 402, ps)) (hp0 : 0 ≤ p) (hq0 : 0 ≤ q) (hpq : IntMulOk p q) (hqp : IntMulOk q p) :
 FN (CX w g0 tb os pg) 60 407 st [.ref y, .int p, .int q] (SelQ 1 rot ms p q st) := by
 refine FN.of (abinds := [("self", .ref y), ("w", .int p), ("h", .int q)]) hX.kin (by rfl) (by kernel_rfl) (fun P s vals g rv => ?_) rfl rfl rfl (by kernel_rfl) (by kernel_rfl) fun P A L R hf => ?_
 ·refine VRs.e3 (M := fun vs => ∃ b, BindsTo s _ { pos := vs } b ∧ BR _ _ b _) (fun r1 r2 r3 => ?_) rv
  exact ⟨_, BindsTo.of_eq (by kernel_rfl), .cons r1 (.cons r2 (.cons r3 .nil))⟩
 ·dsimp only [bindA]
  have a5 := hC.a5
  have a3 := hC.a3
  have hI : HasI st C bxn (bxl W H rot rl sf (ms.map rcv)) (.ref y) := .ref hy
  refine' x_gens (n := 10) (pz₁ := fun a => !(fitv 1 (rtOf a).w (rtOf a).h p q).isNone) (pz₂ := fun a => !(fitv 1 (rtOf a).w (rtOf a).h q p).isNone)
   (bs₁ := fun v a => [.int ((rtOf a).y + q), .int (rtOf a).x, .int p, .int q, .obj v a]) (bs₂ := fun v a => [.int ((rtOf a).y + p), .int (rtOf a).x, .int q, .int p, .obj v a])
   (bs₁' := fun a => [.int ((rtOf a).y + q), .int (rtOf a).x, .int p, .int q, a]) (bs₂' := fun a => [.int ((rtOf a).y + p), .int (rtOf a).x, .int q, .int p, a]) (xs := ms.map rcv)
   (mf₁ := upd (upd (upd noM "self" (.inst C bxn (bxl W H rot rl sf (ms.map rcv)))) "w" (.int p)) "h" (.int q)) (mf₂ := upd (upd (upd noM "self" (.inst C bxn (bxl W H rot rl sf (ms.map rcv)))) "w" (.int p)) "h" (.int q))
   (b := !rot) hX hb ?hd rfl ht hu ?hr (by kernel_rfl) ?o1 ?o2 ?hz ?i1 ?i2 (by kernel_rfl) (by kernel_rfl) (by kernel_rfl) (by decide) ?q1 ?q2 (by kernel_rfl) (by kernel_rfl) (by kernel_rfl) ?hrot ?hbody ?v1 ?v2 ?rest
  case hd => have := R.depth; lia
  case hr => exact ⟨R.handled, (by have := R.depth; show A.depth + _ + _ < _; lia), (by have := R.units; show A.units + 1 + 1 + 1 + _ + _ < _; lia), by decide⟩
  case hz => simpa using hz
  case i1 => walk_at "jv"
  case i2 =>
   intro pg' P' v
   have hX' := CX.ok (pg' := pg') (tb' := tb) hX
   change EV (CX w g0 tb os pg') _ _ _ _ _ _ _
   walk_at "jv"
  case q1 => exact ⟨by decide, by decide⟩
  case q2 => exact ⟨by decide, by decide⟩
  case hrot =>
   intro pg' P' v₁ v₂
   have hX' := CX.ok (pg' := pg') (tb' := tb) hX
   change EvT (CX w g0 tb os pg') _ _ _ _ _ _ _
   walk_at "jt"
  case hbody =>
   intro hb pg' P' m'
   exact x_cons (x_set (WE.of (e_lst el_nil (Nat.zero_le _)) (x_nil ⟨rfl, rfl, rfl⟩)) (by kernel_rfl) (by kernel_rfl))
  case v1 =>
   intro pg' P' m' v hv
   walk_at "ja"
  case v2 =>
   intro pg' P' m' v hv
   walk_at "ja"
  case o1 =>
   refine' ⟨rfl, ?c0, ?c1, rfl, rfl, fun _ => by kernel_rfl, ?c2, ?c3, fun _ _ => by kernel_rfl, by decide, fun _ _ => lb (by kernel_rfl), ?c4, ?c5⟩
   case c0 => rfl
   case c1 => decide
   case c2 =>
    refine free_all ?_
    repeat' first | exact al0 | refine al (fun hk => ?_) ?_
    all_goals first | (exfalso; revert hk; exact (by decide)) | (cases hz; done) | skip
    all_goals refine ⟨.inl (by kernel_rfl), ⟨_, rfl⟩, ?_⟩
    all_goals first
     | exact Lent.inst (by walk_at "jm") hy (by walk_at "jm")
     | exact Lent.same (v := .int p) (by walk_at "jm") (by walk_at "jm")
     | exact Lent.same (v := .int q) (by walk_at "jm") (by walk_at "jm")
   case c3 => exact (closL_lookup [(".0", .local), ("m", .local), ("h", .free), ("self", .free), ("w", .free)] [] _ (by rfl) fun x c q => by exact J.ns q).1
   case c4 =>
    intro pg' C' code I' S' l' vs' gens P' A' mg v a R2 hva hmg
    refine E1A2 (List.mem_map.mp (List.of_mem_zip hva).2) fun t ht' hn3 => ?_; obtain rfl := hn3
    have hX' : (CX w g0 [] os (gl gens)).Ok := CX.ok hX
    have hI' : HasI noSt C bxn (bxl W H rot rl sf (ms.map rcv)) (.inst C bxn (bxl W H rot rl sf (ms.map rcv))) := .inst
    have hR' : HR noSt (.obj v (rcv t)) t.x t.y t.w t.h .none := .obj .inst
    have s1 : mg "self" = some (.inst C bxn (bxl W H rot rl sf (ms.map rcv))) := (hmg "self" (by rfl)).trans (by walk_at "jm")
    have s2 : mg "w" = some (.int p) := (hmg "w" (by rfl)).trans (by walk_at "jm")
    have s3 : mg "h" = some (.int q) := (hmg "h" (by rfl)).trans (by walk_at "jm")
    refine' ⟨ifs_one (X := CX w g0 [] os (gl gens)) (t_cmp (e_methN (n := 10) (k := 2) (g := fa) hX' hI' ?n1 hm (by kernel_rfl) hk ?a1 (hF [] (gl gens) noSt (.inst C bxn (bxl W H rot rl sf (ms.map rcv))) (.obj v (rcv t)) t.x t.y t.w t.h p q .none hR' (hM t ht') hpq) R2 (by decide) (by kernel_rfl)) e_none o_isNotNone (by kernel_rfl)),
     fun hpz => ?l2⟩
    case n1 => walk_at "jv"
    case a1 => walk_at "ja"
    case l2 =>
     change EVL (CX w g0 [] os (gl gens)) _ _ _ _ _ _ [.int (t.y + q), .int t.x, .int p, .int q, .obj v (rcv t)]
     refine' el_cons (a := .int (t.y + q)) ?l3 ?l4 (by kernel_rfl)
     case l3 => walk_at "jv"
     case l4 => walk_at "jL"
   case c5 =>
    intro D1 D2 h v a us ha hv hs
    refine E1A2 (List.mem_map.mp ha) fun t ht' hn4 => ?_; obtain rfl := hn4
    refine E5A2 (VRs.five hs) fun u0 u1 u2 u3 u4 hn5 hn6 => ?_; obtain rfl := hn5; refine A5 hn6 fun z0 z1 z2 z3 z4 => ?_; clear hn6
    have e4 : u4 = v := by cases z4; rfl
    subst e4
    exact .cons z0.int_any (.cons z1.int_any (.cons z2.int_any (.cons z3.int_any (.cons hv .nil))))
  case o2 =>
   refine' ⟨rfl, ?c0, ?c1, rfl, rfl, fun _ => by kernel_rfl, ?c2, ?c3, fun _ _ => by kernel_rfl, by decide, fun _ _ => lb (by kernel_rfl), ?c4, ?c5⟩
   case c0 => rfl
   case c1 => decide
   case c2 =>
    refine free_all ?_
    repeat' first | exact al0 | refine al (fun hk => ?_) ?_
    all_goals first | (exfalso; revert hk; exact (by decide)) | (cases hz; done) | skip
    all_goals refine ⟨.inl (by kernel_rfl), ⟨_, rfl⟩, ?_⟩
    all_goals first
     | exact Lent.inst (by walk_at "jm") hy (by walk_at "jm")
     | exact Lent.same (v := .int p) (by walk_at "jm") (by walk_at "jm")
     | exact Lent.same (v := .int q) (by walk_at "jm") (by walk_at "jm")
   case c3 => exact (closL_lookup [(".0", .local), ("m", .local), ("h", .free), ("self", .free), ("w", .free)] [] _ (by rfl) fun x c q => by exact J.ns q).1
   case c4 =>
    intro pg' C' code I' S' l' vs' gens P' A' mg v a R2 hva hmg
    refine E1A2 (List.mem_map.mp (List.of_mem_zip hva).2) fun t ht' hn7 => ?_; obtain rfl := hn7
    have hX' : (CX w g0 [] os (gl gens)).Ok := CX.ok hX
    have hI' : HasI noSt C bxn (bxl W H rot rl sf (ms.map rcv)) (.inst C bxn (bxl W H rot rl sf (ms.map rcv))) := .inst
    have hR' : HR noSt (.obj v (rcv t)) t.x t.y t.w t.h .none := .obj .inst
    have s1 : mg "self" = some (.inst C bxn (bxl W H rot rl sf (ms.map rcv))) := (hmg "self" (by rfl)).trans (by walk_at "jm")
    have s2 : mg "w" = some (.int p) := (hmg "w" (by rfl)).trans (by walk_at "jm")
    have s3 : mg "h" = some (.int q) := (hmg "h" (by rfl)).trans (by walk_at "jm")
    refine' ⟨ifs_one (X := CX w g0 [] os (gl gens)) (t_cmp (e_methN (n := 10) (k := 2) (g := fa) hX' hI' ?n1 hm (by kernel_rfl) hk ?a1 (hF [] (gl gens) noSt (.inst C bxn (bxl W H rot rl sf (ms.map rcv))) (.obj v (rcv t)) t.x t.y t.w t.h q p .none hR' (hM t ht') hqp) R2 (by decide) (by kernel_rfl)) e_none o_isNotNone (by kernel_rfl)),
     fun hpz => ?l2⟩
    case n1 => walk_at "jv"
    case a1 => walk_at "ja"
    case l2 =>
     change EVL (CX w g0 [] os (gl gens)) _ _ _ _ _ _ [.int (t.y + p), .int t.x, .int q, .int p, .obj v (rcv t)]
     refine' el_cons (a := .int (t.y + p)) ?l3 ?l4 (by kernel_rfl)
     case l3 => walk_at "jv"
     case l4 => walk_at "jL"
   case c5 =>
    intro D1 D2 h v a us ha hv hs
    refine E1A2 (List.mem_map.mp ha) fun t ht' hn8 => ?_; obtain rfl := hn8
    refine E5A2 (VRs.five hs) fun u0 u1 u2 u3 u4 hn9 hn10 => ?_; obtain rfl := hn9; refine A5 hn10 fun z0 z1 z2 z3 z4 => ?_; clear hn10
    have e4 : u4 = v := by cases z4; rfl
    subst e4
    exact .cons z0.int_any (.cons z1.int_any (.cons z2.int_any (.cons z3.int_any (.cons hv .nil))))
  case rest =>
   intro v₁ v₂
   rw [cand_listB]
   skip
   refine' x_cons (x_tryVE (n := 59) (C := (cand rot ms p q).map (candB) = []) hX (by kernel_rfl) (by decide) (hf (by decide)) R (fun s f => x_min hX R.handled (by kernel_rfl) ?jl (e_glob hX (by kernel_rfl)) (KeyC.of (n := 58) (key := keyA) ?hk1 R.in1) ?hT (by kernel_rfl) (by kernel_rfl) (fun _ => by kernel_rfl) s f) ?hh)
   case jl => walk_at "jL"
   case hk1 =>
    intro a ha
    refine E1A2 (List.mem_map.mp ha) fun c hc hn11 => ?_; obtain rfl := hn11
    exact (f_first hX).mono (by decide)
   case hT =>
    intro b hb hmin
    refine E1A2 (List.mem_map.mp hb) fun c hc hn12 => ?_; obtain rfl := hn12
    refine ⟨_, a_tup R.handled (as_cons (a_name (by kernel_rfl)) (as_cons (a_name (by kernel_rfl)) (as_cons (a_name (by kernel_rfl)) (as_cons (a_name (by kernel_rfl)) (as_cons (a_name (by kernel_rfl)) as_nil (by kernel_rfl)) (by kernel_rfl)) (by kernel_rfl)) (by kernel_rfl)) (by kernel_rfl)), ?_⟩
    dsimp only [id]
    refine A3 (cand_mem hc) fun hc1 hc2 hc3 => ?_
    have hcR : HR st (rcv c.1) c.1.x c.1.y c.1.w c.1.h .none := .inst
    refine' x_cons (x_ret (w_tupc (J.W.mono (e_rectT (x := c.1.x) (y := c.1.y) (a := c.2.1) (c := c.2.2) hX ?ra ?r1 ?r2 (by kernel_rfl) R (by decide)) ?rk) (by kernel_rfl)))
    case ra => walk_at "ja"
    case r1 => rcases hc3 with ⟨h, _⟩ | ⟨_, h, _⟩ <;> rw [h] <;> assumption
    case r2 => rcases hc3 with ⟨_, h⟩ | ⟨_, _, h⟩ <;> rw [h] <;> assumption
    case rk =>
     rintro b st' m' ⟨z, rfl, hz', rfl, rfl⟩
     refine ⟨[rcv c.1], ?_, lb (by kernel_rfl), ?_⟩
     ·walk_at "jL"
     ·exact ⟨some c, ⟨hc, fun c' hc' => hmin _ (List.mem_map_of_mem hc')⟩, z, hz', rfl, rfl⟩
   case hh =>
    intro hC' A' P'
    refine' x_cons (x_ret (WE.of (e_tup ?l3 (lb (by kernel_rfl))) ?q3))
    case l3 => walk_at "jL"
    case q3 => exact ⟨none, by simpa [Sel] using hC', rfl, rfl⟩
end
section
variable {w : World} {g0 : Heap} {tb : List (Addr × Addr × Array Value)} {os : OsState} {pg : List (Nat × GenState)} {st : AS} {P : PL} {A : Around} {env : Env} {m : AM}
noncomputable def SelOk (w : World) (g0 : Heap) (os : OsState) (tb : List (Addr × Addr × Array Value)) (C : Addr) (way : Nat) (sa : Addr) : Prop := ∀ pg st y rl W H p q rot sf ms, st y = some (.inst C bxn (bxl W H rot rl sf (ms.map rcv))) → ms.length + ms.length ≤ sizeLine → (∀ t ∈ ms, IntMulOk t.w t.h) → 0 ≤ p → 0 ≤ q → IntMulOk p q → IntMulOk q p →
 FN (CX w g0 tb os pg) 60 sa st [.ref y, .int p, .int q] (SelQ way rot ms p q st)
structure Way (w : World) (g0 : Heap) (os : OsState) (tb : List (Addr × Addr × Array Value)) (way : Nat) (C fa sa : Addr) : Prop where
 c : BoxC (K1 w.params) C
 f1 : methodAt (K1 w.params) C "_rect_fitness" fa = true
 f2 : keepIn (K1 w.params) (.ref fa) = true
 s1 : methodAt (K1 w.params) C "_select_position" sa = true
 s2 : keepIn (K1 w.params) (.ref sa) = true
 fit : FitOk w g0 os way fa
 sel : SelOk w g0 os tb C way sa
structure Tabs2 (tb : List (Addr × Addr × Array Value)) (p1 p2 : Array Value) : Prop where
 a : (345, 341, p1) ∈ tb
 b : (406, 402, p2) ∈ tb
 a' : ∀ t ∈ tb, t.2.1 = 341 → t = (345, 341, p1)
 b' : ∀ t ∈ tb, t.2.1 = 402 → t = (406, 402, p2)
theorem way0 {bm : Addr} {p1 p2 : Array Value} (hX : (CX w g0 tb os pg).Ok) (hb : BiOk (CX w g0 tb os pg) bm) (ht : Tabs2 tb p1 p2) : Way w g0 os tb 0 391 339 346 :=
 ⟨box0, by kernel_rfl, by kernel_rfl, by kernel_rfl, by kernel_rfl, fit0 hX, fun pg' st y rl W H p q rot sf ms hy hz hM h1 h2 h3 h4 => f_sel (CX.ok hX) box0 (by kernel_rfl) (by kernel_rfl) (fit0 hX) (by decide) hy hz hM (BiOk.mk hb.ns hb.ne hb.ob) ht.a ht.a' h1 h2 h3 h4⟩
theorem way1 {bm : Addr} {p1 p2 : Array Value} (hX : (CX w g0 tb os pg).Ok) (hb : BiOk (CX w g0 tb os pg) bm) (ht : Tabs2 tb p1 p2) : Way w g0 os tb 1 410 339 407 :=
 ⟨box1, by kernel_rfl, by kernel_rfl, by kernel_rfl, by kernel_rfl, fit1 hX, fun pg' st y rl W H p q rot sf ms hy hz hM h1 h2 h3 h4 => f_selB (CX.ok hX) box1 (by kernel_rfl) (by kernel_rfl) (fit1 hX) hy hz hM (BiOk.mk hb.ns hb.ne hb.ob) ht.b ht.b' h1 h2 h3 h4⟩
theorem way2 {bm : Addr} {p1 p2 : Array Value} (hX : (CX w g0 tb os pg).Ok) (hb : BiOk (CX w g0 tb os pg) bm) (ht : Tabs2 tb p1 p2) : Way w g0 os tb 2 429 426 346 :=
 ⟨box2, by kernel_rfl, by kernel_rfl, by kernel_rfl, by kernel_rfl, fit2 hX, fun pg' st y rl W H p q rot sf ms hy hz hM h1 h2 h3 h4 => f_sel (CX.ok hX) box2 (by kernel_rfl) (by kernel_rfl) (fit2 hX) (by decide) hy hz hM (BiOk.mk hb.ns hb.ne hb.ob) ht.a ht.a' h1 h2 h3 h4⟩
theorem way3 {bm : Addr} {p1 p2 : Array Value} (hX : (CX w g0 tb os pg).Ok) (hb : BiOk (CX w g0 tb os pg) bm) (ht : Tabs2 tb p1 p2) : Way w g0 os tb 3 448 445 346 :=
 ⟨box3, by kernel_rfl, by kernel_rfl, by kernel_rfl, by kernel_rfl, fit3 hX, fun pg' st y rl W H p q rot sf ms hy hz hM h1 h2 h3 h4 => f_sel (CX.ok hX) box3 (by kernel_rfl) (by kernel_rfl) (fit3 hX) (by decide) hy hz hM (BiOk.mk hb.ns hb.ne hb.ob) ht.a ht.a' h1 h2 h3 h4⟩
theorem way4 {bm : Addr} {p1 p2 : Array Value} (hX : (CX w g0 tb os pg).Ok) (hb : BiOk (CX w g0 tb os pg) bm) (ht : Tabs2 tb p1 p2) : Way w g0 os tb 4 467 464 346 :=
 ⟨box4, by kernel_rfl, by kernel_rfl, by kernel_rfl, by kernel_rfl, fit4 hX, fun pg' st y rl W H p q rot sf ms hy hz hM h1 h2 h3 h4 => f_sel (CX.ok hX) box4 (by kernel_rfl) (by kernel_rfl) (fit4 hX) (by decide) hy hz hM (BiOk.mk hb.ns hb.ne hb.ob) ht.a ht.a' h1 h2 h3 h4⟩
noncomputable abbrev plOf (x : Str) (xp : Pos) (env : Env) : Sem Bool := do return (← importBound (.Name x xp) env).getD true
theorem e_methW {X : Cx} {x : Str} {xp : Pos} {name : Str} {apos pos : Pos} {es : List Expr} {as : List AV} {C : Addr} {ns : List Str} {l : List AV} {b : AV} {g : Addr} {n k : Nat} {Q : AV → AS → Prop} (hX : X.Ok) (hb : HasI st C ns l b) (ho : EV X P A env st m (eval (.Name x xp) env) b)
 (hm : methodAt X.K C name g = true) (hh : ns.contains name = false) (hk : keepIn X.K (.ref g) = true) (ha : EVA X P A env st m es as) (h : FN X k g st (b :: as) Q) (R : Room n A P (locOf env)) (hn : k ≤ n)
 (he : eval (.Call (.Attribute (.Name x xp) name apos) es [] pos) env = (do
  let ov ← eval (.Name x xp) env
  standAt apos.atName
  let (f, first) ← holding [ov] (getMethod ov name (plOf x xp env))
  callWith pos f first (backTo pos (starEach es env)) (backToKw pos (keywordEach [] env)))) :
 WE X P A env st m (eval (.Call (.Attribute (.Name x xp) name apos) es [] pos) env) fun a st' m' => Q a st' ∧ m' = m := e_methI hX hb ho hm hh hk ha h (R.mono hn) he
theorem put_comm {st : AS} {y z : Addr} {a b : AO} (h : y ≠ z) : put (put st y a) z b = put (put st z b) y a := by
 funext d
 unfold put
 by_cases q : d = z
 ·rw [if_pos q, if_pos q, if_neg (fun e => h (e.symm.trans q))]
 ·rw [if_neg q, if_neg q]
end
section
variable {w : World} {g0 : Heap} {tb : List (Addr × Addr × Array Value)} {os : OsState} {pg : List (Nat × GenState)} {st : AS} {P : PL} {A : Around} {env : Env} {m : AM}
theorem f_resetP (hX : (CX w g0 tb os pg).Ok) {C y : Addr} {ns : List Str} {l : List AV} (hC : BoxC (K1 w.params) C) (hy : st y = some (.inst C ns l)) (hn : ns.length ≤ 900) :
 FN (CX w g0 tb os pg) 5 301 st [.ref y] fun v st' => v = .none ∧ ∃ rl, st rl = none ∧ st' = put (put st rl (.list [])) y (.inst C (putNs "rectangles" ns) (putVs "rectangles" (.ref rl) ns l)) := by
 refine FN.of (abinds := [("self", .ref y)]) hX.kin (by rfl) (by kernel_rfl) (fun P s vals g rv => binds1 (fun _ => by kernel_rfl) rv) rfl rfl rfl (by kernel_rfl) (by kernel_rfl) fun P A L R hf => ?_
 dsimp only [bindA]
 refine' x_cons (x_setattr hX (w_newlist fun rl hrl => ⟨?m1, ?_, x_nil ⟨rfl, rl, hrl, rfl⟩⟩) (by kernel_rfl) hC.s4 hn (by kernel_rfl))
 case m1 => walk_at "jm"
 rw [put_ne (fun e => by rw [e, hrl] at hy; exact J.ns hy)]; exact hy
theorem f_reset (hX : (CX w g0 tb os pg).Ok) {C y : Addr} {ns : List Str} {l : List AV} {W H : Int} (hC : BoxC (K1 w.params) C) (hy : st y = some (.inst C ns l)) (hn : ns.length ≤ 800) (hs : superOk (K1 w.params) C 391 301 "reset" = true) (hW : 0 ≤ W) (hH : 0 ≤ H)
 (h1 : ∀ r, ((putNs "rectangles" ns).zip (putVs "rectangles" r ns l)).lookup ("width" : Str) = some (.int W)) (h2 : ∀ r, ((putNs "rectangles" ns).zip (putVs "rectangles" r ns l)).lookup ("height" : Str) = some (.int H)) (h3 : (putNs "rectangles" ns).length ≤ 900) :
 FN (CX w g0 tb os pg) 10 388 st [.ref y] fun v st' => v = .none ∧ ∃ rl, st rl = none ∧ st' = put (put st rl (.list [])) y (.inst C (putNs "_max_rects" (putNs "rectangles" ns)) (putVs "_max_rects" (.lst [rc 0 0 W H .none]) (putNs "rectangles" ns) (putVs "rectangles" (.ref rl) ns l))) := by
 refine FN.ofX (β := Unit) (abinds := fun _ => [("self", .ref y)]) (PP := fun _ P => P = []) hX.kin (by rfl) (by kernel_rfl) ?_ rfl rfl rfl (fun _ => by kernel_rfl) (by kernel_rfl) ?_ fun P A L k P₁ pp R hf => ?_
 ·intro P A s vals G E g rv hk
  rcases rv with _ | ⟨r1, _ | _⟩
  exact (BindsTo.of_eq (s := s) (args := ⟨[_], []⟩) (by kernel_rfl)) _ _ _ _ (hk () [] _ s.heap s.toks (fun _ _ e => e) rfl (fun p hp => by exact J.mn hp) g (.cons r1 .nil))
 ·refine free_all ?_
  repeat' first | exact al0 | refine al (fun hk => ?_) ?_
  all_goals first
   | (exfalso; revert hk; exact (by decide))
   | exact ⟨319, _, _, _, _, by kernel_rfl, by rfl⟩
   | (cases hz; done)
   | (rename_i hz; cases hz; done)
 ·subst pp
  dsimp only [bindA, List.nil_append]
  refine' x_cons (x_expr (J.W.mono (e_super0 (n := 9) (k := 5) hX hy (by kernel_rfl) (ea (el_cons (e_glob hX (by kernel_rfl)) (el_cons ?v1 el_nil (by kernel_rfl)) (by kernel_rfl)) (by kernel_rfl) (by kernel_rfl)) hs (f_resetP hX hC hy (Nat.le_trans hn (by decide))) R (by decide) (by kernel_rfl)) ?k1) (by kernel_rfl) (by kernel_rfl))
  case v1 => walk_at "jv"
  case k1 =>
   intro b st' m' hr1; refine A2 hr1 fun hr2 hr3 => ?_; clear hr1; refine A2 hr2 fun hr4 hr5 => ?_; clear hr2; obtain rfl := hr4; refine E1A2 hr5 fun rl hrl hr6 => ?_; clear hr5; obtain rfl := hr6; obtain rfl := hr3
   refine ⟨rfl, ?_⟩
   have hI := HasI.ref (put_same (put st rl (.list [])) y (.inst C (putNs "rectangles" ns) (putVs "rectangles" (.ref rl) ns l)))
   have p1 := hC.a1
   have p2 := hC.a2
   refine' x_cons (x_setattr hX (WE.of (e_lst (el_cons (e_rect (x := 0) (y := 0) (a := W) (c := H) (n := 9) hX ?ar hW hH (by kernel_rfl) R (by decide)) el_nil (by kernel_rfl)) (lb (by kernel_rfl))) ⟨?m1, put_same _ _ _, x_nil ⟨rfl, rl, hrl, by rw [put_put]⟩⟩) (by kernel_rfl) hC.s7 h3 (by kernel_rfl))
   case ar =>
    refine' ea (el_cons e_int (el_cons e_int (el_cons (e_attrI hX hI ?w1 p1 (h1 _)) (el_cons (e_attrI hX hI ?w2 p2 (h2 _)) el_nil (by kernel_rfl)) (by kernel_rfl)) (by kernel_rfl)) (by kernel_rfl)) (by kernel_rfl) (by kernel_rfl)
    case w1 => walk_at "jv"
    case w2 => walk_at "jv"
   case m1 => walk_at "jm"
theorem bind_both {K : Frag} {fd : FuncData} {vals : List Value} {as : List AV} {front : List (Str × Value)} {fa : List (Str × AV)} {s : Shared} {X : Cx} {g₁ : Addr → Sem (List (Str × Value))} {g₂ : Addr → Addr → Sem (List (Str × Value))} {A : Around} {E : Value → Shared → Prop} {G : List (Str × Value) → Shared → Prop} {na nk : Str} (hX : X.Ok)
 (hp : peekA X.K ⟨X.prog, X.w.params⟩ (bindArgs fd ⟨vals, []⟩) = some (({ cls := .type "tuple", data := .seq #[] } : Obj), g₁)) (hp₂ : ∀ D, peekA X.K ⟨X.prog, X.w.params⟩ (g₁ D) = some (dict0, g₂ D))
 (hk₂ : ∀ C D, g₂ C D = pure (front ++ [(na, Value.ref C)] ++ [(nk, Value.ref D)])) (g : CRel X P st s) (rv : BR (D0 X st P) s.heap front fa)
 (hk : ∀ k P₁ binds h' tk, (∀ b o, s.heap.get? b = some o → h'.get? b = some o) → (P₁ = [(k, dict0)] ∧ (k == sysModules) = false) → (∀ p ∈ P₁, s.heap.get? p.1 = none) → CRel X (P₁ ++ P) st { s with heap := h', toks := tk } → BR (D0 X st (P₁ ++ P)) h' binds (fa ++ [(na, .tup [])] ++ [(nk, .ref k)]) → G binds { s with heap := h', toks := tk }) :
 wpAny (model X.prog X.w) A (bindArgs fd ⟨vals, []⟩) G E s := by
 refine wp_peekA (hX.kin.keeps g.base) _ _ hp ?_
 have k1 : ∀ b o, s.heap.get? b = some o → (s.heap.push ({ cls := .type "tuple", data := .seq #[] } : Obj)).get? b = some o := fun b o e => Heap.get?_push_of_some _ e
 have g1 : CRel X P st { s with heap := s.heap.push ({ cls := .type "tuple", data := .seq #[] } : Obj), toks := s.toks } := g.keeps k1
 refine wp_peekA (s := { s with heap := s.heap.push ({ cls := .type "tuple", data := .seq #[] } : Obj) }) (hX.kin.keeps g1.base) _ _ (hp₂ _) ?_
 rw [hk₂]
 have k2 : ∀ b o, (s.heap.push ({ cls := .type "tuple", data := .seq #[] } : Obj)).get? b = some o → ((s.heap.push ({ cls := .type "tuple", data := .seq #[] } : Obj)).push dict0).get? b = some o := fun b o e => Heap.get?_push_of_some _ e
 have sz : (s.heap.push ({ cls := .type "tuple", data := .seq #[] } : Obj)).objs.size = s.heap.objs.size + 1 := by rw [Heap.size_push]
 have g2 := CRel.addP (tk := s.toks) g1 k2 (s.heap.push ({ cls := .type "tuple", data := .seq #[] } : Obj)).objs.size dict0 (get_size _) (Heap.get?_push_at rfl rfl)
 have hfr : s.heap.get? (s.heap.push ({ cls := .type "tuple", data := .seq #[] } : Obj)).objs.size = none := get_ge (by rw [sz]; exact Nat.le_succ _)
 have nd : ∀ b o, s.heap.get? b = some o → ¬ D0 X st P b → ((s.heap.push ({ cls := .type "tuple", data := .seq #[] } : Obj)).push dict0).get? b = some o ∧ ¬ D0 X st ([((s.heap.push ({ cls := .type "tuple", data := .seq #[] } : Obj)).objs.size, dict0)] ++ P) b := fun b o e n => ⟨k2 b o (k1 b o e), fun d => by
  rcases d with d | d | d | d
  ·exact n (.inl d)
  ·rcases List.mem_cons.mp d with q | d
   ·have q : b = _ := q
    rw [q, hfr] at e; exact J.ns e
   ·exact n (.inr (.inl d))
  ·exact n (.inr (.inr (.inl d)))
  ·exact n (.inr (.inr (.inr d)))⟩
 refine wpAny_pure (hk (s.heap.push ({ cls := .type "tuple", data := .seq #[] } : Obj)).objs.size [((s.heap.push ({ cls := .type "tuple", data := .seq #[] } : Obj)).objs.size, dict0)] _ _ s.toks (fun b o e => k2 b o (k1 b o e)) ⟨rfl, ?_⟩ (fun p hp => ?_) g2 ?_)
 ·have hl := modules_low (g.nolim.keeps g.base)
  rw [sz]
  exact beq_eq_false_iff_ne.mpr (Nat.ne_of_gt (Nat.lt_succ_of_lt hl))
 ·rcases List.mem_singleton.mp hp with rfl
  exact hfr
 ·refine (BR.append (BR.append (rv.move nd) (.cons (.tup (fun d => ?_) ⟨_, k2 _ _ (Heap.get?_push_at rfl rfl), rfl, 0, rfl⟩ .nil) .nil)) (.cons (.ref _) .nil))
  rcases d with d | d | d | d
  ·obtain ⟨o, e⟩ := CRel.din g (.inl d)
   rw [get_size] at e; exact J.ns e
  ·rcases List.mem_cons.mp d with q | d
   ·have q : s.heap.objs.size = _ := q
    rw [sz] at q; exact absurd q (Nat.ne_of_lt (Nat.lt_succ_self _))
   ·obtain ⟨o, e⟩ := CRel.din g (.inr (.inl d)); rw [get_size] at e; exact J.ns e
  ·exact d
  ·obtain ⟨o, e⟩ := CRel.din g (.inr (.inr (.inr d))); rw [get_size] at e; exact J.ns e
noncomputable def BoxNew (C y : Addr) (W H : Int) (rot : Bool) (st st' : AS) : Prop := ∃ rl, st rl = none ∧ rl ≠ y ∧ st' = put (put st rl (.list [])) y (.inst C bxn (bxl W H rot rl (rc 0 0 W H .none) [rc 0 0 W H .none]))
theorem f_pinit (hX : (CX w g0 tb os pg).Ok) {C y : Addr} {W H : Int} {rot : Bool} (hC : BoxC (K1 w.params) C) (hs : superOk (K1 w.params) C 391 301 "reset" = true) (hW : 0 ≤ W) (hH : 0 ≤ H) (hy : st y = none) :
 FN (CX w g0 tb os pg) 20 222 (put st y (.inst C [] [])) [.ref y, .int W, .int H, .bool rot] fun v st' => v = .none ∧ BoxNew C y W H rot st st' := by
 refine FN.ofX (β := Addr) (abinds := fun k => ([("self", .ref y), ("width", .int W), ("height", .int H), ("rot", .bool rot), ("bid", .none)] : List (Str × AV)) ++ ([("args", .tup [])] : List (Str × AV)) ++ ([("kwargs", .ref k)] : List (Str × AV))) (PP := fun k P => P = [(k, dict0)] ∧ (k == sysModules) = false) hX.kin (by rfl) (by kernel_rfl) ?_ rfl rfl rfl (fun _ => by kernel_rfl) (by kernel_rfl) ?_ fun P A L k P₁ pp R hf => ?_
 ·intro P A s vals G E g rv hk
  rcases rv with _ | ⟨r1, _ | ⟨r2, _ | ⟨r3, _ | ⟨r4, _ | _⟩⟩⟩⟩
  exact bind_both (K := K1 w.params) (as := []) (na := "args") (nk := "kwargs") (front := [("self", _), ("width", _), ("height", _), ("rot", _), ("bid", .none)]) hX (by rfl) (fun _ => by rfl) (fun _ _ => by rfl) g (.cons r1 (.cons r2 (.cons r3 (.cons r4 (.cons .none .nil))))) hk
 ·refine free_all ?_
  repeat' first | exact al0 | refine al (fun hk => ?_) ?_
  all_goals first
   | (exfalso; revert hk; exact (by decide))
   | (exact J.mn hz; done)
   | (rename_i hz; cases hz; done)
 ·dsimp only [bindA, List.cons_append, List.nil_append]
  refine' x_cons (x_seti hX ?v1 (by walk_at "jm") ?k1 (by kernel_rfl) hC.s1 (by decide) (by kernel_rfl)); case v1 => walk_at "jv"
  refine' x_cons (x_seti hX ?v2 (by walk_at "jm") ?k2 (by kernel_rfl) hC.s2 (by decide) (by kernel_rfl)); case v2 => walk_at "jv"
  refine' x_cons (x_seti hX ?v3 (by walk_at "jm") ?k3 (by kernel_rfl) hC.s3 (by decide) (by kernel_rfl)); case v3 => walk_at "jv"
  refine' x_cons (x_setattr hX (w_newlist fun r0 hr0 => ⟨?m4, ?s4, ?k4⟩) (by kernel_rfl) hC.s4 ?n4 (by kernel_rfl))
  case m4 => walk_at "jm"
  case s4 =>
   have : y ≠ r0 := fun e => by rw [e, put_same] at hr0; exact J.sn hr0
   rw [put_ne this]; exact put_same _ _ _
  case n4 => exact lb (by rfl)
  case k4 =>
   have nyr : y ≠ r0 := fun e => by rw [e, put_same] at hr0; exact J.sn hr0
   have hr0' : st r0 = none := by rw [put_ne nyr.symm] at hr0; exact hr0
   rw [put_comm nyr, put_put]
   have hyS : put st r0 (.list []) y = none := by rw [put_ne nyr]; exact hy
   refine WX.forget r0 ?_
   refine' x_cons (x_seti hX ?v5 (by walk_at "jm") ?k5 (by kernel_rfl) hC.s5 (by decide) (by kernel_rfl)); case v5 => walk_at "jv"
   refine' x_cons (x_seti (b := rc 0 0 W H .none) hX ?v6 (by walk_at "jm") ?k6 (by kernel_rfl) hC.s6 (by decide) (by kernel_rfl))
   case v6 =>
    refine' e_rect (x := 0) (y := 0) (a := W) (c := H) (n := 19) hX ?ar hW hH (by kernel_rfl) R (by decide)
    case ar => walk_at "ja"
   case k6 =>
    have hI := HasI.ref (put_same (put st r0 (.list [])) y (.inst C ["width", "height", "rot", "rectangles", "bid", "_surface"] [.int W, .int H, .bool rot, .ref r0, .none, rc 0 0 W H .none]))
    refine' x_cons (x_expr (J.W.mono (e_methW (n := 19) (k := 10) hX hI ?o7 hC.m6 (by kernel_rfl) (by kernel_rfl) ?a7 (f_reset hX hC (put_same _ _ _) (by decide) hs hW hH (fun _ => by rfl) (fun _ => by rfl) (by decide)) R (by decide) (by kernel_rfl)) ?k7) (by kernel_rfl) (by kernel_rfl))
    case o7 => walk_at "jv"
    case a7 => walk_at "ja"
    case k7 =>
     intro b st' m' hr7; refine A2 hr7 fun hr8 hr9 => ?_; clear hr7; refine A2 hr8 fun hr10 hr11 => ?_; clear hr8; obtain rfl := hr10; refine E1A2 hr11 fun rl hrl hr12 => ?_; clear hr11; obtain rfl := hr12; obtain rfl := hr9
     have n1 : y ≠ rl := fun e => by rw [e, put_same] at hrl; exact J.sn hrl
     rw [put_ne n1.symm] at hrl
     have n2 : rl ≠ r0 := fun e => by rw [e, put_same] at hrl; exact J.sn hrl
     rw [put_ne n2] at hrl
     refine ⟨rfl, x_nil ⟨rfl, rl, hrl, n1.symm, ?_⟩⟩
     rw [put_comm n1, put_put]
     funext d
     unfold drop put
     by_cases q1 : d = r0
     ·subst q1; rw [if_pos rfl, if_neg nyr.symm, if_neg n2.symm, hr0']
     ·rw [if_neg q1]
      by_cases q2 : d = y
      ·rw [if_pos q2, if_pos q2]; rfl
      ·rw [if_neg q2, if_neg q2, if_neg q1]
theorem f_binit (hX : (CX w g0 tb os pg).Ok) {C y : Addr} {W H : Int} {rot : Bool} (hC : BoxC (K1 w.params) C) (hs : superOk (K1 w.params) C 391 301 "reset" = true) (hs' : superOk (K1 w.params) C 391 222 "__init__" = true) (hW : 0 ≤ W) (hH : 0 ≤ H) (hy : st y = none) :
 FN (CX w g0 tb os pg) 30 332 (put st y (.inst C [] [])) [.ref y, .int W, .int H, .bool rot] fun v st' => v = .none ∧ BoxNew C y W H rot st st' := by
 refine FN.ofX (β := Addr) (abinds := fun k => ([("self", .ref y), ("width", .int W), ("height", .int H), ("rot", .bool rot)] : List (Str × AV)) ++ ([("args", .tup [])] : List (Str × AV)) ++ ([("kwargs", .ref k)] : List (Str × AV))) (PP := fun k P => P = [(k, dict0)] ∧ (k == sysModules) = false) hX.kin (by rfl) (by kernel_rfl) ?_ rfl rfl rfl (fun _ => by kernel_rfl) (by kernel_rfl) ?_ fun P A L k P₁ pp R hf => ?_
 ·intro P A s vals G E g rv hk
  rcases rv with _ | ⟨r1, _ | ⟨r2, _ | ⟨r3, _ | ⟨r4, _ | _⟩⟩⟩⟩
  exact bind_both (K := K1 w.params) (as := []) (na := "args") (nk := "kwargs") (front := [("self", _), ("width", _), ("height", _), ("rot", _)]) hX (by rfl) (fun _ => by rfl) (fun _ _ => by rfl) g (.cons r1 (.cons r2 (.cons r3 (.cons r4 .nil)))) hk
 ·refine free_all ?_
  repeat' first | exact al0 | refine al (fun hk => ?_) ?_
  all_goals first
   | (exfalso; revert hk; exact (by decide))
   | (exact J.mn hz; done)
   | exact ⟨319, _, _, _, _, by rfl, by rfl⟩
   | (rename_i hz; cases hz; done)
 ·dsimp only [bindA, List.cons_append, List.nil_append]
  refine' x_cons (x_expr (J.W.mono (e_superS (n := 29) (k := 20) (kd := k) hX (put_same st y (.inst C [] [])) (by kernel_rfl) (ea (el_cons (e_glob hX (by kernel_rfl)) (el_cons ?v1 el_nil (by kernel_rfl)) (by kernel_rfl)) (by kernel_rfl) (by kernel_rfl)) hs' ?e1 ?e2 ?e3 ?e4 ?e5 (by rw [pp.1]; exact .head _) pp.2 (f_pinit hX hC hs hW hH hy) R (by decide) (by kernel_rfl) (by kernel_rfl)) ?k1) (by kernel_rfl) (by kernel_rfl))
  case v1 => walk_at "jv"
  case e1 => walk_at "jv"
  case e2 => walk_at "jv"
  case e3 => walk_at "jv"
  case e4 => walk_at "jv"
  case e5 => walk_at "jv"
  case k1 =>
   intro b st' m' hr13; refine A2 hr13 fun hr14 hr15 => ?_; clear hr13; refine A2 hr14 fun hr16 hb => ?_; clear hr14; obtain rfl := hr16; obtain rfl := hr15
   exact ⟨rfl, x_nil ⟨rfl, hb⟩⟩
end
section
variable {w : World} {g0 : Heap} {tb : List (Addr × Addr × Array Value)} {os : OsState} {pg : List (Nat × GenState)} {st : AS} {P : PL} {A : Around} {env : Env} {m : AM}
noncomputable abbrev rowO (p : Rt × Option Int) : List (Option Int) := [some p.1.x, some p.1.y, some p.1.w, some p.1.h, p.2]
noncomputable abbrev AtRect (st : AS) (p : Addr × Rt × Option Int) : Prop := st p.1 = some (.inst 203 rcn (rcl p.2.1.x p.2.1.y p.2.1.w p.2.1.h (aO p.2.2)))
theorem f_rlist (hX : (CX w g0 tb os pg).Ok) {C y rl : Addr} {W H : Int} {rot : Bool} {sf : AV} {ms : List Rt} {ps : List (Addr × Rt × Option Int)} (hC : BoxC (K1 w.params) C) (hit : findIn (K1 w.params) (.ref C) "__iter__" = some (some (.ref 236)))
 (hy : st y = some (.inst C bxn (bxl W H rot rl sf (ms.map rcv)))) (hrl : st rl = some (.list ((ps.map (·.1)).map .ref))) (hps : ∀ p ∈ ps, AtRect st p) (hz : ps.length ≤ sizeLine) :
 FN (CX w g0 tb os pg) 20 280 st [.ref y] fun v st' => v = LO (ps.map fun p => rowO p.2) ∧ st' = st := by
 refine FN.of (abinds := [("self", .ref y)]) hX.kin (by rfl) (by kernel_rfl) (fun P s vals g rv => binds1 (fun _ => by kernel_rfl) rv) rfl rfl rfl (by kernel_rfl) (by kernel_rfl) fun P A L R hf => ?_
 dsimp only [bindA]
 refine x_cons (x_set (w_newlist fun z hz' => ?_) (by kernel_rfl) (by kernel_rfl))
 have nyz : y ≠ z := fun q => by rw [q, hz'] at hy; exact J.ns hy
 have nrz : rl ≠ z := fun q => by rw [q, hz'] at hrl; exact J.ns hrl
 have hy0 : put st z (.list []) y = some (.inst C bxn (bxl W H rot rl sf (ms.map rcv))) := by rw [put_ne nyz]; exact hy
 have hrl0 : ∀ o, put st z o rl = some (.list ((ps.map (·.1)).map .ref)) := fun o => by rw [put_ne nrz]; exact hrl
 have npz : ∀ p ∈ ps, p.1 ≠ z := fun p hp q => by have := hps p hp; unfold AtRect at this; rw [q, hz'] at this; exact J.ns this
 refine' x_cons (x_for_gf (fa := 236) (zs := ps.map (·.1)) hX R ?v1 (fun _ => by kernel_rfl) hy0 (hrl0 _) (by walk_at "jl") hC.a4 hit (by kernel_rfl) (by rfl) (by kernel_rfl) (fun _ => by kernel_rfl) rfl rfl rfl (by rfl) (by rfl) (by kernel_rfl) (by decide) (by decide) (fun _ => by kernel_rfl) (fun _ _ => by kernel_rfl)
  (fun i st' m' => st' = put st z (.list ((ps.take i).map fun p => tO (rowO p.2))) ∧ m' "self" = some (.ref y) ∧ m' "rectangle_list" = some (.ref z)) ⟨rfl, ?j1, ?j2⟩ (fun i st' m' h => by rw [h.1]; exact hrl0 _) ?turn ?done)
 case v1 => walk_at "jv"
 case j1 => walk_at "jm"
 case j2 => walk_at "jm"
 case turn =>
  intro pg' P' i q st' m' hP hi hr1; refine A3 hr1 fun e1 h1 h2 => ?_; clear hr1
  obtain ⟨p, hp, rfl⟩ : ∃ p, ps[i]? = some p ∧ p.1 = q := by
   rw [List.getElem?_map] at hi
   cases e : ps[i]? with
   | none => rw [e] at hi; exact J.ns hi
   | some p => rw [e] at hi; revert hi; refine J.sse ?_; rintro rfl; exact ⟨p, rfl, rfl⟩
  have hX' := CX.ok (pg' := pg') (tb' := tb) hX
  refine ⟨_, a_name (by kernel_rfl), ?_⟩
  subst e1
  have hpm := List.mem_of_getElem? hp
  have hpr : HR (put st z (.list ((ps.take i).map fun p => tO (rowO p.2)))) (.ref p.1) p.2.1.x p.2.1.y p.2.1.w p.2.1.h (aO p.2.2) := .ref (by rw [put_ne (npz p hpm)]; exact hps p hpm)
  have hil : i < ps.length := by
   refine O2 (Nat.lt_or_ge i ps.length) (fun h => ?_) (fun h => ?_)
   ·exact h
   ·rw [List.getElem?_eq_none_iff.mpr h] at hp; exact J.ns hp
  change WX (CX w g0 tb os pg') P' A _ _ _ _ _
  refine' x_app (r := tO (rowO p.2)) ?x3 ?l3 (e_tup (as := [.int p.2.1.x, .int p.2.1.y, .int p.2.1.w, .int p.2.1.h, aO p.2.2]) ?v3 (lb (by kernel_rfl))) (by kernel_rfl) (by kernel_rfl) (by kernel_rfl) (by kernel_rfl) ?k3
  case x3 => walk_at "jv"
  case l3 => rw [List.length_map, List.length_take]; lia
  case v3 => walk_at "jL"
  case k3 =>
   refine x_nil ⟨?_, by walk_at "jm", by walk_at "jm"⟩
   rw [List.take_add_one, hp]; simp
 case done =>
  intro st' m' hr2; refine A3 hr2 fun e1 h1 h2 => ?_; clear hr2
  subst e1
  refine x_cons (x_ret (WE.freeze (WE.of (a := .ref z) (by walk_at "jv") ⟨z, _, rfl, put_same _ _ _, ?_⟩)))
  refine ⟨?_, drop_put hz'⟩
  rw [List.length_map, List.take_length]
  show AV.lst _ = AV.lst _
  rw [List.map_map]; rfl
end
section
variable {w : World} {g0 : Heap} {tb : List (Addr × Addr × Array Value)} {os : OsState} {pg : List (Nat × GenState)} {st : AS} {P : PL} {A : Around} {env : Env} {m : AM}
noncomputable def lside (k s : Int) : Int := if k < 0 then 1 + (if k < 0 then -k else k).fmod (s + 1) else 1 + k.fmod (s.fdiv 2 + 1)
theorem pylong2 (i : Int) : Builtin.divisionGoesByPylong i 2 = false := by rfl
theorem pylong5 (i : Int) : Builtin.divisionGoesByPylong i 5 = false := by rfl
theorem f_side (hX : (CX w g0 tb os pg).Ok) {k s : Int} (hs : 0 ≤ s) : FNv (CX w g0 tb os pg) 3 476 st [.int k, .int s] (.int (lside k s)) := by
 refine FN.of (abinds := [("number", .int k), ("side", .int s)]) hX.kin (by rfl) (by kernel_rfl) (fun P s vals g rv => binds2 (fun _ _ => by kernel_rfl) rv) rfl rfl rfl (by kernel_rfl) (by kernel_rfl) fun P A L R hf => ?_
 dsimp only [bindA]
 have h2 : 0 ≤ s.fdiv 2 := Int.fdiv_nonneg hs (by decide)
 refine' x_cons (x_ret (WE.of (e_if (b := decide (k < 0)) ?t ?h1 ?h2) ?q))
 case t => walk_at "jt"
 case h1 =>
  intro _
  refine' e_bin e_int (e_bin (w_blt hX (v := .builtin "abs") (as := [.int k]) (by kernel_rfl) ?a1 b_abs (.inl ⟨_, rfl⟩)) ?s1 (o_mod (j := s + 1) (by lia))) o_add
  case a1 => walk_at "ja"
  case s1 => walk_at "jv"
 case h2 =>
  intro _
  refine' e_bin e_int (e_bin ?n1 (e_bin (e_bin ?s2 e_int (o_fdiv (i := s) (j := 2) (by decide) (pylong2 _))) e_int o_add) (o_mod (j := s.fdiv 2 + 1) (by lia))) o_add
  case n1 => walk_at "jv"
  case s2 => walk_at "jv"
 case q =>
  refine ⟨?_, rfl⟩
  unfold lside
  by_cases h : k < 0 <;> simp [h]
noncomputable def wayC (k : Nat) : Addr := match k with | 0 => 391 | 1 => 410 | 2 => 429 | 3 => 448 | _ => 467
theorem e_box (hX : (CX w g0 tb os pg).Ok) {n : Nat} {es : List Expr} {x : Str} {xp pos : Pos} {W H : Int} {rot : Bool} {C : Addr} (ha : EVA (CX w g0 tb os pg) P A env st m es [.int W, .int H, .bool rot]) (h1 : 0 ≤ W) (h2 : 0 ≤ H) (hg : globAt (K1 w.params) env x (.ref C) = true) (hk : keepIn (K1 w.params) (.ref C) = true) (hn : newOk (K1 w.params) C 332 = true)
 (hC : BoxC (K1 w.params) C) (hs : superOk (K1 w.params) C 391 301 "reset" = true) (hs' : superOk (K1 w.params) C 391 222 "__init__" = true) (R : Room n A P (locOf env)) (hn' : 31 ≤ n) :
 WE (CX w g0 tb os pg) P A env st m (eval (.Call (.Name x xp) es [] pos) env) fun b st' m' => ∃ z, b = .ref z ∧ st z = none ∧ BoxNew C z W H rot st st' ∧ m' = m :=
 e_new (n := 30) (Q := fun z st' => BoxNew C z W H rot st st') hX hg hk ha hn (fun z hz => f_binit hX hC hs hs' h1 h2 hz) (R.mono hn')
theorem f_box (hX : (CX w g0 tb os pg).Ok) {k : Nat} {W H : Int} {rot : Bool} (hk : k < 5) (h1 : 0 ≤ W) (h2 : 0 ≤ H) :
 FN (CX w g0 tb os pg) 40 500 st [.int k, .int W, .int H, .bool rot] fun v st' => ∃ z, v = .ref z ∧ st z = none ∧ BoxNew (wayC k) z W H rot st st' := by
 refine FN.of (abinds := [("way", .int k), ("width", .int W), ("height", .int H), ("rot", .bool rot)]) hX.kin (by rfl) (by kernel_rfl) (fun P s vals g rv => binds4 (fun _ _ _ _ => by kernel_rfl) rv) rfl rfl rfl (by kernel_rfl) (by kernel_rfl) fun P A L R hf => ?_
 dsimp only [bindA]
 refine' x_cons (x_if (b := (k : Int) == 0) ?t0 (fun h => x_cons (x_ret (J.W.mono (e_box (C := 391) hX ?a0 h1 h2 (by kernel_rfl) (by kernel_rfl) (by kernel_rfl) box0 (by kernel_rfl) (by kernel_rfl) R (by decide)) ?q0))) fun n0 => x_nil ?k0)
 case t0 => walk_at "jt"
 case a0 => walk_at "ja"
 case q0 =>
  have : k = 0 := by have := eq_of_beq h; lia
  subst this
  exact fun b st' m' ⟨z, e1, e2, e3, e4⟩ => ⟨z, e1, e2, e3⟩
 case k0 =>
  refine' x_cons (x_if (b := (k : Int) == 1) ?t1 (fun h => x_cons (x_ret (J.W.mono (e_box (C := 410) hX ?a1 h1 h2 (by kernel_rfl) (by kernel_rfl) (by kernel_rfl) box1 (by kernel_rfl) (by kernel_rfl) R (by decide)) ?q1))) fun n1 => x_nil ?k1)
  case t1 => walk_at "jt"
  case a1 => walk_at "ja"
  case q1 =>
   have : k = 1 := by have := eq_of_beq h; lia
   subst this
   exact fun b st' m' ⟨z, e1, e2, e3, e4⟩ => ⟨z, e1, e2, e3⟩
  case k1 =>
   refine' x_cons (x_if (b := (k : Int) == 2) ?t2 (fun h => x_cons (x_ret (J.W.mono (e_box (C := 429) hX ?a2 h1 h2 (by kernel_rfl) (by kernel_rfl) (by kernel_rfl) box2 (by kernel_rfl) (by kernel_rfl) R (by decide)) ?q2))) fun n2 => x_nil ?k2)
   case t2 => walk_at "jt"
   case a2 => walk_at "ja"
   case q2 =>
    have : k = 2 := by have := eq_of_beq h; lia
    subst this
    exact fun b st' m' ⟨z, e1, e2, e3, e4⟩ => ⟨z, e1, e2, e3⟩
   case k2 =>
    refine' x_cons (x_if (b := (k : Int) == 3) ?t3 (fun h => x_cons (x_ret (J.W.mono (e_box (C := 448) hX ?a3 h1 h2 (by kernel_rfl) (by kernel_rfl) (by kernel_rfl) box3 (by kernel_rfl) (by kernel_rfl) R (by decide)) ?q3))) fun n3 => x_nil ?k3)
    case t3 => walk_at "jt"
    case a3 => walk_at "ja"
    case q3 =>
     have : k = 3 := by have := eq_of_beq h; lia
     subst this
     exact fun b st' m' ⟨z, e1, e2, e3, e4⟩ => ⟨z, e1, e2, e3⟩
    case k3 =>
     refine' x_cons (x_ret (J.W.mono (e_box (C := 467) hX ?a4 h1 h2 (by kernel_rfl) (by kernel_rfl) (by kernel_rfl) box4 (by kernel_rfl) (by kernel_rfl) R (by decide)) ?q4))
     case a4 => walk_at "ja"
     case q4 =>
      have : k = 4 := by
       have q0 := ne_of_beq_false n0; have q1 := ne_of_beq_false n1; have q2 := ne_of_beq_false n2; have q3 := ne_of_beq_false n3
       lia
      subst this
      exact fun b st' m' ⟨z, e1, e2, e3, e4⟩ => ⟨z, e1, e2, e3⟩
end
section
variable {w : World} {g0 : Heap} {tb : List (Addr × Addr × Array Value)} {os : OsState} {pg : List (Nat × GenState)} {st : AS} {P : PL} {A : Around} {env : Env} {m : AM}
noncomputable abbrev rowR (t : Rt) : AV := .tup [.int t.x, .int t.y, .int t.w, .int t.h]
noncomputable def inBin (t : Rt) (W H : Int) : Bool := !(decide (t.x < 0) || (decide (t.y < 0) || (decide (W < t.x + t.w) || (decide (H < t.y + t.h) || false))))
noncomputable def crossB (t q : Rt) : Bool := decide (t.x < q.x + q.w) && (decide (q.x < t.x + t.w) && (decide (t.y < q.y + q.h) && (decide (q.y < t.y + t.h) && true)))
noncomputable def lies (t : Rt) (ps : List Rt) (W H : Int) : Bool := inBin t W H && ps.all fun q => !crossB t q
theorem map_at {α β : Type} {f : α → β} {l : List α} {i : Nat} {b : β} (h : (l.map f)[i]? = some b) : ∃ a, l[i]? = some a ∧ f a = b := by
 rw [List.getElem?_map] at h
 cases e : l[i]? with
 | none => rw [e] at h; exact J.ns h
 | some a => rw [e] at h; revert h; refine J.sse ?_; rintro rfl; exact ⟨a, rfl, rfl⟩
theorem all_take {α : Type} {p : α → Bool} {l : List α} {i : Nat} {a : α} (h : (l.take i).all p = true) (ha : l[i]? = some a) (hp : p a = true) : (l.take (i + 1)).all p = true := by
 rw [List.take_add_one, ha]; simp [List.all_append, h, hp]
theorem f_lies (hX : (CX w g0 tb os pg).Ok) {t : Rt} {b : AV} {ps : List Rt} {W H : Int} (hb : IsL st b (ps.map rowR)) :
 FNv (CX w g0 tb os pg) 5 483 st [rowR t, b, .int W, .int H] (.bool (lies t ps W H)) := by
 refine FN.of (abinds := [("one", rowR t), ("placed", b), ("width", .int W), ("height", .int H)]) hX.kin (by rfl) (by kernel_rfl) (fun P s vals g rv => binds4 (fun _ _ _ _ => by kernel_rfl) rv) rfl rfl rfl (by kernel_rfl) (by kernel_rfl) fun P A L R hf => ?_
 dsimp only [bindA]
 refine' x_cons (x_assignT (WE.of (a := rowR t) ?v1 ⟨_, a_tup R.handled (as_cons (a_name (by kernel_rfl)) (as_cons (a_name (by kernel_rfl)) (as_cons (a_name (by kernel_rfl)) (as_cons (a_name (by kernel_rfl)) as_nil (by kernel_rfl)) (by kernel_rfl)) (by kernel_rfl)) (by kernel_rfl)), ?k1⟩) (by kernel_rfl) (by kernel_rfl))
 case v1 => walk_at "jv"
 case k1 =>
  dsimp only [id]
  refine' x_cons (x_if (b := !inBin t W H) ?t1 (fun h => x_cons (x_ret (WE.of e_bool ⟨?q1, rfl⟩))) fun h => x_nil ?k2)
  case t1 =>
   unfold inBin
   rw [Bool.not_not]
   walk_at "jt"
  case q1 =>
   unfold lies
   have : inBin t W H = false := by simpa using h
   rw [this]; rfl
  case k2 =>
   have hin : inBin t W H = true := by simpa using h
   refine' x_cons (x_forL (b := b) (xs := ps.map rowR) R.handled ?v2 hb (fun _ => by kernel_rfl) (fun i st' m' => st' = st ∧ (ps.take i).all (fun q => !crossB t q) = true ∧ m' "x" = some (.int t.x) ∧ m' "y" = some (.int t.y) ∧ m' "w" = some (.int t.w) ∧ m' "h" = some (.int t.h)) ⟨rfl, rfl, ?j1, ?j2, ?j3, ?j4⟩ (fun i st' m' h => h.1 ▸ hb) ?turn ?done)
   case v2 => walk_at "jv"
   case j1 => walk_at "jm"
   case j2 => walk_at "jm"
   case j3 => walk_at "jm"
   case j4 => walk_at "jm"
   case turn =>
    intro P' i a st' m' hP hi hr1; refine A2 hr1 fun hr2 hr3 => ?_; clear hr1; obtain rfl := hr2; refine A5 hr3 fun hall h1 h2 h3 h4 => ?_; clear hr3
    refine E1A2 (map_at hi) fun q hq hn1 => ?_; obtain rfl := hn1
    refine ⟨_, a_tup R.handled (as_cons (a_name (by kernel_rfl)) (as_cons (a_name (by kernel_rfl)) (as_cons (a_name (by kernel_rfl)) (as_cons (a_name (by kernel_rfl)) as_nil (by kernel_rfl)) (by kernel_rfl)) (by kernel_rfl)) (by kernel_rfl)), ?_⟩
    dsimp only [id]
    refine' x_cons (x_if (b := crossB t q) ?t3 (fun h => x_cons (x_ret (WE.of e_bool ⟨?q3, rfl⟩))) fun h => x_nil (x_nil ⟨rfl, ?a4, ?m1, ?m2, ?m3, ?m4⟩))
    case t3 =>
     unfold crossB
     walk_at "jt"
    case q3 =>
     unfold lies
     have : (ps.all fun q => !crossB t q) = false := by
      rw [List.all_eq_false]
      exact ⟨q, List.mem_of_getElem? hq, by rw [h]; decide⟩
     rw [this, Bool.and_false]
    case a4 => exact all_take hall hq (by rw [h]; rfl)
    case m1 => walk_at "jm"
    case m2 => walk_at "jm"
    case m3 => walk_at "jm"
    case m4 => walk_at "jm"
   case done =>
    intro st' m' hr4; refine A2 hr4 fun hr5 hr6 => ?_; clear hr4; obtain rfl := hr5; refine A2 hr6 fun hall _ => ?_; clear hr6
    rw [List.length_map, List.take_length] at hall
    exact x_cons (x_ret (WE.of e_bool ⟨by unfold lies; rw [hin, hall]; rfl, rfl⟩))
end
section
variable {w : World} {g0 : Heap} {tb : List (Addr × Addr × Array Value)} {os : OsState} {pg : List (Nat × GenState)} {st : AS} {P : PL} {A : Around} {env : Env} {m : AM}
noncomputable def rtR : AV → Rt | .tup [.int x, .int y, .int w, .int h] => ⟨x, y, w, h⟩ | _ => r0
theorem fm_filter (c : Rt → Bool) (r : Rt → AV) (ps : List Rt) : ((ps.map rowR).flatMap fun a => if c (rtR a) then [r (rtR a)] else []) = (ps.filter c).map r := by
 rw [List.flatMap_map, filter_fm, List.map_flatMap]
 refine congrArg (fun f => List.flatMap f ps) (funext fun t => ?_)
 show (if c t then [r t] else []) = List.map r (if c t then [t] else [])
 cases c t <;> rfl
theorem fm_map (r : Rt → AV) (ps : List Rt) : ((ps.map rowR).flatMap fun a => [r (rtR a)]) = ps.map r := by
 rw [List.flatMap_map, List.map_eq_flatMap]; rfl
theorem srt_perm (L : List (List Int)) : (srt L).Perm L := by
 unfold srt
 split
 ·rename_i h; exact (Classical.choose_spec h).1
 ·exact List.Perm.refl _
end
section
noncomputable abbrev Rt.pos (t : Rt) : Prop := 0 < t.w ∧ 0 < t.h
noncomputable def Rt.off (t q : Rt) : Prop := q.x + q.w ≤ t.x ∨ t.x + t.w ≤ q.x ∨ q.y + q.h ≤ t.y ∨ t.y + t.h ≤ q.y
noncomputable abbrev Rt.inb (t : Rt) (W H : Int) : Prop := 0 ≤ t.x ∧ 0 ≤ t.y ∧ t.x + t.w ≤ W ∧ t.y + t.h ≤ H
theorem Rt.off_symm {t q : Rt} (h : t.off q) : q.off t := by unfold Rt.off at *; lia
theorem has_iff {t r : Rt} : t.has r = true ↔ t.y ≤ r.y ∧ t.x ≤ r.x ∧ r.y + r.h ≤ t.y + t.h ∧ r.x + r.w ≤ t.x + t.w := by
 unfold Rt.has; simp only [Bool.and_eq_true, decide_eq_true_eq]
theorem meet_iff {t r : Rt} : t.meet r = true ↔ ¬ t.off r := by
 unfold Rt.meet Meet Rt.off
 simp only [Bool.not_eq_true', Bool.or_eq_false_iff, decide_eq_false_iff_not, and_true, not_or]
 exact ⟨fun h => ⟨h.2.2.1, h.2.2.2, h.1, h.2.1⟩, fun h => ⟨h.2.2.1, h.2.2.2, h.1, h.2.1⟩⟩
theorem Rt.ext' {t q : Rt} (h1 : t.x = q.x) (h2 : t.y = q.y) (h3 : t.w = q.w) (h4 : t.h = q.h) : t = q := by
 cases t; cases q; simp_all
theorem same_iff {c q : Rt} : c.same q = true ↔ c = q := by
 unfold Rt.same Same
 simp only [Bool.and_eq_true, decide_eq_true_eq]
 constructor
 ·intro hr1; refine A4 hr1 fun h1 h2 h3 h4 => ?_; clear hr1; exact Rt.ext' h3 h4 h1 h2
 ·rintro rfl; exact ⟨rfl, rfl, rfl, rfl⟩
theorem has_refl (t : Rt) : t.has t = true := has_iff.mpr ⟨Int.le_refl _, Int.le_refl _, Int.le_refl _, Int.le_refl _⟩
theorem has_trans {a b c : Rt} (h : a.has b = true) (h' : b.has c = true) : a.has c = true := by
 rw [has_iff] at *
 exact ⟨Int.le_trans h.1 h'.1, Int.le_trans h.2.1 h'.2.1, Int.le_trans h'.2.2.1 h.2.2.1, Int.le_trans h'.2.2.2 h.2.2.2⟩
theorem has_anti {a b : Rt} (h : a.has b = true) (h' : b.has a = true) : a = b := by
 rw [has_iff] at *; exact Rt.ext' (Int.le_antisymm h.2.1 h'.2.1) (Int.le_antisymm h.1 h'.1) (by lia) (by lia)
theorem has_size {a b : Rt} (h : a.has b = true) (n : a ≠ b) : b.w + b.h < a.w + a.h := by
 by_cases q : b.w + b.h < a.w + a.h
 ·exact q
 ·exfalso
  rw [has_iff] at h
  exact n (Rt.ext' (by lia) (by lia) (by lia) (by lia))
theorem has_off {a b q : Rt} (h : a.has b = true) (o : a.off q) : b.off q := by
 rw [has_iff] at h
 exact o.elim (fun o => .inl (Int.le_trans o h.2.1)) fun o => o.elim (fun o => .inr (.inl (Int.le_trans h.2.2.2 o))) fun o => o.elim (fun o => .inr (.inr (.inl (Int.le_trans o h.1)))) fun o => .inr (.inr (.inr (Int.le_trans h.2.2.1 o)))
theorem fits_iff {t : Rt} {p q : Int} : t.fits p q = true ↔ p ≤ t.w ∧ q ≤ t.h := by
 unfold Rt.fits; simp only [Bool.and_eq_true, decide_eq_true_eq]
theorem mem_split {t r e : Rt} : e ∈ t.split r ↔ (t.x < r.x ∧ e = ⟨t.x, t.y, r.x - t.x, t.h⟩) ∨ (r.x + r.w < t.x + t.w ∧ e = ⟨r.x + r.w, t.y, t.x + t.w - (r.x + r.w), t.h⟩) ∨ (r.y + r.h < t.y + t.h ∧ e = ⟨t.x, r.y + r.h, t.w, t.y + t.h - (r.y + r.h)⟩) ∨ (t.y < r.y ∧ e = ⟨t.x, t.y, t.w, r.y - t.y⟩) := by
 unfold Rt.split
 have one : ∀ (b : Prop) [Decidable b] (q : Rt), (e ∈ if decide b then [q] else []) ↔ b ∧ e = q := fun b _ q => by
  by_cases h : b <;> simp [h]
 simp only [List.mem_append, one, List.not_mem_nil, false_or, or_assoc, gt_iff_lt]
noncomputable def Anti (ms : List Rt) : Prop := ms.Pairwise fun a b => a.has b = false ∧ b.has a = false
theorem Anti.nodup {ms : List Rt} (h : Anti ms) : ms.Nodup := List.Pairwise.imp (fun {a b} h e => by subst e; rw [has_refl] at h; cases h.1) h
theorem not_off {m r : Rt} (h : ¬ m.off r) : m.x < r.x + r.w ∧ r.x < m.x + m.w ∧ m.y < r.y + r.h ∧ r.y < m.y + m.h :=
 ⟨Int.not_le.mp fun q => h (.inl q), Int.not_le.mp fun q => h (.inr (.inl q)), Int.not_le.mp fun q => h (.inr (.inr (.inl q))), Int.not_le.mp fun q => h (.inr (.inr (.inr q)))⟩
structure KL (r m e : Rt) : Prop where
 a : e.x + e.w = r.x
 v1 : r.y < e.y + e.h
 v2 : e.y < r.y + r.h
 x : e.x = m.x
 y : e.y = m.y
 h : e.h = m.h
 i : e.x + e.w ≤ m.x + m.w
 d : 0 < e.w
structure KR (r m e : Rt) : Prop where
 a : e.x = r.x + r.w
 b : e.x + e.w = m.x + m.w
 v1 : r.y < e.y + e.h
 v2 : e.y < r.y + r.h
 y : e.y = m.y
 h : e.h = m.h
 i : m.x ≤ e.x
 d : 0 < e.w
structure KT (r m e : Rt) : Prop where
 a : e.y = r.y + r.h
 b : e.y + e.h = m.y + m.h
 u1 : r.x < e.x + e.w
 u2 : e.x < r.x + r.w
 x : e.x = m.x
 w : e.w = m.w
 i : m.y ≤ e.y
 d : 0 < e.h
structure KB (r m e : Rt) : Prop where
 a : e.y + e.h = r.y
 u1 : r.x < e.x + e.w
 u2 : e.x < r.x + r.w
 x : e.x = m.x
 y : e.y = m.y
 w : e.w = m.w
 i : e.y + e.h ≤ m.y + m.h
 d : 0 < e.h
theorem add_sub {a b : Int} : a + (b - a) = b := by lia
theorem kl {m r : Rt} (h : ¬ m.off r) (c : m.x < r.x) : KL r m ⟨m.x, m.y, r.x - m.x, m.h⟩ :=
 have n := not_off h
 ⟨add_sub, n.2.2.2, n.2.2.1, rfl, rfl, rfl, Int.le_trans (Int.le_of_eq add_sub) (Int.le_of_lt n.2.1), Int.sub_pos_of_lt c⟩
theorem kr {m r : Rt} (h : ¬ m.off r) (c : r.x + r.w < m.x + m.w) : KR r m ⟨r.x + r.w, m.y, m.x + m.w - (r.x + r.w), m.h⟩ :=
 have n := not_off h
 ⟨rfl, add_sub, n.2.2.2, n.2.2.1, rfl, rfl, Int.le_of_lt n.1, Int.sub_pos_of_lt c⟩
theorem kt {m r : Rt} (h : ¬ m.off r) (c : r.y + r.h < m.y + m.h) : KT r m ⟨m.x, r.y + r.h, m.w, m.y + m.h - (r.y + r.h)⟩ :=
 have n := not_off h
 ⟨rfl, add_sub, n.2.1, n.1, rfl, rfl, Int.le_of_lt n.2.2.1, Int.sub_pos_of_lt c⟩
theorem kb {m r : Rt} (h : ¬ m.off r) (c : m.y < r.y) : KB r m ⟨m.x, m.y, m.w, r.y - m.y⟩ :=
 have n := not_off h
 ⟨add_sub, n.2.1, n.1, rfl, rfl, rfl, Int.le_trans (Int.le_of_eq add_sub) (Int.le_of_lt n.2.2.2), Int.sub_pos_of_lt c⟩
section
variable {m m' r e : Rt}
theorem k_lr (hr : r.pos) (a : KL r m e) (b : KR r m' e) : False := by
 have h1 := a.a; have h2 := b.a; have h3 := a.d; have h4 := hr.1
 rw [h2] at h1; lia
theorem k_lt (a : KL r m e) (b : KT r m' e) : False := Int.ne_of_lt b.u1 a.a.symm
theorem k_lb (a : KL r m e) (b : KB r m' e) : False := Int.ne_of_lt b.u1 a.a.symm
theorem k_rt (a : KR r m e) (b : KT r m' e) : False := Int.ne_of_lt b.u2 a.a
theorem k_rb (a : KR r m e) (b : KB r m' e) : False := Int.ne_of_lt b.u2 a.a
theorem k_tb (hr : r.pos) (a : KT r m e) (b : KB r m' e) : False := by
 have h1 := b.a; have h2 := a.a; have h3 := a.d; have h4 := hr.2
 rw [h2] at h1; lia
end
theorem split_nodup {m r : Rt} (hm : m.pos) (hr : r.pos) (h : ¬ m.off r) : (m.split r).Nodup := by
 have one : ∀ (b : Prop) [Decidable b] (q e : Rt), (e ∈ if decide b then [q] else []) → b ∧ q = e := fun b _ q e h => by
  by_cases c : b
  ·rw [if_pos (decide_eq_true c)] at h; exact ⟨c, (List.mem_singleton.mp h).symm⟩
  ·rw [if_neg (by rw [decide_eq_false c]; decide)] at h; exact J.mn h
 have nd : ∀ (b : Bool) (q : Rt), (if b then [q] else []).Nodup := fun b q => by cases b <;> simp
 unfold Rt.split
 have l : ∀ e, (e ∈ [] ++ if decide (r.x > m.x) then [⟨m.x, m.y, r.x - m.x, m.h⟩] else []) → KL r m e := fun e he => by
  rw [List.nil_append] at he
  refine A2 (one _ _ _ he) fun c q => ?_
  exact q ▸ kl h c
 refine List.nodup_append.mpr ⟨List.nodup_append.mpr ⟨List.nodup_append.mpr ⟨by rw [List.nil_append]; exact nd _ _, nd _ _, fun e he e' he' q => ?_⟩, nd _ _, fun e he e' he' q => ?_⟩, nd _ _, fun e he e' he' q => ?_⟩ <;> subst q
 ·refine A2 (one _ _ _ he') fun c q => ?_
  exact k_lr hr (l e he) (q ▸ kr h c)
 ·refine A2 (one _ _ _ he') fun c q => ?_
  refine O2 (List.mem_append.mp he) (fun he => ?_) (fun he => ?_)
  ·exact k_lt (l e he) (q ▸ kt h c)
  ·refine A2 (one _ _ _ he) fun c' q' => ?_
   exact k_rt (q' ▸ kr h c') (q ▸ kt h c)
 ·refine A2 (one _ _ _ he') fun c q => ?_
  refine O2 (List.mem_append.mp he) (fun he => ?_) (fun he => ?_)
  ·refine O2 (List.mem_append.mp he) (fun he => ?_) (fun he => ?_)
   ·exact k_lb (l e he) (q ▸ kb h c)
   ·refine A2 (one _ _ _ he) fun c' q' => ?_
    exact k_rb (q' ▸ kr h c') (q ▸ kb h c)
  ·refine A2 (one _ _ _ he) fun c' q' => ?_
   exact k_tb hr (q' ▸ kt h c') (q ▸ kb h c)
end
section
inductive Kd (r m e : Rt) : Prop
 | o (h : m.off r) (q : e = m)
 | l (k : KL r m e)
 | r (k : KR r m e)
 | t (k : KT r m e)
 | b (k : KB r m e)
section
variable {m m' r e : Rt}
theorem kinds (he : e ∈ r.cut m) : Kd r m e := by
 unfold Rt.cut at he
 by_cases h : m.off r
 ·rw [if_neg (by rw [meet_iff]; exact fun k => k h)] at he
  exact .o h (List.mem_singleton.mp he)
 ·rw [if_pos (meet_iff.mpr h)] at he
  refine O4 (mem_split.mp he) (fun d => ?_) (fun d => ?_) (fun d => ?_) (fun d => ?_)
  ·exact .l (d.2 ▸ kl h d.1)
  ·exact .r (d.2 ▸ kr h d.1)
  ·exact .t (d.2 ▸ kt h d.1)
  ·exact .b (d.2 ▸ kb h d.1)
theorem KL.t (k : KL r m e) : e.y + e.h = m.y + m.h := by rw [k.y, k.h]
theorem KR.t (k : KR r m e) : e.y + e.h = m.y + m.h := by rw [k.y, k.h]
theorem KT.rr (k : KT r m e) : e.x + e.w = m.x + m.w := by rw [k.x, k.w]
theorem KB.rr (k : KB r m e) : e.x + e.w = m.x + m.w := by rw [k.x, k.w]
theorem Kd.has (k : Kd r m e) : m.has e = true := by
 cases k with
 | o _ q => rw [q]; exact has_refl m
 | l k => exact has_iff.mpr ⟨Int.le_of_eq k.y.symm, Int.le_of_eq k.x.symm, Int.le_of_eq k.t, k.i⟩
 | r k => exact has_iff.mpr ⟨Int.le_of_eq k.y.symm, k.i, Int.le_of_eq k.t, Int.le_of_eq k.b⟩
 | t k => exact has_iff.mpr ⟨k.i, Int.le_of_eq k.x.symm, Int.le_of_eq k.b, Int.le_of_eq k.rr⟩
 | b k => exact has_iff.mpr ⟨Int.le_of_eq k.y.symm, Int.le_of_eq k.x.symm, k.i, Int.le_of_eq k.rr⟩
theorem Kd.off (k : Kd r m e) : e.off r := by
 cases k with
 | o h q => rw [q]; exact h
 | l k => exact .inr (.inl (Int.le_of_eq k.a))
 | r k => exact .inl (Int.le_of_eq k.a.symm)
 | t k => exact .inr (.inr (.inl (Int.le_of_eq k.a.symm)))
 | b k => exact .inr (.inr (.inr (Int.le_of_eq k.a)))
theorem Kd.pos (k : Kd r m e) (hm : m.pos) : e.pos := by
 cases k with
 | o h q => rw [q]; exact hm
 | l k => exact ⟨k.d, by rw [k.h]; exact hm.2⟩
 | r k => exact ⟨k.d, by rw [k.h]; exact hm.2⟩
 | t k => exact ⟨by rw [k.w]; exact hm.1, k.d⟩
 | b k => exact ⟨by rw [k.w]; exact hm.1, k.d⟩
theorem cmp (h1 : m.has m' = false) (h2 : m'.has m = false) (q : (m.y ≤ m'.y ∧ m.x ≤ m'.x ∧ m'.y + m'.h ≤ m.y + m.h ∧ m'.x + m'.w ≤ m.x + m.w) ∨ (m'.y ≤ m.y ∧ m'.x ≤ m.x ∧ m.y + m.h ≤ m'.y + m'.h ∧ m.x + m.w ≤ m'.x + m'.w)) : False :=
 q.elim (fun q => J.tf ((has_iff.mpr q).symm.trans h1)) fun q => J.tf ((has_iff.mpr q).symm.trans h2)
theorem cut_disj (hm : m.pos) (hm' : m'.pos) (hr : r.pos) (h1 : m.has m' = false) (h2 : m'.has m = false) (he : e ∈ r.cut m) (he' : e ∈ r.cut m') : False := by
 have c1 := kinds he
 have c2 := kinds he'
 clear he he'
 have g1 : e = m → False := fun q => J.tf (c2.has.symm.trans (q ▸ h2))
 have g2 : e = m' → False := fun q => J.tf (c1.has.symm.trans (q ▸ h1))
 have le : ∀ {c a b : Int}, c = a → c = b → a ≤ b ∧ b ≤ a := fun p q => ⟨Int.le_of_eq (p.symm.trans q), Int.le_of_eq (q.symm.trans p)⟩
 cases c1 with
 | o _ q => exact g1 q
 | l a =>
  cases c2 with
  | o _ q => exact g2 q
  | l b =>
   have y := le a.y b.y; have x := le a.x b.x; have t := le a.t b.t
   exact cmp h1 h2 ((Int.le_total (m'.x + m'.w) (m.x + m.w)).imp (fun q => ⟨y.1, x.1, t.2, q⟩) fun q => ⟨y.2, x.2, t.1, q⟩)
  | r b => exact k_lr hr a b
  | t b => exact k_lt a b
  | b b => exact k_lb a b
 | r a =>
  cases c2 with
  | o _ q => exact g2 q
  | l b => exact k_lr hr b a
  | r b =>
   have y := le a.y b.y; have x := le a.b b.b; have t := le a.t b.t
   exact cmp h1 h2 ((Int.le_total m.x m'.x).imp (fun q => ⟨y.1, q, t.2, x.2⟩) fun q => ⟨y.2, q, t.1, x.1⟩)
  | t b => exact k_rt a b
  | b b => exact k_rb a b
 | t a =>
  cases c2 with
  | o _ q => exact g2 q
  | l b => exact k_lt b a
  | r b => exact k_rt b a
  | t b =>
   have y := le a.b b.b; have x := le a.x b.x; have t := le a.rr b.rr
   exact cmp h1 h2 ((Int.le_total m.y m'.y).imp (fun q => ⟨q, x.1, y.2, t.2⟩) fun q => ⟨q, x.2, y.1, t.1⟩)
  | b b => exact k_tb hr a b
 | b a =>
  cases c2 with
  | o _ q => exact g2 q
  | l b => exact k_lb b a
  | r b => exact k_rb b a
  | t b => exact k_tb hr b a
  | b b =>
   have y := le a.y b.y; have x := le a.x b.x; have t := le a.rr b.rr
   exact cmp h1 h2 ((Int.le_total (m'.y + m'.h) (m.y + m.h)).imp (fun q => ⟨y.1, x.1, q, t.2⟩) fun q => ⟨y.2, x.2, q, t.1⟩)
end
theorem cutAll_nodup {r : Rt} (hr : r.pos) : ∀ {ms : List Rt}, Anti ms → (∀ m ∈ ms, m.pos) → (cutAll ms r).Nodup
 | [], _, _ => List.nodup_nil
 | m :: ms, ha, hp => by
  have hm := hp m (.head _)
  obtain ⟨a1, a2⟩ := List.pairwise_cons.mp ha
  show (List.flatMap r.cut (m :: ms)).Nodup
  rw [List.flatMap_cons, List.nodup_append]
  refine ⟨?_, cutAll_nodup hr a2 fun q hq => hp q (.tail _ hq), ?_⟩
  ·unfold Rt.cut
   by_cases h : m.off r
   ·rw [if_neg (by rw [meet_iff]; exact fun k => k h)]; simp
   ·rw [if_pos (meet_iff.mpr h)]; exact split_nodup hm hr h
  ·intro e he e' he' hee
   subst hee
   obtain ⟨m', hm', he'⟩ := List.mem_flatMap.mp he'
   have := a1 m' hm'
   exact cut_disj hm (hp m' (.tail _ hm')) hr this.1 this.2 he he'
theorem mem_pairs {ms : List Rt} {p : Rt × Rt} : p ∈ pairs ms ↔ ∃ i j, ∃ hi : i < ms.length, ∃ hj : j < ms.length, i < j ∧ p = (ms[i], ms[j]) := by
 unfold pairs
 rw [List.mem_flatMap]
 constructor
 ·intro hr1; refine E1A2 hr1 fun i hi hp => ?_; clear hr1
  obtain ⟨k, hk, rfl⟩ := List.mem_map.mp hp
  rw [List.mem_range] at hi hk
  refine ⟨i, i + 1 + k, hi, by lia, by lia, ?_⟩
  rw [List.getD, List.getD, List.getElem?_eq_getElem hi, List.getElem?_eq_getElem (by lia : i + 1 + k < ms.length)]; rfl
 ·rintro ⟨i, j, hi, hj, hij, rfl⟩
  refine ⟨i, List.mem_range.mpr hi, List.mem_map.mpr ⟨j - (i + 1), List.mem_range.mpr (Nat.sub_lt_sub_right hij hj), ?_⟩⟩
  have : i + 1 + (j - (i + 1)) = j := Nat.add_sub_cancel' hij
  rw [this, List.getD, List.getD, List.getElem?_eq_getElem hi, List.getElem?_eq_getElem hj]; rfl
theorem mem_contd {ms : List Rt} (hn : ms.Nodup) {c : Rt} : c ∈ contd ms ↔ c ∈ ms ∧ ∃ t ∈ ms, t ≠ c ∧ t.has c = true := by
 unfold contd
 rw [List.mem_flatMap]
 constructor
 ·intro hr4; refine E1A2 hr4 fun p hp hc => ?_; clear hr4
  obtain ⟨i, j, hi, hj, hij, rfl⟩ := mem_pairs.mp hp
  have ne : ms[i] ≠ ms[j] := List.pairwise_iff_getElem.mp hn i j hi hj hij
  unfold lost at hc
  by_cases h1 : (ms[i]).has ms[j] = true
  ·rw [if_pos h1] at hc
   have : c = ms[j] := by simpa using hc
   subst this
   exact ⟨List.getElem_mem hj, ms[i], List.getElem_mem hi, ne, h1⟩
  ·rw [if_neg h1] at hc
   by_cases h2 : (ms[j]).has ms[i] = true
   ·rw [if_pos h2] at hc
    have : c = ms[i] := by simpa using hc
    subst this
    exact ⟨List.getElem_mem hi, ms[j], List.getElem_mem hj, ne.symm, h2⟩
   ·rw [if_neg h2] at hc; exact J.mn hc
 ·rintro ⟨hc, t, ht, ne, h⟩
  obtain ⟨i, hi, rfl⟩ := List.getElem_of_mem hc
  obtain ⟨j, hj, rfl⟩ := List.getElem_of_mem ht
  refine O3 (Nat.lt_trichotomy i j) (fun q => ?_) (fun q => ?_) (fun q => ?_)
  ·refine ⟨(ms[i], ms[j]), mem_pairs.mpr ⟨i, j, hi, hj, q, rfl⟩, ?_⟩
   unfold lost
   have : ¬ ((ms[i]).has ms[j] = true) := fun k => ne (has_anti h k)
   rw [if_neg this, if_pos h]; exact .head _
  ·subst q; exact absurd rfl ne
  ·refine ⟨(ms[j], ms[i]), mem_pairs.mpr ⟨j, i, hj, hi, q, rfl⟩, ?_⟩
   unfold lost
   rw [if_pos h]; exact .head _
theorem mem_thin {ms : List Rt} (hn : ms.Nodup) {q : Rt} : q ∈ thin ms ↔ q ∈ ms ∧ ∀ t ∈ ms, t.has q = true → t = q := by
 unfold thin
 rw [List.mem_filter]
 refine and_congr_right fun hq => ?_
 rw [Bool.not_eq_true', List.any_eq_false]
 constructor
 ·intro h t ht hh
  by_cases e : t = q
  ·exact e
  ·exact absurd (same_iff.mpr rfl) (h q ((mem_contd hn).mpr ⟨hq, t, ht, e, hh⟩))
 ·intro h c hc hs
  have := same_iff.mp hs
  subst this
  obtain ⟨_, t, ht, ne, hh⟩ := (mem_contd hn).mp hc
  exact ne (h t ht hh)
theorem thin_anti {ms : List Rt} (hn : ms.Nodup) : Anti (thin ms) := by
 have hs : (thin ms).Nodup := List.Nodup.sublist List.filter_sublist hn
 refine List.Pairwise.imp_of_mem ?_ hs
 intro a b ha hb ne
 obtain ⟨ha1, ha2⟩ := (mem_thin hn).mp ha
 obtain ⟨hb1, hb2⟩ := (mem_thin hn).mp hb
 refine ⟨?_, ?_⟩
 ·cases h : a.has b with
  | false => rfl
  | true => exact absurd (hb2 a ha1 h) ne
 ·cases h : b.has a with
  | false => rfl
  | true => exact absurd (ha2 b hb1 h).symm ne
theorem thin_cov {ms : List Rt} (hn : ms.Nodup) : ∃ B : Int, ∀ (k : Nat) (e : Rt), e ∈ ms → (B - (e.w + e.h)).toNat ≤ k → ∃ m ∈ thin ms, m.has e = true := by
 have hB : ∃ B : Int, ∀ e ∈ ms, e.w + e.h ≤ B := by
  clear hn
  induction ms with
  | nil => exact ⟨0, fun e he => by cases he⟩
  | cons a ms ih =>
   obtain ⟨B, hB⟩ := ih
   refine ⟨max B (a.w + a.h), fun e he => ?_⟩
   rcases List.mem_cons.mp he with rfl | he
   ·lia
   ·have := hB e he; lia
 obtain ⟨B, hB⟩ := hB
 refine ⟨B, fun k => ?_⟩
 induction k with
 | zero =>
  intro e he hk
  refine ⟨e, (mem_thin hn).mpr ⟨he, fun t ht hh => ?_⟩, has_refl e⟩
  by_cases ne : t = e
  ·exact ne
  ·have h1 := has_size hh ne
   have h2 := hB t ht
   lia
 | succ k ih =>
  intro e he hk
  by_cases h : ∀ t ∈ ms, t.has e = true → t = e
  ·exact ⟨e, (mem_thin hn).mpr ⟨he, h⟩, has_refl e⟩
  ·simp only [Classical.not_forall] at h
   obtain ⟨t, ht, hh, ne⟩ := h
   have h1 := has_size hh ne
   have h2 := hB t ht
   obtain ⟨m, hm, hh'⟩ := ih t ht (by lia)
   exact ⟨m, hm, has_trans hh' hh⟩
theorem thin_has {ms : List Rt} (hn : ms.Nodup) {e : Rt} (he : e ∈ ms) : ∃ m ∈ thin ms, m.has e = true := by
 obtain ⟨B, h⟩ := thin_cov hn
 exact h _ e he (Nat.le_refl _)
end
section
structure Inv (W H : Int) (ms ps : List Rt) : Prop where
 bin : ∀ m ∈ ms, m.inb W H ∧ m.pos
 off : ∀ m ∈ ms, ∀ p ∈ ps, m.off p
 cov : ∀ q : Rt, q.pos → q.inb W H → (∀ p ∈ ps, q.off p) → ∃ m ∈ ms, m.has q = true
 anti : Anti ms
 cx : ∀ m ∈ ms, m.x = 0 ∨ ∃ p ∈ ps, m.x = p.x + p.w
 cy : ∀ m ∈ ms, m.y = 0 ∨ ∃ p ∈ ps, m.y = p.y + p.h
 cr : ∀ m ∈ ms, m.x + m.w = W ∨ ∃ p ∈ ps, m.x + m.w = p.x
 ct : ∀ m ∈ ms, m.y + m.h = H ∨ ∃ p ∈ ps, m.y + m.h = p.y
 pbin : ∀ p ∈ ps, p.inb W H ∧ p.pos
 poff : ps.Pairwise fun a b => a.off b
theorem Inv.start {W H : Int} (hW : 0 < W) (hH : 0 < H) : Inv W H [⟨0, 0, W, H⟩] [] where
 bin := fun m hm => by
  rw [List.mem_singleton] at hm; subst hm
  exact ⟨⟨Int.le_refl _, Int.le_refl _, by show 0 + W ≤ W; lia, by show 0 + H ≤ H; lia⟩, hW, hH⟩
 off := fun m _ p hp => by exact J.mn hp
 cov := fun q hq hb _ => ⟨_, .head _, has_iff.mpr ⟨hb.2.1, hb.1, by show q.y + q.h ≤ 0 + H; have := hb.2.2.2; lia, by show q.x + q.w ≤ 0 + W; have := hb.2.2.1; lia⟩⟩
 anti := List.pairwise_singleton _ _
 cx := fun m hm => by rw [List.mem_singleton] at hm; subst hm; exact .inl rfl
 cy := fun m hm => by rw [List.mem_singleton] at hm; subst hm; exact .inl rfl
 cr := fun m hm => by rw [List.mem_singleton] at hm; subst hm; exact .inl (Int.zero_add W)
 ct := fun m hm => by rw [List.mem_singleton] at hm; subst hm; exact .inl (Int.zero_add H)
 pbin := fun p hp => by exact J.mn hp
 poff := .nil
theorem mem_cutAll' {ms : List Rt} {r e : Rt} : e ∈ cutAll ms r ↔ ∃ m ∈ ms, e ∈ r.cut m := List.mem_flatMap
theorem has_inb {W H : Int} {m e : Rt} (h : m.has e = true) (i : m.inb W H) : e.inb W H := by
 rw [has_iff] at h
 exact ⟨Int.le_trans i.1 h.2.1, Int.le_trans i.2.1 h.1, Int.le_trans h.2.2.2 i.2.2.1, Int.le_trans h.2.2.1 i.2.2.2⟩
theorem cut_facts {W H : Int} {m r e : Rt} (hm : m.inb W H ∧ m.pos) (hr : r.pos) (he : e ∈ r.cut m) : (e.inb W H ∧ e.pos) ∧ m.has e = true ∧ e.off r :=
 have k := kinds he
 ⟨⟨has_inb k.has hm.1, k.pos hm.2⟩, k.has, k.off⟩
theorem z6 {a x p b : Int} (h : a ≤ x) (g : 0 < p) (k : x + p ≤ b) : a < b := by lia
theorem cut_cov {m r q : Rt} (hq : q.pos) (hm : m.has q = true) (ho : q.off r) : ∃ e ∈ r.cut m, e.has q = true := by
 unfold Rt.cut
 by_cases h : m.off r
 ·rw [if_neg (by rw [meet_iff]; exact fun k => k h)]
  exact ⟨m, .head _, hm⟩
 ·rw [if_pos (meet_iff.mpr h)]
  rw [has_iff] at hm
  refine A2 hq fun q1 q2 => ?_; clear hq
  unfold Rt.off at ho h
  refine O4 ho (fun c => ?_) (fun c => ?_) (fun c => ?_) (fun c => ?_)
  ·exact ⟨_, mem_split.mpr (.inr (.inl ⟨z6 c q1 hm.2.2.2, rfl⟩)), has_iff.mpr ⟨hm.1, c, hm.2.2.1, Int.le_trans hm.2.2.2 (Int.le_of_eq add_sub.symm)⟩⟩
  ·exact ⟨_, mem_split.mpr (.inl ⟨z6 hm.2.1 q1 c, rfl⟩), has_iff.mpr ⟨hm.1, hm.2.1, hm.2.2.1, Int.le_trans c (Int.le_of_eq add_sub.symm)⟩⟩
  ·exact ⟨_, mem_split.mpr (.inr (.inr (.inl ⟨z6 c q2 hm.2.2.1, rfl⟩))), has_iff.mpr ⟨c, hm.2.1, Int.le_trans hm.2.2.1 (Int.le_of_eq add_sub.symm), hm.2.2.2⟩⟩
  ·exact ⟨_, mem_split.mpr (.inr (.inr (.inr ⟨z6 hm.1 q2 c, rfl⟩))), has_iff.mpr ⟨hm.1, hm.2.1, Int.le_trans c (Int.le_of_eq add_sub.symm), hm.2.2.2⟩⟩
theorem Inv.step {W H : Int} {ms ps : List Rt} (I : Inv W H ms ps) {m₀ r : Rt} (h₀ : m₀ ∈ ms) (hr : r.pos) (hh : m₀.has r = true) : Inv W H (thin (cutAll ms r)) (ps ++ [r]) := by
 have hn := cutAll_nodup hr I.anti fun m hm => (I.bin m hm).2
 have sub : ∀ e ∈ thin (cutAll ms r), ∃ m ∈ ms, e ∈ r.cut m := fun e he => mem_cutAll'.mp ((mem_thin hn).mp he).1
 have facts : ∀ e ∈ thin (cutAll ms r), ∃ m ∈ ms, e ∈ r.cut m ∧ (e.inb W H ∧ e.pos) ∧ m.has e = true ∧ e.off r := fun e he => by
  refine E1A2 (sub e he) fun m hm hc => ?_
  exact ⟨m, hm, hc, cut_facts (I.bin m hm) hr hc⟩
 have rb : r.inb W H := has_inb hh (I.bin m₀ h₀).1
 refine ⟨fun e he => ?_, fun e he p hp => ?_, fun q hq hb ho => ?_, thin_anti hn, fun e he => ?_, fun e he => ?_, fun e he => ?_, fun e he => ?_, fun p hp => ?_, ?_⟩
 ·refine E1A4 (facts e he) fun m hm _ hb _ => ?_; exact hb
 ·refine E1A5 (facts e he) fun m hm _ _ hh ho => ?_
  refine O2 (List.mem_append.mp hp) (fun hp => ?_) (fun hp => ?_)
  ·exact has_off hh (I.off m hm p hp)
  ·rw [List.mem_singleton] at hp; subst hp; exact ho
 ·refine E1A2 (I.cov q hq hb fun p hp => ho p (List.mem_append_left _ hp)) fun m hm hmq => ?_
  refine E1A2 (cut_cov hq hmq (ho r (List.mem_append_right _ (.head _)))) fun e he heq => ?_
  refine E1A2 (thin_has hn (mem_cutAll'.mpr ⟨m, hm, he⟩)) fun t ht hte => ?_
  exact ⟨t, ht, has_trans hte heq⟩
 ·refine E1A2 (sub e he) fun m hm hc => ?_
  have old : m.x = e.x → e.x = 0 ∨ ∃ p ∈ ps ++ [r], e.x = p.x + p.w := fun h => by
   refine O2 (I.cx m hm) (fun q => ?_) (fun hr1 => E1A2 hr1 fun p hp q => ?_)
   ·exact .inl (h.symm.trans q)
   ·exact .inr ⟨p, List.mem_append_left _ hp, h.symm.trans q⟩
  cases kinds hc with
  | o _ q => exact old (q ▸ rfl)
  | l k => exact old k.x.symm
  | r k => exact .inr ⟨r, List.mem_append_right _ (.head _), k.a⟩
  | t k => exact old k.x.symm
  | b k => exact old k.x.symm
 ·refine E1A2 (sub e he) fun m hm hc => ?_
  have old : m.y = e.y → e.y = 0 ∨ ∃ p ∈ ps ++ [r], e.y = p.y + p.h := fun h => by
   refine O2 (I.cy m hm) (fun q => ?_) (fun hr2 => E1A2 hr2 fun p hp q => ?_)
   ·exact .inl (h.symm.trans q)
   ·exact .inr ⟨p, List.mem_append_left _ hp, h.symm.trans q⟩
  cases kinds hc with
  | o _ q => exact old (q ▸ rfl)
  | l k => exact old k.y.symm
  | r k => exact old k.y.symm
  | t k => exact .inr ⟨r, List.mem_append_right _ (.head _), k.a⟩
  | b k => exact old k.y.symm
 ·refine E1A2 (sub e he) fun m hm hc => ?_
  have old : m.x + m.w = e.x + e.w → e.x + e.w = W ∨ ∃ p ∈ ps ++ [r], e.x + e.w = p.x := fun h => by
   refine O2 (I.cr m hm) (fun q => ?_) (fun hr3 => E1A2 hr3 fun p hp q => ?_)
   ·exact .inl (h.symm.trans q)
   ·exact .inr ⟨p, List.mem_append_left _ hp, h.symm.trans q⟩
  cases kinds hc with
  | o _ q => exact old (q ▸ rfl)
  | l k => exact .inr ⟨r, List.mem_append_right _ (.head _), k.a⟩
  | r k => exact old k.b.symm
  | t k => exact old k.rr.symm
  | b k => exact old k.rr.symm
 ·refine E1A2 (sub e he) fun m hm hc => ?_
  have old : m.y + m.h = e.y + e.h → e.y + e.h = H ∨ ∃ p ∈ ps ++ [r], e.y + e.h = p.y := fun h => by
   refine O2 (I.ct m hm) (fun q => ?_) (fun hr4 => E1A2 hr4 fun p hp q => ?_)
   ·exact .inl (h.symm.trans q)
   ·exact .inr ⟨p, List.mem_append_left _ hp, h.symm.trans q⟩
  cases kinds hc with
  | o _ q => exact old (q ▸ rfl)
  | l k => exact old k.t.symm
  | r k => exact old k.t.symm
  | t k => exact old k.b.symm
  | b k => exact .inr ⟨r, List.mem_append_right _ (.head _), k.a⟩
 ·refine O2 (List.mem_append.mp hp) (fun hp => ?_) (fun hp => ?_)
  ·exact I.pbin p hp
  ·rw [List.mem_singleton] at hp; subst hp; exact ⟨rb, hr⟩
 ·rw [List.pairwise_append]
  refine ⟨I.poff, List.pairwise_singleton _ _, fun a ha b hb => ?_⟩
  rw [List.mem_singleton] at hb; subst hb
  exact Rt.off_symm (has_off hh (I.off m₀ h₀ a ha))
theorem nodup_le {α : Type} [DecidableEq α] : ∀ {l l' : List α}, l.Nodup → (∀ a ∈ l, a ∈ l') → l.length ≤ l'.length
 | [], _, _, _ => Nat.zero_le _
 | a :: l, l', hn, hs => by
  refine A2 (List.nodup_cons.mp hn) fun h1 h2 => ?_
  have ha := hs a (.head _)
  have := nodup_le (l := l) (l' := l'.erase a) h2 fun b hb => (List.mem_erase_of_ne (fun e : b = a => h1 (by rw [← e]; exact hb))).mpr (hs b (.tail _ hb))
  rw [List.length_erase_of_mem ha] at this
  have := List.length_pos_of_mem ha
  rw [List.length_cons]; lia
end
section
theorem srt_asc (L : List (List Int)) : Asc (srt L) := by
 have h : ∃ L', L'.Perm L ∧ Asc L' := by
  refine ⟨L.mergeSort fun a b => !lexLt b a, List.mergeSort_perm _ _, ?_⟩
  have := List.pairwise_mergeSort (le := fun a b => !lexLt b a) (fun a b c h1 h2 => by
   simp only [Bool.not_eq_true'] at *
   exact lex_trans _ _ _ h2 h1) (fun a b => by
   cases h : lexLt b a with
   | false => rfl
   | true => rw [lex_asym _ _ h]; rfl) L
  exact this.imp fun h => by simpa using h
 unfold srt
 rw [dif_pos h]
 exact (Classical.choose_spec h).2
theorem srt_eq {L L' : List (List Int)} (p : L.Perm L') : srt L = srt L' := srt_of ((srt_perm L').trans p.symm) (srt_asc L')
noncomputable abbrev lo (r : List Int) : Int := r.getD 0 0
noncomputable abbrev hi (r : List Int) : Int := r.getD 1 0
theorem asc_lo {L : List (List Int)} (h : ∀ l ∈ L, ∃ a b, l = [a, b]) (s : Asc L) : L.Pairwise (fun a b => lo a ≤ lo b) := by
 refine List.Pairwise.imp_of_mem ?_ s
 intro a b ha hb hab
 refine E2 (h a ha) fun a0 a1 hn2 => ?_; obtain rfl := hn2
 refine E2 (h b hb) fun b0 b1 hn3 => ?_; obtain rfl := hn3
 show a0 ≤ b0
 unfold lexLt at hab
 by_cases q : b0 = a0
 ·lia
 ·rw [if_neg (by simpa using q)] at hab
  have := of_decide_eq_false hab
  lia
theorem lies_of {W H : Int} {ms ps : List Rt} (I : Inv W H ms ps) {m₀ r : Rt} (h₀ : m₀ ∈ ms) (hh : m₀.has r = true) : lies r ps W H = true := by
 have hb := (I.bin m₀ h₀).1
 have hr := has_iff.mp hh
 unfold lies inBin
 rw [Bool.and_eq_true]
 refine ⟨?_, ?_⟩
 ·simp only [Bool.not_eq_true', Bool.or_eq_false_iff, decide_eq_false_iff_not, and_true]
  refine A4 hb fun b1 b2 b3 b4 => ?_; clear hb
  lia
 ·rw [List.all_eq_true]
  intro q hq
  have := has_off hh (I.off m₀ h₀ q hq)
  unfold crossB
  unfold Rt.off at this
  simp only [Bool.not_eq_true', Bool.and_eq_false_iff, decide_eq_false_iff_not, Bool.true_eq_false, or_false]
  lia
theorem cand_nil {rot : Bool} {ms : List Rt} {p q : Int} : (cand rot ms p q = []) ↔ ((ms.any fun m => m.fits p q) || (rot && ms.any fun m => m.fits q p)) = false := by
 unfold cand
 rw [List.append_eq_nil_iff, Bool.or_eq_false_iff]
 have one : ∀ (p q : Int), ((ms.filter fun t => t.fits p q).map (fun t => (t, p, q)) = []) ↔ (ms.any fun m => m.fits p q) = false := fun p q => by
  rw [List.map_eq_nil_iff, List.filter_eq_nil_iff, List.any_eq_false]
 cases rot with
 | false => simp [one p q]
 | true =>
  rw [one p q]
  simp only [if_true, Bool.true_and]
  have := one q p
  rw [show ((ms.filter fun t => t.fits q p).map (fun t => (t, q, p)) = []) ↔ _ from this]
end
section
variable {w : World} {g0 : Heap} {tb : List (Addr × Addr × Array Value)} {os : OsState} {pg : List (Nat × GenState)} {st : AS} {P : PL} {A : Around} {env : Env} {m : AM}
theorem f_add0 (hX : (CX w g0 tb os pg).Ok) {C y rl fa sa : Addr} {W H p q : Int} {rot : Bool} {sf : AV} {ms : List Rt} {zs : List AV} {way : Nat} (hw : Way w g0 os tb way C fa sa)
 (hy : st y = some (.inst C bxn (bxl W H rot rl sf (ms.map rcv)))) (hrl : st rl = some (.list zs)) (hz : 16 * (ms.length * ms.length) ≤ sizeLine) (hzs : zs.length ≤ sizeLine) (hok : ∀ t ∈ ms, t.ok) (hM : ∀ t ∈ ms, IntMulOk t.w t.h) (hp0 : 0 < p) (hq0 : 0 < q) (hpq : IntMulOk p q) (hqp : IntMulOk q p) :
 FN (CX w g0 tb os pg) 70 380 st [.ref y, .int p, .int q] fun v st' => ∃ o, Sel way rot ms p q o ∧ match o with
  | none => v = .none ∧ st' = st
  | some c => ∃ z, st z = none ∧ v = .ref z ∧ st' = put (put (put st z (.inst 203 rcn (rcl c.1.x c.1.y c.2.1 c.2.2 .none))) y (.inst C bxn (bxl W H rot rl sf ((thin (cutAll ms ⟨c.1.x, c.1.y, c.2.1, c.2.2⟩)).map rcv)))) rl (.list (zs ++ [.ref z])) := by
 refine FN.of (abinds := [("self", .ref y), ("width", .int p), ("height", .int q), ("rid", .none)]) hX.kin (by rfl) (by kernel_rfl) (fun P s vals g rv => ?_) rfl rfl rfl (by kernel_rfl) (by kernel_rfl) fun P A L R hf => ?_
 ·refine VRs.e3 (M := fun vs => ∃ b, BindsTo s _ { pos := vs } b ∧ BR _ _ b _) (fun r1 r2 r3 => ?_) rv
  exact ⟨_, binds_K (hX.kin.keeps g.base) rfl (by rfl) rfl rfl rfl, .cons r1 (.cons r2 (.cons r3 (.cons .none .nil)))⟩
 dsimp only [bindA]
 have hI : HasI st C bxn (bxl W H rot rl sf (ms.map rcv)) (.ref y) := .ref hy
 have h2 : ms.length + ms.length ≤ sizeLine := by
  rcases ms with _ | ⟨t, ms⟩
  ·exact Nat.zero_le _
  ·have : (t :: ms).length * 1 ≤ (t :: ms).length * (t :: ms).length := Nat.mul_le_mul_left _ (by simp)
   lia
 have h5 : 5 * ms.length ≤ sizeLine := by
  rcases ms with _ | ⟨t, ms⟩
  ·exact Nat.zero_le _
  ·have : (t :: ms).length * 1 ≤ (t :: ms).length * (t :: ms).length := Nat.mul_le_mul_left _ (by simp)
   lia
 refine' x_cons (x_assert (Q := _) ?t ?q)
 case t => exact Eq.mp (congrArg _ (show (decide (p > 0) && (decide (q > 0) && true)) = true by simp [hp0, hq0])) (by walk_at "jt")
 case q =>
  refine' x_cons (x_assignT (J.W.mono (e_methW (n := 69) (k := 60) hX hI ?o1 hw.s1 (by kernel_rfl) hw.s2 ?a1 (hw.sel pg st y rl W H p q rot sf ms hy h2 hM (Int.le_of_lt hp0) (Int.le_of_lt hq0) hpq hqp) R (by decide) (by kernel_rfl)) ?k1) (by kernel_rfl) (by kernel_rfl))
  case o1 => walk_at "jv"
  case a1 => walk_at "ja"
  case k1 =>
   intro b st' m' hr3; refine A2 hr3 fun hr4 hr5 => ?_; clear hr3; refine E1A2 hr4 fun o hs ho => ?_; clear hr4; obtain rfl := hr5
   cases o with
   | none =>
    refine A2 ho fun hn1 hn2 => ?_; clear ho; obtain rfl := hn1; obtain rfl := hn2
    refine ⟨_, a_tup R.handled (as_cons (a_name (by kernel_rfl)) (as_cons (a_name (by kernel_rfl)) as_nil (by kernel_rfl)) (by kernel_rfl)), ?_⟩
    dsimp only [id]
    refine' x_cons (x_if (b := !false) ?t2 (fun _ => x_cons (x_ret (WE.of e_none ⟨none, hs, rfl, rfl⟩))) (fun h => Bool.noConfusion h))
    case t2 => walk_at "jt"
   | some c =>
    refine E1A3 ho fun z hz' hn3 hn4 => ?_; clear ho; obtain rfl := hn3; obtain rfl := hn4
    refine ⟨_, a_tup R.handled (as_cons (a_name (by kernel_rfl)) (as_cons (a_name (by kernel_rfl)) as_nil (by kernel_rfl)) (by kernel_rfl)), ?_⟩
    dsimp only [id]
    refine A3 (cand_mem hs.1) fun hc1 hc2 hc3 => ?_
    have nyz : y ≠ z := fun q => by rw [q, hz'] at hy; exact J.ns hy
    have nrz : rl ≠ z := fun q => by rw [q, hz'] at hrl; exact J.ns hrl
    have nry : rl ≠ y := fun q => by rw [q, hy] at hrl; exact nomatch hrl
    have hz1 : HR (put st z (.inst 203 rcn (rcl c.1.x c.1.y c.2.1 c.2.2 .none))) (.ref z) c.1.x c.1.y c.2.1 c.2.2 .none := .ref (put_same _ _ _)
    have hy2 : put st z (.inst 203 rcn (rcl c.1.x c.1.y c.2.1 c.2.2 .none)) y = some (.inst C bxn (bxl W H rot rl sf (ms.map rcv))) := by rw [put_ne nyz]; exact hy
    have hI2 := HasI.ref hy2
    refine' x_cons (x_if (b := !true) (t_not (t_plain (a := .ref z) ?v2 (tr_inst hX (.inr ⟨z, rfl, put_same _ _ _⟩) (by kernel_rfl) (by kernel_rfl)) (by kernel_rfl))) (fun h => Bool.noConfusion h) fun _ => x_nil ?s1)
    case v2 => walk_at "jv"
    case s1 =>
     refine' x_cons (x_expr (J.W.mono (e_methW (n := 69) (k := 10) hX hI2 ?o3 hw.c.m2 (by kernel_rfl) (by kernel_rfl) ?a3 (f_split hX (t := ⟨c.1.x, c.1.y, c.2.1, c.2.2⟩) hw.c hy2 hz1 hok h5) R (by decide) (by kernel_rfl)) ?k3) (by kernel_rfl) (by kernel_rfl))
     case o3 => walk_at "jv"
     case a3 => walk_at "ja"
     case k3 =>
      rintro b st' m' ⟨⟨rfl, rfl⟩, rfl⟩
      refine ⟨rfl, ?_⟩
      have hcl : (cutAll ms ⟨c.1.x, c.1.y, c.2.1, c.2.2⟩).length ≤ 4 * ms.length := cuts_len _ ms
      have hcl2 : (cutAll ms ⟨c.1.x, c.1.y, c.2.1, c.2.2⟩).length * (cutAll ms ⟨c.1.x, c.1.y, c.2.1, c.2.2⟩).length ≤ sizeLine := by
       have := Nat.mul_le_mul hcl hcl
       have e : 4 * ms.length * (4 * ms.length) = 16 * (ms.length * ms.length) := by rw [Nat.mul_mul_mul_comm]
       lia
      generalize hms' : cutAll ms ⟨c.1.x, c.1.y, c.2.1, c.2.2⟩ = ms' at hcl hcl2 ⊢
      have hy3 : put (put st z (.inst 203 rcn (rcl c.1.x c.1.y c.2.1 c.2.2 .none))) y (.inst C bxn (bxl W H rot rl sf (ms'.map rcv))) y = some (.inst C bxn (bxl W H rot rl sf (ms'.map rcv))) := put_same _ _ _
      have hI3 := HasI.ref hy3
      refine' x_cons (x_expr (J.W.mono (e_methW (n := 69) (k := 20) hX hI3 ?o4 hw.c.m3 (by kernel_rfl) (by kernel_rfl) ?a4 (f_dups hX hw.c hy3 hcl2) R (by decide) (by kernel_rfl)) ?k4) (by kernel_rfl) (by kernel_rfl))
      case o4 => walk_at "jv"
      case a4 => walk_at "ja"
      case k4 =>
       rintro b st' m' ⟨⟨rfl, rfl⟩, rfl⟩
       refine ⟨rfl, ?_⟩
       rw [put_put, put_comm nyz.symm]
       generalize hms'' : thin ms' = ms''
       refine' x_cons (x_seti (b := .none) hX ?v5 (by walk_at "jm") ?k5 (by kernel_rfl) (by kernel_rfl) (by decide) (by kernel_rfl))
       case v5 => walk_at "jv"
       case k5 =>
        have hrl2 : put (put st y (.inst C bxn (bxl W H rot rl sf (ms''.map rcv)))) z (.inst 203 rcn (rcl c.1.x c.1.y c.2.1 c.2.2 .none)) rl = some (.list zs) := by rw [put_ne nrz, put_ne nry]; exact hrl
        have hI5 : HasI (put (put st y (.inst C bxn (bxl W H rot rl sf (ms''.map rcv)))) z (.inst 203 rcn (rcl c.1.x c.1.y c.2.1 c.2.2 .none))) C bxn (bxl W H rot rl sf (ms''.map rcv)) (.ref y) := .ref (by rw [put_ne nyz]; exact put_same _ _ _)
        have a4 := hw.c.a4
        change WX _ _ _ _ (put (put st y (.inst C bxn (bxl W H rot rl sf (ms''.map rcv)))) z (.inst 203 rcn (rcl c.1.x c.1.y c.2.1 c.2.2 .none))) _ _ _
        refine' x_cons (x_expr (e_appendA (pl := pure false) (a := rl) ?x6 (WE.of (a := .ref z) ?v6 ⟨zs, hrl2, hzs, rfl, ?k6⟩) ⟨zs, hrl2⟩ (by kernel_rfl) (by kernel_rfl)) (by kernel_rfl) (by kernel_rfl))
        case x6 => walk_at "jv"
        case v6 => walk_at "jv"
        case k6 =>
         refine' x_cons (x_ret (WE.of (a := .ref z) ?v7 ?q7))
         case v7 => walk_at "jv"
         case q7 => exact ⟨some c, hs, z, hz', rfl, by rw [put_comm nyz, ← hms'', ← hms']⟩
end
section
noncomputable def gp (P : Int → Int → Bool) : Int → List (List Int) → List (Int × Int)
 | _, [] => []
 | fl, r :: L => (if decide (fl < lo r) && P fl (lo r) then [(fl, lo r)] else []) ++ gp P (max fl (hi r)) L
theorem gp_mem {P : Int → Int → Bool} {f l : Int} : ∀ {L : List (List Int)} {fl : Int}, L.Pairwise (fun a b => lo a ≤ lo b) → (f, l) ∈ gp P fl L →
 f < l ∧ P f l = true ∧ fl ≤ f ∧ (f = fl ∨ ∃ r ∈ L, f = hi r) ∧ (∃ r ∈ L, l = lo r) ∧ ∀ r ∈ L, hi r ≤ f ∨ l ≤ lo r
 | [], _, _, h => J.mn h
 | r :: L, fl, s, h => by
  refine A2 (List.pairwise_cons.mp s) fun s1 s2 => ?_
  refine O2 (List.mem_append.mp h) (fun h => ?_) (fun h => ?_)
  ·by_cases c : (decide (fl < lo r) && P fl (lo r)) = true
   ·rw [if_pos c, List.mem_singleton] at h
    rw [Bool.and_eq_true] at c
    obtain ⟨rfl, rfl⟩ := Prod.mk.inj h
    refine ⟨of_decide_eq_true c.1, c.2, Int.le_refl _, .inl rfl, ⟨r, .head _, rfl⟩, fun t ht => .inr ?_⟩
    refine O2 (List.mem_cons.mp ht) (fun e => ?_) (fun ht => s1 t ht)
    rw [e]; exact Int.le_refl _
   ·rw [if_neg c] at h; exact J.mn h
  ·refine A6 (gp_mem s2 h) fun h1 h2 h3 h4 h5 h6 => ?_
   have m1 : fl ≤ f := Int.le_trans (Int.le_max_left _ _) h3
   have m2 : hi r ≤ f := Int.le_trans (Int.le_max_right _ _) h3
   refine ⟨h1, h2, m1, ?_, ?_, ?_⟩
   ·refine O2 h4 (fun e => ?_) (fun z => E1A2 z fun t ht e => .inr ⟨t, .tail _ ht, e⟩)
    refine O2 (Int.le_total fl (hi r)) (fun q => ?_) (fun q => ?_)
    ·exact .inr ⟨r, .head _, e.trans (Int.max_eq_right q)⟩
    ·exact .inl (e.trans (Int.max_eq_left q))
   ·exact E1A2 h5 fun t ht e => ⟨t, .tail _ ht, e⟩
   ·intro t ht
    refine O2 (List.mem_cons.mp ht) (fun e => ?_) (fun ht => h6 t ht)
    rw [e]; exact .inl m2
theorem gp_raw {u v : Int} : ∀ {L : List (List Int)} {fl : Int}, L.Pairwise (fun a b => lo a ≤ lo b) → fl ≤ u → u < v → (∃ r ∈ L, v ≤ lo r) → (∀ r ∈ L, hi r ≤ u ∨ v ≤ lo r) →
 ∃ f l, f ≤ u ∧ v ≤ l ∧ fl ≤ f ∧ (∃ r ∈ L, l = lo r) ∧ (∀ r ∈ L, hi r ≤ f ∨ l ≤ lo r) ∧ ∀ P : Int → Int → Bool, P f l = true → (f, l) ∈ gp P fl L
 | [], _, _, _, _, h, _ => E1A2 h fun r hr _ => J.mn hr
 | r :: L, fl, s, hf, huv, h, g => by
  refine A2 (List.pairwise_cons.mp s) fun s1 s2 => ?_
  by_cases c : v ≤ lo r
  ·refine ⟨fl, lo r, hf, c, Int.le_refl _, ⟨r, .head _, rfl⟩, fun t ht => .inr ?_, fun P hP => ?_⟩
   ·refine O2 (List.mem_cons.mp ht) (fun e => ?_) (fun ht => s1 t ht)
    rw [e]; exact Int.le_refl _
   ·refine List.mem_append_left _ ?_
    rw [if_pos (by rw [Bool.and_eq_true]; exact ⟨decide_eq_true (Int.lt_of_le_of_lt hf (Int.lt_of_lt_of_le huv c)), hP⟩)]
    exact .head _
  ·have hr : hi r ≤ u := (g r (.head _)).resolve_right c
   have h' : ∃ r ∈ L, v ≤ lo r := E1A2 h fun t ht e => (List.mem_cons.mp ht).elim (fun q => absurd (q ▸ e) c) fun ht => ⟨t, ht, e⟩
   refine E2A6 (gp_raw (fl := max fl (hi r)) s2 (Int.max_le.mpr ⟨hf, hr⟩) huv h' fun t ht => g t (.tail _ ht)) fun f l h1 h2 h3 h4 h5 h6 => ?_
   refine ⟨f, l, h1, h2, Int.le_trans (Int.le_max_left _ _) h3, E1A2 h4 fun t ht e => ⟨t, .tail _ ht, e⟩, fun t ht => ?_, fun P hP => List.mem_append_right _ (h6 P hP)⟩
   refine O2 (List.mem_cons.mp ht) (fun e => ?_) (fun ht => h5 t ht)
   rw [e]; exact .inl (Int.le_trans (Int.le_max_right _ _) h3)
theorem gp_ge {P : Int → Int → Bool} {f l : Int} {L : List (List Int)} {fl : Int} (h : (f, l) ∈ gp P fl L) : fl ≤ f := by
 induction L generalizing fl with
 | nil => exact J.mn h
 | cons r L ih =>
  refine O2 (List.mem_append.mp h) (fun h => ?_) (fun h => Int.le_trans (Int.le_max_left _ _) (ih h))
  by_cases c : (decide (fl < lo r) && P fl (lo r)) = true
  ·rw [if_pos c, List.mem_singleton] at h
   rw [(Prod.mk.inj h).1]; exact Int.le_refl _
  ·rw [if_neg c] at h; exact J.mn h
theorem gp_nodup {P : Int → Int → Bool} {L : List (List Int)} {fl : Int} (g : ∀ r ∈ L, lo r ≤ hi r) : (gp P fl L).Nodup := by
 induction L generalizing fl with
 | nil => exact List.nodup_nil
 | cons r L ih =>
  refine List.nodup_append.mpr ⟨by split <;> simp, ih fun t ht => g t (.tail _ ht), fun x hx y hy e => ?_⟩
  by_cases c : (decide (fl < lo r) && P fl (lo r)) = true
  ·rw [if_pos c, List.mem_singleton] at hx
   rw [Bool.and_eq_true] at c
   have h1 := of_decide_eq_true c.1
   obtain ⟨y1, y2⟩ := y
   have h2 := gp_ge hy
   have h3 := g r (.head _)
   rw [hx] at e
   have h4 : fl = y1 := (Prod.mk.inj e).1
   have h5 : hi r ≤ y1 := Int.le_trans (Int.le_max_right _ _) h2
   exact absurd (Int.lt_of_lt_of_le h1 (Int.le_trans h3 h5)) (by rw [h4]; exact Int.lt_irrefl _)
  ·rw [if_neg c] at hx; exact J.mn hx
end
section
noncomputable abbrev rowQ (t : Rt) : List (Option Int) := [some t.x, some t.y, some t.w, some t.h]
noncomputable def strip2 (ps : List Rt) (a b : Int) : List (List Int) := (ps.filter fun q => decide (q.x < b) && (decide (a < q.x + q.w) && true)).map fun q => [q.y, q.y + q.h]
noncomputable def beside (ps : List Rt) (l h : Int) : List Rt := ps.filter fun q => decide (q.y < h) && (decide (l < q.y + q.h) && true)
noncomputable def held (ps : List Rt) (W a b l h : Int) : Bool :=
 (a == 0 || (((beside ps l h).filter fun q => q.x + q.w == a).map rowQ != [])) && (b == W || (((beside ps l h).filter fun q => q.x == b).map rowQ != []))
theorem ne_nil_iff {α β : Type} [BEq β] [LawfulBEq β] {f : α → β} {L : List α} : (L.map f != []) = true ↔ ∃ x, x ∈ L := by
 cases L with
 | nil => simp
 | cons a L => simp
theorem mem_beside {ps : List Rt} {l h : Int} {q : Rt} : q ∈ beside ps l h ↔ q ∈ ps ∧ q.y < h ∧ l < q.y + q.h := by
 unfold beside; rw [List.mem_filter]; simp
theorem held_iff {ps : List Rt} {W a b l h : Int} : held ps W a b l h = true ↔ (a = 0 ∨ ∃ q ∈ ps, (q.y < h ∧ l < q.y + q.h) ∧ q.x + q.w = a) ∧ (b = W ∨ ∃ q ∈ ps, (q.y < h ∧ l < q.y + q.h) ∧ q.x = b) := by
 unfold held
 rw [Bool.and_eq_true, Bool.or_eq_true, Bool.or_eq_true, ne_nil_iff, ne_nil_iff, beq_iff_eq, beq_iff_eq]
 simp only [List.mem_filter, mem_beside, beq_iff_eq, and_assoc]
noncomputable def dd (L : List Int) : List Int := L.foldl (fun acc x => if acc.contains x then acc else acc ++ [x]) []
theorem dd_aux : ∀ (L acc : List Int), acc.Nodup → (L.foldl (fun acc x => if acc.contains x then acc else acc ++ [x]) acc).Nodup ∧ ∀ x, x ∈ L.foldl (fun acc x => if acc.contains x then acc else acc ++ [x]) acc ↔ x ∈ acc ∨ x ∈ L
 | [], acc, h => ⟨h, fun x => by simp⟩
 | a :: L, acc, h => by
  rw [List.foldl_cons]
  by_cases c : acc.contains a = true
  ·rw [if_pos c]
   refine A2 (dd_aux L acc h) fun h1 h2 => ⟨h1, fun x => ?_⟩
   rw [h2, List.mem_cons]
   have : a ∈ acc := by simpa using c
   exact ⟨fun z => z.imp id .inr, fun z => z.elim .inl fun z => z.elim (fun e => .inl (e ▸ this)) .inr⟩
  ·rw [if_neg c]
   have na : a ∉ acc := by simpa using c
   refine A2 (dd_aux L (acc ++ [a]) (List.nodup_append.mpr ⟨h, by simp, fun x hx y hy e => ?_⟩)) fun h1 h2 => ⟨h1, fun x => ?_⟩
   ·rw [List.mem_singleton] at hy; exact na (hy ▸ e ▸ hx)
   ·rw [h2, List.mem_append, List.mem_singleton, List.mem_cons, or_assoc]
theorem mem_dd {L : List Int} {x : Int} : x ∈ dd L ↔ x ∈ L := by
 unfold dd; rw [(dd_aux L [] List.nodup_nil).2]; simp
theorem dd_nodup (L : List Int) : (dd L).Nodup := (dd_aux L [] List.nodup_nil).1
noncomputable def gaps (ps : List Rt) (W H a b : Int) : List Rt := (gp (held ps W a b) 0 (srt (strip2 ps a b) ++ [[H, H]])).map fun g => ⟨a, g.1, b - a, g.2 - g.1⟩
noncomputable def found (ps : List Rt) (W H : Int) : List Rt := (dd (0 :: ps.map fun t => t.x + t.w)).flatMap fun a => (dd (W :: ps.map fun t => t.x)).flatMap fun b => if decide (a < b) then gaps ps W H a b else []
theorem mem_strip2 {ps : List Rt} {a b : Int} {l : List Int} : l ∈ srt (strip2 ps a b) ↔ ∃ t ∈ ps, (t.x < b ∧ a < t.x + t.w) ∧ l = [t.y, t.y + t.h] := by
 rw [(srt_perm _).mem_iff]
 unfold strip2
 rw [List.mem_map]
 constructor
 ·intro z; refine E1A2 z fun t ht e => ?_
  refine A2 (List.mem_filter.mp ht) fun h1 h2 => ?_
  simp only [Bool.and_eq_true, decide_eq_true_eq, and_true] at h2
  exact ⟨t, h1, h2, e.symm⟩
 ·intro z; refine E1A3 z fun t h1 h2 e => ?_
  refine ⟨t, List.mem_filter.mpr ⟨h1, ?_⟩, e.symm⟩
  simp only [Bool.and_eq_true, decide_eq_true_eq, and_true]
  exact h2
section
variable {W H a b : Int} {ms ps : List Rt}
theorem strip2_lo (hb : ∀ p ∈ ps, p.inb W H ∧ p.pos) : (srt (strip2 ps a b) ++ [[H, H]]).Pairwise (fun a b => lo a ≤ lo b) := by
 refine List.pairwise_append.mpr ⟨asc_lo (fun l hl => ?_) (srt_asc _), List.pairwise_singleton _ _, fun r hr t ht => ?_⟩
 ·refine E1A3 (mem_strip2.mp hl) fun t _ _ e => ⟨_, _, e⟩
 ·rw [List.mem_singleton] at ht
  refine E1A3 (mem_strip2.mp hr) fun q hq _ e => ?_
  rw [ht, e]
  have h1 := (hb q hq).1.2.2.2
  have h2 := (hb q hq).2.2
  show q.y ≤ H
  lia
theorem mem_rows {r : List Int} : r ∈ srt (strip2 ps a b) ++ [[H, H]] ↔ (∃ t ∈ ps, (t.x < b ∧ a < t.x + t.w) ∧ r = [t.y, t.y + t.h]) ∨ r = [H, H] := by
 rw [List.mem_append, mem_strip2, List.mem_singleton]
theorem anti_eq {a b : Rt} (h : Anti ms) (ha : a ∈ ms) (hb : b ∈ ms) (hh : a.has b = true) : a = b := by
 induction ms with
 | nil => exact J.mn ha
 | cons c ms ih =>
  refine A2 (List.pairwise_cons.mp h) fun h1 h2 => ?_
  refine O2 (List.mem_cons.mp ha) (fun ea => ?_) (fun ha => ?_) <;> refine O2 (List.mem_cons.mp hb) (fun eb => ?_) (fun hb => ?_)
  ·exact ea.trans eb.symm
  ·exact J.tf (hh.symm.trans (ea ▸ (h1 b hb).1))
  ·exact J.tf (hh.symm.trans (eb ▸ (h1 a ha).2))
  ·exact ih h2 ha hb
theorem off_of {q t : Rt} (h : t.x < q.x + q.w ∧ q.x < t.x + t.w → t.y + t.h ≤ q.y ∨ q.y + q.h ≤ t.y) : q.off t := by
 refine (Int.lt_or_le t.x (q.x + q.w)).elim (fun a => ?_) (fun a => .inr (.inl a))
 refine (Int.lt_or_le q.x (t.x + t.w)).elim (fun b => ?_) (fun b => .inl b)
 exact (h ⟨a, b⟩).elim (fun z => .inr (.inr (.inl z))) fun z => .inr (.inr (.inr z))
theorem gap_ms (I : Inv W H ms ps) (ha : a = 0 ∨ ∃ t ∈ ps, a = t.x + t.w) (hb : b = W ∨ ∃ t ∈ ps, b = t.x) (hab : a < b) {f l : Int} (h : (f, l) ∈ gp (held ps W a b) 0 (srt (strip2 ps a b) ++ [[H, H]])) : (⟨a, f, b - a, l - f⟩ : Rt) ∈ ms := by
 refine A6 (gp_mem (strip2_lo I.pbin) h) fun h1 h2 h3 h4 h5 h6 => ?_
 rw [held_iff] at h2
 have a0 : 0 ≤ a := ha.elim (fun e => Int.le_of_eq e.symm) fun z => E1A2 z fun t ht e => by
  have := (I.pbin t ht).1.1; have := (I.pbin t ht).2.1; lia
 have bW : b ≤ W := hb.elim Int.le_of_eq fun z => E1A2 z fun t ht e => by
  have := (I.pbin t ht).1.2.2.1; have := (I.pbin t ht).2.1; lia
 have lH : l ≤ H := E1A2 h5 fun r hr e => (mem_rows.mp hr).elim (fun z => E1A3 z fun t ht _ e' => by
  rw [e, e']; have := (I.pbin t ht).1.2.2.2; have := (I.pbin t ht).2.2; show t.y ≤ H; lia) fun e' => by rw [e, e']; exact Int.le_refl H
 have eo : ∀ p ∈ ps, (⟨a, f, b - a, l - f⟩ : Rt).off p := fun p hp => off_of fun c => by
  have c1 : p.x < a + (b - a) := c.1
  rw [add_sub] at c1
  refine (h6 [p.y, p.y + p.h] (mem_rows.mpr (.inl ⟨p, hp, ⟨c1, c.2⟩, rfl⟩))).imp (fun z => z) fun z => ?_
  show f + (l - f) ≤ p.y
  rw [add_sub]; exact z
 refine E1A2 (I.cov ⟨a, f, b - a, l - f⟩ ⟨Int.sub_pos_of_lt hab, Int.sub_pos_of_lt h1⟩ ⟨a0, h3, by show a + (b - a) ≤ W; rw [add_sub]; exact bW, by show f + (l - f) ≤ H; rw [add_sub]; exact lH⟩ eo) fun m hm hh => ?_
 have hi := has_iff.mp hh
 have m1 : m.y ≤ f := hi.1
 have m2 : m.x ≤ a := hi.2.1
 have m3 : l ≤ m.y + m.h := by have := hi.2.2.1; have e : f + (l - f) = l := add_sub; lia
 have m4 : b ≤ m.x + m.w := by have := hi.2.2.2; have e : a + (b - a) = b := add_sub; lia
 have mb := I.bin m hm
 have irr : ∀ {x : Int}, ¬ x < x := fun h => Int.lt_irrefl _ h
 have k1 : a ≤ m.x := h2.1.elim (fun e => e ▸ mb.1.1) fun z => E1A3 z fun t ht c e => by
  have tw := (I.pbin t ht).2.1
  refine O4 (I.off m hm t ht) (fun o => e ▸ o) (fun o => ?_) (fun o => (irr (Int.lt_of_lt_of_le c.2 (Int.le_trans o m1))).elim) (fun o => (irr (Int.lt_of_lt_of_le c.1 (Int.le_trans m3 o))).elim)
  have : t.x < a := by rw [← e]; exact Int.lt_add_of_pos_right _ tw
  exact (irr (Int.lt_trans hab (Int.lt_of_le_of_lt (Int.le_trans m4 o) this))).elim
 have k2 : m.x + m.w ≤ b := h2.2.elim (fun e => e ▸ mb.1.2.2.1) fun z => E1A3 z fun t ht c e => by
  have tw := (I.pbin t ht).2.1
  refine O4 (I.off m hm t ht) (fun o => ?_) (fun o => e ▸ o) (fun o => (irr (Int.lt_of_lt_of_le c.2 (Int.le_trans o m1))).elim) (fun o => (irr (Int.lt_of_lt_of_le c.1 (Int.le_trans m3 o))).elim)
  have : b < m.x := by rw [← e]; exact Int.lt_of_lt_of_le (Int.lt_add_of_pos_right _ tw) o
  exact (irr (Int.lt_trans this (Int.lt_of_le_of_lt m2 hab))).elim
 have k3 : f ≤ m.y := h4.elim (fun e => e ▸ mb.1.2.1) fun z => E1A2 z fun r hr e => (mem_rows.mp hr).elim (fun z => E1A3 z fun t ht c e' => by
  have e2 : f = t.y + t.h := by rw [e, e']; rfl
  have th := (I.pbin t ht).2.2
  refine O4 (I.off m hm t ht) (fun o => (irr (Int.lt_of_lt_of_le c.2 (Int.le_trans o m2))).elim) (fun o => (irr (Int.lt_of_lt_of_le c.1 (Int.le_trans m4 o))).elim) (fun o => by rw [e2]; exact o) (fun o => ?_)
  have : t.y < f := by rw [e2]; exact Int.lt_add_of_pos_right _ th
  exact (irr (Int.lt_trans this (Int.lt_of_lt_of_le h1 (Int.le_trans m3 o)))).elim) fun e' => by
  have e2 : f = H := by rw [e, e']; rfl
  exact absurd (Int.lt_of_lt_of_le h1 lH) (by rw [e2]; exact irr)
 have k4 : m.y + m.h ≤ l := E1A2 h5 fun r hr e => (mem_rows.mp hr).elim (fun z => E1A3 z fun t ht c e' => by
  have e2 : l = t.y := by rw [e, e']; rfl
  have th := (I.pbin t ht).2.2
  refine O4 (I.off m hm t ht) (fun o => (irr (Int.lt_of_lt_of_le c.2 (Int.le_trans o m2))).elim) (fun o => (irr (Int.lt_of_lt_of_le c.1 (Int.le_trans m4 o))).elim) (fun o => ?_) (fun o => by rw [e2]; exact o)
  have : l < m.y := by rw [e2]; exact Int.lt_of_lt_of_le (Int.lt_add_of_pos_right _ th) o
  exact (irr (Int.lt_trans this (Int.lt_of_le_of_lt m1 h1))).elim) fun e' => by
  have e2 : l = H := by rw [e, e']; rfl
  rw [e2]; exact mb.1.2.2.2
 have : m = ⟨a, f, b - a, l - f⟩ := Rt.ext' (Int.le_antisymm m2 k1) (Int.le_antisymm m1 k3) (by show m.w = b - a; lia) (by show m.h = l - f; lia)
 exact this ▸ hm
theorem ms_held (I : Inv W H ms ps) {m : Rt} (hm : m ∈ ms) : held ps W m.x (m.x + m.w) m.y (m.y + m.h) = true := by
 have mb := I.bin m hm
 rw [held_iff]
 refine ⟨?_, ?_⟩
 ·by_cases h0 : m.x = 0
  ·exact .inl h0
  ·by_cases hc : ∃ q ∈ ps, (q.y < m.y + m.h ∧ m.y < q.y + q.h) ∧ q.x + q.w = m.x
   ·exact .inr hc
   ·exfalso
    have h1 := mb.1.1
    have hx : 0 ≤ m.x - 1 := by lia
    refine E1A2 (I.cov ⟨m.x - 1, m.y, m.w + 1, m.h⟩ ⟨by show 0 < m.w + 1; have := mb.2.1; lia, mb.2.2⟩ ⟨hx, mb.1.2.1, by show m.x - 1 + (m.w + 1) ≤ W; have := mb.1.2.2.1; lia, mb.1.2.2.2⟩ fun p hp => off_of fun c => ?_) fun m' hm' hh => ?_
    ·have o := I.off m hm p hp
     have c1 : p.x < m.x - 1 + (m.w + 1) := c.1
     have c2 : m.x - 1 < p.x + p.w := c.2
     show p.y + p.h ≤ m.y ∨ m.y + m.h ≤ p.y
     by_cases q1 : p.y < m.y + m.h
     ·by_cases q2 : m.y < p.y + p.h
      ·exfalso
       refine hc ⟨p, hp, ⟨q1, q2⟩, ?_⟩
       unfold Rt.off at o; lia
      ·exact .inl (Int.not_lt.mp q2)
     ·exact .inr (Int.not_lt.mp q1)
    ·have h2 := has_iff.mp hh
     have h3 : m'.has m = true := has_iff.mpr ⟨h2.1, by have := h2.2.1; show m'.x ≤ m.x; have e : m'.x ≤ m.x - 1 := this; lia, h2.2.2.1, by have e : m.x - 1 + (m.w + 1) ≤ m'.x + m'.w := h2.2.2.2; lia⟩
     have h4 : m' = m := anti_eq I.anti hm' hm h3
     have h5 : m'.x ≤ m.x - 1 := h2.2.1
     rw [h4] at h5; lia
 ·by_cases h0 : m.x + m.w = W
  ·exact .inl h0
  ·by_cases hc : ∃ q ∈ ps, (q.y < m.y + m.h ∧ m.y < q.y + q.h) ∧ q.x = m.x + m.w
   ·exact .inr hc
   ·exfalso
    have h1 := mb.1.2.2.1
    refine E1A2 (I.cov ⟨m.x, m.y, m.w + 1, m.h⟩ ⟨by show 0 < m.w + 1; have := mb.2.1; lia, mb.2.2⟩ ⟨mb.1.1, mb.1.2.1, by show m.x + (m.w + 1) ≤ W; lia, mb.1.2.2.2⟩ fun p hp => off_of fun c => ?_) fun m' hm' hh => ?_
    ·have o := I.off m hm p hp
     have c1 : p.x < m.x + (m.w + 1) := c.1
     have c2 : m.x < p.x + p.w := c.2
     show p.y + p.h ≤ m.y ∨ m.y + m.h ≤ p.y
     by_cases q1 : p.y < m.y + m.h
     ·by_cases q2 : m.y < p.y + p.h
      ·exfalso
       refine hc ⟨p, hp, ⟨q1, q2⟩, ?_⟩
       unfold Rt.off at o; lia
      ·exact .inl (Int.not_lt.mp q2)
     ·exact .inr (Int.not_lt.mp q1)
    ·have h2 := has_iff.mp hh
     have h3 : m'.has m = true := has_iff.mpr ⟨h2.1, h2.2.1, h2.2.2.1, by have e : m.x + (m.w + 1) ≤ m'.x + m'.w := h2.2.2.2; lia⟩
     have h4 : m' = m := anti_eq I.anti hm' hm h3
     have h5 : m.x + (m.w + 1) ≤ m'.x + m'.w := h2.2.2.2
     rw [h4] at h5; lia
theorem ms_gap (I : Inv W H ms ps) {m : Rt} (hm : m ∈ ms) : (m.y, m.y + m.h) ∈ gp (held ps W m.x (m.x + m.w)) 0 (srt (strip2 ps m.x (m.x + m.w)) ++ [[H, H]]) := by
 have mb := I.bin m hm
 refine E2A6 (gp_raw (u := m.y) (v := m.y + m.h) (strip2_lo (a := m.x) (b := m.x + m.w) I.pbin) mb.1.2.1 (by have := mb.2.2; lia) ⟨[H, H], mem_rows.mpr (.inr rfl), mb.1.2.2.2⟩ fun r hr => ?_) fun f l h1 h2 h3 h4 h5 h6 => ?_
 ·refine (mem_rows.mp hr).elim (fun z => E1A3 z fun t ht c e => ?_) fun e => ?_
  ·rw [e]
   have o := I.off m hm t ht
   show t.y + t.h ≤ m.y ∨ m.y + m.h ≤ t.y
   exact o.elim (fun a => absurd c.2 (Int.not_lt.mpr a)) fun o => o.elim (fun a => absurd c.1 (Int.not_lt.mpr a)) id
  ·rw [e]; exact .inr mb.1.2.2.2
 ·have lH : l ≤ H := E1A2 h4 fun r hr e => (mem_rows.mp hr).elim (fun z => E1A3 z fun t ht _ e' => by
   rw [e, e']; have := (I.pbin t ht).1.2.2.2; have := (I.pbin t ht).2.2; show t.y ≤ H; lia) fun e' => by rw [e, e']; exact Int.le_refl H
  have hfl : f < l := Int.lt_of_le_of_lt h1 (Int.lt_of_lt_of_le (by have := mb.2.2; lia : m.y < m.y + m.h) h2)
  refine E1A2 (I.cov ⟨m.x, f, m.w, l - f⟩ ⟨mb.2.1, Int.sub_pos_of_lt hfl⟩ ⟨mb.1.1, h3, mb.1.2.2.1, by show f + (l - f) ≤ H; rw [add_sub]; exact lH⟩ fun p hp => off_of fun c => ?_) fun m' hm' hh => ?_
  ·refine (h5 [p.y, p.y + p.h] (mem_rows.mpr (.inl ⟨p, hp, c, rfl⟩))).imp (fun z => z) fun z => ?_
   show f + (l - f) ≤ p.y
   rw [add_sub]; exact z
  ·have g := has_iff.mp hh
   have g3 : f + (l - f) ≤ m'.y + m'.h := g.2.2.1
   rw [add_sub] at g3
   have e : m' = m := anti_eq I.anti hm' hm (has_iff.mpr ⟨Int.le_trans g.1 h1, g.2.1, Int.le_trans h2 g3, g.2.2.2⟩)
   have e1 : f = m.y := Int.le_antisymm h1 (e ▸ g.1)
   have e2 : l = m.y + m.h := Int.le_antisymm (e ▸ g3) h2
   rw [show (m.y, m.y + m.h) = (f, l) from by rw [e1, e2]]
   refine h6 _ ?_
   rw [e1, e2]; exact ms_held I hm
theorem found_mem (I : Inv W H ms ps) {e : Rt} : e ∈ found ps W H ↔ e ∈ ms := by
 unfold found
 rw [List.mem_flatMap]
 constructor
 ·intro z
  refine E1A2 z fun a ha h => ?_
  refine E1A2 (List.mem_flatMap.mp h) fun b hb h => ?_
  by_cases hab : a < b
  ·rw [if_pos (decide_eq_true hab)] at h
   refine E1A2 (List.mem_map.mp h) fun g hg q => ?_
   rw [← q]
   refine gap_ms I ?_ ?_ hab hg
   ·exact (List.mem_cons.mp (mem_dd.mp ha)).imp id fun z => E1A2 (List.mem_map.mp z) fun t ht q => ⟨t, ht, q.symm⟩
   ·exact (List.mem_cons.mp (mem_dd.mp hb)).imp id fun z => E1A2 (List.mem_map.mp z) fun t ht q => ⟨t, ht, q.symm⟩
  ·rw [if_neg (by rw [decide_eq_false hab]; decide)] at h; exact J.mn h
 ·intro hm
  have mb := I.bin e hm
  refine ⟨e.x, mem_dd.mpr ?_, List.mem_flatMap.mpr ⟨e.x + e.w, mem_dd.mpr ?_, ?_⟩⟩
  ·exact (I.cx e hm).elim (fun q => q ▸ .head _) fun z => E1A2 z fun t ht q => .tail _ (List.mem_map.mpr ⟨t, ht, q.symm⟩)
  ·exact (I.cr e hm).elim (fun q => q ▸ .head _) fun z => E1A2 z fun t ht q => .tail _ (List.mem_map.mpr ⟨t, ht, q.symm⟩)
  ·rw [if_pos (decide_eq_true (by have := mb.2.1; lia))]
   refine List.mem_map.mpr ⟨_, ms_gap I hm, ?_⟩
   exact Rt.ext' rfl rfl (by show e.x + e.w - e.x = e.w; lia) (by show e.y + e.h - e.y = e.h; lia)
theorem found_nodup (I : Inv W H ms ps) (hH : 0 < H) : (found ps W H).Nodup := by
 have hg : ∀ a b, ∀ r ∈ srt (strip2 ps a b) ++ [[H, H]], lo r ≤ hi r := fun a b r hr => (mem_rows.mp hr).elim (fun z => E1A3 z fun t ht _ e => by
  rw [e]; have := (I.pbin t ht).2.2; show t.y ≤ t.y + t.h; lia) fun e => by rw [e]; exact Int.le_refl H
 have in1 : ∀ {a b : Int} {e : Rt}, e ∈ (if decide (a < b) then gaps ps W H a b else []) → e.x = a ∧ e.x + e.w = b := fun {a b e} h => by
  by_cases hab : a < b
  ·rw [if_pos (decide_eq_true hab)] at h
   refine E1A2 (List.mem_map.mp h) fun g hg q => ?_
   rw [← q]; exact ⟨rfl, add_sub⟩
  ·rw [if_neg (by rw [decide_eq_false hab]; decide)] at h; exact J.mn h
 unfold found
 rw [List.nodup_iff_pairwise_ne, List.pairwise_flatMap]
 refine ⟨fun a ha => ?_, ?_⟩
 ·rw [List.pairwise_flatMap]
  refine ⟨fun b hb => ?_, ?_⟩
  ·split
   ·refine List.pairwise_map.mpr ((List.nodup_iff_pairwise_ne.mp (gp_nodup (hg a b))).imp fun {g g'} n e => n ?_)
    have e1 : g.1 = g'.1 := congrArg Rt.y e
    have e2 : g.2 - g.1 = g'.2 - g'.1 := congrArg Rt.h e
    exact Prod.ext e1 (by lia)
   ·exact .nil
  ·refine (List.nodup_iff_pairwise_ne.mp (dd_nodup _)).imp fun {b b'} n x hx y hy e => n ?_
   rw [← (in1 hx).2, ← (in1 hy).2, e]
 ·refine (List.nodup_iff_pairwise_ne.mp (dd_nodup _)).imp fun {a a'} n x hx y hy e => n ?_
  refine E1A2 (List.mem_flatMap.mp hx) fun b _ hx => ?_
  refine E1A2 (List.mem_flatMap.mp hy) fun b' _ hy => ?_
  rw [← (in1 hx).1, ← (in1 hy).1, e]
theorem found_perm (I : Inv W H ms ps) (hH : 0 < H) : (found ps W H).Perm ms :=
 (List.perm_ext_iff_of_nodup (found_nodup I hH) I.anti.nodup).mpr fun _ => found_mem I
end
end
section
noncomputable def tri (i j k : Nat) : Nat := 2 ^ i + 2 ^ j + 2 ^ k
noncomputable def m56 : List Nat := (List.range 256).filter fun n => (List.range 8).countP (fun i => n.testBit i) == 3
theorem m56_len : m56.length = 56 := by decide +kernel
theorem tri_in : ∀ i j k : Fin 8, i ≠ j → j ≠ k → i ≠ k → tri i j k ∈ m56 := by decide +kernel
theorem tri_bit : ∀ i j k n : Fin 8, i ≠ j → j ≠ k → i ≠ k → ((tri i j k).testBit n = true ↔ n = i ∨ n = j ∨ n = k) := by decide +kernel
section
variable {W H : Int} {ms ps : List Rt}
noncomputable def props (W H : Int) (ps : List Rt) : List Rt := ⟨-1, 0, 1, H⟩ :: ⟨W, 0, 1, H⟩ :: ⟨0, -1, W, 1⟩ :: ps
structure Pr (S : List Rt) (m : Rt) (i j k : Fin 8) : Prop where
 l : (S.getD i r0).x + (S.getD i r0).w = m.x
 r : (S.getD j r0).x = m.x + m.w
 b : (S.getD k r0).y + (S.getD k r0).h = m.y
 k1 : (S.getD i r0).x + (S.getD i r0).w < (S.getD j r0).x + (S.getD j r0).w
 k2 : (S.getD i r0).x + (S.getD i r0).w < (S.getD k r0).x + (S.getD k r0).w
 k3 : (S.getD i r0).x < (S.getD j r0).x
 k4 : (S.getD k r0).x < (S.getD j r0).x
theorem getD_of {S : List Rt} {q : Rt} (h : q ∈ S) (hz : S.length ≤ 8) : ∃ i : Fin 8, S.getD i r0 = q := by
 obtain ⟨i, hi, e⟩ := List.getElem_of_mem h
 exact ⟨⟨i, Nat.lt_of_lt_of_le hi hz⟩, by rw [List.getD, List.getElem?_eq_getElem hi, e]; rfl⟩
theorem Pr.ne {S : List Rt} {m : Rt} {i j k : Fin 8} (p : Pr S m i j k) : i ≠ j ∧ j ≠ k ∧ i ≠ k :=
 ⟨fun e => Int.lt_irrefl _ (e ▸ p.k1), fun e => Int.lt_irrefl _ (e ▸ p.k4), fun e => Int.lt_irrefl _ (e ▸ p.k2)⟩
theorem props_of (I : Inv W H ms ps) (hW : 0 < W) (hz : ps.length ≤ 5) {m : Rt} (hm : m ∈ ms) : ∃ i j k : Fin 8, Pr (props W H ps) m i j k := by
 have mb := I.bin m hm
 have hS : (props W H ps).length ≤ 8 := Nat.add_le_add_right hz 3
 have hp : ∀ q ∈ ps, q ∈ props W H ps := fun q hq => .tail _ (.tail _ (.tail _ hq))
 have hh := held_iff.mp (ms_held I hm)
 have hl : ∃ q ∈ props W H ps, q.x + q.w = m.x ∧ 0 < q.w := hh.1.elim (fun e => ⟨_, .head _, by rw [e]; rfl, by show (0 : Int) < 1; decide⟩) fun z => E1A3 z fun q hq _ e => ⟨q, hp q hq, e, (I.pbin q hq).2.1⟩
 have hr : ∃ q ∈ props W H ps, q.x = m.x + m.w ∧ 0 < q.w := hh.2.elim (fun e => ⟨_, .tail _ (.head _), e.symm, by show (0 : Int) < 1; decide⟩) fun z => E1A3 z fun q hq _ e => ⟨q, hp q hq, e, (I.pbin q hq).2.1⟩
 have hb : ∃ q ∈ props W H ps, q.y + q.h = m.y ∧ q.x < m.x + m.w ∧ m.x < q.x + q.w := by
  refine A6 (gp_mem (strip2_lo I.pbin) (ms_gap I hm)) fun h1 h2 h3 h4 h5 h6 => ?_
  refine h4.elim (fun e => ⟨_, .tail _ (.tail _ (.head _)), by rw [e]; rfl, by show 0 < m.x + m.w; have := mb.1.1; have := mb.2.1; lia, by show m.x < 0 + W; have := mb.1.2.2.1; have := mb.2.1; lia⟩) fun z => E1A2 z fun r hr e => ?_
  refine (mem_rows.mp hr).elim (fun z => E1A3 z fun t ht c e' => ⟨t, hp t ht, by rw [e, e']; rfl, c⟩) fun e' => ?_
  have e2 : m.y = H := by rw [e, e']; rfl
  have := mb.1.2.2.2; have := mb.2.2
  exfalso; lia
 refine E1A3 hl fun l hl l1 l2 => ?_
 refine E1A3 hr fun r hr r1 r2 => ?_
 refine E1A4 hb fun b hb b1 b2 b3 => ?_
 obtain ⟨i, ei⟩ := getD_of hl hS
 obtain ⟨j, ej⟩ := getD_of hr hS
 obtain ⟨k, ek⟩ := getD_of hb hS
 have := mb.2.1
 exact ⟨i, j, k, by rw [ei]; exact l1, by rw [ej]; exact r1, by rw [ek]; exact b1, by rw [ei, ej]; lia, by rw [ei, ek]; lia, by rw [ei, ej]; lia, by rw [ek, ej]; lia⟩
theorem props_inj (I : Inv W H ms ps) {m m' : Rt} (hm : m ∈ ms) (hm' : m' ∈ ms) {S : List Rt} {i j k i' j' k' : Fin 8} (p : Pr S m i j k) (p' : Pr S m' i' j' k') (e : tri i j k = tri i' j' k') : m = m' := by
 have n := p.ne
 have n' := p'.ne
 have mem : ∀ x : Fin 8, (x = i ∨ x = j ∨ x = k) ↔ (x = i' ∨ x = j' ∨ x = k') := fun x => by
  rw [← tri_bit i j k x n.1 n.2.1 n.2.2, ← tri_bit i' j' k' x n'.1 n'.2.1 n'.2.2, e]
 have hi : i = i' := by
  rcases (mem i).mp (.inl rfl) with q | q | q
  ·exact q
  ·exfalso
   rcases (mem i').mpr (.inl rfl) with z | z | z
   ·exact n'.1 (z.trans q)
   ·have a := p.k1; have b := p'.k1; rw [← z, q] at a; exact Int.lt_irrefl _ (Int.lt_trans a b)
   ·have a := p.k2; have b := p'.k1; rw [← z, q] at a; exact Int.lt_irrefl _ (Int.lt_trans a b)
  ·exfalso
   rcases (mem i').mpr (.inl rfl) with z | z | z
   ·exact n'.2.2 (z.trans q)
   ·have a := p.k1; have b := p'.k2; rw [← z, q] at a; exact Int.lt_irrefl _ (Int.lt_trans a b)
   ·have a := p.k2; have b := p'.k2; rw [← z, q] at a; exact Int.lt_irrefl _ (Int.lt_trans a b)
 have hj : j = j' := by
  rcases (mem j).mp (.inr (.inl rfl)) with q | q | q
  ·exfalso
   rcases (mem j').mpr (.inr (.inl rfl)) with z | z | z
   ·have a := p.k3; have b := p'.k3; rw [← z, q] at a; exact Int.lt_irrefl _ (Int.lt_trans a b)
   ·exact n'.1 (q.symm.trans z.symm)
   ·have a := p.k4; have b := p'.k3; rw [← z, q] at a; exact Int.lt_irrefl _ (Int.lt_trans a b)
  ·exact q
  ·exfalso
   rcases (mem j').mpr (.inr (.inl rfl)) with z | z | z
   ·have a := p.k3; have b := p'.k4; rw [← z, q] at a; exact Int.lt_irrefl _ (Int.lt_trans a b)
   ·exact n'.2.1 (z.trans q)
   ·have a := p.k4; have b := p'.k4; rw [← z, q] at a; exact Int.lt_irrefl _ (Int.lt_trans a b)
 have hk : k = k' := by
  rcases (mem k).mp (.inr (.inr rfl)) with q | q | q
  ·exact absurd (hi.trans q.symm) n.2.2
  ·exact absurd (hj.trans q.symm) n.2.1
  ·exact q
 have e1 : m.x = m'.x := by rw [← p.l, ← p'.l, hi]
 have e2 : m.x + m.w = m'.x + m'.w := by rw [← p.r, ← p'.r, hj]
 have e3 : m.y = m'.y := by rw [← p.b, ← p'.b, hk]
 refine (Int.le_total (m.y + m.h) (m'.y + m'.h)).elim (fun q => ?_) (fun q => ?_)
 ·exact (anti_eq I.anti hm' hm (has_iff.mpr ⟨Int.le_of_eq e3.symm, Int.le_of_eq e1.symm, q, Int.le_of_eq e2⟩)).symm
 ·exact anti_eq I.anti hm hm' (has_iff.mpr ⟨Int.le_of_eq e3, Int.le_of_eq e1, q, Int.le_of_eq e2.symm⟩)
theorem ms_56 (I : Inv W H ms ps) (hW : 0 < W) (hz : ps.length ≤ 5) : ms.length ≤ 56 := by
 have h : ∃ f : Rt → Nat, ∀ m ∈ ms, ∃ i j k : Fin 8, Pr (props W H ps) m i j k ∧ f m = tri i j k := by
  refine ⟨fun m => open Classical in if h : ∃ i j k : Fin 8, Pr (props W H ps) m i j k then tri h.choose h.choose_spec.choose h.choose_spec.choose_spec.choose else 0, fun m hm => ?_⟩
  have h := props_of I hW hz hm
  exact ⟨h.choose, h.choose_spec.choose, h.choose_spec.choose_spec.choose, h.choose_spec.choose_spec.choose_spec, dif_pos h⟩
 refine E1 h fun f hf => ?_
 rw [← m56_len, ← List.length_map (f := f)]
 refine nodup_le ?_ fun a ha => ?_
 ·rw [List.nodup_iff_pairwise_ne, List.pairwise_map]
  refine List.Pairwise.imp_of_mem ?_ (List.nodup_iff_pairwise_ne.mp I.anti.nodup)
  intro a b ha hb n e
  refine E3A2 (hf a ha) fun i j k p q => ?_
  refine E3A2 (hf b hb) fun i' j' k' p' q' => ?_
  exact n (props_inj I ha hb p p' (by rw [← q, ← q', e]))
 ·refine E1A2 (List.mem_map.mp ha) fun m hm e => ?_
  refine E3A2 (hf m hm) fun i j k p q => ?_
  have n := p.ne
  rw [← e, q]; exact tri_in i j k n.1 n.2.1 n.2.2
end
end
section
variable {w : World} {g0 : Heap} {tb : List (Addr × Addr × Array Value)} {os : OsState} {pg : List (Nat × GenState)} {st : AS} {P : PL} {A : Around} {env : Env} {m : AM}
theorem x_setL {y : Str} {py : Pos} {X : Cx} {elt tgt iter : Expr} {ifs : List Expr} {scope : Scope} {pos spos : Pos} {b : AV} {xs : List AV} {ts : List Stmt} {Q : AF → AS → AM → Prop} (g : AV → List AV) (L : AV → AM → AM) (hA : A.handled = none)
 (hsw : swapsWith (.ListComp elt [⟨tgt, iter, ifs, 0⟩] scope pos) (some (.Name y py)) spos.line env = pure true) (hy : storeOk env y = true)
 (ok : compOk env scope = true) (hs : ∀ x, foldedSetIterable iter env x = pure x) (hi : EV X P A env st m (eval iter env) b) (hL : IsL st b xs)
 (hz : (xs.flatMap g).length ≤ sizeLine) (hT : ∀ a ∈ xs, TG X A scope env m tgt a (L a))
 (turn : ∀ P' cl C D a ml, st D = none → (∀ n, Room n A P (locOf env) → Room n A P' (locOf (compEnvC scope cl C env))) → a ∈ xs → ∃ q, (∀ acc, EvIfs X P' A (compEnvC scope cl C env) (put st D (.list acc)) (MM scope m (L a ml)) ifs q) ∧
  (q = true → ∃ b, (∀ acc, EV X P' A (compEnvC scope cl C env) (put st D (.list acc)) (MM scope m (L a ml)) (eval elt (compEnvC scope cl C env)) b) ∧ g a = [b]) ∧ (q = false → g a = []))
 (k : WX X P A env st (upd m y (.lst (xs.flatMap g))) (execs ts env) Q) :
 WX X P A env st m (execs (.Assign [.Name y py] (.ListComp elt [⟨tgt, iter, ifs, 0⟩] scope pos) spos :: ts) env) Q := by
 refine E1A3 (i_isL (tgt := tgt) hA hi hL) fun NS h1 h2 _ => ?_
 exact x_cons (x_set_comp1 g L hsw hy ok hs h1 h2 hz hT turn k)
theorem rowR_Q (L : List Rt) : (L.map rowQ).map tO = L.map rowR := by rw [List.map_map]; rfl
theorem f_held (hX : (CX w g0 tb os pg).Ok) {b : AV} {ps : List Rt} {W x y l h : Int} (hb : IsL st b (ps.map rowR)) (hz : ps.length < 60) :
 FNv (CX w g0 tb os pg) 10 488 st [b, .int W, .int x, .int y, .int l, .int h] (.bool (held ps W x y l h)) := by
 refine FN.of (abinds := [("placed", b), ("width", .int W), ("a", .int x), ("b", .int y), ("low", .int l), ("high", .int h)]) hX.kin (by rfl) (by kernel_rfl) (fun P s vals g rv => ?_) rfl rfl rfl (by kernel_rfl) (by kernel_rfl) fun P A L R hf => ?_
 ·refine VRs.e6 (M := fun vs => ∃ b, BindsTo s _ { pos := vs } b ∧ BR _ _ b _) (fun r1 r2 r3 r4 r5 r6 => ?_) rv
  exact ⟨_, BindsTo.of_eq (by kernel_rfl), .cons r1 (.cons r2 (.cons r3 (.cons r4 (.cons r5 (.cons r6 .nil)))))⟩
 dsimp only [bindA]
 have hz2 : ps.length ≤ sizeLine := Nat.le_trans (Nat.le_of_lt hz) (by decide)
 have hzB : (beside ps l h).length ≤ sizeLine := Nat.le_trans (List.length_filter_le _ _) hz2
 have hg : ((ps.map rowR).flatMap fun a => if (decide ((rtR a).y < h) && (decide (l < (rtR a).y + (rtR a).h) && true)) = true then [rowR (rtR a)] else []) = (beside ps l h).map rowR := fm_filter (fun q => decide (q.y < h) && (decide (l < q.y + q.h) && true)) rowR ps
 refine' x_setL (b := b) (xs := ps.map rowR) (fun a => if (decide ((rtR a).y < h) && (decide (l < (rtR a).y + (rtR a).h) && true)) = true then [rowR (rtR a)] else []) (fun a ml => upd ml "one" a) R.handled (by kernel_rfl) (by kernel_rfl) (by kernel_rfl) (fun _ => by kernel_rfl) ?v2 hb ?z2 (fun a _ => tg_name (fun _ _ => by kernel_rfl) (by kernel_rfl)) ?t2 ?k1
 case v2 => walk_at "jv"
 case z2 => rw [hg, List.length_map]; exact hzB
 case t2 =>
  intro P' cl C D a ml hD hR ha
  refine E1A2 (List.mem_map.mp ha) fun t ht hn5 => ?_; obtain rfl := hn5
  refine ⟨_, fun acc => ifs_one ?_, fun h => ⟨rowR t, fun acc => ?_, (if_pos h).trans rfl⟩, fun h => if_neg (by rw [h]; decide)⟩
  ·change EvT _ _ _ _ _ _ _ (decide (t.y < h) && (decide (l < t.y + t.h) && true))
   walk_at "jt"
  ·walk_at "jv"
 case k1 =>
  rw [hg]
  have part : ∀ (c : Rt → Bool), (((beside ps l h).filter c).map rowR).length ≤ sizeLine := fun c => by
   rw [List.length_map]; exact Nat.le_trans (List.length_filter_le _ _) hzB
  refine' x_cons (x_ret (WE.of (e_and (e_or (e_cmp ?v1 e_int o_eq (by kernel_rfl)) fun _ => e_and1 (e_cmp (a := .lst ((((beside ps l h).filter fun q => q.x + q.w == x).map rowQ).map tO)) (b := .lst (([] : List (List (Option Int))).map tO)) ?c2 (e_lst el_nil (lb (by kernel_rfl))) (o_neL (by have := R.units; omega) isL_lst isL_lst) (by kernel_rfl))) fun _ => e_and1 (e_or (e_cmp ?v3 ?v4 o_eq (by kernel_rfl)) fun _ => e_and1 (e_cmp (a := .lst ((((beside ps l h).filter fun q => q.x == y).map rowQ).map tO)) (b := .lst (([] : List (List (Option Int))).map tO)) ?c3 (e_lst el_nil (lb (by kernel_rfl))) (o_neL (by have := R.units; omega) isL_lst isL_lst) (by kernel_rfl)))) ⟨rfl, rfl⟩))
  case v1 => walk_at "jv"
  case v3 => walk_at "jv"
  case v4 => walk_at "jv"
  case c2 =>
   rw [rowR_Q, ← fm_filter _ rowR]
   refine' e_comp1L (b := .lst ((beside ps l h).map rowR)) (xs := (beside ps l h).map rowR) _ (fun a ml => upd ml "one" a) R.handled (by kernel_rfl) (fun _ => by kernel_rfl) ?v5 isL_lst ?z5 (fun a _ => tg_name (fun _ _ => by kernel_rfl) (by kernel_rfl)) ?t5
   case v5 => walk_at "jv"
   case z5 => rw [fm_filter (fun q => q.x + q.w == x) rowR]; exact part _
   case t5 =>
    intro P' cl C D a ml hD hR ha
    refine E1A2 (List.mem_map.mp ha) fun t ht hn5 => ?_; obtain rfl := hn5
    refine ⟨_, fun acc => ifs_one ?_, fun h => ⟨rowR t, fun acc => ?_, (if_pos h).trans rfl⟩, fun h => if_neg (by rw [h]; decide)⟩
    ·change EvT _ _ _ _ _ _ _ (t.x + t.w == x)
     walk_at "jt"
    ·walk_at "jv"
  case c3 =>
   rw [rowR_Q, ← fm_filter _ rowR]
   refine' e_comp1L (b := .lst ((beside ps l h).map rowR)) (xs := (beside ps l h).map rowR) _ (fun a ml => upd ml "one" a) R.handled (by kernel_rfl) (fun _ => by kernel_rfl) ?v6 isL_lst ?z6 (fun a _ => tg_name (fun _ _ => by kernel_rfl) (by kernel_rfl)) ?t6
   case v6 => walk_at "jv"
   case z6 => rw [fm_filter (fun q => q.x == y) rowR]; exact part _
   case t6 =>
    intro P' cl C D a ml hD hR ha
    refine E1A2 (List.mem_map.mp ha) fun t ht hn5 => ?_; obtain rfl := hn5
    refine ⟨_, fun acc => ifs_one ?_, fun h => ⟨rowR t, fun acc => ?_, (if_pos h).trans rfl⟩, fun h => if_neg (by rw [h]; decide)⟩
    ·change EvT _ _ _ _ _ _ _ (t.x == y)
     walk_at "jt"
    ·walk_at "jv"
theorem x_appT {X : Cx} {e : Expr} {x : Str} {xp ap cp p : Pos} {z : Addr} {l : List AV} {r : AV} {ts : List Stmt} {Q : AF → AS → AM → Prop} (hx : EV X P A env st m (eval (.Name x xp) env) (.ref z)) (hz : st z = some (.list l)) (hl : l.length ≤ sizeLine)
 (hv : EV X P A env st m (eval e env) r) (hi : interactive env = false) (hs : swapsWith (.Call (.Attribute (.Name x xp) "append" ap) [e] [] cp) none p.line env = pure false)
 (hse : starEach [e] env = [(false, eval e env)])
 (he : eval (.Call (.Attribute (.Name x xp) "append" ap) [e] [] cp) env = (do
  let ov ← eval (.Name x xp) env
  standAt ap.atName
  let (f, first) ← holding [ov] (getMethod ov "append" (do return (← importBound (.Name x xp) env).getD true))
  callWith cp f first (backTo cp (starEach [e] env)) (backToKw cp (keywordEach [] env))))
 (k : WX X P A env (put st z (.list (l ++ [r]))) m (execs ts env) Q) :
 WX X P A env st m (execs (.Expr (.Call (.Attribute (.Name x xp) "append" ap) [e] [] cp) p :: ts) env) Q :=
 x_cons (x_expr (e_append hx (WE.of hv ⟨l, hz, hl, rfl, by dsimp only; exact k⟩) ⟨l, hz⟩ hse he) hi hs)
theorem contains_some {l : List Int} {x : Int} : (l.map some).contains (some x) = l.contains x := by
 rw [Bool.eq_iff_iff]; simp
theorem dd_snoc (L : List Int) (x : Int) : dd (L ++ [x]) = if (dd L).contains x then dd L else dd L ++ [x] := by
 unfold dd; rw [List.foldl_append]; rfl
theorem dd_len (L : List Int) : (dd L).length ≤ L.length := nodup_le (dd_nodup L) fun _ h => mem_dd.mp h
theorem fm_pre {α β : Type} {f : α → List β} {L : List α} {i : Nat} {a : α} (h : L[i]? = some a) : ((L.take i).flatMap f).length + (f a).length ≤ (L.flatMap f).length := by
 have e : (L.take (i + 1)).flatMap f = (L.take i).flatMap f ++ f a := by rw [List.take_add_one, h, List.flatMap_append]; simp
 rw [← List.length_append, ← e]
 conv => rhs; rw [← List.take_append_drop (i + 1) L, List.flatMap_append, List.length_append]
 exact Nat.le_add_right _ _
theorem fm_take {α β : Type} {f : α → List β} {L : List α} {i : Nat} {a : α} (h : L[i]? = some a) : (L.take (i + 1)).flatMap f = (L.take i).flatMap f ++ f a := by
 rw [List.take_add_one, h, List.flatMap_append]; simp
noncomputable abbrev rowZ (t : Rt) : List Int := [t.x, t.y, t.w, t.h]
theorem rowR_Z (L : List Rt) : (L.map rowZ).map rowI = L.map rowR := by rw [List.map_map]; rfl
theorem put_none {st : AS} {a b : Addr} {o : AO} (h : put st a o b = none) : b ≠ a ∧ st b = none := by
 have n : b ≠ a := fun e => by rw [e, put_same] at h; exact J.sn h
 exact ⟨n, by rw [put_ne n] at h; exact h⟩
theorem gp_app (P : Int → Int → Bool) : ∀ (L M : List (List Int)) (fl : Int), gp P fl (L ++ M) = gp P fl L ++ gp P (L.foldl (fun f r => max f (hi r)) fl) M
 | [], M, fl => rfl
 | t :: L, M, fl => by
  show _ ++ gp P _ (L ++ M) = (_ ++ gp P _ L) ++ _
  rw [gp_app P L M, List.append_assoc]; rfl
theorem gp_take (P : Int → Int → Bool) (L : List (List Int)) (fl : Int) (k : Nat) : (gp P fl (L.take k)).length ≤ (gp P fl L).length := by
 conv => rhs; rw [← List.take_append_drop k L, gp_app, List.length_append]
 exact Nat.le_add_right _ _
theorem rows2 {ps : List Rt} {H x y : Int} {r : List Int} (h : r ∈ srt (strip2 ps x y) ++ [[H, H]]) : ∃ a b, r = [a, b] :=
 (mem_rows.mp h).elim (fun z => E1A3 z fun t _ _ e => ⟨_, _, e⟩) fun e => ⟨_, _, e⟩
end
section
variable {w : World} {g0 : Heap} {tb : List (Addr × Addr × Array Value)} {os : OsState} {pg : List (Nat × GenState)} {st : AS} {P : PL} {A : Around} {env : Env} {m : AM}
theorem um1 {a : Nat} (h : a + 20 * 19 < cLine) : a + 1 < cLine := Nat.lt_of_le_of_lt (Nat.add_le_add_left (by decide) a) h
theorem x_dedup {X : Cx} {dn : Str} {p1 p2 p3 p4 p5 p6 p7 p8 p9 p10 p11 : Pos} {iter : Expr} {ts : List Stmt} {Q : AF → AS → AM → Prop} {z : Addr} (V : List Int) (hA : A.handled = none) (hu : A.units + 1 < cLine) (hV : V.length ≤ sizeLine)
 (hi : EV X P A env st m (eval iter env) (.lst (V.map .int))) (hs : ∀ x, foldedSetIterable iter env x = pure x) (hz : st z = some (.list [])) (hd : m dn = some (.ref z)) (hne : dn ≠ "x") (nd : nameOk env dn = true) (nx : nameOk env "x" = true) (sx : storeOk env "x" = true)
 (hin : interactive env = false) (hm : behindInMarks .NotIn (.Name dn p4) = false) (hsw : swapsWith (.Call (.Attribute (.Name dn p5) "append" p6) [.Name "x" p7] [] p8) none p9.line env = pure false) (hse : starEach [.Name "x" p7] env = [(false, eval (.Name "x" p7) env)])
 (he : eval (.Call (.Attribute (.Name dn p5) "append" p6) [.Name "x" p7] [] p8) env = (do
  let ov ← eval (.Name dn p5) env
  standAt p6.atName
  let (f, first) ← holding [ov] (getMethod ov "append" (do return (← importBound (.Name dn p5) env).getD true))
  callWith p8 f first (backTo p8 (starEach [.Name "x" p7] env)) (backToKw p8 (keywordEach [] env))))
 (k : ∀ m', (∀ y : Str, y ≠ "x" → m' y = m y) → WX X P A env (put st z (.list ((dd V).map .int))) m' (execs ts env) Q) :
 WX X P A env st m (execs (.For (.Name "x" p1) iter [.If (.Compare (.Name "x" p2) [.NotIn] [.Name dn p4] p3) [.Expr (.Call (.Attribute (.Name dn p5) "append" p6) [.Name "x" p7] [] p8) p9] [] p10] [] p11 :: ts) env) Q := by
 refine' x_forM (fun i st' m' => st' = put st z (.list ((dd (V.take i)).map .int)) ∧ ∀ y : Str, y ≠ "x" → m' y = m y) hA hi isL_lst hs ⟨(put_self hz).symm, fun _ _ => rfl⟩ (fun _ _ _ _ => isL_lst) ?turn ?done
 case done =>
  intro st' m' h
  rw [h.1, List.length_map, List.take_length]
  exact k m' h.2
 case turn =>
  intro P' i a st' m' Q' hP hi h hQ
  refine A2 h fun e1 e2 => ?_
  refine E1A2 (map_at hi) fun x hx e => ?_
  rw [← e]
  refine ⟨_, a_name sx, ?_⟩
  have hsn : dd (V.take (i + 1)) = if (dd (V.take i)).contains x then dd (V.take i) else dd (V.take i) ++ [x] := by
   rw [List.take_add_one, hx]; exact dd_snoc _ _
  have hln : ((dd (V.take i)).map AV.int).length ≤ sizeLine := by rw [List.length_map]; exact Nat.le_trans (dd_len _) (Nat.le_trans (List.length_take_le' i _) hV)
  have hup : ∀ y : Str, y ≠ "x" → upd m' "x" (.int x) y = m y := fun y hy => (upd_ne hy).trans (e2 y hy)
  have hdn : upd m' "x" (.int x) dn = some (.ref z) := (hup dn hne).trans hd
  have hst : st' z = some (.list ((dd (V.take i)).map .int)) := by rw [e1, put_same]
  have hL : IsL st' (.ref z) (((dd (V.take i)).map some).map aO) := isL_ref (by rw [hst, List.map_map]; rfl)
  refine x_last (x_if (t_cmp (e_name (upd_same _ _ _) nx) (e_name hdn nd) (o_notinI (x := some x) hu hL) hm) (fun hc => ?_) fun hc => x_nil (hQ _ _ ⟨?_, hup⟩))
  ·rw [contains_some] at hc
   refine x_appT (e_name hdn nd) hst hln (e_name (upd_same _ _ _) nx) hin hsw hse he (x_nil (hQ _ _ ⟨?_, hup⟩))
   rw [e1, put_put, hsn, if_neg (by rw [Bool.not_eq_true'] at hc; rw [hc]; decide), List.map_append]; rfl
  ·rw [contains_some] at hc
   rw [e1, hsn, if_pos (by rw [Bool.not_eq_false'] at hc; exact hc)]
theorem x_ifS {X : Cx} {test : Expr} {body : List Stmt} {pos : Pos} {b : Bool} {ts : List Stmt} {Q : AF → AS → AM → Prop} (S : AS) (ht : EvT X P A env st m test b) (h1 : b = true → WX X P A env st m (execs body env) fun φ st' m' => φ = .next ∧ st' = S ∧ m' = m) (h2 : b = false → S = st)
 (k : WX X P A env S m (execs ts env) Q) : WX X P A env st m (execs (.If test body [] pos :: ts) env) Q :=
 x_cons (x_if ht (fun h => (h1 h).mono fun _ _ _ q => by rw [q.1, q.2.1, q.2.2]; exact k) fun h => x_nil (by rw [← h2 h]; exact k))
theorem f_max (hX : (CX w g0 tb os pg).Ok) {b : AV} {ps : List Rt} {W H : Int} (hb : IsL st b (ps.map rowR)) (hz : ps.length < 30) (h64 : (found ps W H).length < 64) :
 FN (CX w g0 tb os pg) 20 493 st [b, .int W, .int H] fun v st' => v = .lst ((srt ((found ps W H).map rowZ)).map rowI) ∧ st' = st := by
 refine FN.of (abinds := [("placed", b), ("width", .int W), ("height", .int H)]) hX.kin (by rfl) (by kernel_rfl) (fun P s vals g rv => ?_) rfl rfl rfl (by kernel_rfl) (by kernel_rfl) fun P A L R hf => ?_
 ·refine VRs.e3 (M := fun vs => ∃ b, BindsTo s _ { pos := vs } b ∧ BR _ _ b _) (fun r1 r2 r3 => ?_) rv
  exact ⟨_, BindsTo.of_eq (by kernel_rfl), .cons r1 (.cons r2 (.cons r3 .nil))⟩
 dsimp only [bindA]
 have hz2 : ps.length ≤ sizeLine := Nat.le_trans (Nat.le_of_lt hz) (by decide)
 refine x_setW (by kernel_rfl) (by kernel_rfl) (w_newlist fun zl hzl => ?_)
 refine WX.forget zl ?_
 have hb1 : ∀ o, IsL (put st zl o) b (ps.map rowR) := fun o => hb.elim .inl fun z => .inr (E1A2 z fun r e h => ⟨r, e, by rw [put_ne (fun q => by rw [q, hzl] at h; exact J.ns h)]; exact h⟩)
 refine' x_dedup (z := zl) (0 :: ps.map fun t => t.x + t.w) R.handled ?u1 ?hv1 (e_bin (a := .lst [.int 0]) (b := .lst ((ps.map fun t => t.x + t.w).map .int)) (e_lst (el_cons e_int el_nil (by kernel_rfl)) (lb (by kernel_rfl))) ?comp (o_addL isL_lst isL_lst ?zz)) (fun _ => by kernel_rfl) (put_same _ _ _) ?d1 (by decide) (by kernel_rfl) (by kernel_rfl) (by kernel_rfl) (by kernel_rfl) (by kernel_rfl) (by kernel_rfl) (by kernel_rfl) (by kernel_rfl) ?k1
 case u1 => exact um1 R.units
 case hv1 => rw [List.length_cons, List.length_map]; exact Nat.le_trans hz (by decide)
 case d1 => walk_at "jm"
 case zz => simp only [List.length_map, List.length_cons, List.length_nil]; exact Nat.le_trans (Nat.add_le_add_left (Nat.le_of_lt hz) _) (by decide)
 case comp =>
  rw [List.map_map, ← fm_map (AV.int ∘ fun t : Rt => t.x + t.w)]
  refine' e_comp1L (b := b) (xs := ps.map rowR) _ (fun a ml => upd ml "one" a) R.handled (by kernel_rfl) (fun _ => by kernel_rfl) ?v1 (hb1 _) ?z1 (fun a _ => tg_name (fun _ _ => by kernel_rfl) (by kernel_rfl)) ?t1
  case v1 => walk_at "jv"
  case z1 => rw [fm_map, List.length_map]; exact hz2
  case t1 =>
   intro P' cl C D a ml hD hR ha
   refine E1A2 (List.mem_map.mp ha) fun t ht hn2 => ?_; obtain rfl := hn2
   refine ⟨true, fun acc => ifs_nil, fun _ => ⟨.int (t.x + t.w), fun acc => ?_, rfl⟩, fun h => by cases h⟩
   walk_at "jv"
 case k1 =>
  intro m' hm'
  have h1 : m' "placed" = some b := (hm' _ (by decide)).trans (by walk_at "jm")
  have h2 : m' "width" = some (.int W) := (hm' _ (by decide)).trans (by walk_at "jm")
  have h3 : m' "height" = some (.int H) := (hm' _ (by decide)).trans (by walk_at "jm")
  have h4 : m' "lefts" = some (.ref zl) := (hm' _ (by decide)).trans (by walk_at "jm")
  clear hm'
  rw [put_put]
  obtain ⟨Lf, hLf⟩ : ∃ Lf, Lf = dd (0 :: ps.map fun t => t.x + t.w) := ⟨_, rfl⟩
  rw [← hLf]
  refine x_setW (by kernel_rfl) (by kernel_rfl) (w_newlist fun zr hzr => ?_)
  refine WX.forget zr ?_
  refine A2 (put_none hzr) fun nrl hzr0 => ?_
  have hb2 : ∀ o, IsL (put (put st zl (.list (Lf.map .int))) zr o) b (ps.map rowR) := fun o => (hb1 (.list (Lf.map .int))).elim .inl fun z => .inr (E1A2 z fun r e h => ⟨r, e, by rw [put_ne (fun q => by rw [q, hzr] at h; exact J.ns h)]; exact h⟩)
  refine' x_dedup (z := zr) (W :: ps.map fun t => t.x) R.handled ?u2 ?hv2 (e_bin (a := .lst [.int W]) (b := .lst ((ps.map fun t => t.x).map .int)) (e_lst (el_cons ?w0 el_nil (by kernel_rfl)) (lb (by kernel_rfl))) ?comp2 (o_addL isL_lst isL_lst ?zz2)) (fun _ => by kernel_rfl) (put_same _ _ _) ?d2 (by decide) (by kernel_rfl) (by kernel_rfl) (by kernel_rfl) (by kernel_rfl) (by kernel_rfl) (by kernel_rfl) (by kernel_rfl) (by kernel_rfl) ?k2
  case u2 => exact um1 R.units
  case hv2 => rw [List.length_cons, List.length_map]; exact Nat.le_trans hz (by decide)
  case d2 => walk_at "jm"
  case w0 => walk_at "jv"
  case zz2 => simp only [List.length_map, List.length_cons, List.length_nil]; exact Nat.le_trans (Nat.add_le_add_left (Nat.le_of_lt hz) _) (by decide)
  case comp2 =>
   rw [List.map_map, ← fm_map (AV.int ∘ fun t : Rt => t.x)]
   refine' e_comp1L (b := b) (xs := ps.map rowR) _ (fun a ml => upd ml "one" a) R.handled (by kernel_rfl) (fun _ => by kernel_rfl) ?v5 (hb2 _) ?z5 (fun a _ => tg_name (fun _ _ => by kernel_rfl) (by kernel_rfl)) ?t5
   case v5 => walk_at "jv"
   case z5 => rw [fm_map, List.length_map]; exact hz2
   case t5 =>
    intro P' cl C D a ml hD hR ha
    refine E1A2 (List.mem_map.mp ha) fun t ht hn2 => ?_; obtain rfl := hn2
    refine ⟨true, fun acc => ifs_nil, fun _ => ⟨.int t.x, fun acc => ?_, rfl⟩, fun h => by cases h⟩
    walk_at "jv"
  case k2 =>
   intro m₂ hm₂
   have g1 : m₂ "placed" = some b := (hm₂ _ (by decide)).trans (by walk_at "jm")
   have g2 : m₂ "width" = some (.int W) := (hm₂ _ (by decide)).trans (by walk_at "jm")
   have g3 : m₂ "height" = some (.int H) := (hm₂ _ (by decide)).trans (by walk_at "jm")
   have g4 : m₂ "lefts" = some (.ref zl) := (hm₂ _ (by decide)).trans (by walk_at "jm")
   have g5 : m₂ "rights" = some (.ref zr) := (hm₂ _ (by decide)).trans (by walk_at "jm")
   clear hm₂ h1 h2 h3 h4
   rw [put_put]
   obtain ⟨Rf, hRf⟩ : ∃ Rf, Rf = dd (W :: ps.map fun t => t.x) := ⟨_, rfl⟩
   rw [← hRf]
   refine x_setW (by kernel_rfl) (by kernel_rfl) (w_newlist fun zf hzf => ?_)
   refine WX.forget zf ?_
   refine A2 (put_none hzf) fun nfr hzf1 => ?_
   refine A2 (put_none hzf1) fun nfl hzf0 => ?_
   obtain ⟨S, hS⟩ : ∃ S, S = put (put st zl (.list (Lf.map .int))) zr (.list (Rf.map .int)) := ⟨_, rfl⟩
   have hb3 : ∀ o, IsL (put S zf o) b (ps.map rowR) := fun o => by
    rw [hS]
    exact (hb2 (.list (Rf.map .int))).elim .inl fun z => .inr (E1A2 z fun r e h => ⟨r, e, by rw [put_ne (fun q => by rw [q, hzf] at h; exact J.ns h)]; exact h⟩)
   have hSl : ∀ o, put S zf o zl = some (.list (Lf.map .int)) := fun o => by rw [put_ne (Ne.symm nfl), hS, put_ne (Ne.symm nrl), put_same]
   have hSr : ∀ o, put S zf o zr = some (.list (Rf.map .int)) := fun o => by rw [put_ne (Ne.symm nfr), hS, put_same]
   have hSz : S zf = none := by rw [hS]; exact hzf
   have hSd : drop (drop S zr) zl = st := by rw [hS, drop_put hzr, drop_put hzl]
   rw [← hS]
   clear hS
   have hF : found ps W H = Lf.flatMap fun a => Rf.flatMap fun b => if decide (a < b) then gaps ps W H a b else [] := by rw [hLf, hRf]; rfl
   rw [hF] at h64 ⊢
   clear hF hLf hRf
   obtain ⟨fB, hfB⟩ : ∃ fB : Int → Int → List Rt, fB = fun a b => if decide (a < b) then gaps ps W H a b else [] := ⟨_, rfl⟩
   have hfB1 : (Lf.flatMap fun a => Rf.flatMap fun b => if decide (a < b) then gaps ps W H a b else []) = Lf.flatMap fun a => Rf.flatMap (fB a) := by rw [hfB]
   rw [hfB1] at h64 ⊢
   clear hfB1
   refine' x_forM (fun i st' m' => st' = put S zf (.list (((Lf.take i).flatMap fun a => Rf.flatMap (fB a)).map rowR)) ∧ m' "placed" = some b ∧ m' "width" = some (.int W) ∧ m' "height" = some (.int H) ∧ m' "rights" = some (.ref zr) ∧ m' "found" = some (.ref zf))
    (b := .ref zl) (xs := Lf.map .int) R.handled ?v6 (isL_ref (hSl _)) (fun _ => by kernel_rfl)
    ⟨rfl, ?p1, ?p2, ?p3, ?p4, ?p5⟩ (fun i st' m' h => by rw [h.1]; exact isL_ref (hSl _)) ?turn3 ?done3
   case v6 => walk_at "jv"
   case p1 => walk_at "jm"
   case p2 => walk_at "jm"
   case p3 => walk_at "jm"
   case p4 => walk_at "jm"
   case p5 => walk_at "jm"
   case done3 =>
    intro st' m' hr3; refine A6 hr3 fun hs g1 g2 g3 g4 g5 => ?_; clear hr3; obtain rfl := hs
    rw [List.length_map, List.take_length]
    generalize (Lf.flatMap fun a => Rf.flatMap (fB a)) = F at h64 ⊢
    refine' x_cons (x_ret (J.W.mono (w_blt hX (v := .builtin "sorted") (as := [.ref zf]) (by kernel_rfl) (ea (el_cons ?v7 el_nil (by kernel_rfl)) (by kernel_rfl) (by kernel_rfl)) (b_srt (L := F.map rowZ) (isL_ref (by rw [put_same, rowR_Z])) (fun l hl e => E1A2 (List.mem_map.mp hl) fun t _ q => by rw [← q] at e; exact nomatch e) (by rw [List.length_map]; exact h64)) (.inl ⟨_, rfl⟩)) ?q7))
    case v7 => walk_at "jv"
    case q7 =>
     intro v st' m' h
     exact ⟨h.1, by rw [h.2.1, drop_put hSz, hSd]⟩
   case turn3 =>
    intro P' i a st' m' Q' hP hi' hr1 hQ; refine A6 hr1 fun hs g1 g2 g3 g4 g5 => ?_; clear hr1; obtain rfl := hs
    refine E1A2 (map_at hi') fun x hx hn3 => ?_; obtain rfl := hn3
    refine ⟨_, a_name (by kernel_rfl), ?_⟩
    have R' : Room 19 A P' (locOf _) := R.more hP
    have hpre := fm_pre (f := fun a => Rf.flatMap (fB a)) hx
    rw [fm_take hx] at hQ
    generalize (Lf.take i).flatMap (fun a => Rf.flatMap (fB a)) = F at hpre hQ ⊢
    refine' x_forM (fun j st' m' => st' = put S zf (.list ((F ++ (Rf.take j).flatMap (fB x)).map rowR)) ∧ m' "placed" = some b ∧ m' "width" = some (.int W) ∧ m' "height" = some (.int H) ∧ m' "rights" = some (.ref zr) ∧ m' "found" = some (.ref zf) ∧ m' "a" = some (.int x))
     (b := .ref zr) (xs := Rf.map .int) R'.handled ?v8 (isL_ref (hSr _)) (fun _ => by kernel_rfl)
     ⟨by rw [List.take_zero, List.flatMap_nil, List.append_nil], ?p1, ?p2, ?p3, ?p4, ?p5, ?p6⟩ (fun i st' m' h => by rw [h.1]; exact isL_ref (hSr _)) ?turn4 ?done4
    case v8 => walk_at "jv"
    case p1 => walk_at "jm"
    case p2 => walk_at "jm"
    case p3 => walk_at "jm"
    case p4 => walk_at "jm"
    case p5 => walk_at "jm"
    case p6 => walk_at "jm"
    case done4 =>
     intro st' m' hr3; refine A7 hr3 fun hs g1 g2 g3 g4 g5 g6 => ?_; clear hr3; obtain rfl := hs
     rw [List.length_map, List.take_length]
     exact x_nil (hQ _ _ ⟨rfl, g1, g2, g3, g4, g5⟩)
    case turn4 =>
     intro P₂ j a st' m' Q' hP₂ hj' hr1 hQ; refine A7 hr1 fun hs g1 g2 g3 g4 g5 g6 => ?_; clear hr1; obtain rfl := hs
     refine E1A2 (map_at hj') fun y hy hn3 => ?_; obtain rfl := hn3
     refine ⟨_, a_name (by kernel_rfl), ?_⟩
     have R₂ : Room 19 A P₂ (locOf _) := R'.more hP₂
     have hpre2 := fm_pre (f := fB x) hy
     rw [fm_take hy] at hQ
     have hlen : (F ++ (Rf.take j).flatMap (fB x)).length + (fB x y).length < 64 := by
      rw [List.length_append]
      exact Nat.lt_of_le_of_lt (Nat.le_trans (Nat.le_of_eq (Nat.add_assoc _ _ _)) (Nat.le_trans (Nat.add_le_add_left hpre2 _) hpre)) h64
     rw [← List.append_assoc] at hQ
     generalize F ++ (Rf.take j).flatMap (fB x) = G at hlen hQ ⊢
     refine' x_last (x_if (b := decide (x < y)) ?t9 (fun hxy => ?yes9) fun hxy => x_nil (hQ _ _ ⟨?s9, ?m1, ?m2, ?m3, ?m4, ?m5, ?m6⟩))
     case t9 => walk_at "jt"
     case s9 => rw [hfB]; dsimp only; rw [hxy, if_neg (by decide), List.append_nil]
     case m1 => walk_at "jm"
     case m2 => walk_at "jm"
     case m3 => walk_at "jm"
     case m4 => walk_at "jm"
     case m5 => walk_at "jm"
     case m6 => walk_at "jm"
     case yes9 =>
      have hgp : fB x y = (gp (held ps W x y) 0 (srt (strip2 ps x y) ++ [[H, H]])).map fun g => (⟨x, g.1, y - x, g.2 - g.1⟩ : Rt) := by rw [hfB]; dsimp only; rw [if_pos hxy]; rfl
      rw [hgp] at hlen hQ
      refine x_setE e_int (by kernel_rfl) (by kernel_rfl) ?_
      obtain ⟨rows, hrows⟩ : ∃ rows, rows = srt (strip2 ps x y) ++ [[H, H]] := ⟨_, rfl⟩
      obtain ⟨P0, hP0⟩ : ∃ P0, P0 = held ps W x y := ⟨_, rfl⟩
      have hr2 : ∀ r ∈ rows, ∃ a b, r = [a, b] := fun r hr => rows2 (by rw [← hrows]; exact hr)
      rw [← hrows, ← hP0] at hlen hQ
      rw [List.length_map] at hlen
      have hsl : (strip2 ps x y).length ≤ ps.length := by unfold strip2; rw [List.length_map]; exact List.length_filter_le _ _
      refine' x_forM (fun k st'' m'' => st'' = put S zf (.list ((G ++ (gp P0 0 (rows.take k)).map fun g => (⟨x, g.1, y - x, g.2 - g.1⟩ : Rt)).map rowR)) ∧ m'' "floor" = some (.int ((rows.take k).foldl (fun f r => max f (hi r)) 0)) ∧ m'' "placed" = some b ∧ m'' "width" = some (.int W) ∧ m'' "height" = some (.int H) ∧ m'' "rights" = some (.ref zr) ∧ m'' "found" = some (.ref zf) ∧ m'' "a" = some (.int x) ∧ m'' "b" = some (.int y))
       (b := .lst (rows.map rowI)) R₂.handled ?e2 isL_lst (fun _ => by kernel_rfl)
       ⟨by rw [List.take_zero]; show _ = put S zf (.list ((G ++ []).map rowR)); rw [List.append_nil], ?o1, ?o2, ?o3, ?o4, ?o5, ?o6, ?o7, ?o8⟩ (fun i st' m' h => isL_lst) ?turn5 ?done5
      case o1 => exact um_hd
      case o2 => walk_at "jm"
      case o3 => walk_at "jm"
      case o4 => walk_at "jm"
      case o5 => walk_at "jm"
      case o6 => walk_at "jm"
      case o7 => walk_at "jm"
      case o8 => walk_at "jm"
      case e2 =>
       rw [hrows, List.map_append]
       change EV _ _ _ _ _ _ _ (.lst ((srt (strip2 ps x y)).map rowI ++ [.tup [.int H, .int H]]))
       refine' e_bin (a := .lst ((srt (strip2 ps x y)).map rowI)) (b := .lst [.tup [.int H, .int H]]) (J.W.mono (w_blt hX (v := .builtin "sorted") (as := [.lst ((strip2 ps x y).map rowI)]) (by kernel_rfl) (ea (el_cons ?c2 el_nil (by kernel_rfl)) (by kernel_rfl) (by kernel_rfl)) (b_srt isL_lst (fun l hl e => E1A2 (List.mem_map.mp hl) fun t _ q => by rw [← q] at e; exact nomatch e) (Nat.lt_of_le_of_lt hsl (Nat.lt_trans hz (by decide)))) (.inl ⟨_, rfl⟩)) fun _ _ _ h => ⟨h.1, h.2.1, h.2.2.1⟩) (e_lst (el_cons (e_tup ?l8 (lb (by kernel_rfl))) el_nil (by kernel_rfl)) (lb (by kernel_rfl))) (o_addL isL_lst isL_lst ?zz8)
       case l8 => walk_at "jL"
       case zz8 =>
        rw [List.length_map, (srt_perm _).length_eq]
        exact Nat.le_trans (Nat.add_le_add_right (Nat.le_trans hsl (Nat.le_of_lt hz)) _) (show 30 + 1 ≤ sizeLine by decide)
       case c2 =>
        unfold strip2
        rw [List.map_map, ← fm_filter _ (rowI ∘ fun t : Rt => [t.y, t.y + t.h])]
        refine' e_comp1L (b := b) (xs := ps.map rowR) _ (fun a ml => upd ml "one" a) R₂.handled (by kernel_rfl) (fun _ => by kernel_rfl) ?v2 (hb3 _) ?z2 (fun a _ => tg_name (fun _ _ => by kernel_rfl) (by kernel_rfl)) ?t2
        case v2 => walk_at "jv"
        case z2 =>
         refine Nat.le_trans (flatMap_len (k := 1) fun a _ => ?_) (by rw [List.length_map, Nat.mul_one]; exact hz2)
         split <;> simp
        case t2 =>
         intro P' cl C D a ml hD hR ha
         refine E1A2 (List.mem_map.mp ha) fun t ht hn5 => ?_; obtain rfl := hn5
         refine ⟨_, fun acc => ifs_one ?_, fun h => ⟨.tup [.int t.y, .int (t.y + t.h)], fun acc => ?_, (if_pos h).trans rfl⟩, fun h => if_neg (by rw [h]; decide)⟩
         ·change EvT _ _ _ _ _ _ _ (decide (t.x < y) && (decide (x < t.x + t.w) && true))
          walk_at "jt"
         ·refine' e_tup ?l9 (lb (by kernel_rfl))
          case l9 => walk_at "jL"
      case done5 =>
       intro st' m' hr3; refine A9 hr3 fun hs g0' g1 g2 g3 g4 g5 g6 g7 => ?_; clear hr3; obtain rfl := hs
       rw [List.length_map, List.take_length]
       exact x_nil (hQ _ _ ⟨rfl, g1, g2, g3, g4, g5, g6⟩)
      case turn5 =>
       intro P₃ k a st'' m'' Q' hP₃ hk' hr4 hQ; refine A9 hr4 fun hs g0' g1 g2 g3 g4 g5 g6 g7 => ?_; clear hr4; obtain rfl := hs
       refine E1A2 (map_at hk') fun l hl hn6 => ?_; obtain rfl := hn6
       refine E2 (hr2 l (List.mem_of_getElem? hl)) fun lo' hi' hn7 => ?_; obtain rfl := hn7
       have R₃ : Room 19 A P₃ (locOf _) := R₂.more hP₃
       have hlk : (G ++ (gp P0 0 (rows.take k)).map fun g => (⟨x, g.1, y - x, g.2 - g.1⟩ : Rt)).length ≤ 64 := by
        rw [List.length_append, List.length_map]
        exact Nat.le_of_lt (Nat.lt_of_le_of_lt (Nat.add_le_add_left (gp_take P0 rows 0 k) _) hlen)
       have hgk : gp P0 0 (rows.take (k + 1)) = gp P0 0 (rows.take k) ++ gp P0 ((rows.take k).foldl (fun f r => max f (hi r)) 0) [[lo', hi']] := by
        rw [List.take_add_one, hl]; exact gp_app _ _ _ _
       have hfk : (rows.take (k + 1)).foldl (fun f r => max f (hi r)) 0 = max ((rows.take k).foldl (fun f r => max f (hi r)) 0) hi' := by
        rw [List.take_add_one, hl, List.foldl_append]; rfl
       rw [hgk, hfk] at hQ
       generalize (rows.take k).foldl (fun f r => max f (hi r)) 0 = fl at g0' hQ ⊢
       have hGG : (G ++ (gp P0 0 (rows.take k) ++ gp P0 fl [[lo', hi']]).map fun g => (⟨x, g.1, y - x, g.2 - g.1⟩ : Rt)) = (G ++ (gp P0 0 (rows.take k)).map fun g => (⟨x, g.1, y - x, g.2 - g.1⟩ : Rt)) ++ (gp P0 fl [[lo', hi']]).map fun g => (⟨x, g.1, y - x, g.2 - g.1⟩ : Rt) := by
        rw [List.map_append, List.append_assoc]
       rw [hGG] at hQ
       clear hGG hgk
       generalize (G ++ (gp P0 0 (rows.take k)).map fun g => (⟨x, g.1, y - x, g.2 - g.1⟩ : Rt)) = GG at hlk hQ ⊢
       have hone : ∀ c : Bool, (decide (fl < lo') && P0 fl lo') = c → (gp P0 fl [[lo', hi']]).map (fun g => (⟨x, g.1, y - x, g.2 - g.1⟩ : Rt)) = if c then [⟨x, fl, y - x, lo' - fl⟩] else [] := fun c hc => by
        show (List.map _ ((if (decide (fl < lo') && P0 fl lo') = true then [(fl, lo')] else []) ++ [])) = _
        rw [hc]; cases c <;> rfl
       change ∃ F, ASG _ _ _ _ _ (.tup [.int lo', .int hi']) F ∧ _
       refine ⟨_, a_tup R.handled (as_cons (a_name (by kernel_rfl)) (as_cons (a_name (by kernel_rfl)) as_nil (by kernel_rfl)) (by kernel_rfl)), ?_⟩
       dsimp only [id]
       have hrow : ∀ c : Bool, (decide (fl < lo') && (P0 fl lo' && true)) = c → (GG ++ (gp P0 fl [[lo', hi']]).map fun g => (⟨x, g.1, y - x, g.2 - g.1⟩ : Rt)) = GG ++ if c then [⟨x, fl, y - x, lo' - fl⟩] else [] := fun c hc => by
        rw [Bool.and_true] at hc; rw [hone c hc]
       refine' x_ifS (put S zf (.list ((GG ++ (gp P0 fl [[lo', hi']]).map fun g => (⟨x, g.1, y - x, g.2 - g.1⟩ : Rt)).map rowR))) (b := decide (fl < lo') && (P0 fl lo' && true)) ?t4 (fun h => ?yes4) (fun h => ?no4) ?k4
       case t4 =>
        refine' t_and ?c4 fun _ => t_and (t_plain (EV.ofW (e_call (n := 10) hX (e_glob hX (by kernel_rfl)) (by kernel_rfl) ?a4 (by rw [hP0]; exact f_held hX (hb3 _) (Nat.lt_trans hz (by decide))) (R₃.mono (by decide)))) tr_bool (by kernel_rfl)) fun _ => t_and_nil
        case c4 => walk_at "jt"
        case a4 => walk_at "ja"
       case yes4 =>
        refine' x_appT (z := zf) (r := rowR ⟨x, fl, y - x, lo' - fl⟩) ?x1 (put_same _ _ _) ?l1 ?v3 (by kernel_rfl) (by kernel_rfl) (by kernel_rfl) (by kernel_rfl) (x_nil ⟨rfl, ?s6, rfl⟩)
        case x1 => walk_at "jv"
        case l1 => rw [List.length_map]; exact Nat.le_trans hlk (by decide)
        case v3 =>
         refine' e_tup ?l9 (lb (by kernel_rfl))
         case l9 => walk_at "jL"
        case s6 => rw [hrow true h, put_put, List.map_append]; rfl
       case no4 => rw [hrow false h]; show put S zf (.list ((GG ++ []).map rowR)) = _; rw [List.append_nil]
       case k4 =>
        refine' x_setW (by kernel_rfl) (by kernel_rfl) (J.W.mono (w_blt hX (v := .builtin "max") (as := [.int fl, .int hi']) (by kernel_rfl) ?a5 (b_max2 R.handled) (.inl ⟨_, rfl⟩)) ?k5)
        case a5 => walk_at "ja"
        case k5 =>
         intro b' st₃ m₃ hr
         rw [hr.1, hr.2.1, hr.2.2]
         exact x_nil (hQ _ _ ⟨rfl, by walk_at "jm", by walk_at "jm", by walk_at "jm", by walk_at "jm", by walk_at "jm", by walk_at "jm", by walk_at "jm", by walk_at "jm"⟩)
end
section
variable {w : World} {g0 : Heap} {tb : List (Addr × Addr × Array Value)} {os : OsState} {pg : List (Nat × GenState)} {st : AS} {P : PL} {A : Around} {env : Env} {m : AM}
theorem f_kept (hX : (CX w g0 tb os pg).Ok) {C y rl : Addr} {W H : Int} {rot : Bool} {sf : AV} {ms : List Rt} (hC : BoxC (K1 w.params) C) (hy : st y = some (.inst C bxn (bxl W H rot rl sf (ms.map rcv)))) (h64 : ms.length < 64) :
 FN (CX w g0 tb os pg) 20 505 st [.ref y] fun v st' => v = .lst ((srt (ms.map rowZ)).map rowI) ∧ st' = st := by
 refine FN.of (abinds := [("box", .ref y)]) hX.kin (by rfl) (by kernel_rfl) (fun P s vals g rv => ?_) rfl rfl rfl (by kernel_rfl) (by kernel_rfl) fun P A L R hf => ?_
 ·refine VRs.e1 (M := fun vs => ∃ b, BindsTo s _ { pos := vs } b ∧ BR _ _ b _) (fun r1 => ?_) rv
  exact ⟨_, BindsTo.of_eq (by kernel_rfl), .cons r1 .nil⟩
 dsimp only [bindA]
 have a5 := hC.a5
 have hI : HasI st C bxn (bxl W H rot rl sf (ms.map rcv)) (.ref y) := .ref hy
 have hg : ((ms.map rcv).flatMap fun a => [rowR (rtOf a)]) = (ms.map rowZ).map rowI := by
  rw [rowR_Z, List.flatMap_map, List.map_eq_flatMap]; rfl
 refine' x_cons (x_ret (J.W.mono (w_blt hX (v := .builtin "sorted") (as := [.lst ((ms.map rowZ).map rowI)]) (by kernel_rfl) (ea (el_cons ?c2 el_nil (by kernel_rfl)) (by kernel_rfl) (by kernel_rfl)) (b_srt isL_lst (fun l hl e => E1A2 (List.mem_map.mp hl) fun t _ q => by rw [← q] at e; exact nomatch e) (by rw [List.length_map]; exact h64)) (.inl ⟨_, rfl⟩)) ?q7))
 case q7 =>
  intro v st' m' h
  exact ⟨h.1, h.2.1⟩
 case c2 =>
  rw [← hg]
  refine' e_comp1L (b := .lst (ms.map rcv)) (xs := ms.map rcv) _ (fun a ml => upd ml "one" a) R.handled (by kernel_rfl) (fun _ => by kernel_rfl) ?v2 isL_lst ?z2 (fun a _ => tg_name (fun _ _ => by kernel_rfl) (by kernel_rfl)) ?t2
  case v2 => walk_at "jv"
  case z2 => rw [hg, List.length_map, List.length_map]; exact Nat.le_trans (Nat.le_of_lt h64) (by decide)
  case t2 =>
   intro P' cl C D a ml hD hR ha
   refine E1A2 (List.mem_map.mp ha) fun t ht hn2 => ?_; obtain rfl := hn2
   refine ⟨true, fun acc => ifs_nil, fun _ => ⟨rowR t, fun acc => ?_, rfl⟩, fun h => by cases h⟩
   have hr : HR (put st D (.list acc)) (rcv t) t.x t.y t.w t.h .none := .inst
   refine' e_tup (as := [.int t.x, .int t.y, .int t.w, .int t.h]) ?l9 (lb (by kernel_rfl))
   case l9 => walk_at "jL"
end
section
variable {w : World} {g0 : Heap} {tb : List (Addr × Addr × Array Value)} {os : OsState} {pg : List (Nat × GenState)} {st : AS} {P : PL} {A : Around} {env : Env} {m : AM}
noncomputable def absI (i : Int) : Int := if i < 0 then -i else i
noncomputable def lawHd (ns : List Int) : Int := ns.getD 0 0
noncomputable def lawW (ns : List Int) : Int := if 1 < ns.length then 1 + absI (ns.getD 1 0) else 4
noncomputable def lawH (ns : List Int) : Int := if 2 < ns.length then 1 + absI (ns.getD 2 0) else 3
noncomputable def lawRot (ns : List Int) : Bool := ((lawHd ns).fdiv 5).fmod 2 == 0
theorem absI_nonneg (i : Int) : 0 ≤ absI i := by unfold absI; split <;> omega
theorem lawW_pos (ns : List Int) : 0 < lawW ns := by unfold lawW; have := absI_nonneg (ns.getD 1 0); split <;> omega
theorem lawH_pos (ns : List Int) : 0 < lawH ns := by unfold lawH; have := absI_nonneg (ns.getD 2 0); split <;> omega
noncomputable abbrev iL (ns : List Int) : List AV := ns.map .int
theorem at_int {ns : List Int} {k : Int} {i : Nat} (e : k = (i : Int)) (h : i < ns.length) : (iL ns)[k.toNat]? = some (.int (ns.getD i 0)) := by
 subst e; rw [Int.toNat_natCast, List.getElem?_map, List.getD, List.getElem?_eq_getElem h]; rfl
theorem pick_ints (ns : List Int) (a b : Int) : ∃ nums : List Int, pick (iL ns) (some a) (some b) = iL nums ∧ nums.length ≤ (clipAt ns.length b) - clipAt ns.length a := by
 unfold pick
 rw [List.length_map]
 refine ⟨(ns.drop (clipAt ns.length a)).take (clipAt ns.length b - clipAt ns.length a), ?_, ?_⟩
 ·show _ = List.map _ _
  rw [List.map_take, List.map_drop]; rfl
 ·rw [List.length_take]; exact Nat.min_le_left _ _
noncomputable abbrev szA (s : Int × Int) : AV := .tup [.int s.1, .int s.2]
theorem lside_le {k s : Int} (hs : 0 < s) : 1 ≤ lside k s ∧ lside k s ≤ s + 1 := by
 unfold lside
 have h0 : s.fdiv 2 = s / 2 := Int.fdiv_eq_ediv_of_nonneg _ (by decide)
 rw [h0]
 have h1 : (k.fmod (s / 2 + 1)) = k % (s / 2 + 1) := Int.fmod_eq_emod_of_nonneg _ (by omega)
 have h2 : ∀ j : Int, j.fmod (s + 1) = j % (s + 1) := fun j => Int.fmod_eq_emod_of_nonneg _ (by omega)
 rw [h1, h2]
 have e1 := Int.emod_nonneg k (show s / 2 + 1 ≠ 0 by omega)
 have e2 := Int.emod_lt_of_pos k (show 0 < s / 2 + 1 by omega)
 have e3 := Int.emod_nonneg (if k < 0 then -k else k) (show s + 1 ≠ 0 by omega)
 have e4 := Int.emod_lt_of_pos (if k < 0 then -k else k) (show 0 < s + 1 by omega)
 by_cases hk : k < 0
 ·rw [if_pos hk]; rw [if_pos hk] at e3 e4 ⊢; omega
 ·rw [if_neg hk]; omega
theorem fmod5 (i : Int) : ∃ k : Nat, k < 5 ∧ i.fmod 5 = (k : Int) := by
 have h1 : i.fmod 5 = i % 5 := Int.fmod_eq_emod_of_nonneg _ (by decide)
 have e1 := Int.emod_nonneg i (show (5 : Int) ≠ 0 by decide)
 have e2 := Int.emod_lt_of_pos i (show (0 : Int) < 5 by decide)
 exact ⟨(i % 5).toNat, (Int.toNat_lt e1).mpr e2, by rw [h1]; exact (Int.toNat_of_nonneg e1).symm⟩
theorem clip_13 {n : Nat} (h : n ≤ 63) : clipAt n 13 - clipAt n 3 ≤ 10 := by
 exact (by decide +kernel : ∀ n : Fin 64, clipAt n 13 - clipAt n 3 ≤ 10) ⟨n, Nat.lt_succ_of_le h⟩
noncomputable abbrev SzOk (W H : Int) (s : Int × Int) : Prop := (1 ≤ s.1 ∧ s.1 ≤ W + 1) ∧ (1 ≤ s.2 ∧ s.2 ≤ H + 1)
theorem ne_il {st : AS} {a b C : Addr} {ns : List Str} {l xs : List AV} (h : st a = some (.inst C ns l)) (h' : st b = some (.list xs)) : a ≠ b := fun e => by rw [e, h'] at h; exact nomatch h
theorem ne_no {st : AS} {a b : Addr} {o : AO} (h : st a = some o) (h' : st b = none) : a ≠ b := fun e => by rw [e, h'] at h; exact J.ns h
theorem way_ex {bm : Addr} {p1 p2 : Array Value} (hX : (CX w g0 tb os pg).Ok) (hb : BiOk (CX w g0 tb os pg) bm) (ht : Tabs2 tb p1 p2) {k : Nat} (hk : k < 5) : ∃ fa sa, Way w g0 os tb k (wayC k) fa sa := by
 match k, hk with
 | 0, _ => exact ⟨_, _, way0 hX hb ht⟩
 | 1, _ => exact ⟨_, _, way1 hX hb ht⟩
 | 2, _ => exact ⟨_, _, way2 hX hb ht⟩
 | 3, _ => exact ⟨_, _, way3 hX hb ht⟩
 | 4, _ => exact ⟨_, _, way4 hX hb ht⟩
theorem box_ex {k : Nat} (hk : k < 5) : methodAt (K1 w.params) (wayC k) "rect_list" 280 = true ∧ findIn (K1 w.params) (.ref (wayC k)) "__iter__" = some (some (.ref 236)) := by
 match k, hk with
 | 0, _ => exact ⟨by kernel_rfl, by kernel_rfl⟩
 | 1, _ => exact ⟨by kernel_rfl, by kernel_rfl⟩
 | 2, _ => exact ⟨by kernel_rfl, by kernel_rfl⟩
 | 3, _ => exact ⟨by kernel_rfl, by kernel_rfl⟩
 | 4, _ => exact ⟨by kernel_rfl, by kernel_rfl⟩
theorem o_eqNil {X : Cx} {xs : List AV} (hu : A.units < cLine) : Op2 X P A env st m (compareOp .Eq) (.lst xs) (.lst []) (.bool xs.isEmpty) := by
 intro s va vb f ra rb
 cases ra using VR.lstE with | lst nd x r =>
 cases rb using VR.lstE with | lst nd2 x2 r2 =>
 cases r2 using VRs.nilE
 cases xs with
 | nil =>
  cases r using VRs.nilE
  exact PySem.SeqAt.RcAt.lists (e := fun _ => true) (PlainList.isList x) (PlainList.isList x2) rfl hu (fun j h1 => absurd h1 (Nat.not_lt_zero _)) _ _ _ _ (Post.eq f (.bool _))
 | cons a xs =>
  cases r using VRs.consE with | cons v r =>
  exact PySem.SeqAt.RcAt.lists_lengths (PlainList.isList x) (PlainList.isList x2) rfl hu _ _ _ _ (Post.eq f (.bool _))
structure L2 (C y rl zp zs : Addr) (W H : Int) (rot : Bool) (szs : List (Int × Int)) (st : AS) (ms : List Rt) (ps : List (Addr × Rt × Option Int)) : Prop where
 box : st y = some (.inst C bxn (bxl W H rot rl (rc 0 0 W H .none) (ms.map rcv)))
 lst : st rl = some (.list ((ps.map (·.1)).map .ref))
 rects : ∀ p ∈ ps, AtRect st p
 pl : st zp = some (.list ((ps.map (·.2.1)).map rowR))
 sz : st zs = some (.list (szs.map szA))
 rid : ∀ p ∈ ps, p.2.2 = none
 far : ∀ p ∈ ps, p.1 ≠ y
 ne1 : rl ≠ zp
 ne2 : rl ≠ zs
 ne3 : zp ≠ zs
theorem fm_rcv (c : Rt → Bool) (ms : List Rt) : ((ms.map rcv).flatMap fun a => if c (rtOf a) = true then [rcv (rtOf a)] else []) = (ms.filter c).map rcv := by
 rw [List.flatMap_map, filter_fm, List.map_flatMap]
 refine congrArg (fun f => List.flatMap f ms) (funext fun t => ?_)
 show (if c t = true then [rcv t] else []) = List.map rcv (if c t then [t] else [])
 cases c t <;> rfl
noncomputable def holdC (rot : Bool) (p q : Int) (t : Rt) : Bool := (decide (p ≤ t.w) && (decide (q ≤ t.h) && true)) || ((rot && (decide (q ≤ t.w) && (decide (p ≤ t.h) && true))) || false)
theorem any_or {f g : Rt → Bool} {rot : Bool} : ∀ ms : List Rt, (ms.any fun t => f t || (rot && g t)) = (ms.any f || (rot && ms.any g))
 | [] => by simp
 | a :: l => by
  rw [List.any_cons, List.any_cons, List.any_cons, any_or l]
  cases f a <;> cases g a <;> cases rot <;> cases l.any f <;> rfl
theorem fil_empty {c : Rt → Bool} : ∀ ms : List Rt, ((ms.filter c).map rcv).isEmpty = !(ms.any c)
 | [] => rfl
 | a :: l => by
  rw [List.filter_cons, List.any_cons]
  cases h : c a with
  | true => rfl
  | false => rw [if_neg (by decide), fil_empty l]; rfl
theorem hold_fr {rot : Bool} {p q : Int} {ms : List Rt} : ((ms.filter (holdC rot p q)).map rcv).isEmpty = !((ms.any fun t => t.fits p q) || (rot && ms.any fun t => t.fits q p)) := by
 rw [fil_empty, ← any_or]
 refine congrArg (fun f => !(List.any ms f)) (funext fun t => ?_)
 unfold holdC Rt.fits
 simp only [Bool.and_true, Bool.or_false]
theorem L2.add {C y rl zp zs z : Addr} {W H : Int} {rot : Bool} {szs : List (Int × Int)} {st : AS} {ms ms' : List Rt} {ps : List (Addr × Rt × Option Int)} {r : Rt} (L : L2 C y rl zp zs W H rot szs st ms ps) (hz : st z = none) :
 L2 C y rl zp zs W H rot szs (put (put (put (put st z (.inst 203 rcn (rcl r.x r.y r.w r.h .none))) y (.inst C bxn (bxl W H rot rl (rc 0 0 W H .none) (ms'.map rcv)))) rl (.list ((ps.map (·.1)).map .ref ++ [.ref z]))) zp (.list ((ps.map (·.2.1)).map rowR ++ [rowR r]))) ms' (ps ++ [(z, r, none)]) := by
 have z1 := ne_no L.box hz
 have z2 := ne_no L.lst hz
 have z3 := ne_no L.pl hz
 have z4 := ne_no L.sz hz
 have i1 := ne_il L.box L.lst
 have i2 := ne_il L.box L.pl
 have i3 := ne_il L.box L.sz
 have j1 := L.ne1
 have j2 := L.ne2
 have j3 := L.ne3
 have ls := L.sz
 refine ⟨?_, ?_, ?_, ?_, ?_, ?_, ?_, j1, j2, j3⟩
 ·walk_at "jp"
 ·rw [List.map_append, List.map_append]; walk_at "jp"
 ·intro p hp
  refine O2 (List.mem_append.mp hp) (fun hp => ?_) (fun hp => ?_)
  ·have lr : st p.1 = _ := L.rects p hp
   have f1 := L.far p hp
   have k0 := ne_no lr hz
   have k1 := ne_il lr L.lst
   have k2 := ne_il lr L.pl
   show put _ _ _ p.1 = _
   walk_at "jp"
  ·rw [List.mem_singleton] at hp; subst hp
   show put _ _ _ z = _
   walk_at "jp"
 ·rw [List.map_append, List.map_append]; walk_at "jp"
 ·walk_at "jp"
 ·intro p hp
  refine O2 (List.mem_append.mp hp) (fun hp => L.rid p hp) (fun hp => ?_)
  rw [List.mem_singleton] at hp; subst hp; rfl
 ·intro p hp
  refine O2 (List.mem_append.mp hp) (fun hp => L.far p hp) (fun hp => ?_)
  rw [List.mem_singleton] at hp; subst hp
  exact z1.symm
theorem L2.start {C y rl zp zs : Addr} {W H : Int} {rot : Bool} {szs : List (Int × Int)} {st : AS} (b1 : st y = some (.inst C bxn (bxl W H rot rl (rc 0 0 W H .none) (([⟨0, 0, W, H⟩] : List Rt).map rcv)))) (b2 : st rl = some (.list [])) (b3 : st zs = some (.list (szs.map szA))) (n : rl ≠ zs) (hz : st zp = none) :
 L2 C y rl zp zs W H rot szs (put st zp (.list [])) [⟨0, 0, W, H⟩] [] :=
 have n1 := ne_no b1 hz
 have n2 := ne_no b2 hz
 have n3 := ne_no b3 hz
 ⟨by rw [put_ne n1]; exact b1, by rw [put_ne n2]; exact b2, fun p hp => J.mn hp, put_same _ _ _, by rw [put_ne n3]; exact b3, fun p hp => J.mn hp, fun p hp => J.mn hp, n2, n, n3.symm⟩
theorem rowI_T (L : List (List Int)) : L.map rowI = (L.map fun l => l.map some).map tO := by
 rw [List.map_map]
 refine List.map_congr_left fun l _ => ?_
 show AV.tup (l.map .int) = AV.tup ((l.map some).map aO)
 rw [List.map_map]; rfl
theorem isLI {st : AS} {L : List (List Int)} : IsL st (.lst (L.map rowI)) ((L.map fun l => l.map some).map tO) := by rw [rowI_T]; exact isL_lst
theorem reset_ex {k : Nat} (hk : k < 5) : superOk (K1 w.params) (wayC k) 391 301 "reset" = true := by
 match k, hk with
 | 0, _ => exact (by kernel_rfl)
 | 1, _ => exact (by kernel_rfl)
 | 2, _ => exact (by kernel_rfl)
 | 3, _ => exact (by kernel_rfl)
 | 4, _ => exact (by kernel_rfl)
theorem srt_one {l : List Int} : srt [l] = [l] := srt_of (List.Perm.refl _) (List.pairwise_singleton _ _)
theorem u2 {a : Nat} (h : a + 20 * 99 < cLine) : a + 2 < cLine := Nat.lt_of_le_of_lt (Nat.add_le_add_left (by decide) a) h
theorem u0 {a : Nat} (h : a + 20 * 99 < cLine) : a < cLine := Nat.lt_of_le_of_lt (Nat.le_add_right _ _) h
end
section
variable {w : World} {g0 : Heap} {tb : List (Addr × Addr × Array Value)} {os : OsState} {pg : List (Nat × GenState)} {st : AS} {P : PL} {A : Around} {env : Env} {m : AM}
theorem f_law2 (hX : (CX w g0 tb os pg).Ok) {bm : Addr} {p1 p2 : Array Value} (hb : BiOk (CX w g0 tb os pg) bm) (ht : Tabs2 tb p1 p2) {ns : List Int} (hn : ns.length ≤ 63) (hM : ∀ a b, 0 ≤ a → a ≤ lawW ns + 1 → 0 ≤ b → b ≤ lawH ns + 1 → IntMulOk a b ∧ IntMulOk b a) :
 FN (CX w g0 tb os pg) 100 510 st [.lst (iL ns)] fun v _ => v = .bool true := by
 refine FN.of (abinds := [("script", .lst (iL ns))]) hX.kin (by rfl) (by kernel_rfl) (fun P s vals g rv => binds1 (fun _ => by kernel_rfl) rv) rfl rfl rfl (by kernel_rfl) (by kernel_rfl) fun P A L R hf => ?_
 dsimp only [bindA]
 have hz : ((iL ns).length : Int) < 2 ^ 62 := by rw [List.length_map]; omega
 refine' x_cons (x_set (WE.of (a := .int (lawHd ns)) ?e1 ?k1) (by kernel_rfl) (by kernel_rfl))
 case e1 =>
  have : (if !(iL ns).isEmpty then AV.int (ns.getD 0 0) else .int 0) = .int (lawHd ns) := by unfold lawHd; cases ns <;> rfl
  rw [← this]
  refine' e_if (t_plain (a := .lst (iL ns)) ?v1 (tr_list (.inl rfl) (by omega)) (by kernel_rfl)) (fun hb => e_index (k := 0) (xs := iL ns) ?v2 (.inl rfl) e_int (by decide) (by decide) (at_int rfl ?l1) ⟨fun _ _ _ => (by kernel_rfl), fun _ _ => (by kernel_rfl)⟩) fun _ => e_int
  case v1 => walk_at "jv"
  case v2 => walk_at "jv"
  case l1 => cases ns with | nil => cases hb | cons a l => exact Nat.succ_pos _
 case k1 =>
  dsimp only
  refine' x_cons (x_set (WE.of (a := .int (lawW ns)) ?e2 ?k2) (by kernel_rfl) (by kernel_rfl))
  case e2 =>
   have : (if decide (((1 : Nat) : Int) < ((ns.length : Nat) : Int)) then AV.int (1 + absI (ns.getD 1 0)) else .int 4) = .int (lawW ns) := by unfold lawW; by_cases h : 1 < ns.length <;> simp [h] <;> omega
   rw [← this]
   refine' e_if (t_cmp (e_lenL (xs := iL ns) hX (by kernel_rfl) ?v3 (by rw [List.length_map]) (by omega) (by kernel_rfl) (by kernel_rfl)) e_int o_gt (by kernel_rfl)) (fun hb => e_bin e_int (w_blt hX (v := .builtin "abs") (as := [.int (ns.getD 1 0)]) (by kernel_rfl) (ea (el_cons (e_index (k := 1) (xs := iL ns) ?v4 (.inl rfl) e_int (by decide) (by decide) (at_int rfl ?l2) ⟨fun _ _ _ => (by kernel_rfl), fun _ _ => (by kernel_rfl)⟩) el_nil (by kernel_rfl)) (by kernel_rfl) (by kernel_rfl)) b_abs (.inl ⟨_, rfl⟩)) o_add) fun _ => e_int
   case v3 => walk_at "jv"
   case v4 => walk_at "jv"
   case l2 => have := of_decide_eq_true hb; omega
  case k2 =>
   dsimp only
   refine' x_cons (x_set (WE.of (a := .int (lawH ns)) ?e3 ?k3) (by kernel_rfl) (by kernel_rfl))
   case e3 =>
    have : (if decide (((2 : Nat) : Int) < ((ns.length : Nat) : Int)) then AV.int (1 + absI (ns.getD 2 0)) else .int 3) = .int (lawH ns) := by unfold lawH; by_cases h : 2 < ns.length <;> simp [h] <;> omega
    rw [← this]
    refine' e_if (t_cmp (e_lenL (xs := iL ns) hX (by kernel_rfl) ?v5 (by rw [List.length_map]) (by omega) (by kernel_rfl) (by kernel_rfl)) e_int o_gt (by kernel_rfl)) (fun hb => e_bin e_int (w_blt hX (v := .builtin "abs") (as := [.int (ns.getD 2 0)]) (by kernel_rfl) (ea (el_cons (e_index (k := 2) (xs := iL ns) ?v6 (.inl rfl) e_int (by decide) (by decide) (at_int rfl ?l3) ⟨fun _ _ _ => (by kernel_rfl), fun _ _ => (by kernel_rfl)⟩) el_nil (by kernel_rfl)) (by kernel_rfl) (by kernel_rfl)) b_abs (.inl ⟨_, rfl⟩)) o_add) fun _ => e_int
    case v5 => walk_at "jv"
    case v6 => walk_at "jv"
    case l3 => have := of_decide_eq_true hb; omega
   case k3 =>
    dsimp only
    refine' x_cons (x_set (WE.of (a := .bool (lawRot ns)) ?e4 ?k4) (by kernel_rfl) (by kernel_rfl))
    case e4 =>
     refine' e_cmp (e_bin (e_bin ?v7 e_int (o_fdiv (i := lawHd ns) (j := 5) (by decide) (pylong5 _))) e_int (o_mod (j := 2) (by decide))) e_int o_eq (by kernel_rfl)
     case v7 => walk_at "jv"
    case k4 =>
     dsimp only
     refine E1A2 (pick_ints ns 3 13) fun nums3 hnums3 hnl3 => ?_
     obtain ⟨nums, hnums⟩ : ∃ nums : List Int, nums = if 3 < ns.length then nums3 else [1] := ⟨_, rfl⟩
     have hnl : nums.length ≤ 10 := by
      rw [hnums]; split
      ·exact Nat.le_trans hnl3 (clip_13 hn)
      ·decide
     refine' x_cons (x_set (WE.of (a := .lst (iL nums)) ?e5 ?k5) (by kernel_rfl) (by kernel_rfl))
     case e5 =>
      have : (if decide (((3 : Nat) : Int) < ((ns.length : Nat) : Int)) then AV.lst (iL nums3) else .lst [.int 1]) = .lst (iL nums) := by rw [hnums]; by_cases h : 3 < ns.length <;> simp [h] <;> omega
      rw [← this]
      refine' e_if (t_cmp (e_lenL (xs := iL ns) hX (by kernel_rfl) ?v8 (by rw [List.length_map]) (by omega) (by kernel_rfl) (by kernel_rfl)) e_int o_gt (by kernel_rfl)) (fun hb => ?sl) fun _ => e_lst (el_cons e_int el_nil (by kernel_rfl)) (lb (by kernel_rfl))
      case v8 => walk_at "jv"
      case sl =>
       rw [← hnums3]
       refine' e_slice (xs := iL ns) ?v8' (.inl rfl) (p_some e_int) (p_some e_int) (by rw [List.length_map]; unfold sizeLine; omega) (fun _ _ => by kernel_rfl)
       case v8' => walk_at "jv"
     case k5 =>
      dsimp only
      refine x_cons (x_set (w_newlist fun zs hzs => ?_) (by kernel_rfl) (by kernel_rfl))
      dsimp only
      refine' x_cons (x_for (NS := fun _ => True) (i_range3 (n := nums.length) hX R.handled (by kernel_rfl) (ea (el_cons e_int (el_cons (e_lenL (xs := iL nums) hX (by kernel_rfl) ?v9 (by rw [List.length_map]) (by omega) (by kernel_rfl) (by kernel_rfl)) (el_cons e_int el_nil (by kernel_rfl)) (by kernel_rfl)) (by kernel_rfl)) (by kernel_rfl) (by kernel_rfl)) (by omega)) (fun _ => by kernel_rfl)
       (fun i st' m' => ∃ szs : List (Int × Int), st' = put st zs (.list (szs.map szA)) ∧ szs.length = i ∧ (∀ s ∈ szs, SzOk (lawW ns) (lawH ns) s) ∧ m' "head" = some (.int (lawHd ns)) ∧ m' "width" = some (.int (lawW ns)) ∧ m' "height" = some (.int (lawH ns)) ∧ m' "rot" = some (.bool (lawRot ns)) ∧ m' "numbers" = some (.lst (iL nums)) ∧ m' "sizes" = some (.ref zs))
       ⟨[], rfl, rfl, (fun s hs => by exact J.mn hs), ?j1, ?j2, ?j3, ?j4, ?j5, ?j6⟩ (fun _ _ _ _ => trivial) ?turn ?done)
      case v9 => walk_at "jv"
      case j1 => walk_at "jm"
      case j2 => walk_at "jm"
      case j3 => walk_at "jm"
      case j4 => walk_at "jm"
      case j5 => walk_at "jm"
      case j6 => walk_at "jm"
      case turn =>
       intro P' i a st' m' hP hi hr1; refine E1A2 hr1 fun szs hr2 hr3 => ?_; clear hr1; obtain rfl := hr2; refine A8 hr3 fun hlen hok h1 h2 h3 h4 h5 h6 => ?_; clear hr3
       have hil : i < (nums.length + 1) / 2 := by
        refine O2 (Nat.lt_or_ge i ((nums.length + 1) / 2)) (fun h => ?_) (fun h => ?_)
        ·exact h
        ·rw [List.getElem?_eq_none_iff.mpr (by rw [rangeL_len]; exact h)] at hi; exact J.ns hi
       rw [rangeL_at hil] at hi
       obtain rfl : AV.int (0 + 2 * (i : Int)) = a := Option.some.inj hi
       have R' : Room 99 A P' (locOf _) := R.more hP
       refine ⟨_, a_name (by kernel_rfl), ?_⟩
       refine' x_cons (x_set (WE.of (a := .int (if 2 * i + 1 < nums.length then nums.getD (2 * i + 1) 0 else nums.getD (2 * i) 0)) ?e6 ?k6) (by kernel_rfl) (by kernel_rfl))
       case e6 =>
        have : (if decide ((0 + 2 * (i : Int)) + 1 < ((nums.length : Nat) : Int)) then AV.int (nums.getD (2 * i + 1) 0) else .int (nums.getD (2 * i) 0)) = .int (if 2 * i + 1 < nums.length then nums.getD (2 * i + 1) 0 else nums.getD (2 * i) 0) := by
         by_cases h : 2 * i + 1 < nums.length
         ·rw [if_pos h, decide_eq_true (by omega)]; rfl
         ·rw [if_neg h, decide_eq_false (by omega)]; rfl
        rw [← this]
        refine' e_if (t_cmp (e_bin ?v10 e_int o_add) (e_lenL (xs := iL nums) hX (by kernel_rfl) ?v11 (by rw [List.length_map]) (by omega) (by kernel_rfl) (by kernel_rfl)) o_lt (by kernel_rfl)) (fun hb => e_index (k := (0 + 2 * (i : Int)) + 1) (xs := iL nums) ?v12 (.inl rfl) (e_bin ?v13 e_int o_add) (by omega) (by omega) (at_int (i := 2 * i + 1) (by omega) ?l4) ⟨fun _ _ _ => (by kernel_rfl), fun _ _ => (by kernel_rfl)⟩)
         fun hb => e_index (k := (0 + 2 * (i : Int))) (xs := iL nums) ?v14 (.inl rfl) ?v15 (by omega) (by omega) (at_int (i := 2 * i) (by omega) ?l5) ⟨fun _ _ _ => (by kernel_rfl), fun _ _ => (by kernel_rfl)⟩
        case v10 => walk_at "jv"
        case v11 => walk_at "jv"
        case v12 => walk_at "jv"
        case v13 => walk_at "jv"
        case v14 => walk_at "jv"
        case v15 => walk_at "jv"
        case l4 => have := of_decide_eq_true hb; omega
        case l5 => omega
       case k6 =>
        dsimp only
        generalize (if 2 * i + 1 < nums.length then nums.getD (2 * i + 1) 0 else nums.getD (2 * i) 0) = sec
        refine' x_app (r := szA (lside (nums.getD (2 * i) 0) (lawW ns), lside sec (lawH ns))) ?x1 ?l6 (e_tup (el_cons (EV.ofW (e_call (n := 3) hX (e_glob hX (by kernel_rfl)) (by kernel_rfl) ?a1 (f_side hX (Int.le_of_lt (lawW_pos ns))) (R'.mono (by decide)))) (el_cons (EV.ofW (e_call (n := 3) hX (e_glob hX (by kernel_rfl)) (by kernel_rfl) ?a2 (f_side hX (Int.le_of_lt (lawH_pos ns))) (R'.mono (by decide)))) el_nil (by kernel_rfl)) (by kernel_rfl)) (lb (by kernel_rfl))) (by kernel_rfl) (by kernel_rfl) (by kernel_rfl) (by kernel_rfl) ?k7
        case x1 => walk_at "jv"
        case l6 => rw [List.length_map, hlen]; unfold sizeLine; omega
        case a1 =>
         refine' ea (el_cons (e_index (k := (0 + 2 * (i : Int))) (xs := iL nums) ?v16 (.inl rfl) ?v17 (by omega) (by omega) (at_int (i := 2 * i) (by omega) ?l7) ⟨fun _ _ _ => (by kernel_rfl), fun _ _ => (by kernel_rfl)⟩) (el_cons ?v18 el_nil (by kernel_rfl)) (by kernel_rfl)) (by kernel_rfl) (by kernel_rfl)
         case v16 => walk_at "jv"
         case v17 => walk_at "jv"
         case v18 => walk_at "jv"
         case l7 => omega
        case a2 => walk_at "ja"
        case k7 =>
         refine x_nil ⟨szs ++ [(lside (nums.getD (2 * i) 0) (lawW ns), lside sec (lawH ns))], by rw [List.map_append]; rfl, by rw [List.length_append, hlen]; rfl, fun s hs => ?_, by walk_at "jm", by walk_at "jm", by walk_at "jm", by walk_at "jm", by walk_at "jm", by walk_at "jm"⟩
         refine O2 (List.mem_append.mp hs) (fun hs => ?_) (fun hs => ?_)
         ·exact hok s hs
         ·rw [List.mem_singleton] at hs; subst hs
          exact ⟨lside_le (lawW_pos ns), lside_le (lawH_pos ns)⟩
      case done =>
       intro st' m' hr; refine E1A9 hr fun szs hs0 hlen hok h1 h2 h3 h4 h5 h6 => ?_; clear hr; obtain rfl := hs0
       rw [rangeL_len] at hlen
       have h5z : szs.length ≤ 5 := Nat.le_trans (Nat.le_of_eq hlen) (Nat.le_trans (Nat.div_le_div_right (Nat.succ_le_succ hnl)) (by decide))
       have hW0 := lawW_pos ns
       have hH0 := lawH_pos ns
       have hzs1 : put st zs (.list (szs.map szA)) zs = some (.list (szs.map szA)) := put_same _ _ _
       generalize put st zs (.list (szs.map szA)) = st1 at hzs1 ⊢
       refine E1A2 (fmod5 (lawHd ns)) fun kk hkk ekk => ?_
       refine E2 (way_ex hX hb ht hkk) fun fa sa hway => ?_
       refine A2 (box_ex (w := w) hkk) fun hrlm hiter => ?_
       refine' x_cons (x_set (J.W.mono (e_call (n := 40) hX (e_glob hX (by kernel_rfl)) (by kernel_rfl) ?a3 (f_box hX hkk (Int.le_of_lt hW0) (Int.le_of_lt hH0)) (R.mono (by decide))) ?k9) (by kernel_rfl) (by kernel_rfl))
       case a3 =>
        rw [← ekk]
        refine' ea (el_cons (e_bin ?v20 e_int (o_mod (j := 5) (by decide))) ?l11 (by kernel_rfl)) (by kernel_rfl) (by kernel_rfl)
        case v20 => walk_at "jv"
        case l11 => walk_at "jL"
       case k9 =>
        rintro b st₂ m₂ ⟨⟨y, rfl, hy1, rl, hrl1, nrly, rfl⟩, rfl⟩
        have nzy : zs ≠ y := fun e => by rw [e, hy1] at hzs1; exact J.ns hzs1
        have nzr : rl ≠ zs := fun e => by rw [e, hzs1] at hrl1; exact J.sn hrl1
        generalize lawW ns = W at *
        generalize lawH ns = H at *
        generalize lawRot ns = rot at *
        have hS1 : put (put st1 rl (.list [])) y (.inst (wayC kk) bxn (bxl W H rot rl (rc 0 0 W H .none) [rc 0 0 W H .none])) y = some (.inst (wayC kk) bxn (bxl W H rot rl (rc 0 0 W H .none) (([⟨0, 0, W, H⟩] : List Rt).map rcv))) := put_same _ _ _
        have hS2 : put (put st1 rl (.list [])) y (.inst (wayC kk) bxn (bxl W H rot rl (rc 0 0 W H .none) [rc 0 0 W H .none])) rl = some (.list []) := by rw [put_ne nrly, put_same]
        have hS3 : put (put st1 rl (.list [])) y (.inst (wayC kk) bxn (bxl W H rot rl (rc 0 0 W H .none) [rc 0 0 W H .none])) zs = some (.list (szs.map szA)) := by rw [put_ne nzy, put_ne (Ne.symm nzr), hzs1]
        generalize put (put st1 rl (.list [])) y (.inst (wayC kk) bxn (bxl W H rot rl (rc 0 0 W H .none) [rc 0 0 W H .none])) = S0 at hS1 hS2 hS3 ⊢
        have hpk : ∃ sz1 : List (Int × Int), pick (szs.map szA) none (some 1) = sz1.map szA ∧ (∀ s ∈ sz1, s ∈ szs) ∧ sz1.length ≤ szs.length := by
         refine ⟨(szs.drop 0).take (clipAt (szs.map szA).length 1 - 0), ?_, fun s hs => List.mem_of_mem_drop (List.mem_of_mem_take hs), ?_⟩
         ·unfold pick; rw [List.map_take, List.map_drop]; rfl
         ·rw [List.length_take]; exact Nat.le_trans (Nat.min_le_right _ _) (by rw [List.drop_zero]; exact Nat.le_refl _)
        refine E1A3 hpk fun sz1 hp1 hp2 hp3 => ?_
        refine' x_cons (x_forL (b := .lst [.ref zs, .lst (sz1.map szA)]) (xs := [.ref zs, .lst (sz1.map szA)]) R.handled (e_lst (el_cons ?r1 (el_cons ?r2 el_nil (by kernel_rfl)) (by kernel_rfl)) (lb (by kernel_rfl))) isL_lst (fun _ => by kernel_rfl)
         (fun n st' m' => ∃ rl, st' y = some (.inst (wayC kk) bxn (bxl W H rot rl (rc 0 0 W H .none) (([⟨0, 0, W, H⟩] : List Rt).map rcv))) ∧ st' rl = some (.list []) ∧ st' zs = some (.list (szs.map szA)) ∧ rl ≠ zs ∧ m' "width" = some (.int W) ∧ m' "height" = some (.int H) ∧ m' "rot" = some (.bool rot) ∧ m' "box" = some (.ref y))
         ⟨rl, hS1, hS2, hS3, nzr, ?i1, ?i2, ?i3, ?i4⟩ (fun i st' m' h => isL_lst) ?turn2 ?done2)
        case r1 => walk_at "jv"
        case r2 =>
         rw [← hp1]
         refine' e_slice (xs := szs.map szA) ?v30 (isL_ref hS3) p_none (p_some e_int) (by rw [List.length_map]; exact Nat.le_trans h5z (by decide)) (fun _ _ => by kernel_rfl)
         case v30 => walk_at "jv"
        case i1 => walk_at "jm"
        case i2 => walk_at "jm"
        case i3 => walk_at "jm"
        case i4 => walk_at "jm"
        case done2 =>
         intro st' m' _
         exact x_cons (x_ret (WE.of e_bool rfl))
        case turn2 =>
         intro P' n a st' m' hP hi' hr; refine E1A8 hr fun rl b1 b2 b3 nzr g1 g2 g3 g4 => ?_; clear hr
         refine ⟨_, a_name (by kernel_rfl), ?_⟩
         have R' : Room 99 A P' (locOf _) := R.more hP
         have hrun : ∃ rs : List (Int × Int), (∀ s ∈ rs, SzOk W H s) ∧ rs.length ≤ 5 ∧ ∀ st'', st'' zs = some (.list (szs.map szA)) → IsL st'' a (rs.map szA) := by
          have hm := List.mem_of_getElem? hi'
          refine O2 (List.mem_cons.mp hm) (fun e => ?_) (fun hm => ?_)
          ·exact ⟨szs, hok, h5z, fun st'' h => by rw [e]; exact isL_ref h⟩
          ·rw [List.mem_singleton] at hm
           exact ⟨sz1, fun s hs => hok s (hp2 s hs), Nat.le_trans hp3 h5z, fun st'' h => by rw [hm]; exact isL_lst⟩
         refine E1A3 hrun fun rs hok hrl5 hrsL => ?_
         clear hrun hi'
         refine x_cons (x_set (w_newlist fun zp hzp => ?_) (by kernel_rfl) (by kernel_rfl))
         have hL0 := L2.start (rot := rot) b1 b2 b3 nzr hzp
         have hC := hway.c
         have a5 := hC.a5
         generalize put st' zp (.list []) = S1 at hL0 ⊢
         clear b1 b2 b3 nzr hzp
         refine' x_cons (x_forL (b := a) (xs := rs.map szA) R'.handled ?v31 (hrsL _ hL0.sz) (fun _ => by kernel_rfl)
          (fun i st'' m'' => ∃ ms ps, L2 (wayC kk) y rl zp zs W H rot szs st'' ms ps ∧ Inv W H ms (ps.map (·.2.1)) ∧ ps.length ≤ i ∧ m'' "width" = some (.int W) ∧ m'' "height" = some (.int H) ∧ m'' "rot" = some (.bool rot) ∧ m'' "box" = some (.ref y) ∧ m'' "placed" = some (.ref zp))
          ⟨_, [], hL0, Inv.start hW0 hH0, Nat.le_refl _, ?i1, ?i2, ?i3, ?i4, ?i5⟩ (fun i st'' m'' h => E2A8 h fun _ _ L _ _ _ _ _ _ _ => hrsL _ L.sz) ?turn3 ?done3)
         case v31 => walk_at "jv"
         case i1 => walk_at "jm"
         case i2 => walk_at "jm"
         case i3 => walk_at "jm"
         case i4 => walk_at "jm"
         case i5 => walk_at "jm"
         case done3 =>
          intro st'' m'' hr; refine E2A8 hr fun ms ps L I hpl g1 g2 g3 g4 g5 => ?_; clear hr
          rw [List.length_map] at hpl
          have hps5 : ps.length ≤ 5 := Nat.le_trans hpl hrl5
          have hps5' : (ps.map (·.2.1)).length ≤ 5 := by rw [List.length_map]; exact hps5
          have hperm := found_perm I hH0
          have hms56 := ms_56 I hW0 hps5'
          have hms64 : ms.length < 64 := Nat.lt_of_le_of_lt hms56 (by decide)
          have e1 : srt ((found (ps.map (·.2.1)) W H).map rowZ) = srt (ms.map rowZ) := srt_eq (hperm.map rowZ)
          have hrid : (ps.map fun p => rowO p.2).map tO = (ps.map (·.2.1)).map fun t => tO (rowO (t, none)) := by
           rw [List.map_map, List.map_map]
           refine List.map_congr_left fun p hp => ?_
           have := L.rid p hp
           show tO [_, _, _, _, p.2.2] = tO [_, _, _, _, none]
           rw [this]
          refine' x_cons (x_if (b := (((srt (ms.map rowZ)).map fun l => l.map some) != ((srt (ms.map rowZ)).map fun l => l.map some)) || (((ps.map fun p => rowO p.2) != (ps.map fun p => rowO p.2)) || false))
           (t_or (t_cmp (a := .lst ((srt (ms.map rowZ)).map rowI)) (b := .lst ((srt (ms.map rowZ)).map rowI)) (EV.ofW (e_call (n := 20) hX (e_glob hX (by kernel_rfl)) (by kernel_rfl) ?a40 (f_kept hX hC L.box hms64) (R'.mono (by decide)))) ?m40 (o_neL (u2 R'.units) isLI isLI) (by kernel_rfl))
            fun _ => t_or (t_cmp (b := .lst ((ps.map fun p => rowO p.2).map tO)) (e_methN (g := 280) (k := 20) (n := 99) hX (HasI.ref L.box) ?v40 hrlm (by kernel_rfl) (by kernel_rfl) ?b40 (f_rlist hX hC hiter L.box L.lst L.rects (Nat.le_trans hps5 (by decide))) R' (by decide) (by kernel_rfl)) ?c40 (o_neL (u2 R'.units) isL_lst isL_lst) (by kernel_rfl)) fun _ => t_or_nil) (fun h => ?no40) fun _ => x_nil ?k40)
          case a40 => walk_at "ja"
          case v40 => walk_at "jv"
          case b40 => walk_at "ja"
          case no40 => exfalso; simp at h
          case m40 =>
           rw [← e1]
           refine' EV.ofW (e_call (n := 20) hX (e_glob hX (by kernel_rfl)) (by kernel_rfl) ?a41 (f_max hX (isL_ref L.pl) (Nat.lt_of_le_of_lt hps5' (by decide)) (by rw [hperm.length_eq]; exact hms64)) (R'.mono (by decide)))
           case a41 => walk_at "ja"
          case c40 =>
           rw [hrid, ← fm_map]
           refine' e_comp1L (b := .ref zp) (xs := (ps.map (·.2.1)).map rowR) _ (fun a ml => upd ml "one" a) R'.handled (by kernel_rfl) (fun _ => by kernel_rfl) ?v41 (isL_ref L.pl) ?z41 (fun a _ => tg_name (fun _ _ => by kernel_rfl) (by kernel_rfl)) ?t41
           case v41 => walk_at "jv"
           case z41 => rw [fm_map (fun t => tO (rowO (t, none))), List.length_map]; exact Nat.le_trans hps5' (by decide)
           case t41 =>
            intro P' cl C D a ml hD hR ha
            refine E1A2 (List.mem_map.mp ha) fun t ht hn2 => ?_; obtain rfl := hn2
            refine ⟨true, fun acc => ifs_nil, fun _ => ⟨tO (rowO (t, none)), fun acc => ?_, rfl⟩, fun h => by cases h⟩
            exact e_bin (a := rowR t) (b := .tup [.none]) (by walk_at "jv") (e_tup (by walk_at "jL") (lb (by kernel_rfl))) (o_addT (by simp) (by simp) (lb (by kernel_rfl)))
          case k40 =>
           have nzsy : zs ≠ y := Ne.symm (ne_il L.box L.sz)
           refine' x_cons (x_expr (J.W.mono (e_methW (n := 99) (k := 10) hX (HasI.ref L.box) ?v42 hC.m6 (by kernel_rfl) (by kernel_rfl) ?a42 (f_reset hX hC L.box (by decide) (reset_ex hkk) (Int.le_of_lt hW0) (Int.le_of_lt hH0) (fun _ => rfl) (fun _ => rfl) (by decide)) R' (by decide) (by kernel_rfl)) ?k42) (by kernel_rfl) (by kernel_rfl))
           case v42 => walk_at "jv"
           case a42 => walk_at "ja"
           case k42 =>
            intro b st3 m3 hr; refine A2 hr fun hr1 hr2 => ?_; refine A2 hr1 fun hv hr3 => ?_; refine E1A2 hr3 fun rl' hrl' hs3 => ?_; clear hr hr1 hr3; obtain rfl := hr2
            refine ⟨hv, ?_⟩
            have n1 := ne_no L.box hrl'
            have n2 := ne_no L.sz hrl'
            have c1 : st3 y = some (.inst (wayC kk) bxn (bxl W H rot rl' (rc 0 0 W H .none) (([⟨0, 0, W, H⟩] : List Rt).map rcv))) := by rw [hs3]; exact put_same _ _ _
            have c2 : st3 rl' = some (.list []) := by rw [hs3, put_ne (Ne.symm n1), put_same]
            have c3 : st3 zs = some (.list (szs.map szA)) := by rw [hs3, put_ne nzsy, put_ne n2]; exact L.sz
            clear hs3 hrl' L I hperm e1 hrid
            have e2 : srt (([⟨0, 0, W, H⟩] : List Rt).map rowZ) = [[0, 0, W, H]] := srt_one
            refine' x_cons (x_if (b := ((([[0, 0, W, H]] : List (List Int)).map fun l => l.map some) != [[some 0, some 0, some W, some H]]) || ((([] : List (List (Option Int))) != []) || false))
             (t_or (t_cmp (a := .lst ([[0, 0, W, H]].map rowI)) (b := .lst ([[some 0, some 0, some W, some H]].map tO)) ?kv ?lv (o_neL (u2 R'.units) isLI isL_lst) (by kernel_rfl))
              fun _ => t_or (t_cmp (a := .lst (([] : List (List (Option Int))).map tO)) (b := .lst (([] : List (List (Option Int))).map tO)) (e_methN (g := 280) (k := 20) (n := 99) hX (HasI.ref c1) ?v50 hrlm (by kernel_rfl) (by kernel_rfl) ?b50 (f_rlist (ps := []) hX hC hiter c1 c2 (fun p hp => J.mn hp) (Nat.zero_le _)) R' (by decide) (by kernel_rfl)) (e_lst el_nil (lb (by kernel_rfl))) (o_neL (u2 R'.units) isL_lst isL_lst) (by kernel_rfl)) fun _ => t_or_nil) (fun h => ?no50) fun _ => x_nil (x_nil ⟨rl', c1, c2, c3, Ne.symm n2, ?p1, ?p2, ?p3, ?p4⟩))
            case v50 => walk_at "jv"
            case b50 => walk_at "ja"
            case no50 => exfalso; simp at h
            case p1 => walk_at "jm"
            case p2 => walk_at "jm"
            case p3 => walk_at "jm"
            case p4 => walk_at "jm"
            case kv =>
             rw [← e2]
             refine' EV.ofW (e_call (n := 20) hX (e_glob hX (by kernel_rfl)) (by kernel_rfl) ?a51 (f_kept hX hC c1 (show 1 < 64 by decide)) (R'.mono (by decide)))
             case a51 => walk_at "ja"
            case lv =>
             change EV _ _ _ _ _ _ _ (.lst [.tup [.int 0, .int 0, .int W, .int H]])
             refine' e_lst (el_cons (e_tup ?l50 (lb (by kernel_rfl))) el_nil (by kernel_rfl)) (lb (by kernel_rfl))
             case l50 => walk_at "jL"
         case turn3 =>
          intro P₂ i a st'' m'' hP₂ hi' hr; refine E2A8 hr fun ms ps hL hI hpl g1 g2 g3 g4 g5 => ?_; clear hr
          have hil : i < rs.length := (Nat.lt_or_ge i rs.length).elim id fun h => by rw [List.getElem?_eq_none_iff.mpr (by rw [List.length_map]; exact h)] at hi'; exact J.ns hi'
          refine E1A2 (map_at hi') fun sz hsz hn => ?_; obtain rfl := hn
          obtain ⟨p, q⟩ := sz
          have hszm := List.mem_of_getElem? hsz
          refine A3 (hok _ hszm) fun hn3 hq1 hq2 => ?_; refine A2 hn3 fun hp1 hp2 => ?_; clear hn3
          dsimp only at hp1 hp2 hq1 hq2
          have R₂ : Room 99 A P₂ (locOf _) := R'.more hP₂
          refine ⟨_, a_tup R.handled (as_cons (a_name (by kernel_rfl)) (as_cons (a_name (by kernel_rfl)) as_nil (by kernel_rfl)) (by kernel_rfl)), ?_⟩
          dsimp only [id]
          have hpsl : ps.length ≤ 4 := Nat.le_of_lt_succ (Nat.lt_of_le_of_lt hpl (Nat.lt_of_lt_of_le hil hrl5))
          have hms56 : ms.length ≤ 56 := ms_56 hI hW0 (by rw [List.length_map]; exact Nat.le_succ_of_le hpsl)
          have hmsz : ms.length ≤ sizeLine := Nat.le_trans hms56 (by decide)
          have hms16 : 16 * (ms.length * ms.length) ≤ sizeLine := Nat.le_trans (Nat.mul_le_mul_left 16 (Nat.mul_le_mul hms56 hms56)) (by decide)
          have hmsM : ∀ t ∈ ms, IntMulOk t.w t.h := fun t ht' => by
           refine A3 (hI.bin t ht') fun hn4 b5 b6 => ?_; refine A4 hn4 fun b1 b2 b3 b4 => ?_; clear hn4
           exact (hM t.w t.h (Int.le_of_lt b5) (J.z2 b1 b3) (Int.le_of_lt b6) (J.z2 b2 b4)).1
          have hmsOk : ∀ t ∈ ms, t.ok := fun t ht' => A3 (hI.bin t ht') fun _ b5 b6 => ⟨Int.le_of_lt b5, Int.le_of_lt b6⟩
          have hpq := hM p q (J.z1 hp1) hp2 (J.z1 hq1) hq2
          obtain ⟨fr, hfr⟩ : ∃ fr, fr = ((ms.any fun t => t.fits p q) || (rot && ms.any fun t => t.fits q p)) := ⟨_, rfl⟩
          have hcand : (cand rot ms p q = []) ↔ fr = false := by rw [hfr]; exact cand_nil
          have hIy : HasI st'' (wayC kk) bxn (bxl W H rot rl (rc 0 0 W H .none) (ms.map rcv)) (.ref y) := .ref hL.box
          have hg := fm_rcv (holdC rot p q) ms
          refine' x_setL (b := .lst (ms.map rcv)) (xs := ms.map rcv) (fun a => if holdC rot p q (rtOf a) = true then [rcv (rtOf a)] else []) (fun a ml => upd ml "one" a) R₂.handled (by kernel_rfl) (by kernel_rfl) (by kernel_rfl) (fun _ => by kernel_rfl) ?v32 isL_lst ?z32 (fun a _ => tg_name (fun _ _ => by kernel_rfl) (by kernel_rfl)) ?t32 ?k32
          case v32 => walk_at "jv"
          case z32 => rw [hg, List.length_map]; exact Nat.le_trans (List.length_filter_le _ _) hmsz
          case t32 =>
           intro P' cl C D a ml hD hR ha
           refine E1A2 (List.mem_map.mp ha) fun t ht hn5 => ?_; obtain rfl := hn5
           refine ⟨_, fun acc => ifs_one ?_, fun h => ⟨rcv t, fun acc => ?_, (if_pos h).trans rfl⟩, fun h => if_neg (by rw [h]; decide)⟩
           ·change EvT _ _ _ _ _ _ _ ((decide (p ≤ t.w) && (decide (q ≤ t.h) && true)) || ((rot && (decide (q ≤ t.w) && (decide (p ≤ t.h) && true))) || false))
            have hr : HR (put st'' D (.list acc)) (rcv t) t.x t.y t.w t.h .none := .inst
            walk_at "jt"
           ·walk_at "jv"
          case k32 =>
           rw [hg]
           have hhe : ((ms.filter (holdC rot p q)).map rcv).isEmpty = !fr := by rw [hfr]; exact hold_fr
           generalize (ms.filter (holdC rot p q)).map rcv = held1 at hhe ⊢
           have hzsl : ((ps.map (·.1)).map AV.ref).length ≤ sizeLine := by rw [List.length_map, List.length_map]; exact Nat.le_trans hpsl (by decide)
           refine' x_cons (x_set (J.W.mono (e_methW (n := 99) (k := 70) hX hIy ?v33 hway.c.m5 (by kernel_rfl) (by kernel_rfl) ?a33 (f_add0 hX hway hL.box hL.lst hms16 hzsl hmsOk hmsM hp1 hq1 hpq.1 hpq.2) R₂ (by decide) (by kernel_rfl)) ?k33) (by kernel_rfl) (by kernel_rfl))
           case v33 => walk_at "jv"
           case a33 => walk_at "ja"
           case k33 =>
            intro b st₅ m₅ hr; refine A2 hr fun hr1 hr2 => ?_; clear hr; refine E1A2 hr1 fun o ho hcase => ?_; clear hr1; obtain rfl := hr2
            cases o with
            | none =>
             refine A2 hcase fun hn5 hn6 => ?_; clear hcase; obtain rfl := hn5; obtain rfl := hn6
             have hfr0 : fr = false := hcand.mp ho
             rw [hfr0] at hhe
             refine' x_cons (x_if (b := (AV.none.isNone != held1.isEmpty)) (t_cmp (e_cmp ?v34 e_none o_isNone (by kernel_rfl)) (e_cmp (a := .lst held1) (b := .lst []) ?v35 (e_lst el_nil (lb (by kernel_rfl))) (o_eqNil (u0 R₂.units)) (by kernel_rfl)) o_neBool (by kernel_rfl)) (fun h => ?no34) fun _ => x_nil ?k34)
             case v34 => walk_at "jv"
             case v35 => walk_at "jv"
             case no34 => exfalso; rw [hhe] at h; exact J.ft h
             case k34 =>
              refine' x_cons (x_if (b := !AV.none.isNone) ?t35 (fun h => by exact J.ft h) fun _ => x_nil ?k35)
              case t35 => walk_at "jt"
              case k35 =>
               exact x_nil ⟨ms, ps, hL, hI, Nat.le_succ_of_le hpl, by walk_at "jm", by walk_at "jm", by walk_at "jm", by walk_at "jm", by walk_at "jm"⟩
            | some c =>
             refine E1A3 hcase fun z hz' hn7 hn8 => ?_; clear hcase; obtain rfl := hn7; obtain rfl := hn8
             have hcm : c ∈ cand rot ms p q := ho.1
             have hfr1 : fr = true := by
              cases h : fr with
              | true => rfl
              | false => rw [hcand.mpr h] at hcm; exact J.mn hcm
             rw [hfr1] at hhe
             clear hfr hcand hfr1
             refine A3 (cand_mem hcm) fun hc1 hc2 hc3 => ?_
             obtain ⟨r, hr⟩ : ∃ r : Rt, r = ⟨c.1.x, c.1.y, c.2.1, c.2.2⟩ := ⟨_, rfl⟩
             have hrx : r.x = c.1.x := by rw [hr]
             have hry : r.y = c.1.y := by rw [hr]
             have hrw : r.w = c.2.1 := by rw [hr]
             have hrh : r.h = c.2.2 := by rw [hr]
             have hrpos : r.pos := by
              refine ⟨?_, ?_⟩
              ·rw [hrw]; exact hc3.elim (fun z => by rw [z.1]; exact hp1) fun z => by rw [z.2.1]; exact hq1
              ·rw [hrh]; exact hc3.elim (fun z => by rw [z.2]; exact hq1) fun z => by rw [z.2.2]; exact hp1
             have hhas : c.1.has r = true := by
              have hf := fits_iff.mp hc2
              rw [has_iff, hrx, hry, hrw, hrh]
              exact ⟨Int.le_refl _, Int.le_refl _, Int.add_le_add_left hf.2 _, Int.add_le_add_left hf.1 _⟩
             have hI' := hI.step hc1 hrpos hhas
             have hlies := lies_of hI hc1 hhas
             rw [← hr, ← hrx, ← hry, ← hrw, ← hrh]
             rw [← hrw, ← hrh] at hc3
             generalize thin (cutAll ms r) = ms' at hI'
             clear hr hrx hry hrw hrh hhas
             have hLA := L2.add (ms' := ms') (r := r) hL hz'
             have z1 := ne_no hL.box hz'
             have z2 := ne_no hL.lst hz'
             have z3 := ne_no hL.pl hz'
             have i1 := ne_il hL.box hL.lst
             have i2 := ne_il hL.box hL.pl
             have j1 := hL.ne1
             have lpl := hL.pl
             obtain ⟨S5, hS5⟩ : ∃ S5, S5 = put (put (put st'' z (.inst 203 rcn (rcl r.x r.y r.w r.h .none))) y (.inst (wayC kk) bxn (bxl W H rot rl (rc 0 0 W H .none) (ms'.map rcv)))) rl (.list ((ps.map (·.1)).map .ref ++ [.ref z])) := ⟨_, rfl⟩
             have hz5 : S5 z = some (.inst 203 rcn (rcl r.x r.y r.w r.h .none)) := by rw [hS5]; walk_at "jp"
             have hp5 : S5 zp = some (.list ((ps.map (·.2.1)).map rowR)) := by rw [hS5]; walk_at "jp"
             rw [← hS5] at hLA ⊢
             clear hS5
             have hz1 : HR S5 (.ref z) r.x r.y r.w r.h .none := .ref hz5
             refine' x_cons (x_if (b := ((AV.ref z).isNone != held1.isEmpty)) (t_cmp (e_cmp ?v44 e_none o_isNone (by kernel_rfl)) (e_cmp (a := .lst held1) (b := .lst []) ?v45 (e_lst el_nil (lb (by kernel_rfl))) (o_eqNil (u0 R₂.units)) (by kernel_rfl)) o_neBool (by kernel_rfl)) (fun h => ?no44) fun _ => x_nil ?k20)
             case v44 => walk_at "jv"
             case v45 => walk_at "jv"
             case no44 => exfalso; rw [hhe] at h; exact J.ft h
             case k20 =>
              refine' x_cons (x_if (b := !(AV.ref z).isNone) ?t20 (fun _ => ?k21) fun h => (Bool.false_ne_true h.symm).elim)
              case t20 => walk_at "jt"
              case k21 =>
               refine' x_cons (x_set (WE.of (a := rowR r) (e_tup ?l20 (lb (by kernel_rfl))) ?k22) (by kernel_rfl) (by kernel_rfl))
               case l20 => walk_at "jL"
               case k22 =>
                refine' x_cons (x_if (b := ([some r.w, some r.h] != [some p, some q]) && ((!(rot && (([some r.w, some r.h] == [some q, some p]) && true))) && true)) (t_and (t_cmp (a := tO [some r.w, some r.h]) (b := tO [some p, some q]) ?s20 (e_tup (as := [.int p, .int q]) ?s21 (lb (by kernel_rfl))) (o_neT (u2 R₂.units)) (by kernel_rfl)) fun _ => t_and (t_not (t_and ?s22 fun _ => t_and (t_cmp (a := tO [some r.w, some r.h]) (b := tO [some q, some p]) ?s23 (e_tup (as := [.int q, .int p]) ?s24 (lb (by kernel_rfl))) (o_eqT (u2 R₂.units)) (by kernel_rfl)) fun _ => t_and_nil)) fun _ => t_and_nil) (fun h => ?no20) fun _ => x_nil ?k23)
                case s20 => exact e_tslice (k := 2) (xs := [.int r.x, .int r.y, .int r.w, .int r.h]) (by walk_at "jv") e_int (by decide) (lb (by kernel_rfl)) (lb (by kernel_rfl)) (fun _ _ => by kernel_rfl) (fun _ _ => by kernel_rfl)
                case s21 => walk_at "jL"
                case s22 => walk_at "jt"
                case s23 => exact e_tslice (k := 2) (xs := [.int r.x, .int r.y, .int r.w, .int r.h]) (by walk_at "jv") e_int (by decide) (lb (by kernel_rfl)) (lb (by kernel_rfl)) (fun _ _ => by kernel_rfl) (fun _ _ => by kernel_rfl)
                case s24 => walk_at "jL"
                case no20 =>
                 exfalso
                 refine O2 hc3 (fun hr39 => A2 hr39 fun e1 e2 => ?_) (fun hr40 => A3 hr40 fun e0 e1 e2 => ?_)
                 ·rw [e1, e2] at h; simp at h
                 ·rw [e0, e1, e2] at h; simp at h
                case k23 =>
                 refine' x_cons (x_if (b := !lies r (ps.map (·.2.1)) W H) (t_not (t_plain (EV.ofW (e_call (n := 5) hX (e_glob hX (by kernel_rfl)) (by kernel_rfl) ?a20 (f_lies hX (isL_ref hp5)) (R₂.mono (by decide)))) tr_bool (by kernel_rfl))) (fun h => ?no21) fun _ => x_nil ?k24)
                 case a20 => walk_at "ja"
                 case no21 => exfalso; rw [hlies] at h; exact J.ft h
                 case k24 =>
                  refine' x_appT (z := zp) (r := rowR r) ?x20 hp5 ?z20 ?v42 (by kernel_rfl) (by kernel_rfl) (by kernel_rfl) (by kernel_rfl) ?k25
                  case x20 => walk_at "jv"
                  case z20 => rw [List.length_map, List.length_map]; exact Nat.le_trans hpsl (by decide)
                  case v42 => walk_at "jv"
                  case k25 =>
                   refine x_nil (x_nil ⟨ms', ps ++ [(z, r, none)], hLA, by rw [List.map_append]; exact hI', by rw [List.length_append]; exact Nat.succ_le_succ hpl, by walk_at "jm", by walk_at "jm", by walk_at "jm", by walk_at "jm", by walk_at "jm"⟩)
end
end J
section
open PySem.Spec
namespace J
theorem vrs_ints {D : Addr → Prop} {h : Heap} {vs : List Value} {ns : List Int} (x : IntsAre vs ns) : VRs D h vs (iL ns) := by
 induction x with
 | nil => exact .nil
 | cons n t _ ih => exact .cons (.int n t) ih
theorem absI_natAbs (i : Int) : (absI i).natAbs = i.natAbs := by unfold absI; split <;> lia
theorem bits_getD {ns : List Int} (h : (PyData.list (ns.map .int)).layable0 = true) (j : Nat) : Builtin.Int.intBits (ns.getD j 0) ≤ 1048576 := by
 by_cases hj : j < ns.length
 ·rw [List.getD, List.getElem?_eq_getElem hj]; exact intBits_le_of_item (List.getElem_mem hj) h
 ·rw [List.getD, List.getElem?_eq_none (Nat.not_lt.mp hj)]; decide
theorem bits_side {ns : List Int} (h : (PyData.list (ns.map .int)).layable0 = true) {j : Nat} {a : Int} (h0 : 0 ≤ a) (h1 : a ≤ absI (ns.getD j 0) + 5) : Builtin.Int.intBits a ≤ 1048577 :=
 have hb : Builtin.Int.intBits (absI (ns.getD j 0)) ≤ 1048576 := intBits_le_of_natAbs (Nat.le_of_eq (absI_natAbs _)) (bits_getD h j)
 intBits_le_of_natAbs (by have := absI_nonneg (ns.getD j 0); lia) (intBits_add_le hb (show Builtin.Int.intBits 5 ≤ 1048576 by decide))
theorem lawMul {ns : List Int} (h : (PyData.list (ns.map .int)).layable0 = true) (a b : Int) (ha : 0 ≤ a) (ha' : a ≤ lawW ns + 1) (hb : 0 ≤ b) (hb' : b ≤ lawH ns + 1) : IntMulOk a b ∧ IntMulOk b a := by
 have h1 : Builtin.Int.intBits a ≤ 1048577 := bits_side h (j := 1) ha (by have := absI_nonneg (ns.getD 1 0); unfold lawW at ha'; split at ha' <;> lia)
 have h2 : Builtin.Int.intBits b ≤ 1048577 := bits_side h (j := 2) hb (by have := absI_nonneg (ns.getD 2 0); unfold lawH at hb'; split at hb' <;> lia)
 exact ⟨IntMulOk.of_le h1 h2 (by decide), IntMulOk.of_le h2 h1 (by decide)⟩
theorem ns_hide {h : Heap} {a : Addr} {mg : Str → Option Value} {l : List Addr} (x : h.Ns a mg) (n : a ∉ l) : (hideAll h l).Ns a mg := let ⟨o, es, ep, e, r⟩ := x; ⟨o, es, ep, hideAll_get l e n, r⟩
theorem in_hide {K : Frag} {h : Heap} {l : List Addr} (x : K.In h) (n : ∀ a ∈ l, K.lookup a = none) : K.In (hideAll h l) := fun a o e => hideAll_get l (x a o e) fun q => by rw [n a q] at e; exact J.ns e
theorem run_fn {X : Cx} {s₁ : Shared} {fa : Addr} {l : Addr} {vs : List Value} {ns : List Int} (ts : List Addr) (hX : X.g0 = hideAll s₁.heap ts) (hts : X.tabs.map (·.2.1) = ts) (ho : X.os = s₁.os) (hpg : X.pg = [])
 (hT : ∀ t ∈ X.tabs, CodeHd s₁.heap t.1 t.2.1 ∧ t.2.2 = #[] ∧ s₁.heap.get? t.2.1 = some (tabObj #[]) ∧ t.1 ∉ ts) (hl : s₁.heap.NoLimit) (hc : cStatics ∉ ts) (hg : s₁.gens = #[])
 (hf : FN X 100 fa (fun _ => none) [.lst (iL ns)] fun v _ => v = .bool true) (hL : s₁.heap.get? l = some { cls := .type "list", data := .seq vs.toArray }) (hI : IntsAre vs ns) :
 codeAny (model X.prog X.w) callerA (.call (.ref fa) ⟨[.ref l], []⟩) (fun r s' => r = .ok (.ret (.bool true)) ∧ OldK s₁.heap s'.heap ∧ s'.os = s₁.os ∧ AllBare s'.gens) s₁ := by
 have base : ∀ b o, X.g0.get? b = some o → s₁.heap.get? b = some o := fun b o e => by rw [hX] at e; exact of_hideAll _ e
 have nd : ∀ b, ¬ Dom (fun _ => none) b := fun b ⟨_, _, e, _⟩ => nomatch e
 have R : Room 100 callerA [] noOwn := ⟨rfl, by decide, by decide, fun _ => ⟨[], rfl, fun _ h => nomatch h⟩⟩
 have lo : ∀ b, D0 X (fun _ => none) [] b → X.g0.get? b = none := fun b d => by
  rcases d with d | d | d | d
  ·exact absurd d (nd b)
  ·exact J.mn d
  ·exact d.elim
  ·rw [hX]; exact hideAll_none _ (by rw [← hts]; exact d)
 have g : CRel X [] (fun _ => none) s₁ := by
  refine ⟨base, fun t ht => ?_, fun a o e => (nomatch e), lo, fun p hp => (nomatch hp), fun b d => absurd d (nd b), ⟨.of_eq hg, fun p hp => by rw [hpg] at hp; cases hp⟩, ho.symm, fun t ht => ?_, ?_, fun t ht h => nomatch h⟩
  ·refine A4 (hT t ht) fun h1 h2 h3 h4 => ?_
   refine ⟨#[], ?_, ?_⟩
   ·rw [h2]; exact h1.tab h3
   ·rw [h2]; exact h1.code h3 (by exact trivial)
  ·obtain ⟨⟨o, _, _, _, _, _, _, _, _, h1, _⟩, h2, h3, h4⟩ := hT t ht
   exact ⟨o, by rw [hX]; exact hideAll_get _ h1 h4⟩
  ·refine E1A2 hl fun mc h1 h2 => ?_; clear hl
   exact ⟨mc, by rw [hX]; exact ns_hide h1 hc, h2⟩
 have nl : ¬ D0 X (fun _ => none) [] l := fun d => by
  rcases d with d | d | d | d
  ·exact nd _ d
  ·exact J.mn d
  ·exact d
  ·refine E1A2 (List.mem_map.mp d) fun t ht hn2 => ?_; obtain rfl := hn2
   rw [(hT t ht).2.2.1] at hL; exact nomatch hL
 refine codeAny_mono (hf [] callerA s₁ [.ref l] R g (.cons (.lst nl ⟨_, hL⟩ (vrs_ints hI)) .nil)) ?_
 rintro r s' ⟨v, b, st', rfl, hv, g', S, _, rfl⟩
 cases hv using VR.boolE
 refine ⟨rfl, ⟨fun b o e => ?_, fun b o e => ?_⟩, g'.os.trans ho, g'.gens.1⟩
 ·by_cases hb : b ∈ ts
  ·rw [← hts] at hb
   refine E1A2 (List.mem_map.mp hb) fun t ht hn3 => ?_; obtain rfl := hn3
   refine A4 (hT t ht) fun h1 h2 h3 h4 => ?_
   refine E1A2 (g'.tabs t ht) fun more k1 k2 => ?_
   rw [h3] at e; revert e; refine J.sse ?_; rintro rfl
   exact .inr (.inl ⟨(h1.tab h3).isCodeTable, rfl, #[], more, rfl, by have := k1.2; rw [h2] at this; exact this⟩)
  ·exact .inl (g'.base b o (by rw [hX]; exact hideAll_get _ e hb))
 ·by_cases hb : b ∈ ts
  ·rw [← hts] at hb
   refine E1A2 (List.mem_map.mp hb) fun t ht hn4 => ?_; obtain rfl := hn4
   refine E1A2 (g'.tabs t ht) fun more k1 k2 => ?_
   exact ⟨_, k1.2⟩
  ·exact ⟨o, g'.base b o (by rw [hX]; exact hideAll_get _ e hb)⟩
end J
end
section
open PySem.Spec
namespace J
theorem run_one {w : World} {s₁ : Shared} {mg mb : Str → Option Value} {bm : Addr} {ob : Obj} {fa : Addr} {l : Addr} {vs : List Value} {ns : List Int} (KX : (K1 w.params).In s₁.heap) (T8 : ∀ P ∈ [341, 402], s₁.heap.get? P = some (tabObj #[]))
 (hG : s₁.heap.Ns mainGlobals mg) (hB : s₁.heap.Ns builtinsNs mb) (hb : ∀ x : Str, x ≠ "__name__" → mb x = bootBuiltins x) (hl : s₁.heap.NoLimit) (M : BMod s₁.heap mainGlobals mg bm ob) (hg : s₁.gens = #[])
 (hfa : mg "law" = some (.ref fa)) (hL : s₁.heap.get? l = some { cls := .type "list", data := .seq vs.toArray }) (hI : IntsAre vs ns) (hlay : (PyData.list (ns.map .int)).layable0 = true) (hn : ns.length ≤ 63) :
 codeAny (model PySem.Challenge.pw_jb0030_02 w) callerA (.call (.ref fa) ⟨[.ref l], []⟩) (fun r s' => r = .ok (.ret (.bool true)) ∧ OldK s₁.heap s'.heap ∧ s'.os = s₁.os ∧ AllBare s'.gens) s₁ := by
 have e1 := mg_of KX hG (n := "law") (v := .ref 510) (by kernel_rfl)
 rw [e1] at hfa; cases hfa
 obtain ⟨N, hN⟩ : ∃ N, nsIn (K1 w.params) mainGlobals "__builtins__" = some (some (.ref N)) := ⟨_, by with_unfolding_all rfl⟩
 have e2 := mg_of KX hG hN
 rw [M.name] at e2; cases e2
 have hX : (CX w (hideAll s₁.heap [341, 402]) [(345, 341, #[]), (406, 402, #[])] s₁.os []).Ok :=
  ⟨in_hide KX fun a ha => by
   rcases List.mem_cons.mp ha with rfl | ha
   ·kernel_rfl
   ·rcases List.mem_cons.mp ha with rfl | ha
    ·kernel_rfl
    ·(cases ha),
   ⟨mg, ns_hide hG (by decide)⟩, ⟨mb, ns_hide hB (by decide), hb⟩⟩
 refine run_fn [341, 402] (X := CX w (hideAll s₁.heap [341, 402]) [(345, 341, #[]), (406, 402, #[])] s₁.os []) rfl rfl rfl rfl ?_ hl (by decide) hg (f_law2 hX (bm := bm) (p1 := #[]) (p2 := #[]) ⟨hN, M.ne, ob, ?_, M.cls, M.dict, M.data⟩ ⟨?_, ?_, ?_, ?_⟩ hn (lawMul hlay)) hL hI
 ·intro t ht
  rcases List.mem_cons.mp ht with rfl | ht
  ·exact ⟨codeHd_of_K KX (by kernel_rfl), rfl, T8 _ (by decide), by decide⟩
  ·rcases List.mem_cons.mp ht with rfl | ht
   ·exact ⟨codeHd_of_K KX (by kernel_rfl), rfl, T8 _ (by decide), by decide⟩
   ·cases ht
 ·have hne : bm ∉ [341, 402] := by intro h; exact absurd M.cls (by
   rcases List.mem_cons.mp h with rfl | h
   ·have := M.obj; rw [T8 _ (by decide)] at this; cases this; decide
   ·rcases List.mem_cons.mp h with rfl | h
    ·have := M.obj; rw [T8 _ (by decide)] at this; cases this; decide
    ·cases h)
  exact hideAll_get _ M.obj hne
 ·exact .head _
 ·exact .tail _ (.head _)
 ·intro t ht h
  rcases List.mem_cons.mp ht with rfl | ht
  ·rfl
  ·rcases List.mem_cons.mp ht with rfl | ht
   ·cases h
   ·cases ht
 ·intro t ht h
  rcases List.mem_cons.mp ht with rfl | ht
  ·cases h
  ·rcases List.mem_cons.mp ht with rfl | ht
   ·rfl
   ·cases ht
theorem w_exact {P : Params} {h : Heap} {l : Addr} {vs : List Value} {xs : List PyData} (w1 : Well P h (.ref l) (ofPy (.list xs))) (hL : h.IsList l vs.toArray) : h.get? l = some { cls := .type "list", data := .seq vs.toArray } := by
 obtain ⟨ys, hy⟩ : ∃ ys, ofPy (.list xs) = .list ys := ⟨_, by simp only [ofPy]; rfl⟩
 rw [hy] at w1
 obtain ⟨o, e, _, n, hd⟩ := hL
 cases w1 with
 | list e' _ => rw [e'] at e; revert e; refine J.sse ?_; rintro rfl; injection hd with hd _; rw [e', hd]
theorem end_row {w : World} {s₀ s₁ : Shared} {mg mb : Str → Option Value} {bm : Addr} {ob : Obj} {fa : Addr} {l : Addr} {vs : List Value} {ns : List Int} {xs : List PyData} (KX : (K1 w.params).In s₁.heap) (T8 : ∀ P ∈ [341, 402], s₁.heap.get? P = some (tabObj #[]))
 (hG : s₁.heap.Ns mainGlobals mg) (hB : s₁.heap.Ns builtinsNs mb) (hb : ∀ x : Str, x ≠ "__name__" → mb x = bootBuiltins x) (hl : s₁.heap.NoLimit) (M : BMod s₁.heap mainGlobals mg bm ob) (hg : s₁.gens = #[])
 (hfa : mg "law" = some (.ref fa)) (w1 : Well w.params s₁.heap (.ref l) (ofPy (.list xs))) (hL : s₁.heap.IsList l vs.toArray) (hI : IntsAre vs ns) (hlay : (PyData.list (ns.map .int)).layable0 = true) (hn : ns.length ≤ 63) :
 codeAny (model PySem.Challenge.rw_jb0030_02.row.prog w) callerA (.call (.ref fa) { pos := [.ref l] })
  (GoodWG PySem.Challenge.rw_jb0030_02.row.claim (classAt s₀.heap) (ExcName.means s₀.heap) [ofPy (.list (ns.map .int))] s₁) s₁ :=
 codeAny_mono (run_one KX T8 hG hB hb hl M hg hfa (w_exact w1 hL) hI hlay hn) fun r s' ⟨h1, h2, h3, h4⟩ =>
  ⟨.inl ⟨.bool true, .bool true, [], h1, fun cls => by rfl, .bool true, by wrow_post, fun _ => ⟨List.nodup_nil, fun _ h => nomatch h⟩⟩, h2, h3, h4⟩
end J
end
set_option tactic.hygienic true
namespace J.top
theorem tw17891145253017200543:0=0:=rfl
theorem tw8146514669467782697:0=0:=rfl
theorem tw17339887600221811673:0=0:=rfl
theorem tw16444631940862329227:0=0:=rfl
theorem tw18387853446793442756:0=0:=rfl
theorem tw372774317393256089:0=0:=rfl
theorem tw7647728207042275619:0=0:=rfl
theorem tw13479066624700853944:0=0:=rfl
theorem tw783424675873716481:0=0:=rfl
theorem tw17593955946313431988:0=0:=rfl
theorem tw14350044683158188234:0=0:=rfl
theorem tw3099927217516301215:0=0:=rfl
theorem tw2395014312845082911:0=0:=rfl
theorem tw17726612619204928521:0=0:=rfl
theorem tw1373369135643945600:0=0:=rfl
theorem tw11473675934198616551:0=0:=rfl
theorem tw16195861591608757134:0=0:=rfl
theorem tw10465429354935975207:0=0:=rfl
theorem tw17459148381490333126:0=0:=rfl
theorem tw15027600163364743724:0=0:=rfl
theorem tw10953006175429738460:0=0:=rfl
theorem tw2124154330907790625:0=0:=rfl
theorem tw15170113508910802261:0=0:=rfl
theorem tw2161221608097170642:0=0:=rfl
theorem tw14838750749738944692:0=0:=rfl
theorem tw1272468222210276159:0=0:=rfl
theorem tw18419153591228276148:0=0:=rfl
theorem tw10874868023644468148:0=0:=rfl
theorem tw6199177247784710090:0=0:=rfl
theorem tw3494048334587671311:0=0:=rfl
theorem tw3963816125573919143:0=0:=rfl
theorem tw6741100981804311115:0=0:=rfl
theorem tw11140658814195447015:0=0:=rfl
theorem tw2379752008480721772:0=0:=rfl
theorem tw6709999126138976811:0=0:=rfl
theorem tw16893821696977508200:0=0:=rfl
theorem tw7390511679830081733:0=0:=rfl
theorem tw3419359016598820864:0=0:=rfl
theorem tw5521695676044788815:0=0:=rfl
theorem tw10593821850423190487:0=0:=rfl
theorem tw16370983730380526711:0=0:=rfl
theorem tw15162003896818339730:0=0:=rfl
theorem tw4699260736807010752:0=0:=rfl
theorem tw4345350467540367413:0=0:=rfl
theorem tw11064611729842757491:0=0:=rfl
theorem tw11958009662405100660:0=0:=rfl
theorem tw17996523120801751928:0=0:=rfl
theorem tw17358721387367946364:0=0:=rfl
theorem tw846365840943174310:0=0:=rfl
theorem tw17926864112570806883:0=0:=rfl
theorem tw10555367519253503812:0=0:=rfl
theorem tw18181728845780043891:0=0:=rfl
theorem tw14350112734691605148:0=0:=rfl
theorem tw2331472508615942897:0=0:=rfl
theorem tw4807330740024727308:0=0:=rfl
theorem tw5415441292999056184:0=0:=rfl
theorem tw5818154357932707641:0=0:=rfl
theorem tw10857223942154767294:0=0:=rfl
theorem tw6559051926256088718:0=0:=rfl
theorem tw6231328578591881417:0=0:=rfl
theorem tw966176928671636972:0=0:=rfl
theorem tw8185028151386906394:0=0:=rfl
theorem tw12118978789625956223:0=0:=rfl
theorem tw12330132069966683617:0=0:=rfl
theorem tw366503613921009197:0=0:=rfl
theorem tw15298060103982251021:0=0:=rfl
theorem tw10920093928010591622:0=0:=rfl
theorem tw1412406126146285333:0=0:=rfl
theorem tw5490968721845209357:0=0:=rfl
theorem tw17276883210732613818:0=0:=rfl
theorem tw17787249560049861320:0=0:=rfl
theorem tw17922586205187972949:0=0:=rfl
theorem tw5731134399257233998:0=0:=rfl
theorem tw4796757658027071259:0=0:=rfl
theorem tw6895389753839722744:0=0:=rfl
theorem tw11108669218663373797:0=0:=rfl
theorem tw2165224583568701729:0=0:=rfl
theorem tw12653828323438154402:0=0:=rfl
theorem tw9734450848184693319:0=0:=rfl
theorem tw14196054911865916841:0=0:=rfl
theorem tw12816492394585718625:0=0:=rfl
theorem tw10371281568609885544:0=0:=rfl
theorem tw13261171797146398100:0=0:=rfl
theorem tw7238145102289354528:0=0:=rfl
theorem tw14923080532700119696:0=0:=rfl
theorem tw13005328198269692099:0=0:=rfl
theorem tw1979538475827512749:0=0:=rfl
theorem tw4378889804479818831:0=0:=rfl
theorem tw7593037074925920627:0=0:=rfl
theorem tw10655227692526940179:0=0:=rfl
theorem tw7540737416603672433:0=0:=rfl
theorem tw906463747660084424:0=0:=rfl
theorem tw7221601289386568420:0=0:=rfl
theorem tw12941648226449091231:0=0:=rfl
theorem tw10549847246952096532:0=0:=rfl
theorem tw1191860966025252273:0=0:=rfl
theorem tw2119472314894008272:0=0:=rfl
theorem tw12444019544779243190:0=0:=rfl
theorem tw3880764853740300767:0=0:=rfl
theorem tw15980034265578946954:0=0:=rfl
theorem tw8487275522225839290:0=0:=rfl
theorem tw2587836211936671761:0=0:=rfl
theorem tw8123014944963463667:0=0:=rfl
theorem tw7687692258756495200:0=0:=rfl
theorem tw6048199850676375186:0=0:=rfl
theorem tw16238931274494453360:0=0:=rfl
theorem tw15295056532323604719:0=0:=rfl
theorem tw497991412531171931:0=0:=rfl
theorem tw15383998576140144141:0=0:=rfl
theorem tw5234586599570204967:0=0:=rfl
theorem tw2158788945142952609:0=0:=rfl
theorem tw5086027298675356736:0=0:=rfl
theorem tw14458629269996707557:0=0:=rfl
theorem tw11348047331255716263:0=0:=rfl
theorem tw4787629618974237674:0=0:=rfl
theorem tw17233277934841108780:0=0:=rfl
theorem tw7848661041194096581:0=0:=rfl
theorem tw3223747465411169641:0=0:=rfl
theorem tw12579285156060477662:0=0:=rfl
theorem tw13853234855436813869:0=0:=rfl
theorem tw6011512736815851313:0=0:=rfl
theorem tw11079439454690026288:0=0:=rfl
theorem tw10870928515146712889:0=0:=rfl
theorem tw15329491274298613287:0=0:=rfl
theorem tw10238536247275619066:0=0:=rfl
theorem tw4543171239273640107:0=0:=rfl
theorem tw18290559552859164244:0=0:=rfl
theorem tw4642024270812539533:0=0:=rfl
theorem tw1411323021619686995:0=0:=rfl
theorem tw11376015843454474529:0=0:=rfl
theorem tw9856081126531998782:0=0:=rfl
theorem tw1960208728965568805:0=0:=rfl
theorem tw2413845606587962217:0=0:=rfl
theorem tw8230753597192033907:0=0:=rfl
theorem tw5548221879926904162:0=0:=rfl
theorem tw13576602531196316759:0=0:=rfl
theorem tw4877483087686927291:0=0:=rfl
theorem tw15432541285314424252:0=0:=rfl
theorem tw6678237974393509519:0=0:=rfl
theorem tw6303572039549594754:0=0:=rfl
theorem tw17211565083334318103:0=0:=rfl
theorem tw8798132349752908060:0=0:=rfl
theorem tw228011958252735749:0=0:=rfl
theorem tw15960946914749281414:0=0:=rfl
theorem tw11476543235305916319:0=0:=rfl
theorem tw17574963194122462825:0=0:=rfl
theorem tw6781083441494088171:0=0:=rfl
theorem tw6935621293955485430:0=0:=rfl
theorem tw9349980750763679081:0=0:=rfl
theorem tw16829177296558396634:0=0:=rfl
theorem tw2333362853879637317:0=0:=rfl
theorem tw9107011482241302265:0=0:=rfl
theorem tw7182707893773404869:0=0:=rfl
theorem tw1964025977027643601:0=0:=rfl
theorem tw14292337063601138206:0=0:=rfl
theorem tw5757113872959986616:0=0:=rfl
theorem tw15308372066386934109:0=0:=rfl
theorem tw6738581420569081439:0=0:=rfl
theorem tw13027064889030263723:0=0:=rfl
theorem tw12860272211130039377:0=0:=rfl
theorem tw7193765126621360830:0=0:=rfl
theorem tw9961034553339194973:0=0:=rfl
theorem tw5403989074344173809:0=0:=rfl
theorem tw8223607811459376421:0=0:=rfl
theorem tw7838677404779292086:0=0:=rfl
theorem tw792066998882880741:0=0:=rfl
theorem tw373179937685491936:0=0:=rfl
theorem tw12009785491836925649:0=0:=rfl
theorem tw2796731180285062227:0=0:=rfl
theorem tw3629686006840776420:0=0:=rfl
theorem tw16299923685096552315:0=0:=rfl
theorem tw12818396071432052700:0=0:=rfl
theorem tw6998711378022479569:0=0:=rfl
theorem tw1944483885278692895:0=0:=rfl
theorem tw2810822660778872802:0=0:=rfl
theorem tw12461839609439845650:0=0:=rfl
theorem tw7022760561081819440:0=0:=rfl
theorem tw1192319097610360398:0=0:=rfl
theorem tw1636861179478326308:0=0:=rfl
theorem tw11573920592942472439:0=0:=rfl
theorem tw5029671547289190403:0=0:=rfl
theorem tw16052384107060000543:0=0:=rfl
theorem tw17075959128109963001:0=0:=rfl
theorem tw974064369894629929:0=0:=rfl
theorem tw17265179640358963239:0=0:=rfl
theorem tw4641648071638527398:0=0:=rfl
theorem tw4654225413155451639:0=0:=rfl
theorem tw16185144211656082648:0=0:=rfl
theorem tw1306409341778587243:0=0:=rfl
theorem tw12195196866285319408:0=0:=rfl
theorem tw6047859368770997954:0=0:=rfl
theorem tw11006433840681876785:0=0:=rfl
theorem tw108329111502090705:0=0:=rfl
theorem tw6748774263508670353:0=0:=rfl
theorem tw11450536805447367987:0=0:=rfl
theorem tw6329649752633864545:0=0:=rfl
theorem tw12518492127934116050:0=0:=rfl
theorem tw5994877716986467276:0=0:=rfl
theorem tw9872543826018899317:0=0:=rfl
theorem tw3583604015971334328:0=0:=rfl
theorem tw11323959885549591897:0=0:=rfl
theorem tw8591498438477261114:0=0:=rfl
theorem tw5419334964285814301:0=0:=rfl
theorem tw7621230367037065680:0=0:=rfl
theorem tw2495517468869433215:0=0:=rfl
theorem tw1825008485240924060:0=0:=rfl
theorem tw4332019478429072790:0=0:=rfl
theorem tw11224202134925004785:0=0:=rfl
theorem tw6394333519302353466:0=0:=rfl
theorem tw13404800638717702485:0=0:=rfl
theorem tw2372921000878680211:0=0:=rfl
theorem tw9340306069182918902:0=0:=rfl
theorem tw2021515011392492566:0=0:=rfl
theorem tw17182405444562516752:0=0:=rfl
theorem tw715480200756014540:0=0:=rfl
theorem tw13742598877646253753:0=0:=rfl
theorem tw2825317267619565890:0=0:=rfl
theorem tw6666650209797611059:0=0:=rfl
theorem tw14246607228318384421:0=0:=rfl
theorem tw6262588194062550790:0=0:=rfl
theorem tw10016732799178390672:0=0:=rfl
theorem tw644838828917170621:0=0:=rfl
theorem tw16594815023777250436:0=0:=rfl
theorem tw12418597274613110009:0=0:=rfl
theorem tw8163034320981723995:0=0:=rfl
theorem tw9318317108494450953:0=0:=rfl
theorem tw5167057405239149170:0=0:=rfl
theorem tw269674506505190631:0=0:=rfl
theorem tw5962843301655425503:0=0:=rfl
theorem tw15646244500202136856:0=0:=rfl
theorem tw12256701954266505084:0=0:=rfl
theorem tw11550975046366364579:0=0:=rfl
theorem tw10458142862321858822:0=0:=rfl
theorem tw3708059656831196440:0=0:=rfl
theorem tw9876855678426266647:0=0:=rfl
theorem tw2327751218213873731:0=0:=rfl
theorem tw15876753952427017325:0=0:=rfl
theorem tw3568683866905922475:0=0:=rfl
theorem tw6401517949426989679:0=0:=rfl
theorem tw5471963758670727066:0=0:=rfl
theorem tw885115378294617691:0=0:=rfl
theorem tw134117055241713706:0=0:=rfl
theorem tw16660489879285631176:0=0:=rfl
theorem tw923458493662266340:0=0:=rfl
theorem tw9407900864489321055:0=0:=rfl
theorem tw13976676551258697003:0=0:=rfl
theorem tw9829722144356265271:0=0:=rfl
theorem tw2046243511096287301:0=0:=rfl
theorem tw13902995848923977024:0=0:=rfl
theorem tw11625305524253556679:0=0:=rfl
theorem tw9643470734025641690:0=0:=rfl
theorem tw5988459694816526431:0=0:=rfl
theorem tw792722290328218811:0=0:=rfl
theorem tw2097049650184896263:0=0:=rfl
theorem tw11505558060553823672:0=0:=rfl
theorem tw17140390355428920432:0=0:=rfl
theorem tw15861359855958768517:0=0:=rfl
theorem tw9790769395792536661:0=0:=rfl
theorem tw3497748796377872582:0=0:=rfl
theorem tw8265317222763086671:0=0:=rfl
theorem tw514855698784189761:0=0:=rfl
theorem tw12556221721548962948:0=0:=rfl
theorem tw7404273189822282776:0=0:=rfl
theorem tw4107197141411975141:0=0:=rfl
theorem tw11638664537779140335:0=0:=rfl
theorem tw16670067403344170163:0=0:=rfl
theorem tw8035126944627795626:0=0:=rfl
theorem tw7672507908023738290:0=0:=rfl
theorem tw15544613859126542998:0=0:=rfl
theorem tw1499067007527855984:0=0:=rfl
theorem tw16399089774567370504:0=0:=rfl
theorem tw18016592520511947208:0=0:=rfl
theorem tw15494263155206511275:0=0:=rfl
theorem tw3502608988103132164:0=0:=rfl
theorem tw8695029791282487725:0=0:=rfl
theorem tw7340052953316770918:0=0:=rfl
theorem tw10458651208278460385:0=0:=rfl
theorem tw13625652759074088903:0=0:=rfl
theorem tw4899436149264340327:0=0:=rfl
theorem tw15747464025631811720:0=0:=rfl
theorem tw14517206234052076512:0=0:=rfl
theorem tw15217445884273814258:0=0:=rfl
theorem tw17035555603008906421:0=0:=rfl
theorem tw14014029597928625722:0=0:=rfl
theorem tw16428861069629428849:0=0:=rfl
theorem tw4904906615269691198:0=0:=rfl
theorem tw6020724899587721060:0=0:=rfl
theorem tw17498974671620532737:0=0:=rfl
theorem tw11181289502717209029:0=0:=rfl
theorem tw6906931381547486983:0=0:=rfl
theorem tw11507195676822282251:0=0:=rfl
theorem tw13859002489892513326:0=0:=rfl
theorem tw16764042016894666296:0=0:=rfl
theorem tw389862944311237335:0=0:=rfl
theorem tw16032428478509827813:0=0:=rfl
theorem tw14226801721377582571:0=0:=rfl
theorem tw5776660730065084685:0=0:=rfl
theorem tw12939210173965390450:0=0:=rfl
theorem tw5294273792032299093:0=0:=rfl
theorem tw15169622949368548617:0=0:=rfl
theorem tw13870224748788770767:0=0:=rfl
theorem tw9089187433384379630:0=0:=rfl
theorem tw13002293812466288053:0=0:=rfl
theorem tw13377865570768677757:0=0:=rfl
theorem tw10649558682175392445:0=0:=rfl
theorem tw13309690257324567470:0=0:=rfl
theorem tw11092615570222887761:0=0:=rfl
theorem tw5468189297985723403:0=0:=rfl
theorem tw4543278575754104767:0=0:=rfl
theorem tw8207113588439947819:0=0:=rfl
theorem tw10947923809331950216:0=0:=rfl
theorem tw5894625152555103033:0=0:=rfl
theorem tw12076524139102360853:0=0:=rfl
theorem tw15055225458719742291:0=0:=rfl
theorem tw41951663841446719:0=0:=rfl
theorem tw3129239001695538634:0=0:=rfl
theorem tw12761969541868155877:0=0:=rfl
theorem tw9887210972176258888:0=0:=rfl
theorem tw6885179596831414000:0=0:=rfl
theorem tw11874531759350826991:0=0:=rfl
theorem tw15289792376562035227:0=0:=rfl
theorem tw11039575428555207480:0=0:=rfl
theorem tw2814858702979995301:0=0:=rfl
theorem tw9614701816445965453:0=0:=rfl
theorem tw1285499819624935060:0=0:=rfl
theorem tw4656490246794516946:0=0:=rfl
theorem tw17742923896107326011:0=0:=rfl
theorem tw15839585461388715384:0=0:=rfl
theorem tw17039081359070982105:0=0:=rfl
theorem tw1031807430689930106:0=0:=rfl
theorem tw12964712639916504717:0=0:=rfl
theorem tw17428084840536526531:0=0:=rfl
theorem tw2411521901024366234:0=0:=rfl
theorem tw8032065314471722193:0=0:=rfl
theorem tw8748921517698587620:0=0:=rfl
theorem tw17824849428197542416:0=0:=rfl
theorem tw2894913846361705848:0=0:=rfl
theorem tw6396294285653978367:0=0:=rfl
theorem tw18298536848638543404:0=0:=rfl
theorem tw5529520297327005007:0=0:=rfl
theorem tw8159660001905830900:0=0:=rfl
theorem tw17689178429855443100:0=0:=rfl
theorem tw14550913564972135520:0=0:=rfl
theorem tw4929521024814076733:0=0:=rfl
theorem tw1832066618647399498:0=0:=rfl
theorem tw1126753554476743800:0=0:=rfl
theorem tw7308008495040544438:0=0:=rfl
theorem tw16334283590313433817:0=0:=rfl
theorem tw13637627284040650785:0=0:=rfl
theorem tw5421922587985239004:0=0:=rfl
theorem tw2905492341286194003:0=0:=rfl
theorem tw14186690735058358598:0=0:=rfl
theorem tw7498231674227344728:0=0:=rfl
theorem tw13744725475102375182:0=0:=rfl
theorem tw9877687079609079987:0=0:=rfl
theorem tw13806623138566667237:0=0:=rfl
theorem tw11824565408064406532:0=0:=rfl
theorem tw11238617312047620254:0=0:=rfl
theorem tw239116730158740539:0=0:=rfl
theorem tw7152944532048924277:0=0:=rfl
theorem tw17118785643722743520:0=0:=rfl
theorem tw17546461998772391490:0=0:=rfl
theorem tw2720864216566608255:0=0:=rfl
theorem tw15682414806793397110:0=0:=rfl
theorem tw170223249719180344:0=0:=rfl
theorem tw4598364085405939981:0=0:=rfl
theorem tw1039011669414781353:0=0:=rfl
theorem tw3349239225488740068:0=0:=rfl
theorem tw12130421238232344184:0=0:=rfl
theorem tw3240347452693152579:0=0:=rfl
theorem tw17646793749013026405:0=0:=rfl
theorem tw12530812178305189360:0=0:=rfl
theorem tw958514515593612792:0=0:=rfl
theorem tw9026138878981520662:0=0:=rfl
theorem tw4504353129096631546:0=0:=rfl
theorem tw238492650680187956:0=0:=rfl
theorem tw12494625260116116650:0=0:=rfl
theorem tw2533228902170863629:0=0:=rfl
theorem tw7240230383654124031:0=0:=rfl
theorem tw4460341857180773221:0=0:=rfl
theorem tw2887518879029537095:0=0:=rfl
theorem tw15431754449760143996:0=0:=rfl
theorem tw9509848597190860072:0=0:=rfl
theorem tw9695832497395084513:0=0:=rfl
theorem tw2120312180423483789:0=0:=rfl
theorem tw11387342505341740052:0=0:=rfl
theorem tw9872397780719782757:0=0:=rfl
theorem tw2065521343907806537:0=0:=rfl
theorem tw14436308002760587225:0=0:=rfl
theorem tw1048919025925650039:0=0:=rfl
theorem tw7150590030404266498:0=0:=rfl
theorem tw16522347817510724556:0=0:=rfl
theorem tw17060732590791727904:0=0:=rfl
theorem tw3825275363749074066:0=0:=rfl
theorem tw710076806852142637:0=0:=rfl
theorem tw7921652675298775471:0=0:=rfl
theorem tw3448033712208474785:0=0:=rfl
theorem tw12262224558185105907:0=0:=rfl
theorem tw6335135529706554906:0=0:=rfl
theorem tw7882962027840209344:0=0:=rfl
theorem tw3476467943542971271:0=0:=rfl
theorem tw1603495782350986775:0=0:=rfl
theorem tw13601149879127783736:0=0:=rfl
theorem tw3978850214994482107:0=0:=rfl
theorem tw2101681861648932783:0=0:=rfl
theorem tw14320524280939014361:0=0:=rfl
theorem tw11771065975911560407:0=0:=rfl
theorem tw11369425880573695371:0=0:=rfl
theorem tw16021257528931623505:0=0:=rfl
theorem tw10703123840290031180:0=0:=rfl
theorem tw14567116353866955130:0=0:=rfl
theorem tw10729320721429166723:0=0:=rfl
theorem tw18104213323656970763:0=0:=rfl
theorem tw11727171239582651425:0=0:=rfl
theorem tw18435503233482601657:0=0:=rfl
theorem tw14920983645090608345:0=0:=rfl
theorem tw15449533025769278939:0=0:=rfl
theorem tw1493732912799046762:0=0:=rfl
theorem tw8730703274466260571:0=0:=rfl
theorem tw3175199742857674271:0=0:=rfl
theorem tw7458627796152206850:0=0:=rfl
theorem tw17985882240735314076:0=0:=rfl
theorem tw15922407499002663869:0=0:=rfl
theorem tw7950725038356644201:0=0:=rfl
theorem tw5315252199150016926:0=0:=rfl
theorem tw17970570972482405450:0=0:=rfl
theorem tw11052300136920241668:0=0:=rfl
theorem tw14252998343874599376:0=0:=rfl
theorem tw13915895006411603993:0=0:=rfl
theorem tw17530822366330314656:0=0:=rfl
theorem tw17645454952600077802:0=0:=rfl
theorem tw10009980599887899547:0=0:=rfl
theorem tw11047487689465882918:0=0:=rfl
theorem tw14582531186315532907:0=0:=rfl
theorem tw13460828817129113168:0=0:=rfl
theorem tw14643370433894895387:0=0:=rfl
theorem tw3863377341425929849:0=0:=rfl
theorem tw3580149677869987842:0=0:=rfl
theorem tw5908823955528454222:0=0:=rfl
theorem tw3226446522870089028:0=0:=rfl
theorem tw7745348715422194060:0=0:=rfl
theorem tw15280725941862008744:0=0:=rfl
theorem tw6567146356534720774:0=0:=rfl
theorem tw6689928023589646656:0=0:=rfl
theorem tw10060195417010288189:0=0:=rfl
theorem tw17580567624663553596:0=0:=rfl
theorem tw2733701262361295390:0=0:=rfl
theorem tw1657505248876730748:0=0:=rfl
theorem tw15669386072404153939:0=0:=rfl
theorem tw8813251511127469820:0=0:=rfl
theorem tw1257650483632144883:0=0:=rfl
theorem tw6557292296353065978:0=0:=rfl
theorem tw2182968086471584098:0=0:=rfl
theorem tw13433248279611995164:0=0:=rfl
theorem tw11270479151783358930:0=0:=rfl
theorem tw7848437914786515461:0=0:=rfl
theorem tw11558479182365249713:0=0:=rfl
theorem tw9979313388616282329:0=0:=rfl
theorem tw17299553989191674435:0=0:=rfl
theorem tw7947184974873120040:0=0:=rfl
theorem tw2942319268722174912:0=0:=rfl
theorem tw14852069459506636695:0=0:=rfl
theorem tw17782140220827585796:0=0:=rfl
theorem tw20948293132857700:0=0:=rfl
theorem tw15155441041105814135:0=0:=rfl
theorem tw8986683403963072050:0=0:=rfl
theorem tw16180598161020201451:0=0:=rfl
theorem tw4758138051306081309:0=0:=rfl
theorem tw1606088059456909271:0=0:=rfl
theorem tw6254131758465277914:0=0:=rfl
theorem tw12409962498797033905:0=0:=rfl
theorem tw18402708183764284470:0=0:=rfl
theorem tw5935563482468462593:0=0:=rfl
theorem tw4269553442019046840:0=0:=rfl
theorem tw8589161505954239339:0=0:=rfl
theorem tw15960063518192602389:0=0:=rfl
theorem tw15663302098359067234:0=0:=rfl
theorem tw9076048312742439157:0=0:=rfl
theorem tw2925308256240337366:0=0:=rfl
theorem tw10894889996532116499:0=0:=rfl
theorem tw18434029303687991744:0=0:=rfl
theorem tw2517230318688884968:0=0:=rfl
theorem tw14398104521124393611:0=0:=rfl
theorem tw1389660367804556807:0=0:=rfl
theorem tw7581469907639702788:0=0:=rfl
theorem tw15661387782672283043:0=0:=rfl
theorem tw17075614927633825883:0=0:=rfl
theorem tw6033786065225260837:0=0:=rfl
theorem tw3883496072594128678:0=0:=rfl
theorem tw16318587231169105304:0=0:=rfl
theorem tw12624667407184447246:0=0:=rfl
theorem tw2136570053432112234:0=0:=rfl
theorem tw6972351892264138804:0=0:=rfl
theorem tw14309169202640408968:0=0:=rfl
theorem tw1927338760926093108:0=0:=rfl
theorem tw11705681193978986347:0=0:=rfl
theorem tw3147687029110992346:0=0:=rfl
theorem tw1678737798389699111:0=0:=rfl
theorem tw734990725204496988:0=0:=rfl
theorem tw17358030172281437463:0=0:=rfl
theorem tw17231068286177680365:0=0:=rfl
theorem tw8281818135985991664:0=0:=rfl
theorem tw12241798817318690241:0=0:=rfl
theorem tw2967404163942889698:0=0:=rfl
theorem tw5936383569304814790:0=0:=rfl
theorem tw10519815186641230742:0=0:=rfl
theorem tw1652538690759035066:0=0:=rfl
theorem tw254697809003540009:0=0:=rfl
theorem tw17053099206230333568:0=0:=rfl
theorem tw17842474082033296010:0=0:=rfl
theorem tw14414869813928401046:0=0:=rfl
theorem tw2248297095082852776:0=0:=rfl
theorem tw351019746998191741:0=0:=rfl
theorem tw16097270477450184016:0=0:=rfl
theorem tw3987275060468506779:0=0:=rfl
theorem tw5045372119723474942:0=0:=rfl
theorem tw2199790454572493935:0=0:=rfl
theorem tw948893902415401623:0=0:=rfl
theorem tw605357242780543951:0=0:=rfl
theorem tw6042171048655990723:0=0:=rfl
theorem tw17962902076893722441:0=0:=rfl
theorem tw2098219392770987982:0=0:=rfl
theorem tw5701532449588530187:0=0:=rfl
theorem tw2397634498265993402:0=0:=rfl
theorem tw2294739052137429537:0=0:=rfl
theorem tw1414842787023726197:0=0:=rfl
theorem tw4574778154578955502:0=0:=rfl
theorem tw13615765743513102395:0=0:=rfl
theorem tw6234810853008286596:0=0:=rfl
theorem tw2628862213136232233:0=0:=rfl
theorem tw14880699303002467079:0=0:=rfl
theorem tw3339592764949965467:0=0:=rfl
theorem tw1635141198283704000:0=0:=rfl
theorem tw6310944611742359690:0=0:=rfl
theorem tw9058255172172945789:0=0:=rfl
theorem tw16678047608484042049:0=0:=rfl
theorem tw15977036672898988938:0=0:=rfl
theorem tw6025906982484641242:0=0:=rfl
theorem tw4303200823528344624:0=0:=rfl
theorem tw9478679933904966429:0=0:=rfl
theorem tw18312005572995911917:0=0:=rfl
theorem tw15263178846960949390:0=0:=rfl
theorem tw1097257229647056740:0=0:=rfl
theorem tw8377664635749529679:0=0:=rfl
theorem tw12471350873162720390:0=0:=rfl
theorem tw10529127379566124236:0=0:=rfl
theorem tw17803894705897421017:0=0:=rfl
theorem tw3350595875767121233:0=0:=rfl
theorem tw8400373106594965053:0=0:=rfl
theorem tw1773989691826240623:0=0:=rfl
theorem tw7289146110723548548:0=0:=rfl
theorem tw2168873402225002585:0=0:=rfl
theorem tw15847913836591285503:0=0:=rfl
theorem tw4564250240462443621:0=0:=rfl
theorem tw14213903720482601165:0=0:=rfl
theorem tw3562321864892326768:0=0:=rfl
theorem tw11895823980850032986:0=0:=rfl
theorem tw13854118524261066449:0=0:=rfl
theorem tw14967423145402798980:0=0:=rfl
theorem tw16583871067048628056:0=0:=rfl
theorem tw3752857929024887396:0=0:=rfl
theorem tw120878348495848056:0=0:=rfl
theorem tw8603918462121940741:0=0:=rfl
theorem tw12957559253678444018:0=0:=rfl
theorem tw3547195637990158243:0=0:=rfl
theorem tw17292924616871791623:0=0:=rfl
theorem tw13025521035484010024:0=0:=rfl
end J.top
namespace J
set_option maxHeartbeats 8000000 in
set_option Elab.async true in
theorem top : PySem.Challenge.rw_jb0030_02.Holds := by
 w_on; o_law
 o_head (kmHook K1 [2, 3, 15, 17, 18, 20, 21, 22, 29, 31, 32, 34, 35, 36, 38, 39, 41, 42, 43, 45, 46, 48, 49, 50, 51, 52, 53, 54, 57, 64, 65, 67, 68, 70, 71, 72, 74, 75, 77, 78, 79, 80, 82, 83, 85, 86, 87, 88, 90, 91, 93, 94, 95, 96, 98, 99, 101, 102, 103, 104, 106, 107, 109, 110, 111, 112, 114, 115, 117, 118, 119, 120, 122, 123, 125, 126, 127, 128, 130, 131, 133, 134, 135, 136, 138, 139, 141, 142, 143, 145, 146, 148, 149, 150, 152, 153, 155, 156, 157, 159, 160, 162, 163, 164, 166, 167, 169, 170, 171, 173, 174, 176, 177, 178, 179, 181, 182, 184, 185, 186, 187, 189, 190, 192, 193, 194, 196, 197, 199, 200, 201, 202, 203, 204, 205, 208, 215, 216, 218, 219, 221, 222, 223, 225, 226, 228, 229, 230, 232, 233, 235, 236, 237, 239, 240, 242, 243, 244, 246, 247, 249, 250, 251, 253, 254, 256, 257, 258, 259, 261, 262, 264, 265, 266, 267, 269, 270, 272, 273, 274, 276, 277, 279, 280, 281, 283, 284, 286, 287, 288, 290, 291, 293, 294, 295, 297, 298, 300, 301, 302, 303, 304, 305, 306, 309, 311, 312, 314, 315, 316, 319, 324, 325, 326, 328, 329, 331, 332, 333, 335, 336, 338, 339, 340, 342, 343, 345, 346, 347, 349, 350, 352, 353, 354, 356, 357, 359, 360, 361, 364, 365, 366, 368, 369, 371, 372, 373, 374, 376, 377, 379, 380, 381, 382, 384, 385, 387, 388, 389, 390, 391, 394, 401, 403, 404, 406, 407, 408, 409, 410, 413, 420, 422, 423, 425, 426, 427, 428, 429, 432, 439, 441, 442, 444, 445, 446, 447, 448, 451, 458, 460, 461, 463, 464, 465, 466, 467, 470, 472, 473, 475, 476, 477, 479, 480, 482, 483, 484, 487, 488, 489, 492, 493, 494, 496, 497, 499, 500, 501, 504, 505, 506, 509, 510] (fun _ => by kernel_rfl) [341, 402])
 case hw => w_witness2
 intro w s₀ s₁ mg mb G Y fa o pm cd doc dV kV ho hd' hcd hD hmg hg args vals as hpre hlay hrd hwl hlo
 have KX := km_in_of Y
 have T8 := km_tabs_of Y
 refine Ground.open G ?_
 intro T B D TE TW
 try (refine guard_noD D (by decide +kernel) ?_; clear D)
 obtain ⟨_, _, M⟩ := bmod_of_top T
 wrow_args hpre hlay hrd hwl hlo
 all_goals (first | refine callC_kw (enter_call ?_) | refine enter_call ?_ | refine callC_kw (enter_callW ?_) | refine enter_callW ?_ | w_how)
 w_top on
 exact end_row KX T8 T.g T.b T.builtins T.nolimit M hg hmg (by assumption) (by assumption) (by assumption) (by assumption) (by omega)
end J
theorem PySem.Challenge.cw_jb0030_02_holds : PySem.Challenge.rw_jb0030_02.Holds :=
 J.top
